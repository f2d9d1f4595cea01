/- encodeWord, Encode, impl.Word: the walks. -/
import Derived.Test.YtciejdaifjbjdaaDoorB64f
import Derived.Test.YtciejdaifjbjdaaDoorEnc1
import Derived.Test.YtciejdaifjbjdaaDoorA1
import Derived.Deep.OwnRows
namespace Go.Proofs.YtciejdaifjbjdaaDoor
open Go Go.RowKit

/-- The encoded words, one behind the other. -/
def wordsL (e : UInt8) (f : List UInt8 → List UInt8) (done : List (List UInt8)) (cur : List UInt8) : List UInt8 :=
  [61, 63] ++ utf8S ++ [63, e, 63] ++ (done.flatMap fun c => f c ++ sepL e) ++ f cur ++ [63, 61]

theorem grow_fresh (K : Nat → Prop) (w : World) (hK : ∀ k, K k → k < w.heap.size) :
    Calls Tryd.prog 61 #[.pointer (some ⟨w.heap.size, 0, none⟩), .int .i64 48] (w.alloc (.cells #[.pointer none, .slice none 0 0] 82)) fun e w' => e = .returned (.tuple #[]) ∧ Bld w.heap.size K [] w' ∧ Fr K w w' := by
  refine (Tryd.Builder_Grow_fresh w.heap.size w.heap.size 48 _ (Nat.le_refl _) (heap_alloc_new w _) (by simp) (by decide)).mono ?_
  rintro e w' ⟨rfl, hb, hbel⟩
  obtain ⟨-, v, hh, ho, hne⟩ := hb
  have hs := hbel.size
  have hlt := (Array.getElem?_eq_some_iff.1 hh).1
  refine ⟨rfl, ⟨_, v, .inr rfl, hh, ⟨ho.1, ?_⟩, ?_, fun h => Nat.lt_irrefl _ (hK _ h), fun k hk => Nat.lt_trans (hK k hk) hlt⟩, ((Fr.refl K w).alloc hK _).trans (Fr.by_below hbel hK)⟩
  · rcases ho.2 with h0 | ⟨g, cap, cur, rfl, hB, rest⟩
    · exact .inl h0
    · exact .inr ⟨g, cap, cur, rfl, Nat.zero_le _, rest⟩
  · intro k e hk
    rcases ho.2 with h0 | ⟨g, cap, cur, rfl, hB, rest⟩
    · rw [h0.1] at e
      simp [Value.ownBlock] at e
    · simp only [Value.ownBlock, Option.some.injEq] at e
      subst e
      exact Nat.lt_irrefl _ (Nat.lt_of_lt_of_le (hK _ hk) hB)

/-- What encodeWord leaves. -/
def Words (e : UInt8) (s : ByteArray) (l : List UInt8) : Prop :=
  ∃ (done : List (List UInt8)) (cur : List UInt8), (done ++ [cur]).flatten = s.data.toList ∧
    ((e = 98 ∧ (∀ c ∈ done ++ [cur], bGood c) ∧ l = wordsL e b64 done cur) ∨ (e = 113 ∧ (∀ c ∈ done ++ [cur], qGood c) ∧ l = wordsL e qStr done cur))

theorem bEncode_any (s : ByteArray) (b : Nat) (K : Nat → Prop) (l : List UInt8) (w : World) (h : Bld b K l w) (hT : Lib.Utf8Tabs 0 1 w) (hK0 : K 0) (hK1 : K 1)
    (hv : Lib.validD s.data.toList = true) (h0 : 0 < s.size) (hs : s.size ≤ 1099511627776) (hlen : l.length ≤ 1099511627776) :
    Calls Tryd.prog 63 #[.int .u8 98, .pointer (some ⟨b, 0, none⟩), .string utf8B, .string s] w fun x w' => x = .returned (.tuple #[]) ∧ BEnd 98 s b K l w' ∧ Fr K w w' := by
  by_cases hl : 45 < s.size
  · exact bEncode_long 98 s b K l w h hT hK0 hK1 hv hl hs hlen
  · refine (bEncode_short 98 s b K l w h (by omega) hlen).mono ?_
    rintro x w' ⟨rfl, hB, hF⟩
    refine ⟨rfl, ⟨[], s.data.toList, by simp, ?_, by simpa [bMid] using hB⟩, hF⟩
    intro c hc
    simp only [List.nil_append, List.mem_singleton] at hc
    subst hc
    exact ⟨by intro e; have hz := congrArg List.length e; rw [Array.length_toList, List.length_nil] at hz; exact absurd hz (Nat.ne_of_gt h0), hv, by rw [Array.length_toList]; exact Nat.le_of_not_lt hl⟩

theorem bRoom {done : List (List UInt8)} {cur : List UInt8} (h : ∀ c ∈ done ++ [cur], bGood c) (n : Nat) (hn : (done ++ [cur]).flatten.length = n) : (bMid (sepL 98) done).length + (b64 cur).length ≤ 20 * n + 64 := by
  have h1 := bMid_len 98 done (fun c hc => h c (by simp [hc]))
  have h2 := (h cur (by simp)).2.2
  rw [List.flatten_append, List.length_append] at hn
  rw [b64_length]
  omega
theorem qRoom {done : List (List UInt8)} {cur : List UInt8} (h : ∀ c ∈ done ++ [cur], qGood c) (n : Nat) (hn : (done ++ [cur]).flatten.length = n) : (qMid (sepL 113) done).length + (qStr cur).length ≤ 20 * n + 64 := by
  have h1 := qMid_len 113 done (fun c hc => h c (by simp [hc]))
  have h2 := (h cur (by simp)).2.2
  rw [List.flatten_append, List.length_append] at hn
  omega

set_option maxHeartbeats 4000000 in
set_option maxRecDepth 100000 in
theorem encodeWord_any (e : UInt8) (he : e = 98 ∨ e = 113) (s : ByteArray) (K : Nat → Prop) (w : World) (hK : ∀ k, K k → k < w.heap.size) (hT : Lib.Utf8Tabs 0 1 w) (hK0 : K 0) (hK1 : K 1)
    (hv : Lib.validD s.data.toList = true) (h0 : 0 < s.size) (hs : s.size ≤ 1099511627776) :
    Calls Tryd.prog 42 #[.int .u8 e.toNat, .string utf8B, .string s] w fun x w' => (∃ l, x = .returned (.string ⟨l.toArray⟩) ∧ Words e s l) ∧ Fr K w w' := by
  have HV := Lib.hid hv; have HT := Lib.hid hT; have HK := Lib.hid hK
  clear hv hT hK
  rcases he with rfl | rfl
  · go_enter Tryd.func42, Tryd.ntmps42
    go_wp2_with fail
    refine (grow_fresh K w HK.out).mono ?_
    rintro x w1 ⟨rfl, hB1, hF1⟩
    generalize w.heap.size = b at *
    go_wp2_with fail
    refine (openWord_any 98 utf8B b K _ _ hB1 (by have hu : utf8B.size = 5 := rfl; rw [hu]; simp)).mono ?_
    rintro x w2 ⟨rfl, hB2, hF2⟩
    have hT2 := tabs_fr HT.out (hF1.trans hF2) hK0 hK1
    have HT2 := Lib.hid hT2
    clear hT2
    go_wp2_with fail
    refine (bEncode_any s b K _ _ hB2 HT2.out hK0 hK1 HV.out h0 hs (by have hu : utf8B.data.toList.length = 5 := rfl; simp only [List.length_append, hu, List.length_cons, List.length_nil]; omega)).mono ?_
    rintro x w3 ⟨rfl, ⟨done, cur, hfl, hgood, hB3⟩, hF3⟩
    have hroom := bRoom hgood s.size (by rw [hfl, Array.length_toList]; rfl)
    have HB3 := Lib.hid hB3; have HR := Lib.hid hroom
    clear hB3 hroom
    go_wp2_with fail
    refine (closeWord_any b K _ _ HB3.out (by have hr := HR.out; have hu : utf8B.data.toList.length = 5 := rfl; simp only [List.length_append, hu, List.length_cons, List.length_nil]; omega)).mono ?_
    rintro x w4 ⟨rfl, hB4, hF4⟩
    go_wp2_with fail
    refine (String_any b K _ _ hB4).mono ?_
    rintro x w5 ⟨rfl, -, hF5⟩
    go_wp2
    go_ret
    refine ⟨⟨_, rfl, done, cur, hfl, .inl ⟨rfl, hgood, ?_⟩⟩, (((hF1.trans hF2).trans hF3).trans hF4).trans hF5⟩
    simp [wordsL, bMid, utf8S]
  · go_enter Tryd.func42, Tryd.ntmps42
    go_wp2_with fail
    refine (grow_fresh K w HK.out).mono ?_
    rintro x w1 ⟨rfl, hB1, hF1⟩
    generalize w.heap.size = b at *
    go_wp2_with fail
    refine (openWord_any 113 utf8B b K _ _ hB1 (by have hu : utf8B.size = 5 := rfl; rw [hu]; simp)).mono ?_
    rintro x w2 ⟨rfl, hB2, hF2⟩
    have hT2 := tabs_fr HT.out (hF1.trans hF2) hK0 hK1
    have HT2 := Lib.hid hT2
    clear hT2
    go_wp2_with fail
    refine (qEncode_any 113 s b K _ _ hB2 HT2.out hK0 hK1 HV.out h0 hs (by have hu : utf8B.data.toList.length = 5 := rfl; simp only [List.length_append, hu, List.length_cons, List.length_nil]; omega)).mono ?_
    rintro x w3 ⟨rfl, ⟨done, cur, hfl, hgood, hB3⟩, hF3⟩
    have hroom := qRoom hgood s.size (by rw [hfl, Array.length_toList]; rfl)
    have HB3 := Lib.hid hB3; have HR := Lib.hid hroom
    clear hB3 hroom
    go_wp2_with fail
    refine (closeWord_any b K _ _ HB3.out (by have hr := HR.out; have hu : utf8B.data.toList.length = 5 := rfl; simp only [List.length_append, hu, List.length_cons, List.length_nil]; omega)).mono ?_
    rintro x w4 ⟨rfl, hB4, hF4⟩
    go_wp2_with fail
    refine (String_any b K _ _ hB4).mono ?_
    rintro x w5 ⟨rfl, -, hF5⟩
    go_wp2
    go_ret
    refine ⟨⟨_, rfl, done, cur, hfl, .inr ⟨rfl, hgood, ?_⟩⟩, (((hF1.trans hF2).trans hF3).trans hF4).trans hF5⟩
    simp [wordsL, qMid, utf8S]
end Go.Proofs.YtciejdaifjbjdaaDoor
/- Encode, impl.Word: the walks. -/
namespace Go.Proofs.YtciejdaifjbjdaaDoor
open Go Go.RowKit

theorem Encode_text (e : UInt8) (he : e = 98 ∨ e = 113) (s : ByteArray) (K : Nat → Prop) (w : World) (hK : ∀ k, K k → k < w.heap.size) (hT : Lib.Utf8Tabs 0 1 w) (hK0 : K 0) (hK1 : K 1)
    (hv : Lib.validD s.data.toList = true) (hp : plainL s.data.toList = false) (hs : s.size ≤ 1099511627776) :
    Calls Tryd.prog 18 #[.int .u8 e.toNat, .string utf8B, .string s] w fun x w' => (∃ l, x = .returned (.string ⟨l.toArray⟩) ∧ Words e s l) ∧ Fr K w w' := by
  have h0 : 0 < s.size := by
    rcases Nat.eq_zero_or_pos s.size with h | h
    · have hl : s.data.toList = [] := List.eq_nil_of_length_eq_zero (by rw [Array.length_toList]; exact h)
      rw [hl] at hp
      exact absurd hp (by decide)
    · exact h
  have HV := Lib.hid hv; have HT := Lib.hid hT; have HK := Lib.hid hK; have HP := Lib.hid hp
  clear hv hT hK hp
  go_enter Tryd.func18, Tryd.ntmps18
  go_wp2_with fail
  refine (needsEncoding_any _ _).mono ?_
  rintro x w1 ⟨rfl, hb1⟩
  rw [HP.out]
  have hF1 := Fr.by_below hb1 HK.out
  have hT1 := tabs_fr HT.out hF1 hK0 hK1
  have HT1 := Lib.hid hT1
  clear hT1
  go_wp2_with fail
  refine (encodeWord_any e he s K _ (fun k hk => Nat.lt_of_lt_of_le (HK.out k hk) hb1.size) HT1.out hK0 hK1 HV.out h0 hs).mono ?_
  rintro x w2 ⟨⟨l, rfl, hl⟩, hF2⟩
  go_wp2
  go_ret
  exact ⟨⟨l, rfl, hl⟩, hF1.trans hF2⟩

def kind (q : Bool) : UInt8 := if q then 98 else 113
theorem Word_text (q : Bool) (s : ByteArray) (K : Nat → Prop) (w : World) (hK : ∀ k, K k → k < w.heap.size) (hT : Lib.Utf8Tabs 0 1 w) (hK0 : K 0) (hK1 : K 1)
    (hv : Lib.validD s.data.toList = true) (hp : plainL s.data.toList = false) (hs : s.size ≤ 1099511627776) :
    Calls Tryd.prog 11 #[.bool q, .string utf8B, .string s] w fun x w' => (∃ l, x = .returned (.string ⟨l.toArray⟩) ∧ Words (kind q) s l) ∧ Fr K w w' := by
  have HV := Lib.hid hv; have HT := Lib.hid hT; have HK := Lib.hid hK; have HP := Lib.hid hp
  clear hv hT hK hp
  go_enter Tryd.func11, Tryd.ntmps11
  cases q
  · go_wp2_with fail
    refine (Encode_text 113 (.inr rfl) s K _ HK.out HT.out hK0 hK1 HV.out HP.out hs).mono ?_
    rintro x w2 ⟨⟨l, rfl, hl⟩, hF2⟩
    go_wp2
    go_ret
    exact ⟨⟨l, rfl, hl⟩, hF2⟩
  · go_wp2_with fail
    refine (Encode_text 98 (.inl rfl) s K _ HK.out HT.out hK0 hK1 HV.out HP.out hs).mono ?_
    rintro x w2 ⟨⟨l, rfl, hl⟩, hF2⟩
    go_wp2
    go_ret
    exact ⟨⟨l, rfl, hl⟩, hF2⟩
end Go.Proofs.YtciejdaifjbjdaaDoor
/- zzIndex: the walk. -/
namespace Go.Proofs.YtciejdaifjbjdaaDoor
open Go Go.RowKit

/-- The word p begins at k. -/
def Hit (p s : List UInt8) (k : Nat) : Prop := (s.drop k).take p.length = p
/-- The first place at which p begins; -1 where there is none. -/
def FirstAt (p s : List UInt8) (r : Int) : Prop :=
  (∃ k : Nat, r = k ∧ k + p.length ≤ s.length ∧ Hit p s k ∧ ∀ j, j < k → ¬ Hit p s j) ∨ (r = -1 ∧ ∀ j, j + p.length ≤ s.length → ¬ Hit p s j)

theorem tl_eq (b : ByteArray) : b.toList = b.data.toList := by
  exact ByteArray.toList_eq b
theorem zzIndex_any (s p : ByteArray) (w : World) (hs : s.size ≤ 140737488355328) (hp : p.size ≤ 1048576) :
    Calls Tryd.prog 35 #[.string s, .string p] w fun x w' => (∃ r, x = .returned (.int .i64 r) ∧ FirstAt p.data.toList s.data.toList r) ∧ w = w' := by
  obtain ⟨m, hm⟩ : ∃ m, p.size = m := ⟨_, rfl⟩
  go_enter Tryd.func35, Tryd.ntmps35
  go_wp2
  go_loopw [4, 5] (fun r i wr => r = .int .i64 0 ∧ wr = w ∧ ∃ k : Nat, i = .int .i64 k ∧ k ≤ s.size + 1 ∧ ∀ j, j < k → ¬ Hit p.data.toList s.data.toList j) (fun _ i _ => s.size + 1 - (intOf i).toNat)
  case atStart => exact ⟨rfl, rfl, 0, rfl, Nat.zero_le _, fun j h => absurd h (Nat.not_lt_zero j)⟩
  case round =>
    obtain ⟨rfl, rfl, k, rfl, hk, hno⟩ := hrel
    have HNO := Lib.hid hno
    clear hno
    by_cases hlt : k + m ≤ s.size
    · have i1 : (k : Int) + (m : Int) ≤ (s.size : Int) := by omega
      have hz : p.data.toList.length = m := by rw [Array.length_toList]; exact hm
      have hzs : s.data.toList.length = s.size := Array.length_toList
      have hit : ((s.extract k (k + m)).toList == p.toList) = true ↔ Hit p.data.toList s.data.toList k := by
        rw [beq_iff_eq, tl_eq, tl_eq, extract_list]; unfold Hit; rw [hz]
      have HZ := Lib.hid hz; have HZS := Lib.hid hzs
      clear hz hzs
      cases hb : ((s.extract k (k + m)).toList == p.toList) with
      | true =>
        rw [hb] at hit
        have HIT := Lib.hid hit
        clear hit
        go_wp2_with fail
        go_ret
        exact ⟨⟨_, rfl, .inl ⟨k, rfl, by rw [HZ.out, HZS.out]; exact hlt, HIT.out.1 (by first | trivial | rfl), HNO.out⟩⟩, rfl⟩
      | false =>
        rw [hb] at hit
        have HIT := Lib.hid hit
        clear hit
        go_wp2
        go_roundw
        case rel =>
          refine ⟨rfl, by first | trivial | rfl, k + 1, by go_num, by omega, fun j hj => ?_⟩
          rcases Nat.lt_succ_iff_lt_or_eq.1 hj with h | rfl
          · exact HNO.out j h
          · intro h; have h2 := HIT.out.2 h; first | exact h2 | (simp at h2; done)
        case measure => simp [intOf]; omega
    · have i1 : ¬ (k : Int) + (m : Int) ≤ (s.size : Int) := by omega
      go_wp2
      go_ret
      refine ⟨⟨_, rfl, .inr ⟨rfl, fun j hj => ?_⟩⟩, rfl⟩
      have hz : p.data.toList.length = m := by rw [Array.length_toList]; exact hm
      have hzs : s.data.toList.length = s.size := Array.length_toList
      exact HNO.out j (by omega)
end Go.Proofs.YtciejdaifjbjdaaDoor
/- fromHex, readHexByte: the walks, on great digits. -/
namespace Go.Proofs.YtciejdaifjbjdaaDoor
open Go Go.RowKit

theorem fromHex_up (n : Nat) (hn : n < 16) (w : World) : Calls Tryd.prog 97 #[.int .u8 (hexU n).toNat] w fun x w' => x = .returned (.tuple #[.int .u8 n, .nilIface]) ∧ w = w' := by
  by_cases h : n < 10
  · have e : (hexU n).toNat = 48 + n := by unfold hexU; rw [if_pos h]; simp; omega
    rw [e]
    push_cast
    have i1 : (48 : Int) ≤ 48 + (n : Int) := by omega
    have i2 : 48 + (n : Int) ≤ 57 := by omega
    go_enter Tryd.func97, Tryd.ntmps97
    go_wp2
    go_ret2
    exact ⟨by go_num, rfl⟩
  · have e : (hexU n).toNat = 55 + n := by unfold hexU; rw [if_neg h]; simp; omega
    rw [e]
    push_cast
    have i1 : (48 : Int) ≤ 55 + (n : Int) := by omega
    have i2 : ¬ 55 + (n : Int) ≤ 57 := by omega
    have i3 : (65 : Int) ≤ 55 + (n : Int) := by omega
    have i4 : 55 + (n : Int) ≤ 70 := by omega
    go_enter Tryd.func97, Tryd.ntmps97
    go_wp2
    go_ret2
    exact ⟨by go_num, rfl⟩

theorem readHexByte_up (a b : Nat) (ha : a < 16) (hb : b < 16) (w : World) : Calls Tryd.prog 76 #[.int .u8 (hexU a).toNat, .int .u8 (hexU b).toNat] w fun x w' => x = .returned (.tuple #[.int .u8 ((16 * a + b : Nat) : Int), .nilIface]) ∧ w = w' := by
  go_enter Tryd.func76, Tryd.ntmps76
  go_wp2_with fail
  refine (fromHex_up a ha _).mono ?_
  rintro x w1 ⟨rfl, rfl⟩
  go_wp2_with fail
  refine (fromHex_up b hb _).mono ?_
  rintro x w1 ⟨rfl, rfl⟩
  go_wp2
  go_ret2
  refine ⟨?_, rfl⟩
  have e := u8_or_nat (a * 16) b (by omega) (by omega)
  have e2 : a * 16 ||| b = a * 16 + b := or_shift a b 4 (by omega)
  rw [e2] at e
  push_cast at e
  rw [e, Int.mul_comm]
  push_cast
  rfl
end Go.Proofs.YtciejdaifjbjdaaDoor
/- A row of bytes in a block of its own. -/
namespace Go.Proofs.YtciejdaifjbjdaaDoor
open Go Go.RowKit

def Row (g : Nat) (l : List UInt8) (w : World) : Prop :=
  ∃ cs : Array Value, w.heap[g]? = some (.cells cs 5 (0, 0)) ∧ cs.size = l.length ∧ ∀ (j : Nat) (x : UInt8), l[j]? = some x → cs[j]? = some (Value.int .u8 x.toNat)
theorem Row.cell {g : Nat} {l : List UInt8} {w : World} (h : Row g l w) {j : Nat} {x : UInt8} (hx : l[j]? = some x) : w.cell? ⟨g, j, none⟩ = some (.int .u8 x.toNat) := by
  obtain ⟨cs, hb, _, hc⟩ := h
  rw [Lib.cell_of_heap hb]; exact hc j x hx
theorem Row.frozen {g : Nat} {l : List UInt8} {w : World} (h : Row g l w) (j : Nat) : w.frozen? ⟨g, j, none⟩ = false := by
  obtain ⟨cs, hb, _, hc⟩ := h
  exact Lib.frozen_of_heap hb j
theorem Row.lt {g : Nat} {l : List UInt8} {w : World} (h : Row g l w) : g < w.heap.size := by
  obtain ⟨cs, hb, _⟩ := h
  exact (Array.getElem?_eq_some_iff.1 hb).1
theorem Row.kept {g : Nat} {l : List UInt8} {w w' : World} (h : Row g l w) (hk : w'.heap[g]? = w.heap[g]?) : Row g l w' := by
  obtain ⟨cs, hb, hc⟩ := h
  exact ⟨cs, hk.trans hb, hc⟩
theorem Row.set {g : Nat} {l : List UInt8} {w : World} (h : Row g l w) (j : Nat) (x : UInt8) : Row g (l.set j x) (w.setCell ⟨g, j, none⟩ (.int .u8 x.toNat)) := by
  obtain ⟨cs, hb, hs, hc⟩ := h
  refine ⟨cs.setIfInBounds j (.int .u8 x.toNat), heap_setCell_row hb, by simp [hs], fun i y hy => ?_⟩
  rw [List.getElem?_set] at hy
  rw [Array.getElem?_setIfInBounds]
  by_cases hij : j = i
  · subst hij
    rw [if_pos rfl] at hy ⊢
    split at hy
    · rename_i hlt
      simp only [Option.some.injEq] at hy
      subst hy
      rw [if_pos (by rw [hs]; exact hlt)]
    · cases hy
  · rw [if_neg hij] at hy ⊢
    exact hc i y hy
theorem Row.make (w : World) (n : Nat) : Row w.heap.size (List.replicate n 0) (w.alloc (.cells (madeCells #[.int .u8 0] n) 5)) := by
  refine ⟨_, heap_alloc_new w _, by rw [size_madeCells, List.length_replicate], fun j x hx => ?_⟩
  rw [List.getElem?_replicate] at hx
  split at hx
  · rename_i hlt
    simp only [Option.some.injEq] at hx
    subst hx
    simp [madeCells, hlt, Nat.mod_one]
  · cases hx

/-- 'make([]byte, n)'. -/
theorem make_bytes (n : Nat) (hn : n ≤ 140737488355328) (w : World) : (Instr.makeSlice 80 (.int .i64 n) (.int .i64 n)).run Tryd.prog w = .ok (.slice (some ⟨w.heap.size, 0, none⟩) n n) (w.alloc (.cells (madeCells #[.int .u8 0] n) 5)) :=
  run_make_row' (P := Tryd.prog) 80 5 (.int .u8 0) 1 (by kernel_rfl) infoByte rfl .i64 .i64 n (by omega) (by omega) w
end Go.Proofs.YtciejdaifjbjdaaDoor
