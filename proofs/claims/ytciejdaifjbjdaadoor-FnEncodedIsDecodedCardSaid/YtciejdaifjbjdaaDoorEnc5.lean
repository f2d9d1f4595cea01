/- encodeWord, Encode, impl.Word: the walks. -/
import Derived.Test.YtciejdaifjbjdaaDoorB64f
import Derived.Test.YtciejdaifjbjdaaDoorBls
namespace Go.Proofs.YtciejdaifjbjdaaDoor
open Go Go.RowKit

/-- The encoded words, one behind the other. -/
def wordsL (e : UInt8) (f : List UInt8 → List UInt8) (done : List (List UInt8)) (cur : List UInt8) : List UInt8 :=
  [61, 63] ++ utf8S ++ [63, e, 63] ++ (done.flatMap fun c => f c ++ sepL e) ++ f cur ++ [63, 61]

theorem grow_fresh (K : Nat → Prop) (w : World) (hK : ∀ k, K k → k < w.heap.size) :
    Calls Tryd.prog 61 #[.pointer (some ⟨w.heap.size, 0, none⟩), .int .i64 48] (w.alloc (.cells #[.pointer none, .slice none 0 0] 82)) fun e w' => e = .returned (.tuple #[]) ∧ Bld w.heap.size K [] w' ∧ Fr K w w' := by
  refine (Tryd.Builder_Grow_fresh w.heap.size w.heap.size 48 _ (Nat.le_refl _) (heap_alloc_new w _) (by simp) (by decide)).mono ?_
  rintro e w' ⟨rfl, hb, hbel⟩
  obtain ⟨-, v, hh, ho, hne⟩ := hb
  have hs := hbel.size
  have hlt := (Array.getElem?_eq_some_iff.1 hh).1
  refine ⟨rfl, ⟨_, v, .inr rfl, hh, ⟨ho.1, ?_⟩, ?_, fun h => Nat.lt_irrefl _ (hK _ h), fun k hk => Nat.lt_trans (hK k hk) hlt⟩, ((Fr.refl K w).alloc hK _).trans (Fr.by_below hbel hK)⟩
  · rcases ho.2 with h0 | ⟨g, cap, cur, rfl, hB, rest⟩
    · exact .inl h0
    · exact .inr ⟨g, cap, cur, rfl, Nat.zero_le _, rest⟩
  · intro k e hk
    rcases ho.2 with h0 | ⟨g, cap, cur, rfl, hB, rest⟩
    · rw [h0.1] at e
      simp [Value.ownBlock] at e
    · simp only [Value.ownBlock, Option.some.injEq] at e
      subst e
      exact Nat.lt_irrefl _ (Nat.lt_of_lt_of_le (hK _ hk) hB)

/-- What encodeWord leaves. -/
def Words (e : UInt8) (s : ByteArray) (l : List UInt8) : Prop :=
  ∃ (done : List (List UInt8)) (cur : List UInt8), (done ++ [cur]).flatten = s.data.toList ∧
    ((e = 98 ∧ (∀ c ∈ done ++ [cur], bGood c) ∧ l = wordsL e b64 done cur) ∨ (e = 113 ∧ (∀ c ∈ done ++ [cur], qGood c) ∧ l = wordsL e qStr done cur))

theorem bEncode_any (s : ByteArray) (b : Nat) (K : Nat → Prop) (l : List UInt8) (w : World) (h : Bld b K l w) (hT : Lib.Utf8Tabs 0 1 w) (hK0 : K 0) (hK1 : K 1)
    (hv : Lib.validD s.data.toList = true) (h0 : 0 < s.size) (hs : s.size ≤ 1099511627776) (hlen : l.length ≤ 1099511627776) :
    Calls Tryd.prog 63 #[.int .u8 98, .pointer (some ⟨b, 0, none⟩), .string utf8B, .string s] w fun x w' => x = .returned (.tuple #[]) ∧ BEnd 98 s b K l w' ∧ Fr K w w' := by
  by_cases hl : 45 < s.size
  · exact bEncode_long 98 s b K l w h hT hK0 hK1 hv hl hs hlen
  · refine (bEncode_short 98 s b K l w h (by omega) hlen).mono ?_
    rintro x w' ⟨rfl, hB, hF⟩
    refine ⟨rfl, ⟨[], s.data.toList, by simp, ?_, by simpa [bMid] using hB⟩, hF⟩
    intro c hc
    simp only [List.nil_append, List.mem_singleton] at hc
    subst hc
    exact ⟨by intro e; have hz := congrArg List.length e; rw [Array.length_toList, List.length_nil] at hz; exact absurd hz (Nat.ne_of_gt h0), hv, by rw [Array.length_toList]; exact Nat.le_of_not_lt hl⟩

theorem bRoom {done : List (List UInt8)} {cur : List UInt8} (h : ∀ c ∈ done ++ [cur], bGood c) (n : Nat) (hn : (done ++ [cur]).flatten.length = n) : (bMid (sepL 98) done).length + (b64 cur).length ≤ 20 * n + 64 := by
  have h1 := bMid_len 98 done (fun c hc => h c (by simp [hc]))
  have h2 := (h cur (by simp)).2.2
  rw [List.flatten_append, List.length_append] at hn
  rw [b64_length]
  omega
theorem qRoom {done : List (List UInt8)} {cur : List UInt8} (h : ∀ c ∈ done ++ [cur], qGood c) (n : Nat) (hn : (done ++ [cur]).flatten.length = n) : (qMid (sepL 113) done).length + (qStr cur).length ≤ 20 * n + 64 := by
  have h1 := qMid_len 113 done (fun c hc => h c (by simp [hc]))
  have h2 := (h cur (by simp)).2.2
  rw [List.flatten_append, List.length_append] at hn
  omega

set_option maxHeartbeats 4000000 in
set_option maxRecDepth 100000 in
theorem encodeWord_any (e : UInt8) (he : e = 98 ∨ e = 113) (s : ByteArray) (K : Nat → Prop) (w : World) (hK : ∀ k, K k → k < w.heap.size) (hT : Lib.Utf8Tabs 0 1 w) (hK0 : K 0) (hK1 : K 1)
    (hv : Lib.validD s.data.toList = true) (h0 : 0 < s.size) (hs : s.size ≤ 1099511627776) :
    Calls Tryd.prog 42 #[.int .u8 e.toNat, .string utf8B, .string s] w fun x w' => (∃ l, x = .returned (.string ⟨l.toArray⟩) ∧ Words e s l) ∧ Fr K w w' := by
  have HV := Lib.hid hv; have HT := Lib.hid hT; have HK := Lib.hid hK
  clear hv hT hK
  rcases he with rfl | rfl
  · go_enter Tryd.func42, Tryd.ntmps42
    go_wp2_with fail
    refine (grow_fresh K w HK.out).mono ?_
    rintro x w1 ⟨rfl, hB1, hF1⟩
    generalize w.heap.size = b at *
    go_wp2_with fail
    refine (openWord_any 98 utf8B b K _ _ hB1 (by have hu : utf8B.size = 5 := rfl; rw [hu]; simp)).mono ?_
    rintro x w2 ⟨rfl, hB2, hF2⟩
    have hT2 := tabs_fr HT.out (hF1.trans hF2) hK0 hK1
    have HT2 := Lib.hid hT2
    clear hT2
    go_wp2_with fail
    refine (bEncode_any s b K _ _ hB2 HT2.out hK0 hK1 HV.out h0 hs (by have hu : utf8B.data.toList.length = 5 := rfl; simp only [List.length_append, hu, List.length_cons, List.length_nil]; omega)).mono ?_
    rintro x w3 ⟨rfl, ⟨done, cur, hfl, hgood, hB3⟩, hF3⟩
    have hroom := bRoom hgood s.size (by rw [hfl, Array.length_toList]; rfl)
    have HB3 := Lib.hid hB3; have HR := Lib.hid hroom
    clear hB3 hroom
    go_wp2_with fail
    refine (closeWord_any b K _ _ HB3.out (by have hr := HR.out; have hu : utf8B.data.toList.length = 5 := rfl; simp only [List.length_append, hu, List.length_cons, List.length_nil]; omega)).mono ?_
    rintro x w4 ⟨rfl, hB4, hF4⟩
    go_wp2_with fail
    refine (String_any b K _ _ hB4).mono ?_
    rintro x w5 ⟨rfl, -, hF5⟩
    go_wp2
    go_ret
    refine ⟨⟨_, rfl, done, cur, hfl, .inl ⟨rfl, hgood, ?_⟩⟩, (((hF1.trans hF2).trans hF3).trans hF4).trans hF5⟩
    simp [wordsL, bMid, utf8S]
  · go_enter Tryd.func42, Tryd.ntmps42
    go_wp2_with fail
    refine (grow_fresh K w HK.out).mono ?_
    rintro x w1 ⟨rfl, hB1, hF1⟩
    generalize w.heap.size = b at *
    go_wp2_with fail
    refine (openWord_any 113 utf8B b K _ _ hB1 (by have hu : utf8B.size = 5 := rfl; rw [hu]; simp)).mono ?_
    rintro x w2 ⟨rfl, hB2, hF2⟩
    have hT2 := tabs_fr HT.out (hF1.trans hF2) hK0 hK1
    have HT2 := Lib.hid hT2
    clear hT2
    go_wp2_with fail
    refine (qEncode_any 113 s b K _ _ hB2 HT2.out hK0 hK1 HV.out h0 hs (by have hu : utf8B.data.toList.length = 5 := rfl; simp only [List.length_append, hu, List.length_cons, List.length_nil]; omega)).mono ?_
    rintro x w3 ⟨rfl, ⟨done, cur, hfl, hgood, hB3⟩, hF3⟩
    have hroom := qRoom hgood s.size (by rw [hfl, Array.length_toList]; rfl)
    have HB3 := Lib.hid hB3; have HR := Lib.hid hroom
    clear hB3 hroom
    go_wp2_with fail
    refine (closeWord_any b K _ _ HB3.out (by have hr := HR.out; have hu : utf8B.data.toList.length = 5 := rfl; simp only [List.length_append, hu, List.length_cons, List.length_nil]; omega)).mono ?_
    rintro x w4 ⟨rfl, hB4, hF4⟩
    go_wp2_with fail
    refine (String_any b K _ _ hB4).mono ?_
    rintro x w5 ⟨rfl, -, hF5⟩
    go_wp2
    go_ret
    refine ⟨⟨_, rfl, done, cur, hfl, .inr ⟨rfl, hgood, ?_⟩⟩, (((hF1.trans hF2).trans hF3).trans hF4).trans hF5⟩
    simp [wordsL, qMid, utf8S]
end Go.Proofs.YtciejdaifjbjdaaDoor
