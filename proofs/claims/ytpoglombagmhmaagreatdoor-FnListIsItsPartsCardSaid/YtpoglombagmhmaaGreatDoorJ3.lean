/- laws.joined: the walk. -/
import Derived.Test.YtpoglombagmhmaaGreatDoorJ1
import Derived.Test.YtpoglombagmhmaaGreatDoorJ2
import Derived.Test.YtpoglombagmhmaaGreatDoorRQ
namespace Go.Proofs.YtpoglombagmhmaaGreatDoor
open Go Go.RowKit

/-- A text that is one address. -/
def OneOk (s : ByteArray) (p : List UInt8 × List UInt8) : Prop := ∃ ts l, tokensL s.data.toList = .good ts l ∧ AddrOk ts 0 true p.1 p.2 ts.length
/-- What joined answers. -/
def JOk (B n : Nat) (f : Nat → ByteArray) (T : List UInt8) (v : Value) (w' : World) : Prop :=
  ∃ aas, 1 ≤ n ∧ n ≤ 100 ∧ aas.length = n ∧ OwnAd B aas v w' ∧ JT T aas ∧ T.length ≤ 4097 * n ∧ ∀ j, j < n → (f j).size ≤ 4096 ∧ ∃ p, aas[j]? = some p ∧ OneOk (f j) p
def JRet (B n : Nat) (f : Nat → ByteArray) (x : Ending) (w' : World) : Prop :=
  ∃ (T : List UInt8) (v : Value) (ok : Bool), x = .returned (.tuple #[.string (bs T), v, .bool ok]) ∧ (ok = true → JOk B n f T v w')
/-- A round's state. -/
structure JW (B : Nat) (f : Nat → ByteArray) (k : Nat) (T : List UInt8) (aas : List (List UInt8 × List UInt8)) (v : Value) (w wx : World) : Prop where
  own : OwnAd B aas v wx
  bel : Below B w wx
  len : aas.length = k
  start : k = 0 → T = []
  jt : 0 < k → JT T aas
  tl : T.length ≤ 4097 * k
  each : ∀ j, j < k → (f j).size ≤ 4096 ∧ ∃ p, aas[j]? = some p ∧ OneOk (f j) p
theorem JW.below {B : Nat} {f : Nat → ByteArray} {k : Nat} {T : List UInt8} {aas : List (List UInt8 × List UInt8)} {v : Value} {w wx wy : World} (h : JW B f k T aas v w wx) (hB : B ≤ wx.heap.size) (hb : Below wx.heap.size wx wy) : JW B f k T aas v w wy :=
  ⟨h.own.below hb, h.bel.trans (hb.mono hB), h.len, h.start, h.jt, h.tl, h.each⟩
theorem JW.next {B : Nat} {f : Nat → ByteArray} {k : Nat} {T : List UInt8} {aas : List (List UInt8 × List UInt8)} {v v' : Value} {w wx wy : World} (h : JW B f k T aas v w wx) {S : ByteArray} {nm ad : List UInt8} (hS : f k = S) (ho : OneOk S (nm, ad)) (hs : S.size ≤ 4096) (hown : OwnAd B (aas ++ [(nm, ad)]) v' wy) (hb : Below B wx wy) :
    JW B f (k + 1) (if k = 0 then S.data.toList else T ++ 44 :: S.data.toList) (aas ++ [(nm, ad)]) v' w wy := by
  have hsl : S.data.toList.length = S.size := Array.length_toList
  obtain ⟨ts, l, h1, h2⟩ := ho
  refine ⟨hown, h.bel.trans hb, by rw [List.length_append, h.len]; rfl, fun e => by omega, fun _ => ?_, ?_, fun j hj => ?_⟩
  · by_cases hk : k = 0
    · rw [if_pos hk]
      have : aas = [] := List.eq_nil_of_length_eq_zero (by rw [h.len, hk])
      rw [this]
      exact JT.start h1 h2
    · rw [if_neg hk]
      exact (h.jt (by omega)).snoc h1 h2
  · have := h.tl
    split
    · omega
    · rw [List.length_append, List.length_cons]; omega
  · rcases Nat.lt_succ_iff_lt_or_eq.1 hj with hj | rfl
    · obtain ⟨q1, p, q2, q3⟩ := h.each j hj
      exact ⟨q1, p, by rw [List.getElem?_append_left (by rw [h.len]; exact hj)]; exact q2, q3⟩
    · exact ⟨by rw [hS]; exact hs, (nm, ad), by rw [List.getElem?_append_right (by rw [h.len]; exact Nat.le_refl _), h.len, Nat.sub_self]; rfl, by rw [hS]; exact ⟨ts, l, h1, h2⟩⟩

set_option maxHeartbeats 4000000 in
set_option maxRecDepth 100000 in
theorem joined_any (v : Value) (n : Nat) (f : Nat → ByteArray) (w : World) (h : StrArg v n f w.heap.size w) (hf : ∀ j, j < n → (f j).size ≤ 2147483647) (hT : Lib.Utf8Tabs 0 1 w) :
    Calls Tryz.prog 6 #[v] w fun x w' => JRet w.heap.size n f x w' ∧ Below w.heap.size w w' := by
  obtain ⟨p0, c0, rfl, hm⟩ := h.slice
  unfold maxLen at hm
  have H := Lib.hid h; have HF := Lib.hid hf; have HT := Lib.hid hT
  clear h hf hT
  by_cases y1 : n = 0
  · have t1 : ((n : Int) == 0) = true := by rw [beq_iff_eq]; omega
    go_enter Tryz.func6, Tryz.ntmps6
    go_wp2
    go_ret3
    exact ⟨⟨[], _, false, rfl, fun h => by cases h⟩, Below.refl _ _⟩
  have t1 : ((n : Int) == 0) = false := by rw [beq_eq_false_iff_ne]; omega
  by_cases y2 : (100 : Int) < (n : Int)
  · go_enter Tryz.func6, Tryz.ntmps6
    go_wp2
    go_ret3
    exact ⟨⟨[], _, false, rfl, fun h => by cases h⟩, Below.refl _ _⟩
  obtain ⟨a, rfl⟩ : ∃ a, p0 = some a := by
    rcases H.out.form with ⟨h, h2⟩ | ⟨a, cap, h, _⟩
    · exact absurd h2 y1
    · cases h; exact ⟨a, rfl⟩
  have hcs : ∀ j, j < n → w.cell? (a.add j) = some (.string (f j)) ∧ (a.add j).block < w.heap.size := by
    rcases H.out.form with ⟨h, h2⟩ | ⟨a', cap, h, _, _, h4⟩
    · exact absurd h2 y1
    · cases h; exact h4
  have HCS := Lib.hid hcs
  have HJ := Lib.hid (show JW w.heap.size f 0 [] [] (.slice none 0 0) w w from ⟨OwnAd.nil _ _, Below.refl _ _, rfl, fun _ => rfl, fun h => absurd h (Nat.lt_irrefl 0), Nat.zero_le _, fun j h => absurd h (Nat.not_lt_zero j)⟩)
  have hn1 : 1 ≤ n := by omega
  have hn100 : n ≤ 100 := by omega
  clear hcs y1
  go_enter Tryz.func6, Tryz.ntmps6
  go_wp2
  go_loopw [2, 3, 4, 5, 6, 21] (fun r0 r1 r2 tx al i wr => r0 = .string ⟨#[]⟩ ∧ r1 = .slice none 0 0 ∧ r2 = .bool false ∧ ∃ (k : Nat) (T : List UInt8) (aas : List (List UInt8 × List UInt8)) (qa : Option Addr) (qc : Nat), i = .int .i64 k ∧ k ≤ n ∧ tx = .string (bs T) ∧ al = .slice qa aas.length qc ∧ JW w.heap.size f k T aas (.slice qa aas.length qc) w wr) (fun _ _ _ _ _ i _ => n - (intOf i).toNat)
  case atStart => exact ⟨rfl, rfl, rfl, 0, [], [], none, 0, rfl, Nat.zero_le _, rfl, rfl, HJ.out⟩
  case round =>
    obtain ⟨rfl, rfl, rfl, k, T, aas, qa, qc, rfl, hk, rfl, rfl, hj⟩ := hrel
    have hlen := hj.len
    rw [hlen] at hj ⊢
    have HJR := Lib.hid hj
    have htl := hj.tl
    have hsz := hj.bel.size
    have HBE := Lib.hid hj.bel
    have HLEN := Lib.hid hlen
    clear hj hlen
    by_cases hlt : k < n
    · obtain ⟨hc, hblk⟩ := HCS.out k hlt
      have hcw : wr.cell? (a.add k) = some (.string (f k)) := by rw [HBE.out.cell hblk]; exact hc
      obtain ⟨S, hS⟩ : ∃ S, f k = S := ⟨_, rfl⟩
      have hSs := HF.out k hlt
      rw [hS] at hcw hSs
      have HS := Lib.hid hS
      have HTR := Lib.hid (Utf8Tabs_below HT.out HBE.out)
      clear hc hblk hS
      go_wp2_with fail
      refine (One_any S _ HTR.out (by omega)).mono ?_
      rintro x w1 ⟨⟨nm, ad, what, rfl, hok⟩, hb1⟩
      have HB1 := Lib.hid hb1
      have HJ1 := Lib.hid (HJR.out.below hsz hb1)
      have hsz1 := HJ1.out.bel.size
      by_cases hw : what = 0
      · subst hw
        by_cases h4 : (4096 : Int) < (S.size : Int)
        · go_wp2
          go_ret3
          exact ⟨⟨[], _, false, rfl, fun h => by cases h⟩, HJ1.out.bel.alloc hsz1 _⟩
        · have HOK := Lib.hid (hok rfl)
          clear hok hb1 hcw
          go_upto_region 11 with fail
          obtain ⟨ab, hab⟩ : ∃ ab, w1.heap.size = ab := ⟨_, rfl⟩
          have HA := Lib.hid (heap_alloc_new w1 (.cells #[.string (bs nm), .string (bs ad)] 38))
          have HJ2 := Lib.hid (HJ1.out.below hsz1 ((Below.refl w1.heap.size w1).alloc (Nat.le_refl _) (.cells #[.string (bs nm), .string (bs ad)] 38)))
          rw [hab] at HA ⊢
          clear hab HB1 HJ1
          generalize w1.alloc (.cells #[.string (bs nm), .string (bs ad)] 38) = w2 at HA HJ2 ⊢
          have c0 : w2.cell? ⟨ab, 0, none⟩ = some (.string (bs nm)) := by rw [Lib.cell_of_heap HA.out]; rfl
          have c1 : w2.cell? ⟨ab, 1, none⟩ = some (.string (bs ad)) := by rw [Lib.cell_of_heap HA.out]; rfl
          have hsz2 := HJ2.out.bel.size
          go_wp2_with (at_builtin; refine wpList_push_Ad rfl _ _ rfl w.heap.size aas _ nm ad w2 HJ2.out.own hsz2 ?c4 rfl rfl ?_)
          case c4 => rw [HLEN.out]; omega
          intro v' w5 hown' hg' hat'
          obtain ⟨qa', qc', hv'⟩ := hown'.form
          rw [List.length_append, HLEN.out, List.length_singleton] at hv'
          have HJ5 := Lib.hid (HJ2.out.next HS.out HOK.out (by omega) hown' (((Below.refl w.heap.size w2).alloc hsz2 _).grown hg' (by simp; omega) (fun j e => (HJ2.out.own.block j e).1)))
          subst hv'
          have hTb : (bs T).size ≤ 4097 * k := by rw [bs_size]; exact htl
          clear hown' hg' hat' c0 c1
          by_cases hk0 : k = 0
          · have z0 : ¬ (0 : Int) < (k : Int) := by omega
            have hcat : bs T ++ S = bs S.data.toList := by
              rw [HJR.out.start hk0, bs_of]
              rw [← bs_of S, bs_app, List.nil_append]
            rw [if_pos hk0] at HJ5
            clear hk0
            go_wp2
            go_roundw
            case rel => exact ⟨rfl, rfl, rfl, k + 1, _, aas ++ [(nm, ad)], qa', qc', by go_num, by omega, rfl, by rw [List.length_append, HLEN.out]; rfl, by rw [List.length_append, HLEN.out]; exact HJ5.out⟩
            case measure => simp [intOf]; omega
          · have z0 : (0 : Int) < (k : Int) := by omega
            obtain ⟨X1, hX1⟩ : ∃ X1, bs T ++ (⟨#[44]⟩ : ByteArray) = X1 := ⟨_, rfl⟩
            have hX1s : X1.size ≤ 4097 * k + 1 := by rw [← hX1, ByteArray.size_append]; show _ + 1 ≤ _; omega
            have hcat : X1 ++ S = bs (T ++ 44 :: S.data.toList) := by
              rw [← hX1, show (⟨#[44]⟩ : ByteArray) = bs [44] from rfl, ← bs_of S, bs_app, bs_app, bs_list]
              simp
            rw [if_neg hk0] at HJ5
            clear hk0
            go_wp2
            go_roundw
            case rel => exact ⟨rfl, rfl, rfl, k + 1, _, aas ++ [(nm, ad)], qa', qc', by go_num, by omega, rfl, by rw [List.length_append, HLEN.out]; rfl, by rw [List.length_append, HLEN.out]; exact HJ5.out⟩
            case measure => simp [intOf]; omega
      · clear hok hb1
        go_wp2
        go_ret3
        exact ⟨⟨[], _, false, rfl, fun h => by cases h⟩, HJ1.out.bel.alloc hsz1 _⟩
    · have hkn : k = n := by omega
      subst hkn
      go_wp2
      go_ret3
      exact ⟨⟨T, _, true, rfl, fun _ => ⟨aas, hn1, hn100, HLEN.out, HJR.out.own, HJR.out.jt (by omega), htl, HJR.out.each⟩⟩, HJR.out.bel⟩
end Go.Proofs.YtpoglombagmhmaaGreatDoor
