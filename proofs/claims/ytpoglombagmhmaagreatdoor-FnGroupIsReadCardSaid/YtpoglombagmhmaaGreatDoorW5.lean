/- netmail's predicates of a rune: the walk. -/
import Derived.Test.YtpoglombagmhmaaGreatDoorV9
import Derived.Test.YtpoglombagmhmaaGreatDoorV4
namespace Go.Proofs.YtpoglombagmhmaaGreatDoor
open Go Go.RowKit

def vcharR (r : Nat) : Bool := decide (33 ≤ r ∧ r ≤ 126) || decide (128 ≤ r)
def wspR (r : Nat) : Bool := decide (r = 32 ∨ r = 9)

theorem isMultibyte_any (r : Nat) (w : World) : Calls Tryz.prog 84 #[.int .i32 r] w fun x w' => x = .returned (.bool (decide (128 ≤ r))) ∧ w' = w := by
  go_enter Tryz.func84, Tryz.ntmps84
  by_cases h : 128 ≤ r
  · have z : (128 : Int) ≤ (r : Int) := by omega
    rw [decide_eq_true h]
    go_wp2
    go_ret
    exact ⟨rfl, rfl⟩
  · have z : ¬ (128 : Int) ≤ (r : Int) := by omega
    rw [decide_eq_false h]
    go_wp2
    go_ret
    exact ⟨rfl, rfl⟩
theorem isWSP_any (r : Nat) (w : World) : Calls Tryz.prog 70 #[.int .i32 r] w fun x w' => x = .returned (.bool (wspR r)) ∧ w' = w := by
  unfold wspR
  go_enter Tryz.func70, Tryz.ntmps70
  by_cases h : r = 32
  · have z : ((r : Int) == 32) = true := by rw [beq_iff_eq]; omega
    rw [decide_eq_true (.inl h)]
    clear h
    go_wp2
    go_ret
    exact ⟨rfl, rfl⟩
  · have z : ((r : Int) == 32) = false := by rw [beq_eq_false_iff_ne]; omega
    by_cases h2 : r = 9
    · have z2 : ((r : Int) == 9) = true := by rw [beq_iff_eq]; omega
      rw [decide_eq_true (.inr h2)]
      clear h h2
      go_wp2
      go_ret
      exact ⟨rfl, rfl⟩
    · have z2 : ((r : Int) == 9) = false := by rw [beq_eq_false_iff_ne]; omega
      rw [decide_eq_false (fun q => q.elim h h2)]
      go_wp2
      go_ret
      exact ⟨rfl, rfl⟩
theorem isVchar_any (r : Nat) (w : World) : Calls Tryz.prog 65 #[.int .i32 r] w fun x w' => x = .returned (.bool (vcharR r)) ∧ w' = w := by
  unfold vcharR
  have HM := Lib.hid (fun W => isMultibyte_any r W)
  go_enter Tryz.func65, Tryz.ntmps65
  by_cases h : 33 ≤ r
  · have z : (33 : Int) ≤ (r : Int) := by omega
    by_cases h2 : r ≤ 126
    · have z2 : (r : Int) ≤ 126 := by omega
      rw [decide_eq_true (And.intro h h2), Bool.true_or]
      go_wp2
      go_ret
      exact ⟨rfl, rfl⟩
    · have z2 : ¬ (r : Int) ≤ 126 := by omega
      rw [decide_eq_false (p := 33 ≤ r ∧ r ≤ 126) (fun q => h2 q.2), Bool.false_or]
      go_wp2_with fail
      refine (HM.out _).mono ?_
      rintro x w2 ⟨rfl, rfl⟩
      go_wp2
      go_ret
      exact ⟨rfl, rfl⟩
  · have z : ¬ (33 : Int) ≤ (r : Int) := by omega
    rw [decide_eq_false (p := 33 ≤ r ∧ r ≤ 126) (fun q => h q.1), Bool.false_or]
    go_wp2_with fail
    refine (HM.out _).mono ?_
    rintro x w2 ⟨rfl, rfl⟩
    go_wp2
    go_ret
    exact ⟨rfl, rfl⟩
end Go.Proofs.YtpoglombagmhmaaGreatDoor
/- netmail.isAtext, without points: the walk. -/
namespace Go.Proofs.YtpoglombagmhmaaGreatDoor
open Go Go.RowKit

/-- A sign of an atom of ASCII, or any beyond it. -/
def atextR (r : Nat) : Bool := vcharR r && !([46, 40, 41, 60, 62, 91, 93, 58, 59, 64, 92, 44, 34].contains r)
theorem isAtext_any (r : Nat) (w : World) : Calls Tryz.prog 45 #[.int .i32 r, .bool false] w fun x w' => x = .returned (.bool (atextR r)) ∧ w' = w := by
  have HV := Lib.hid (fun W => isVchar_any r W)
  by_cases h : r ∈ [46, 40, 41, 60, 62, 91, 93, 58, 59, 64, 92, 44, 34]
  · have HR := Lib.hid (show atextR r = false by unfold atextR; rw [List.contains_iff_mem.2 h]; simp)
    simp only [List.mem_cons, List.not_mem_nil, or_false] at h
    go_enter Tryz.func45, Tryz.ntmps45
    rcases h with rfl | rfl | rfl | rfl | rfl | rfl | rfl | rfl | rfl | rfl | rfl | rfl | rfl <;> (go_wp2; go_ret; exact ⟨by rw [HR.out]; rfl, rfl⟩)
  · have HR := Lib.hid (show atextR r = vcharR r by unfold atextR; rw [show ([46, 40, 41, 60, 62, 91, 93, 58, 59, 64, 92, 44, 34] : List Nat).contains r = false from by rw [Bool.eq_false_iff]; intro q; exact h (List.contains_iff_mem.1 q)]; simp)
    simp only [List.mem_cons, List.not_mem_nil, or_false, not_or] at h
    obtain ⟨h1, h2, h3, h4, h5, h6, h7, h8, h9, h10, h11, h12, h13⟩ := h
    have e : ∀ (k : Nat), r ≠ k → ((r : Int) == (k : Int)) = false := fun k hk => by rw [beq_eq_false_iff_ne]; omega
    have t1 : ((r : Int) == 46) = false := e 46 h1
    have t2 : ((r : Int) == 40) = false := e 40 h2
    have t3 : ((r : Int) == 41) = false := e 41 h3
    have t4 : ((r : Int) == 60) = false := e 60 h4
    have t5 : ((r : Int) == 62) = false := e 62 h5
    have t6 : ((r : Int) == 91) = false := e 91 h6
    have t7 : ((r : Int) == 93) = false := e 93 h7
    have t8 : ((r : Int) == 58) = false := e 58 h8
    have t9 : ((r : Int) == 59) = false := e 59 h9
    have t10 : ((r : Int) == 64) = false := e 64 h10
    have t11 : ((r : Int) == 92) = false := e 92 h11
    have t12 : ((r : Int) == 44) = false := e 44 h12
    have t13 : ((r : Int) == 34) = false := e 34 h13
    clear e h1 h2 h3 h4 h5 h6 h7 h8 h9 h10 h11 h12 h13
    go_enter Tryz.func45, Tryz.ntmps45
    go_wp2_with fail
    refine (HV.out _).mono ?_
    rintro x w2 ⟨rfl, rfl⟩
    go_wp2
    go_ret
    exact ⟨by rw [HR.out]; rfl, rfl⟩
end Go.Proofs.YtpoglombagmhmaaGreatDoor
/- netmail.isQtext: the walk. -/
namespace Go.Proofs.YtpoglombagmhmaaGreatDoor
open Go Go.RowKit

/-- A sign that stands for itself in a quoted string. -/
def qtextR (r : Nat) : Bool := !decide (r = 92 ∨ r = 34) && vcharR r
theorem isQtext_any (r : Nat) (w : World) : Calls Tryz.prog 71 #[.int .i32 r] w fun x w' => x = .returned (.bool (qtextR r)) ∧ w' = w := by
  have HV := Lib.hid (fun W => isVchar_any r W)
  unfold qtextR
  go_enter Tryz.func71, Tryz.ntmps71
  by_cases h : r = 92
  · have z : ((r : Int) == 92) = true := by rw [beq_iff_eq]; omega
    rw [decide_eq_true (.inl h), Bool.not_true, Bool.false_and]
    clear h
    go_wp2
    go_ret
    exact ⟨rfl, rfl⟩
  · have z : ((r : Int) == 92) = false := by rw [beq_eq_false_iff_ne]; omega
    by_cases h2 : r = 34
    · have z2 : ((r : Int) == 34) = true := by rw [beq_iff_eq]; omega
      rw [decide_eq_true (.inr h2), Bool.not_true, Bool.false_and]
      clear h h2
      go_wp2
      go_ret
      exact ⟨rfl, rfl⟩
    · have z2 : ((r : Int) == 34) = false := by rw [beq_eq_false_iff_ne]; omega
      rw [decide_eq_false (fun q => q.elim h h2), Bool.not_false, Bool.true_and]
      go_wp2_with fail
      refine (HV.out _).mono ?_
      rintro x w2 ⟨rfl, rfl⟩
      go_wp2
      go_ret
      exact ⟨rfl, rfl⟩
end Go.Proofs.YtpoglombagmhmaaGreatDoor
/- utf8.AppendRune, of a rune of ASCII, to a row in place: the walk. -/
namespace Go.Proofs.YtpoglombagmhmaaGreatDoor
open Go Go.RowKit

set_option maxHeartbeats 2000000 in
set_option maxRecDepth 100000 in
theorem AppendRune_ascii (l : List UInt8) (v : Value) (c : UInt8) (hc : c.toNat < 128) (w : World) (hown : OwnB 0 l v w) (hlen : l.length + 1 ≤ 140737488355328) :
    Calls Tryz.prog 127 #[v, .int .i32 c.toNat] w fun e w' => ∃ v', e = .returned v' ∧ OwnB 0 (l ++ [c]) v' w' ∧ (w.alloc (.cells #[.int .u8 c.toNat] 5)).grownBy w' v.ownBlock ∧ (v'.ownBlock = v.ownBlock ∨ v'.ownBlock = some (w.heap.size + 1)) := by
  have HOWN := Lib.hid hown
  have z : (c.toNat : Int) ≤ 127 := by omega
  clear hown
  go_enter Tryz.func127, Tryz.ntmps127
  go_wp2_with (at_builtin; refine wpList_push_byte rfl _ _ rfl 0 l _ c w HOWN.out (Nat.zero_le _) ?c4 rfl rfl ?_)
  case c4 => omega
  intro v' w2 hown' hg hat
  have HO := Lib.hid hown'; have HG := Lib.hid hg; have HAT := Lib.hid hat
  clear hown' hg hat
  go_wp2
  go_ret
  exact ⟨v', rfl, HO.out, HG.out, HAT.out⟩
end Go.Proofs.YtpoglombagmhmaaGreatDoor
/- strings.Builder.WriteRune, of a rune of ASCII: the walk. -/
namespace Go.Proofs.YtpoglombagmhmaaGreatDoor
open Go Go.RowKit

set_option maxHeartbeats 2000000 in
set_option maxRecDepth 100000 in
theorem WriteRune_ascii (b : Nat) (K : Nat → Prop) (l : List UInt8) (c : UInt8) (hc : c.toNat < 128) (w : World) (h : Bld b K l w) (hlen : l.length + 1 ≤ 140737488355328) :
    Calls Tryz.prog 111 #[.pointer (some ⟨b, 0, none⟩), .int .i32 c.toNat] w fun e w' => (∃ x, e = .returned x) ∧ Bld b K (l ++ [c]) w' ∧ Fr K w w' := by
  have HBL := Lib.hid h
  clear h
  go_enter Tryz.func111, Tryz.ntmps111
  go_wp2_with fail
  refine (copyCheck_any b K l _ HBL.out).mono ?_
  rintro e w1 ⟨rfl, ⟨v, hbk, hown, hr, hne, hn, hs⟩, hf1⟩
  have c0 : w1.cell? ⟨b, 0, none⟩ = some (.pointer (some ⟨b, 0, none⟩)) := by rw [Lib.cell_of_heap hbk]; rfl
  have c1 : w1.cell? ⟨b, 1, none⟩ = some v := by rw [Lib.cell_of_heap hbk]; rfl
  have HK := Lib.hid hbk; have HO := Lib.hid hown; have HR := Lib.hid hr; have HNE := Lib.hid hne; have HNB := Lib.hid hn; have HS := Lib.hid hs; have HF1 := Lib.hid hf1
  obtain ⟨q, cc, rfl, _, _⟩ := OwnB.form (B := 0) (l := l) hown
  clear hbk hown hr hne hn hs hf1
  go_wp2_with fail
  refine (AppendRune_ascii l _ c hc _ HO.out hlen).mono ?_
  rintro e w2 ⟨v', rfl, hown', hgrow, hat⟩
  have hlt : b < w1.heap.size := (Array.getElem?_eq_some_iff.1 HK.out).1
  have hbk' : (w1.alloc (.cells #[.int .u8 c.toNat] 5)).heap[b]? = some (.cells #[.pointer (some ⟨b, 0, none⟩), .slice q l.length cc] 110 (0, 0)) := by rw [Below.heap_alloc _ _ _ hlt]; exact HK.out
  have hb2 : w2.heap[b]? = some (.cells #[.pointer (some ⟨b, 0, none⟩), .slice q l.length cc] 110 (0, 0)) := by
    rw [hgrow.block b (by simp; omega) (fun e => HNE.out e.symm)]
    exact hbk'
  have hput := Used.put (K := K) (l' := l ++ [c]) hbk' HR.out HNE.out HNB.out (fun k hk => by have := HS.out k hk; simp; omega) hgrow hown' (by
    rcases hat with h | h
    · exact .inl h
    · exact .inr ⟨_, h, by simp⟩)
  have d0 : w2.cell? ⟨b, 0, none⟩ = some (.pointer (some ⟨b, 0, none⟩)) := by rw [Lib.cell_of_heap hb2]; rfl
  have d1 : w2.cell? ⟨b, 1, none⟩ = some (.slice q l.length cc) := by rw [Lib.cell_of_heap hb2]; rfl
  have f1 : w2.frozen? ⟨b, 1, none⟩ = false := Lib.frozen_of_heap hb2 1
  obtain ⟨q', cc', rfl, _, _⟩ := OwnB.form hown'
  have HPUT := Lib.hid hput
  have hb3 : (w2.setCell ⟨b, 1, none⟩ (.slice q' (l ++ [c]).length cc')).heap[b]? = some (.cells #[.pointer (some ⟨b, 0, none⟩), .slice q' (l ++ [c]).length cc'] 110 (0, 0)) := heap_setCell_row hb2
  have g1 : (w2.setCell ⟨b, 1, none⟩ (.slice q' (l ++ [c]).length cc')).cell? ⟨b, 1, none⟩ = some (.slice q' (l ++ [c]).length cc') := by rw [Lib.cell_of_heap hb3]; rfl
  clear hput hb3 hgrow hat hown' hb2 hbk'
  have hM : (l ++ [c]).length = l.length + 1 := by simp
  rw [hM] at HPUT g1 ⊢
  clear hM
  go_wp2
  go_ret2
  exact ⟨⟨_, rfl⟩, HPUT.out.1, (HF1.out.alloc HS.out _).trans HPUT.out.2⟩
end Go.Proofs.YtpoglombagmhmaaGreatDoor
