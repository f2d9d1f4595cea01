/- Plain Lean: a group: a name that is an atom, a colon, addresses with commas between them, a semicolon: the tokens. -/
import Derived.Test.YtpoglombagmhmaaGreatDoorJ1
namespace Go.Proofs.YtpoglombagmhmaaGreatDoor
open Go

theorem ascii_good : ∀ {l : List UInt8}, (∀ c ∈ l, c.toNat < 128) → Lib.validD l = true
  | [], _ => Lib.validD_nil
  | c :: t, h => by
    rw [Lib.validD_cons c t (h c (by simp))]
    exact ascii_good (fun d hd => h d (by simp [hd]))
theorem atom_plain9 {c : UInt8} (h : atomB c = true ∧ c.toNat < 128) : c.toNat < 128 ∧ ctlB c = false := by
  have : ∀ k : Fin 128, atomB (UInt8.ofNat k.val) = true → ctlB (UInt8.ofNat k.val) = false := by decide
  have := this ⟨c.toNat, h.2⟩
  simp only [UInt8.ofNat_toNat] at this
  exact ⟨h.2, this h.1⟩
theorem dots_atom {l : List UInt8} (h : Dots l) (hn : ∀ c ∈ l, c ≠ 46) : l ≠ [] ∧ ∀ c ∈ l, atomB c = true ∧ c.toNat < 128 := by
  cases h with
  | one _ h0 h => exact ⟨h0, h⟩
  | more a l h0 h hl => exact absurd rfl (hn 46 (by simp))
/-- A group's text. -/
structure GT (G N T : List UInt8) (aas : List (List UInt8 × List UInt8)) : Prop where
  text : G = N ++ 58 :: (T ++ [59])
  ne : N ≠ []
  atom : ∀ c ∈ N, atomB c = true ∧ c.toNat < 128
  mark : markedL N = false
  good : GoodS G
  toks : ∃ us l, toksL false (T ++ [59]) = .good (us ++ [⟨59, [], l⟩]) false ∧ LT aas us
theorem group_text {N T : List UInt8} {aas : List (List UInt8 × List UInt8)} (hd : dottedL N = true) (hn : ∀ c ∈ N, c ≠ 46) (hm : markedL N = false) (hT : JT T aas) : GT (N ++ 58 :: (T ++ [59])) N T aas := by
  obtain ⟨h1, h2⟩ := dots_atom (dots_dotted hd) hn
  obtain ⟨us, l, h3, h4⟩ := hT.toks
  have hg0 : GoodS [] := ⟨Lib.validD_nil, by simp⟩
  have hgN : GoodS N := ⟨ascii_good (fun c hc => (h2 c hc).2), fun c hc => (atom_plain9 (h2 c hc)).2⟩
  refine ⟨rfl, h1, h2, hm, good_join (by decide) (by decide) hgN (good_join (by decide) (by decide) hT.good hg0), us, l, ?_, h4⟩
  have := toks_join (c := 59) ⟨by decide, by decide, by decide, by decide, by decide⟩ h3 (tk_nil false)
  simpa using this
end Go.Proofs.YtpoglombagmhmaaGreatDoor
