/- strings.Builder.WriteRune, of a rune of ASCII: the walk. -/
import Derived.Test.YtmcjmmcamelmcaaGreatDoorW1
import Derived.Test.YtmcjmmcamelmcaaGreatDoorV4
namespace Go.Proofs.YtmcjmmcamelmcaaGreatDoor
open Go Go.RowKit

set_option maxHeartbeats 2000000 in
set_option maxRecDepth 100000 in
theorem WriteRune_ascii (b : Nat) (K : Nat → Prop) (l : List UInt8) (c : UInt8) (hc : c.toNat < 128) (w : World) (h : Bld b K l w) (hlen : l.length + 1 ≤ 140737488355328) :
    Calls Tryz.prog 98 #[.pointer (some ⟨b, 0, none⟩), .int .i32 c.toNat] w fun e w' => (∃ x, e = .returned x) ∧ Bld b K (l ++ [c]) w' ∧ Fr K w w' := by
  have HBL := Lib.hid h
  clear h
  go_enter Tryz.func98, Tryz.ntmps98
  go_wp2_with fail
  refine (copyCheck_any b K l _ HBL.out).mono ?_
  rintro e w1 ⟨rfl, ⟨v, hbk, hown, hr, hne, hn, hs⟩, hf1⟩
  have c0 : w1.cell? ⟨b, 0, none⟩ = some (.pointer (some ⟨b, 0, none⟩)) := by rw [Lib.cell_of_heap hbk]; rfl
  have c1 : w1.cell? ⟨b, 1, none⟩ = some v := by rw [Lib.cell_of_heap hbk]; rfl
  have HK := Lib.hid hbk; have HO := Lib.hid hown; have HR := Lib.hid hr; have HNE := Lib.hid hne; have HNB := Lib.hid hn; have HS := Lib.hid hs; have HF1 := Lib.hid hf1
  obtain ⟨q, cc, rfl, _, _⟩ := OwnB.form (B := 0) (l := l) hown
  clear hbk hown hr hne hn hs hf1
  go_wp2_with fail
  refine (AppendRune_ascii l _ c hc _ HO.out hlen).mono ?_
  rintro e w2 ⟨v', rfl, hown', hgrow, hat⟩
  have hlt : b < w1.heap.size := (Array.getElem?_eq_some_iff.1 HK.out).1
  have hbk' : (w1.alloc (.cells #[.int .u8 c.toNat] 5)).heap[b]? = some (.cells #[.pointer (some ⟨b, 0, none⟩), .slice q l.length cc] 83 (0, 0)) := by rw [Below.heap_alloc _ _ _ hlt]; exact HK.out
  have hb2 : w2.heap[b]? = some (.cells #[.pointer (some ⟨b, 0, none⟩), .slice q l.length cc] 83 (0, 0)) := by
    rw [hgrow.block b (by simp; omega) (fun e => HNE.out e.symm)]
    exact hbk'
  have hput := Used.put (K := K) (l' := l ++ [c]) hbk' HR.out HNE.out HNB.out (fun k hk => by have := HS.out k hk; simp; omega) hgrow hown' (by
    rcases hat with h | h
    · exact .inl h
    · exact .inr ⟨_, h, by simp⟩)
  have d0 : w2.cell? ⟨b, 0, none⟩ = some (.pointer (some ⟨b, 0, none⟩)) := by rw [Lib.cell_of_heap hb2]; rfl
  have d1 : w2.cell? ⟨b, 1, none⟩ = some (.slice q l.length cc) := by rw [Lib.cell_of_heap hb2]; rfl
  have f1 : w2.frozen? ⟨b, 1, none⟩ = false := Lib.frozen_of_heap hb2 1
  obtain ⟨q', cc', rfl, _, _⟩ := OwnB.form hown'
  have HPUT := Lib.hid hput
  have hb3 : (w2.setCell ⟨b, 1, none⟩ (.slice q' (l ++ [c]).length cc')).heap[b]? = some (.cells #[.pointer (some ⟨b, 0, none⟩), .slice q' (l ++ [c]).length cc'] 83 (0, 0)) := heap_setCell_row hb2
  have g1 : (w2.setCell ⟨b, 1, none⟩ (.slice q' (l ++ [c]).length cc')).cell? ⟨b, 1, none⟩ = some (.slice q' (l ++ [c]).length cc') := by rw [Lib.cell_of_heap hb3]; rfl
  clear hput hb3 hgrow hat hown' hb2 hbk'
  have hM : (l ++ [c]).length = l.length + 1 := by simp
  rw [hM] at HPUT g1 ⊢
  clear hM
  go_wp2
  go_ret2
  exact ⟨⟨_, rfl⟩, HPUT.out.1, (HF1.out.alloc HS.out _).trans HPUT.out.2⟩
end Go.Proofs.YtmcjmmcamelmcaaGreatDoor
