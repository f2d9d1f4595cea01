/- spec.One, on a text of one name and one address in angles: the walk. -/
import Derived.Test.YtmcjmmcamelmcaaGreatDoorV7
import Derived.Laws.ResultCell
namespace Go.Proofs.YtmcjmmcamelmcaaGreatDoor
open Go Go.RowKit

theorem own_base {w : World} {B : Nat} {e : TypeId} {sz n : Nat} {v : Value} {xs : List Value} (h : w.ownsRow B e sz v n xs) : w.ownsRow 0 e sz v n xs := by
  refine ⟨h.1, ?_⟩
  rcases h.2 with h0 | ⟨g, cap, cur, h1, _, h2⟩
  · exact .inl h0
  · exact .inr ⟨g, cap, cur, h1, Nat.zero_le _, h2⟩
set_option maxHeartbeats 4000000 in
set_option maxRecDepth 100000 in
theorem One_plain (s : ByteArray) (ts us vs : List Tok) (last : Bool) (n1 n2 : Nat) (ok2 ok3 ok7 : Bool) (nm lc dm : List UInt8) (r4 : List Tok) (w : World) (hT : Lib.Utf8Tabs 0 1 w) (hs : s.size ≤ 1099511627776)
    (hts : tokensL s.data.toList = .good ts last) (htl : tlen ts ≤ 4398046511104)
    (hus : ts.takeWhile wordK = us) (hn1 : 0 + wordsN ts 0 = n1) (h1 : isH 60 (ts.drop n1) = true) (h2 : isH 64 (ts.drop (n1 + 1)) = false)
    (hnm : nameG us 0 true false [] = (ok2, nm))
    (hvs : (ts.drop (n1 + 1)).takeWhile wordK = vs) (hn2 : n1 + 1 + wordsN ts (n1 + 1) = n2)
    (hlc : localG vs 0 (ok2 && !spaceH (ts.drop (n1 + 1))) [] = (ok3, lc, true)) (h3 : isH 64 (ts.drop n2) = true)
    (hdm : domainG (ts.drop (n2 + 1)) (ok3 && !spaceH (ts.drop n2)) [] = (r4, ok7, dm, true)) (h4 : isH 62 r4 = true) (h5 : r4.length = 1) (h6 : (ok7 && !spaceH r4) = true) :
    Calls Tryz.prog 5 #[.string s] w fun x w' => x = .returned (.tuple #[.agg #[.string (bs nm), .string (bs (lc ++ [64] ++ dm))], .int .i64 0]) ∧ Below w.heap.size w w' := by
  have HTB := Lib.hid hT; have HTS := Lib.hid hts
  have HADR := Lib.hid (fun pb tv W (hp : Par pb tv ts 0 true W) (hT' : Lib.Utf8Tabs 0 1 W) (hg : pb ≠ 0 ∧ pb ≠ 1) => address_plain pb tv ts us vs 0 n1 n2 true ok2 ok3 true true ok7 nm lc dm r4 W hp hT' hg (by rw [List.drop_zero]; exact hus) hn1 h1 h2 hnm hvs hn2 hlc rfl h3 hdm rfl h4)
  have hne : ts ≠ [] := by rintro rfl; simp [isH] at h1
  have H5 := Lib.hid h5; have H6 := Lib.hid h6
  clear hT hts hus hn1 h1 h2 hnm hvs hn2 hlc h3 hdm h4 h5 h6
  have hB1 := (Below.refl w.heap.size w).alloc (Nat.le_refl _) (.cells #[.string ⟨#[]⟩, .string ⟨#[]⟩] 23)
  have hA1 := heap_alloc_new w (.cells #[.string ⟨#[]⟩, .string ⟨#[]⟩] 23)
  have HB1 := Lib.hid hB1; have HA1 := Lib.hid hA1
  have HS1 := Lib.hid (show (w.alloc (.cells #[.string ⟨#[]⟩, .string ⟨#[]⟩] 23)).heap.size = w.heap.size + 1 by simp)
  clear hB1 hA1
  have HTB1 := Lib.hid (Utf8Tabs_below HTB.out HB1.out)
  go_enter Tryz.func5, Tryz.ntmps5
  go_wp2_with fail
  generalize w.alloc (.cells #[.string ⟨#[]⟩, .string ⟨#[]⟩] 23) = w1 at HB1 HA1 HS1 HTB1 ⊢
  refine (tokens_any s _ hs HTB1.out).mono ?_
  rintro x w2 ⟨hx, hb⟩
  rw [HTS.out] at hx
  obtain ⟨tv, rfl, hown⟩ := hx
  have HOWN := Lib.hid hown; have HB2 := Lib.hid hb
  clear hown hb
  obtain ⟨g, cap, rfl, hgB⟩ : ∃ g cap, tv = .slice (some ⟨g, 0, none⟩) ts.length cap ∧ (w1.heap.size ≤ g ∧ g < w2.heap.size) := by
    rcases HOWN.out.2 with ⟨rfl, h0⟩ | ⟨g, cap, cur, rfl, hB, hg, rest⟩
    · exact absurd (List.eq_nil_of_length_eq_zero h0) hne
    · exact ⟨g, cap, rfl, hB, (Array.getElem?_eq_some_iff.1 hg).1⟩
  obtain ⟨pb, hpb⟩ : ∃ pb, w2.heap.size = pb := ⟨_, rfl⟩
  have hP : Par pb (.slice (some ⟨g, 0, none⟩) ts.length cap) ts 0 true (w2.alloc (.cells #[.slice (some ⟨g, 0, none⟩) ts.length cap, .int .i64 0, .bool true] 45)) := by
    refine ⟨?_, ?_, ?_, Nat.zero_le _, htl⟩
    · rw [← hpb]; exact heap_alloc_new w2 _
    · exact World.ownsRow.alloc (own_base HOWN.out) _
    · intro e; simp [Value.ownBlock] at e; omega
  have HP := Lib.hid hP
  have HB3 := Lib.hid (((HB1.out.trans (HB2.out.mono HB1.out.size))).alloc (by have := HB1.out.size; have := HB2.out.size; omega) (.cells #[.slice (some ⟨g, 0, none⟩) ts.length cap, .int .i64 0, .bool true] 45))
  have HA3 := Lib.hid (show (w2.alloc (.cells #[.slice (some ⟨g, 0, none⟩) ts.length cap, .int .i64 0, .bool true] 45)).heap[w.heap.size]? = some (.cells #[.string ⟨#[]⟩, .string ⟨#[]⟩] 23 (0, 0)) from
    (((Below.refl w2.heap.size w2).alloc (Nat.le_refl _) _).block _ (by have := HB2.out.size; have := HS1.out; omega)).trans ((HB2.out.block _ (by have := HS1.out; omega)).trans HA1.out))
  have hpw : w.heap.size < pb := by have := HB2.out.size; have := HS1.out; omega
  have HTB3 := Lib.hid (Utf8Tabs_below HTB.out HB3.out)
  clear hP
  have lt : ∀ {a : Addr} {v : Value}, w.cell? a = some v → a.block < w.heap.size := fun {a v} hc => by
    rcases Nat.lt_or_ge a.block w.heap.size with h' | h'
    · exact h'
    · simp [World.cell?, Array.getElem?_eq_none h'] at hc
  have g0 : 0 < w.heap.size := lt (HTB.out.1 0 (by decide))
  have g1 : 1 < w.heap.size := lt (HTB.out.2 0 (by decide)).1
  have hgn : pb ≠ 0 ∧ pb ≠ 1 := ⟨by omega, by omega⟩
  go_wp2_with fail
  refine (HADR.out pb _ _ HP.out HTB3.out hgn).mono ?_
  rintro x w4 ⟨⟨g9, rfl, k0, k1⟩, ⟨m, hm, hp⟩, hf⟩
  rw [H6.out] at hp
  have hlen : m + 1 = ts.length := by
    have h7 := H5.out
    rw [hm, List.length_drop] at h7; omega
  have hlt : ¬ ((m + 1 : Nat) : Int) < (ts.length : Int) := by omega
  obtain ⟨p0, p1, p2⟩ := hp.cells
  have hA4 : w4.heap[w.heap.size]? = some (.cells #[.string ⟨#[]⟩, .string ⟨#[]⟩] 23 (0, 0)) :=
    (hf.block _ ⟨by omega, by rw [World.size_alloc]; omega⟩).trans HA3.out
  have e0 : w4.cell? ⟨w.heap.size, 0, none⟩ = some (.string ⟨#[]⟩) := by rw [Lib.cell_of_heap hA4]; rfl
  have e1 : w4.cell? ⟨w.heap.size, 1, none⟩ = some (.string ⟨#[]⟩) := by rw [Lib.cell_of_heap hA4]; rfl
  have f0 : w4.frozen? ⟨w.heap.size, 0, none⟩ = false := Lib.frozen_of_heap hA4 0
  have f1 : w4.frozen? ⟨w.heap.size, 1, none⟩ = false := Lib.frozen_of_heap hA4 1
  have HB4 := Lib.hid (HB3.out.trans ((hf.mono (fun k (hk : k < w.heap.size) => ⟨by omega, by rw [World.size_alloc]; omega⟩)).below))
  have HA4 := Lib.hid hA4
  rw [hlen] at p1
  have hlt2 : ¬ (ts.length : Int) < (ts.length : Int) := by omega
  clear hm hp hf hlen hlt hA4 lt
  go_wp2
  have hX : lc ++ 64 :: dm = lc ++ [64] ++ dm := by simp
  obtain ⟨X, hXX⟩ : ∃ X, bs (lc ++ 64 :: dm) = X := ⟨_, rfl⟩
  have hXY : bs (lc ++ [64] ++ dm) = X := by rw [← hX]; exact hXX
  rw [hXX]
  have hb5 : ((w4.setCell ⟨w.heap.size, 0, none⟩ (.string (bs nm))).setCell ⟨w.heap.size, 1, none⟩ (.string X)).heap[w.heap.size]? = some (.cells #[.string (bs nm), .string X] 23 (0, 0)) := heap_setCell_row (heap_setCell_row HA4.out)
  have hbel : Below w.heap.size w ((w4.setCell ⟨w.heap.size, 0, none⟩ (.string (bs nm))).setCell ⟨w.heap.size, 1, none⟩ (.string X)) :=
    (((Fr.of_below HB4.out).setCell (p := ⟨w.heap.size, 0, none⟩) (Nat.lt_irrefl _) _).setCell (p := ⟨w.heap.size, 1, none⟩) (Nat.lt_irrefl _) _).below
  generalize (w4.setCell ⟨w.heap.size, 0, none⟩ (.string (bs nm))).setCell ⟨w.heap.size, 1, none⟩ (.string X) = w9 at hb5 hbel ⊢
  have u0 : w9.cell? ⟨w.heap.size, 0, none⟩ = some (.string (bs nm)) := by rw [Lib.cell_of_heap hb5]; rfl
  have u1 : w9.cell? ⟨w.heap.size, 1, none⟩ = some (.string X) := by rw [Lib.cell_of_heap hb5]; rfl
  (try simp only [Exit.inBlock, Exit.then])
  refine bodyPost_ret (v := .tuple #[.agg #[.string (bs nm), .string X], .int .i64 0]) ?_ rfl ⟨by rw [hXY], hbel⟩
  rw [results_cell_tmp rfl]
  go_simp
end Go.Proofs.YtmcjmmcamelmcaaGreatDoor
