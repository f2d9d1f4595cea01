/- base64's stream encoder: Close: the walk. -/
import Derived.Test.YtciejdaifjbjdaaDoorB64w
namespace Go.Proofs.YtciejdaifjbjdaaDoor
open Go Go.RowKit

theorem EncodedLen_few (ea n : Nat) (w : World) (hE : EncM 64 ea w) (h1 : 1 ≤ n) (h2 : n ≤ 2) :
    Calls Tryd.prog 85 #[.pointer (some ⟨ea, 0, none⟩), .int .i64 n] w fun x w' => x = .returned (.int .i64 4) ∧ w = w' := by
  refine (EncodedLen_any ea n w hE (by omega)).mono ?_
  rintro x w' ⟨rfl, rfl⟩
  refine ⟨?_, rfl⟩
  rw [show (n + 2) / 3 * 4 = 4 by omega]; rfl

theorem b64_append : ∀ (n : Nat) (a b : List UInt8), a.length = 3 * n → b64 (a ++ b) = b64 a ++ b64 b
  | 0, a, b, h => by
    obtain rfl : a = [] := List.eq_nil_of_length_eq_zero (by omega)
    simp [b64]
  | n + 1, a, b, h => by
    match a, h with
    | x :: y :: z :: t, h =>
      have ih := b64_append n t b (by simp at h; omega)
      simp [b64, ih]
    | [], h => simp at h
    | [_], h => simp at h; omega
    | [_, _], h => simp at h; omega

set_option maxHeartbeats 4000000 in
set_option maxRecDepth 100000 in
theorem eClose_any (ea b eb : Nat) (K : Nat → Prop) (l buf : List UInt8) (w : World) (hB : Bld b K l w) (hE : EncM 64 ea w) (hD : Encd ea b eb buf w) (hKe : K eb) (hne : ea ≠ eb) (hlen : l.length ≤ 70368744177760) :
    Calls Tryd.prog 129 #[.pointer (some ⟨eb, 0, none⟩)] w fun x w' => x = .returned .nilIface ∧ Bld b K (l ++ b64 buf) w' ∧ Encd ea b eb [] w' ∧ Fr (fun k => K k ∧ k ≠ eb) w w' := by
  obtain ⟨cs, hb, hc⟩ := hD
  have c0 : w.cell? ⟨eb, 0, none⟩ = some .nilIface := by rw [Lib.cell_of_heap hb]; exact hc.err
  have c6 : w.cell? ⟨eb, 6, none⟩ = some (.int .i64 buf.length) := by rw [Lib.cell_of_heap hb]; exact hc.nbuf
  by_cases hn : buf = []
  · subst hn
    have c6' : w.cell? ⟨eb, 6, none⟩ = some (.int .i64 0) := c6
    have HBB := Lib.hid hb
    clear c6 hb
    go_enter Tryd.func129, Tryd.ntmps129
    go_wp2_with fail
    go_ret
    exact ⟨rfl, by simpa [b64] using hB, ⟨cs, HBB.out, hc⟩, Fr.refl _ _⟩
  · have c1 : w.cell? ⟨eb, 1, none⟩ = some (.pointer (some ⟨ea, 0, none⟩)) := by rw [Lib.cell_of_heap hb]; exact hc.enc
    have c2 : w.cell? ⟨eb, 2, none⟩ = some (.iface 79 (.pointer (some ⟨b, 0, none⟩))) := by rw [Lib.cell_of_heap hb]; exact hc.wr
    obtain ⟨n, hnl⟩ : ∃ n, buf.length = n := ⟨_, rfl⟩
    have hfew := hc.few
    have hn1 : 1 ≤ n := by rw [← hnl]; exact List.length_pos_iff.2 hn
    rw [hnl] at c6 hfew
    have hsrc : ∀ j x, buf[j]? = some x → w.cell? ⟨eb, 3 + j, none⟩ = some (.int .u8 x.toNat) := fun j x hx => by rw [Lib.cell_of_heap hb]; exact hc.byte j x hx
    have i1 : (0 : Int) < (n : Int) := by omega
    have i2 : (n : Int) ≤ 3 := by omega
    have HS := Lib.hid hsrc; have HBB := Lib.hid hb; have HN := Lib.hid hnl
    clear hsrc hb hnl
    go_enter Tryd.func129, Tryd.ntmps129
    go_wp2_with fail
    go_region_held3 (fun W => W.cell? ⟨eb, 1, none⟩ = some (.pointer (some ⟨ea, 0, none⟩)) ∧ W.cell? ⟨eb, 6, none⟩ = some (.int .i64 n)) (first | exact ⟨c1, c6⟩ | (refine ⟨?_, ?_⟩ <;> first | (rw [Lib.cell_of_heap hb3, hW3.out 1 (Or.inl (by omega))]; exact hc.enc) | (rw [Lib.cell_of_heap hb3, hW3.out 6 (Or.inl (by omega)), ← HN.out]; exact hc.nbuf)) | go_keep) (first | (go_at_call 131; refine (Encode_any ea eb eb 3 n 3 buf HN.out w.drew hE cs HBB.out hc.size hne HS.out (.inr (by omega)) (by omega) (by omega) (by omega)).mono ?_; rintro x w1 ⟨rfl, ⟨cs3, hb3, hW3⟩, hF3⟩))
    have k0 : w1.cell? ⟨eb, 0, none⟩ = some .nilIface := by rw [Lib.cell_of_heap hb3, hW3.out 0 (Or.inl (by omega))]; exact hc.err
    have k1 : w1.cell? ⟨eb, 1, none⟩ = some (.pointer (some ⟨ea, 0, none⟩)) := by rw [Lib.cell_of_heap hb3, hW3.out 1 (Or.inl (by omega))]; exact hc.enc
    have k2 : w1.cell? ⟨eb, 2, none⟩ = some (.iface 79 (.pointer (some ⟨b, 0, none⟩))) := by rw [Lib.cell_of_heap hb3, hW3.out 2 (Or.inl (by omega))]; exact hc.wr
    have k6 : w1.cell? ⟨eb, 6, none⟩ = some (.int .i64 n) := by rw [Lib.cell_of_heap hb3, hW3.out 6 (Or.inl (by omega)), ← HN.out]; exact hc.nbuf
    have k0f : w1.frozen? ⟨eb, 0, none⟩ = false := Lib.frozen_of_heap hb3 0
    have hE1 : EncM 64 ea w1 := hE.kept (hF3.block ea ⟨hE.lt, hne⟩)
    have hbl : (b64 buf).length = 4 := by rw [b64_length, HN.out]; omega
    have hBw : Bld b K l w1 := hB.kept hF3.size (fun k o ho hnk _ => (hF3.block k ⟨(Array.getElem?_eq_some_iff.1 ho).1, fun e => hnk (e ▸ hKe)⟩).trans ho)
    have hqb : ∀ j u, (Lib.byteCells (b64 buf))[j]? = some u → w1.cell? ((⟨eb, 7, none⟩ : Addr).add j) = some u := by
      intro j u hu
      have hadd : (⟨eb, 7, none⟩ : Addr).add j = ⟨eb, 7 + j, none⟩ := by unfold Addr.add; split <;> simp_all
      rw [hadd, Lib.cell_of_heap hb3]
      simp only [Lib.byteCells, List.getElem?_map] at hu
      cases hx : (b64 buf)[j]? with
      | none => rw [hx] at hu; cases hu
      | some x => rw [hx] at hu; simp only [Option.map_some, Option.some.injEq] at hu; subst hu; exact hW3.ins j x hx
    have hwr := Write_any b K l (b64 buf) ⟨eb, 7, none⟩ 1024 w1.drew hBw hKe hqb (by rw [hbl]; omega)
    rw [hbl] at hwr
    have HWR := Lib.hid hwr
    have hmw : ∀ W, (method 307 79 (.pointer (some ⟨b, 0, none⟩)) "Write").run Tryd.prog W = .ok (56, .pointer (some ⟨b, 0, none⟩)) W := fun W => method_bw _ W
    have HB3 := Lib.hid hb3; have HW3 := Lib.hid hW3; have HBL := Lib.hid hbl
    clear hqb hwr c0 c1 c2 c6 hb3 hW3 hbl
    go_wp2_with fail
    go_region_held3 (fun W => W.cell? ⟨eb, 1, none⟩ = some (.pointer (some ⟨ea, 0, none⟩)) ∧ W.cell? ⟨eb, 2, none⟩ = some (.iface 79 (.pointer (some ⟨b, 0, none⟩))) ∧ W.cell? ⟨eb, 6, none⟩ = some (.int .i64 n) ∧ W.cell? ⟨eb, 0, none⟩ = some .nilIface ∧ W.frozen? ⟨eb, 0, none⟩ = false) (first | exact ⟨k1, k2, k6, k0, k0f⟩ | exact ⟨(hF4.cell (p := ⟨eb, 1, none⟩) hKe).trans k1, (hF4.cell (p := ⟨eb, 2, none⟩) hKe).trans k2, (hF4.cell (p := ⟨eb, 6, none⟩) hKe).trans k6, (hF4.cell (p := ⟨eb, 0, none⟩) hKe).trans k0, (hF4.frozen (p := ⟨eb, 0, none⟩) hKe).trans k0f⟩ | exact ⟨(World.cell?_setCell_other w2 ⟨eb, 0, none⟩ ⟨eb, 1, none⟩ _ (by simp)).trans ((hF4.cell (p := ⟨eb, 1, none⟩) hKe).trans k1), (World.cell?_setCell_other w2 ⟨eb, 0, none⟩ ⟨eb, 2, none⟩ _ (by simp)).trans ((hF4.cell (p := ⟨eb, 2, none⟩) hKe).trans k2), (World.cell?_setCell_other w2 ⟨eb, 0, none⟩ ⟨eb, 6, none⟩ _ (by simp)).trans ((hF4.cell (p := ⟨eb, 6, none⟩) hKe).trans k6), World.cell?_setCell_same w2 ⟨eb, 0, none⟩ _ ((hF4.cell (p := ⟨eb, 0, none⟩) hKe).trans k0), (World.frozen?_setCell w2 ⟨eb, 0, none⟩ ⟨eb, 0, none⟩ _).trans ((hF4.frozen (p := ⟨eb, 0, none⟩) hKe).trans k0f)⟩ | go_keep) (first | (go_at_call 85; refine (EncodedLen_few ea n w1.drew hE1 hn1 hfew).mono ?_; rintro x w' ⟨rfl, rfl⟩) | (go_at_call 56; refine HWR.out.mono ?_; rintro x w2 ⟨rfl, hB3, hF4⟩))
    have hb4 : (w2.setCell ⟨eb, 0, none⟩ .nilIface).heap[eb]? = some (.cells (cs3.setIfInBounds 0 .nilIface) 185 (0, 0)) := heap_setCell_row ((hF4.block eb hKe).trans HB3.out)
    have hW := HW3.out
    have hz : cs3.size = 1031 := hW.size.trans hc.size
    have d0 : (w2.setCell ⟨eb, 0, none⟩ .nilIface).cell? ⟨eb, 0, none⟩ = some .nilIface := by
      rw [Lib.cell_of_heap hb4, Array.getElem?_setIfInBounds, if_pos rfl, if_pos (by rw [hz]; decide)]
    have d6 : (w2.setCell ⟨eb, 0, none⟩ .nilIface).cell? ⟨eb, 6, none⟩ = some (.int .i64 n) := by
      rw [Lib.cell_of_heap hb4, Array.getElem?_setIfInBounds, if_neg (by decide), hW.out 6 (Or.inl (by omega)), ← HN.out]; exact hc.nbuf
    have f6 : (w2.setCell ⟨eb, 0, none⟩ .nilIface).frozen? ⟨eb, 6, none⟩ = false := Lib.frozen_of_heap hb4 6
    have hB4 : Bld b K (l ++ b64 buf) (w2.setCell ⟨eb, 0, none⟩ .nilIface) := hB3.kept (by simp [World.setCell]) (fun k o ho hnk _ => by rw [Below.heap_setCell w2 ⟨eb, 0, none⟩ _ k (fun e => hnk (by rw [e]; exact hKe))]; exact ho)
    have hF5 : Fr (fun k => K k ∧ k ≠ eb) w (w2.setCell ⟨eb, 0, none⟩ .nilIface) :=
      (((Fr.refl _ w).drew.trans (hF3.mono (fun k hk => ⟨hB.kt k hk.1, hk.2⟩))).trans ((Fr.refl _ w1).drew.trans (hF4.mono (fun k hk => hk.1)))).setCell (p := ⟨eb, 0, none⟩) (by simp) _
    generalize w2.setCell ⟨eb, 0, none⟩ .nilIface = w3 at hb4 hB4 hF5 d0 d6 f6 ⊢
    have hc5 : EncdC ea b [] ((cs3.setIfInBounds 0 .nilIface).setIfInBounds 6 (.int .i64 0)) := by
      refine ⟨by rw [Array.size_setIfInBounds, Array.size_setIfInBounds]; exact hz, ?_, ?_, ?_, ?_, fun j x hx => by simp at hx, by simp⟩
      · rw [Array.getElem?_setIfInBounds, if_neg (by decide), Array.getElem?_setIfInBounds, if_pos rfl, if_pos (by rw [hz]; decide)]
      · rw [Array.getElem?_setIfInBounds, if_neg (by decide), Array.getElem?_setIfInBounds, if_neg (by decide), hW.out 1 (Or.inl (by omega))]; exact hc.enc
      · rw [Array.getElem?_setIfInBounds, if_neg (by decide), Array.getElem?_setIfInBounds, if_neg (by decide), hW.out 2 (Or.inl (by omega))]; exact hc.wr
      · rw [Array.getElem?_setIfInBounds, if_pos rfl, if_pos (by rw [Array.size_setIfInBounds, hz]; decide)]; rfl
    have HB4 := Lib.hid hb4
    clear hb4 hB3 hF4 hF3 k0 k1 k2 k6 k0f hmw hz hW
    go_wp2_with fail
    go_ret
    exact ⟨rfl, hB4.kept (by simp [World.setCell]) (fun k o ho hnk _ => by rw [Below.heap_setCell w3 ⟨eb, 6, none⟩ _ k (fun e => hnk (by rw [e]; exact hKe))]; exact ho), ⟨_, heap_setCell_row HB4.out, hc5⟩, hF5.setCell (p := ⟨eb, 6, none⟩) (by simp) _⟩
end Go.Proofs.YtciejdaifjbjdaaDoor
