/- spec.parser: local: the walk. -/
import Derived.Test.YtmcjmmcamelmcaaGreatDoorP3
namespace Go.Proofs.YtmcjmmcamelmcaaGreatDoor
open Go Go.RowKit

theorem Par.frk {pb : Nat} {tv : Value} {ts : List Tok} {n : Nat} {ok : Bool} {w w' : World} (h : Par pb tv ts n ok w) (hf : Fr (· < w.heap.size) w w') : Par pb tv ts n ok w' := h.fr hf.block
theorem Par.lt {pb : Nat} {tv : Value} {ts : List Tok} {n : Nat} {ok : Bool} {w : World} (h : Par pb tv ts n ok w) : pb < w.heap.size := (Array.getElem?_eq_some_iff.1 h.blk).1

theorem localG_no {us : List Tok} {k : Nat} {t : Tok} {ok : Bool} {out : List UInt8} (h : us[k]? = some t) (hk : ((t.kind == 46) != decide (k % 2 = 1)) = true) : localG (us.drop k) k ok out = (ok && !(decide (0 < k) && t.space), [], false) := by
  rw [drop_head h, localG, if_pos hk]
theorem localG_go {us : List Tok} {k : Nat} {t : Tok} {ok : Bool} {out : List UInt8} (h : us[k]? = some t) (hk : ((t.kind == 46) != decide (k % 2 = 1)) = false) : localG (us.drop k) k ok out = localG (us.drop (k + 1)) (k + 1) (ok && !(decide (0 < k) && t.space) && !(t.kind == 113)) (out ++ (if t.kind = 46 then [46] else []) ++ t.text) := by
  rw [drop_head h, localG, if_neg (by rw [hk]; decide)]

def LRel (pb : Nat) (tv : Value) (ts us : List Tok) (n : Nat) (ok : Bool) (v : Value) (w : World) (r4 r5 o i : Value) (wr : World) : Prop :=
  ∃ k ok' out, r4 = .string ⟨#[]⟩ ∧ r5 = .bool false ∧ o = .string (bs out) ∧ i = .int .i64 (k : Nat) ∧ k ≤ us.length ∧ localG us 0 ok [] = localG (us.drop k) k ok' out ∧ out.length ≤ 2 * tlen (us.take k) ∧ Par pb tv ts n ok' wr ∧ TView pb us v wr ∧ Fr (fun b => b ≠ pb ∧ b < w.heap.size) w wr

set_option maxHeartbeats 2000000 in
set_option maxRecDepth 100000 in
theorem local_any (pb : Nat) (tv : Value) (ts us : List Tok) (n : Nat) (ok : Bool) (v : Value) (w : World) (h : Par pb tv ts n ok w) (hv : TView pb us v w) (hus : tlen us ≤ 4398046511104) :
    Calls Tryz.prog 29 #[.pointer (some ⟨pb, 0, none⟩), v] w fun x w' => x = .returned (.tuple #[.string (bs (localG us 0 ok []).2.1), .bool (localG us 0 ok []).2.2]) ∧ Par pb tv ts n (localG us 0 ok []).1 w' ∧ Fr (fun b => b ≠ pb ∧ b < w.heap.size) w w' := by
  have hv0 := hv
  obtain ⟨a, cap, rfl, hc1, hc2, hc3⟩ := hv
  have HP := Lib.hid h; have HV := Lib.hid hv0
  clear h hv0 hc3
  obtain ⟨N, hN⟩ : ∃ N, us.length = N := ⟨_, rfl⟩
  have HN := Lib.hid hN
  rw [hN] at hc1 hc2 ⊢
  rw [hN] at HV
  clear hN
  go_enter Tryz.func29, Tryz.ntmps29
  go_wp2
  go_loopw [4, 5, 6, 11] (fun r4 r5 o i wr => LRel pb tv ts us n ok (.slice a N cap) w r4 r5 o i wr) (fun _ _ _ i _ => N - (intOf i).toNat)
  case atStart => exact ⟨0, ok, [], rfl, rfl, rfl, rfl, Nat.zero_le _, rfl, Nat.zero_le _, HP.out, HV.out, Fr.refl _ _⟩
  case round =>
    obtain ⟨k, ok', out, rfl, rfl, rfl, rfl, hk, heq, hol, hp, hvw, hF⟩ := hrel
    rw [HN.out] at hk
    by_cases hlt : k < N
    · obtain ⟨t, ht⟩ : ∃ t, us[k]? = some t := ⟨_, List.getElem?_eq_getElem (by rw [HN.out]; exact hlt)⟩
      obtain ⟨g, o, rfl, hg, hgp, hc⟩ : ∃ g o, a = some ⟨g, o, none⟩ ∧ g < wr.heap.size ∧ g ≠ pb ∧ (wr.cell? ⟨g, o + k * 3, none⟩ = some (.int .u8 t.kind.toNat) ∧ wr.cell? ⟨g, o + k * 3 + 1, none⟩ = some (.string (bs t.text)) ∧ wr.cell? ⟨g, o + k * 3 + 2, none⟩ = some (.bool t.space)) := by
        obtain ⟨a', cap', hv, _, _, h3⟩ := hvw
        cases hv
        obtain ⟨g, o, ha, hg, hgp, hc⟩ := h3 (fun e => by rw [e] at ht; simp at ht)
        exact ⟨g, o, ha, hg, hgp, hc k t ht⟩
      obtain ⟨d0, d1, d2⟩ := hc
      have HEQ := Lib.hid heq; have HPM := Lib.hid hp; have HVW := Lib.hid hvw; have HF := Lib.hid hF; have HT := Lib.hid ht
      clear heq hp hvw hF ht
      have hkN : (k : Int) < (N : Int) := by omega
      obtain ⟨kd, tx, sp⟩ := t
      simp only at d0 d1 d2
      have hsn := tlen_snoc HT.out
      simp only at hsn
      have htk := tlen_take us (k + 1)
      have hsz : (bs out).size + (bs tx).size ≤ 9223372036854775807 := by rw [bs_size, bs_size]; omega
      have hsz1 : (bs out).size + 1 ≤ 9223372036854775807 := by rw [bs_size]; omega
      have hsz2' : (bs (out ++ [46])).size + (bs tx).size ≤ 9223372036854775807 := by rw [bs_size, bs_size, List.length_append]; simp; omega
      have hsz2 : (bs out ++ (⟨#[46]⟩ : ByteArray)).size + (bs tx).size ≤ 9223372036854775807 := by rw [← bs_app] at hsz2'; exact hsz2'
      clear hsz2'
      have HSN := Lib.hid hsn
      have hpb : pb ≠ wr.heap.size := fun e => by have := HPM.out.lt; omega
      have hp1 := HPM.out.frk ((Fr.refl _ wr).alloc (fun k hk => hk) (.cells #[.int .u8 kd.toNat, .string (bs tx), .bool sp] 63))
      have hF1 := HF.out.alloc (fun k hk => Nat.lt_of_lt_of_le hk.2 HF.out.size) (.cells #[.int .u8 kd.toNat, .string (bs tx), .bool sp] 63)
      have hV1 := HVW.out.fr (w' := wr.alloc (.cells #[.int .u8 kd.toNat, .string (bs tx), .bool sp] 63)) (by simp) (fun k _ hk => Below.heap_alloc _ _ _ hk)
      have HP1 := Lib.hid hp1; have HF1 := Lib.hid hF1; have HV1 := Lib.hid hV1
      clear hsn hp1 hF1 hV1
      have hsp : (k = 0) ∨ (0 < k ∧ sp = false) ∨ (0 < k ∧ sp = true) := by
        rcases Nat.eq_zero_or_pos k with h | h
        · exact .inl h
        · cases sp
          · exact .inr (.inl ⟨h, rfl⟩)
          · exact .inr (.inr ⟨h, rfl⟩)
      have hkind : (kd = 46) ∨ (kd = 113) ∨ (kd ≠ 46 ∧ kd ≠ 113) := by
        by_cases h1 : kd = 46
        · exact .inl h1
        · by_cases h2 : kd = 113
          · exact .inr (.inl h2)
          · exact .inr (.inr ⟨h1, h2⟩)
      have hpar : (k % 2 = 1 ∧ ((k : Int) % 2 == 1) = true) ∨ (k % 2 = 0 ∧ ((k : Int) % 2 == 1) = false) := by
        rcases Nat.mod_two_eq_zero_or_one k with h | h
        · exact .inr ⟨h, by rw [beq_eq_false_iff_ne]; omega⟩
        · exact .inl ⟨h, by rw [beq_iff_eq]; omega⟩
      have hk46 : (kd = 46 ∧ ((kd.toNat : Int) == 46) = true) ∨ (kd ≠ 46 ∧ ((kd.toNat : Int) == 46) = false) := by
        by_cases h1 : kd = 46
        · exact .inl ⟨h1, by rw [h1]; rfl⟩
        · exact .inr ⟨h1, cneq h1⟩
      have hk113 : (kd = 113 ∧ ((kd.toNat : Int) == 113) = true) ∨ (kd ≠ 113 ∧ ((kd.toNat : Int) == 113) = false) := by
        by_cases h1 : kd = 113
        · exact .inl ⟨h1, by rw [h1]; rfl⟩
        · exact .inr ⟨h1, cneq h1⟩
      clear hkind
      rcases hpar with ⟨hm, tm⟩ | ⟨hm, tm⟩ <;> rcases hk46 with ⟨h46, t46⟩ | ⟨h46, t46⟩
      · -- a point at its place
        have HM := Lib.hid hm; have H46 := Lib.hid h46
        have H113 : Hid (kd ≠ 113) := Lib.hid (by rw [h46]; decide)
        have t113 : ((kd.toNat : Int) == 113) = false := cneq H113.out
        clear hm h46 hk113
        rcases hsp with h0 | ⟨h0, rfl⟩ | ⟨h0, rfl⟩
        · exact absurd HM.out (by rw [h0]; decide)
        · have h0' : (0 : Int) < (k : Int) := by omega
          go_wp2
          go_roundw
          case rel =>
            refine ⟨k + 1, ok', (out ++ [46] ++ tx), rfl, rfl, by rw [← bs_app, ← bs_app]; rfl, by go_num, by rw [HN.out]; omega, ?_, ?_, HP1.out, HV1.out, HF1.out⟩
            · rw [HEQ.out, localG_go HT.out (by simp [HM.out, H46.out])]
              simp [H46.out]
            · have := HSN.out
              simp; omega
          case measure => simp [intOf]; omega
        · have h0' : (0 : Int) < (k : Int) := by omega
          have e2 := HP1.out.cells.2.2
          have hfz := HP1.out.frozen 2
          go_wp2
          go_roundw
          case rel =>
            refine ⟨k + 1, false, (out ++ [46] ++ tx), rfl, rfl, by rw [← bs_app, ← bs_app]; rfl, by go_num, by rw [HN.out]; omega, ?_, ?_, (HP1.out.setOk false), (HV1.out.fr (by simp [World.setCell]) (fun b hb _ => Below.heap_setCell _ ⟨pb, 2, none⟩ _ b hb)), (HF1.out.setCell (p := ⟨pb, 2, none⟩) (fun h => h.1 rfl) _)⟩
            · rw [HEQ.out, localG_go HT.out (by simp [HM.out, H46.out])]
              simp [H46.out, h0]
            · have := HSN.out
              simp; omega
          case measure => simp [intOf]; omega
      · -- odd place, no point: no local part
        have HM := Lib.hid hm; have H46 := Lib.hid h46
        clear hm h46 hk113
        rcases hsp with h0 | ⟨h0, rfl⟩ | ⟨h0, rfl⟩
        · exact absurd HM.out (by rw [h0]; decide)
        · have h0' : (0 : Int) < (k : Int) := by omega
          go_wp2
          go_ret2
          rw [HEQ.out, localG_no HT.out (by simp [HM.out, H46.out])]
          refine ⟨rfl, ?_, HF1.out⟩
          have hb : (ok' && !(decide (0 < k) && false)) = ok' := by simp
          simp only
          rw [hb]
          exact HP1.out
        · have h0' : (0 : Int) < (k : Int) := by omega
          have e2 := HP1.out.cells.2.2
          have hfz := HP1.out.frozen 2
          go_wp2
          go_ret2
          rw [HEQ.out, localG_no HT.out (by simp [HM.out, H46.out])]
          refine ⟨rfl, ?_, HF1.out.setCell (p := ⟨pb, 2, none⟩) (fun h => h.1 rfl) _⟩
          have hb : (ok' && !(decide (0 < k) && true)) = false := by simp [h0]
          simp only
          rw [hb]
          exact HP1.out.setOk false
      · -- even place, a point: no local part
        have HM := Lib.hid hm; have H46 := Lib.hid h46
        clear hm h46 hk113
        rcases hsp with h0 | ⟨h0, rfl⟩ | ⟨h0, rfl⟩
        · have h0' : ¬ (0 : Int) < (k : Int) := by omega
          have H0 := Lib.hid h0
          clear h0
          go_wp2
          go_ret2
          rw [HEQ.out, localG_no HT.out (by simp [HM.out, H46.out])]
          refine ⟨rfl, ?_, HF1.out⟩
          have hb : (ok' && !(decide (0 < k) && sp)) = ok' := by simp [H0.out]
          simp only
          rw [hb]
          exact HP1.out
        · have h0' : (0 : Int) < (k : Int) := by omega
          go_wp2
          go_ret2
          rw [HEQ.out, localG_no HT.out (by simp [HM.out, H46.out])]
          refine ⟨rfl, ?_, HF1.out⟩
          have hb : (ok' && !(decide (0 < k) && false)) = ok' := by simp
          simp only
          rw [hb]
          exact HP1.out
        · have h0' : (0 : Int) < (k : Int) := by omega
          have e2 := HP1.out.cells.2.2
          have hfz := HP1.out.frozen 2
          go_wp2
          go_ret2
          rw [HEQ.out, localG_no HT.out (by simp [HM.out, H46.out])]
          refine ⟨rfl, ?_, HF1.out.setCell (p := ⟨pb, 2, none⟩) (fun h => h.1 rfl) _⟩
          have hb : (ok' && !(decide (0 < k) && true)) = false := by simp [h0]
          simp only
          rw [hb]
          exact HP1.out.setOk false
      · -- even place, a word
        have HM := Lib.hid hm; have H46 := Lib.hid h46
        clear hm h46
        rcases hk113 with ⟨h113, t113⟩ | ⟨h113, t113⟩
        · have H113 := Lib.hid h113
          clear h113
          rcases hsp with h0 | ⟨h0, rfl⟩ | ⟨h0, rfl⟩
          · have e2 := HP1.out.cells.2.2
            have hfz := HP1.out.frozen 2
            have h0' : ¬ (0 : Int) < (k : Int) := by omega
            have H0 := Lib.hid h0
            clear h0
            go_wp2
            go_roundw
            case rel =>
              refine ⟨k + 1, false, (out ++ tx), rfl, rfl, by rw [← bs_app], by go_num, by rw [HN.out]; omega, ?_, ?_, (HP1.out.setOk false), (HV1.out.fr (by simp [World.setCell]) (fun b hb _ => Below.heap_setCell _ ⟨pb, 2, none⟩ _ b hb)), (HF1.out.setCell (p := ⟨pb, 2, none⟩) (fun h => h.1 rfl) _)⟩
              · rw [HEQ.out, localG_go HT.out (by simp [HM.out, H46.out])]
                simp [H113.out, H0.out]
              · have := HSN.out
                simp; omega
            case measure => simp [intOf]; omega
          · have h0' : (0 : Int) < (k : Int) := by omega
            have e2 := HP1.out.cells.2.2
            have hfz := HP1.out.frozen 2
            go_wp2
            go_roundw
            case rel =>
              refine ⟨k + 1, false, (out ++ tx), rfl, rfl, by rw [← bs_app], by go_num, by rw [HN.out]; omega, ?_, ?_, (HP1.out.setOk false), (HV1.out.fr (by simp [World.setCell]) (fun b hb _ => Below.heap_setCell _ ⟨pb, 2, none⟩ _ b hb)), (HF1.out.setCell (p := ⟨pb, 2, none⟩) (fun h => h.1 rfl) _)⟩
              · rw [HEQ.out, localG_go HT.out (by simp [HM.out, H46.out])]
                simp [H113.out]
              · have := HSN.out
                simp; omega
            case measure => simp [intOf]; omega
          · have h0' : (0 : Int) < (k : Int) := by omega
            have e2 := HP1.out.cells.2.2
            have hfz := HP1.out.frozen 2
            go_wp2
            go_roundw
            case rel =>
              refine ⟨k + 1, false, (out ++ tx), rfl, rfl, by rw [← bs_app], by go_num, by rw [HN.out]; omega, ?_, ?_, ((HP1.out.setOk false).setOk false), ((HV1.out.fr (by simp [World.setCell]) (fun b hb _ => Below.heap_setCell _ ⟨pb, 2, none⟩ _ b hb)).fr (by simp [World.setCell]) (fun b hb _ => Below.heap_setCell _ ⟨pb, 2, none⟩ _ b hb)), ((HF1.out.setCell (p := ⟨pb, 2, none⟩) (fun h => h.1 rfl) _).setCell (p := ⟨pb, 2, none⟩) (fun h => h.1 rfl) _)⟩
              · rw [HEQ.out, localG_go HT.out (by simp [HM.out, H46.out])]
                simp [H113.out, h0]
              · have := HSN.out
                simp; omega
            case measure => simp [intOf]; omega
        · have H113 := Lib.hid h113
          clear h113
          rcases hsp with h0 | ⟨h0, rfl⟩ | ⟨h0, rfl⟩
          · have h0' : ¬ (0 : Int) < (k : Int) := by omega
            have H0 := Lib.hid h0
            clear h0
            go_wp2
            go_roundw
            case rel =>
              refine ⟨k + 1, ok', (out ++ tx), rfl, rfl, by rw [← bs_app], by go_num, by rw [HN.out]; omega, ?_, ?_, HP1.out, HV1.out, HF1.out⟩
              · rw [HEQ.out, localG_go HT.out (by simp [HM.out, H46.out])]
                simp [H46.out, beq_eq_false_iff_ne.2 H113.out, H0.out]
              · have := HSN.out
                simp; omega
            case measure => simp [intOf]; omega
          · have h0' : (0 : Int) < (k : Int) := by omega
            go_wp2
            go_roundw
            case rel =>
              refine ⟨k + 1, ok', (out ++ tx), rfl, rfl, by rw [← bs_app], by go_num, by rw [HN.out]; omega, ?_, ?_, HP1.out, HV1.out, HF1.out⟩
              · rw [HEQ.out, localG_go HT.out (by simp [HM.out, H46.out])]
                simp [H46.out, beq_eq_false_iff_ne.2 H113.out]
              · have := HSN.out
                simp; omega
            case measure => simp [intOf]; omega
          · have h0' : (0 : Int) < (k : Int) := by omega
            have e2 := HP1.out.cells.2.2
            have hfz := HP1.out.frozen 2
            go_wp2
            go_roundw
            case rel =>
              refine ⟨k + 1, false, (out ++ tx), rfl, rfl, by rw [← bs_app], by go_num, by rw [HN.out]; omega, ?_, ?_, (HP1.out.setOk false), (HV1.out.fr (by simp [World.setCell]) (fun b hb _ => Below.heap_setCell _ ⟨pb, 2, none⟩ _ b hb)), (HF1.out.setCell (p := ⟨pb, 2, none⟩) (fun h => h.1 rfl) _)⟩
              · rw [HEQ.out, localG_go HT.out (by simp [HM.out, H46.out])]
                simp [H46.out, h0]
              · have := HSN.out
                simp; omega
            case measure => simp [intOf]; omega
    · have hkN : k = N := by omega
      subst hkN
      have hd : us.drop k = [] := List.drop_eq_nil_of_le (by rw [HN.out]; exact Nat.le_refl _)
      rw [hd, localG] at heq
      have HEQ := Lib.hid heq; have HPM := Lib.hid hp; have HF := Lib.hid hF
      clear heq hp hF hd hvw
      rcases Nat.mod_two_eq_zero_or_one k with h | h
      · have tm : ((k : Int) % 2 == 1) = false := by rw [beq_eq_false_iff_ne]; omega
        have HH := Lib.hid h
        clear h
        go_wp2
        go_ret2
        rw [HEQ.out]
        exact ⟨by rw [HH.out]; rfl, HPM.out, HF.out⟩
      · have tm : ((k : Int) % 2 == 1) = true := by rw [beq_iff_eq]; omega
        have HH := Lib.hid h
        clear h
        go_wp2
        go_ret2
        rw [HEQ.out]
        exact ⟨by rw [HH.out]; rfl, HPM.out, HF.out⟩
end Go.Proofs.YtmcjmmcamelmcaaGreatDoor
