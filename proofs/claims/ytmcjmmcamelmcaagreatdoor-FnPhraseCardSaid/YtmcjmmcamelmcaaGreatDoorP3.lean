/- spec.parser: domain: the walk. -/
import Derived.Test.YtmcjmmcamelmcaaGreatDoorP2
namespace Go.Proofs.YtmcjmmcamelmcaaGreatDoor
open Go Go.RowKit

def bs (l : List UInt8) : ByteArray := ⟨l.toArray⟩
theorem bs_app (a b : List UInt8) : bs a ++ bs b = bs (a ++ b) := by
  apply ByteArray.ext
  simp [bs]
theorem bs_size (a : List UInt8) : (bs a).size = a.length := by simp [bs, ByteArray.size]
theorem bs_list (a : List UInt8) : (bs a).data.toList = a := by simp [bs]
theorem bs_of (s : ByteArray) : bs s.data.toList = s := by cases s; rfl

theorem domainG_nil (ok : Bool) (out : List UInt8) : domainG [] ok out = ([], ok, [], false) := by rw [domainG]
theorem domainG_no {ts : List Tok} {m : Nat} (ok : Bool) (out : List UInt8) (h : isH 97 (ts.drop m) = false) : domainG (ts.drop m) ok out = (ts.drop m, ok && !spaceH (ts.drop m), [], false) := by
  cases hd : ts.drop m with
  | nil => simp [domainG, spaceH]
  | cons t r =>
    rw [hd] at h
    have hk : ¬ t.kind = 97 := by simpa [isH] using h
    cases r with
    | nil => rw [domainG, if_neg hk]; rfl
    | cons d r => rw [domainG, if_neg hk]; rfl
theorem domainG_end {ts : List Tok} {m : Nat} {t : Tok} (ok : Bool) (out : List UInt8) (ht : ts[m]? = some t) (hk : t.kind = 97) (h : isH 46 (ts.drop (m + 1)) = false) : domainG (ts.drop m) ok out = (ts.drop (m + 1), ok && !t.space, out ++ t.text, true) := by
  rw [drop_head ht]
  cases hd : ts.drop (m + 1) with
  | nil => rw [domainG, if_pos hk]
  | cons d r =>
    rw [hd] at h
    have hk2 : ¬ d.kind = 46 := by simpa [isH] using h
    rw [domainG, if_pos hk, if_neg hk2]
theorem domainG_dot {ts : List Tok} {m : Nat} {t d : Tok} (ok : Bool) (out : List UInt8) (ht : ts[m]? = some t) (hk : t.kind = 97) (hd : ts[m + 1]? = some d) (hk2 : d.kind = 46) : domainG (ts.drop m) ok out = domainG (ts.drop (m + 2)) (ok && !t.space && !d.space) (out ++ t.text ++ [46]) := by
  rw [drop_head ht, drop_head hd, domainG, if_pos hk, if_pos hk2]

/-- What domain answers. -/
def DRet (r : List Tok × Bool × List UInt8 × Bool) : Ending := .returned (.tuple #[.string (bs r.2.2.1), .bool r.2.2.2])
def DRel (pb : Nat) (tv : Value) (ts : List Tok) (n : Nat) (ok : Bool) (w : World) (r2 r3 o : Value) (wr : World) : Prop :=
  ∃ m ok' out, r2 = .string ⟨#[]⟩ ∧ r3 = .bool false ∧ o = .string (bs out) ∧ domainG (ts.drop n) ok [] = domainG (ts.drop m) ok' out ∧ out.length ≤ tlen (ts.take m) ∧ Par pb tv ts m ok' wr ∧ Fr (· ≠ pb) w wr

set_option maxHeartbeats 2000000 in
set_option maxRecDepth 100000 in
theorem domain_any (pb : Nat) (tv : Value) (ts : List Tok) (n : Nat) (ok : Bool) (w : World) (h : Par pb tv ts n ok w) :
    Calls Tryz.prog 27 #[.pointer (some ⟨pb, 0, none⟩)] w fun x w' => x = DRet (domainG (ts.drop n) ok []) ∧ (∃ m, domainG (ts.drop n) ok [] = (ts.drop m, (domainG (ts.drop n) ok []).2) ∧ Par pb tv ts m (domainG (ts.drop n) ok []).2.1 w') ∧ Fr (· ≠ pb) w w' := by
  have hlen := h.len
  have HP := Lib.hid h
  clear h
  go_enter Tryz.func27, Tryz.ntmps27
  go_wp2
  go_loopw [2, 3, 4] (fun r2 r3 o wr => DRel pb tv ts n ok w r2 r3 o wr) (fun _ _ _ wr => ts.length - atOf pb wr)
  case atStart => exact ⟨n, ok, [], rfl, rfl, rfl, rfl, Nat.zero_le _, HP.out, Fr.refl _ _⟩
  case round =>
    obtain ⟨m, ok', out, rfl, rfl, rfl, heq, hol, hp, hF⟩ := hrel
    have HEQ := Lib.hid heq; have HPM := Lib.hid hp; have HF := Lib.hid hF
    clear heq hp hF
    go_wp2_with fail
    refine (near_any pb tv ts m ok' _ HPM.out).mono ?_
    rintro x w1 ⟨rfl, hp1, hF1⟩
    have HP1 := Lib.hid hp1; have HF1 := Lib.hid (HF.out.trans hF1)
    clear hp1 hF1
    cases h97 : isH 97 (ts.drop m) with
    | false =>
      have H97 := Lib.hid h97
      clear h97
      go_wp2_with fail
      refine (is_any pb tv ts m _ 97 _ HP1.out).mono ?_
      rintro x w2 ⟨rfl, q, rfl⟩
      rw [H97.out]
      go_wp2
      go_ret2
      refine ⟨?_, ⟨m, ?_, ?_⟩, HF1.out.drewN _⟩
      · rw [HEQ.out, domainG_no _ _ H97.out]; rfl
      · rw [HEQ.out, domainG_no _ _ H97.out]
      · rw [HEQ.out, domainG_no _ _ H97.out]; exact HP1.out.drewN _
    | true =>
      obtain ⟨t, ht, hk⟩ := isH_some h97
      have H97 := Lib.hid h97; have HT := Lib.hid ht; have HK := Lib.hid hk
      have hlt : m < ts.length := (List.getElem?_eq_some_iff.1 ht).1
      clear h97 ht hk
      go_wp2_with fail
      refine (is_any pb tv ts m _ 97 _ HP1.out).mono ?_
      rintro x w2 ⟨rfl, q, rfl⟩
      rw [H97.out]
      have HP2 := Lib.hid (HP1.out.drewN q); have HF2 := Lib.hid (HF1.out.drewN q)
      generalize w1.drewN q = w2 at *
      obtain ⟨g, cap, htv, hc1, hc2, hcell⟩ : ∃ g cap, tv = .slice (some ⟨g, 0, none⟩) ts.length cap ∧ ts.length ≤ cap ∧ cap ≤ 9223372036854775807 ∧ w2.cell? ⟨g, m * 3 + 1, none⟩ = some (.string (bs t.text)) := by
        rcases HP2.out.val with ⟨_, h⟩ | ⟨g, cap, h, h1, h2, h3⟩
        · rw [h] at hlt; exact absurd hlt (Nat.not_lt_zero _)
        · exact ⟨g, cap, h, h1, h2, (h3 m t HT.out).2.1⟩
      obtain ⟨e0, e1, -⟩ := HP2.out.cells
      obtain ⟨N, hN⟩ : ∃ N, ts.length = N := ⟨_, rfl⟩
      have HNN := Lib.hid hN
      rw [htv, hN] at e0
      rw [hN] at hlt hc1 hlen
      have i1 : (m : Int) < (N : Int) := by omega
      have HTV := Lib.hid htv
      have hsn := tlen_snoc HT.out
      have htk := tlen_take ts (m + 1)
      have htl := HPM.out.tl
      have hsz : (bs out).size + (bs t.text).size ≤ 9223372036854775807 := by rw [bs_size, bs_size]; omega
      have HSN := Lib.hid hsn
      clear hsn
      clear hN htv
      go_wp2
      go_quiet (fail)
      have hpq := HP2.out.drewN nq
      have f1 := hpq.cells.2.1
      have hfz := hpq.frozen 1
      have HPS := Lib.hid (hpq.setAt (m + 1) (by rw [HNN.out]; omega))
      have HFS := Lib.hid ((HF2.out.drewN nq).setCell (p := ⟨pb, 1, none⟩) (fun h => h rfl) (.int .i64 ((m + 1 : Nat) : Int)))
      push_cast at HPS HFS
      clear hpq e0 e1 hcell
      generalize w2.drewN nq = wq at *
      rw [bs_app]
      go_wp2_with fail
      generalize wq.setCell ⟨pb, 1, none⟩ (.int .i64 ((m : Int) + 1)) = w3 at *
      clear f1 hfz
      cases h46 : isH 46 (ts.drop (m + 1)) with
      | false =>
        have H46 := Lib.hid h46
        clear h46
        refine (is_any pb tv ts (m + 1) _ 46 _ HPS.out).mono ?_
        rintro x w4 ⟨rfl, q4, rfl⟩
        rw [H46.out]
        go_wp2
        go_ret2
        have he := domainG_end ok' out HT.out HK.out H46.out
        refine ⟨?_, ⟨m + 1, ?_, ?_⟩, HFS.out.drewN _⟩
        · rw [HEQ.out, he]; rfl
        · rw [HEQ.out, he]
        · rw [HEQ.out, he]
          have := HPS.out.drewN q4
          rw [drop_head HT.out] at this
          exact this
      | true =>
        obtain ⟨d, hd, hk2⟩ := isH_some h46
        have H46 := Lib.hid h46; have HD := Lib.hid hd; have HK2 := Lib.hid hk2
        have hlt2 : m + 1 < N := by rw [← HNN.out]; exact (List.getElem?_eq_some_iff.1 hd).1
        clear h46 hd hk2
        refine (is_any pb tv ts (m + 1) _ 46 _ HPS.out).mono ?_
        rintro x w4 ⟨rfl, q4, rfl⟩
        rw [H46.out]
        have HP4 := Lib.hid (HPS.out.drewN q4); have HF4 := Lib.hid (HFS.out.drewN q4)
        generalize w3.drewN q4 = w4 at *
        go_wp2_with fail
        refine (near_any pb tv ts (m + 1) _ _ HP4.out).mono ?_
        rintro x w5 ⟨rfl, hp5, hF5⟩
        have g1 := hp5.cells.2.1
        have gz := hp5.frozen 1
        have HP6 := Lib.hid (hp5.setAt (m + 2) (by rw [HNN.out]; omega))
        have HF6 := Lib.hid ((HF4.out.trans hF5).setCell (p := ⟨pb, 1, none⟩) (fun h => h rfl) (.int .i64 ((m + 2 : Nat) : Int)))
        have HAT := Lib.hid HP6.out.at
        have hs2 : (bs (out ++ t.text)).size + (bs [46]).size ≤ 9223372036854775807 := by
          rw [bs_size, bs_size, List.length_append]
          have := HSN.out
          simp; omega
        have hsn2 := tlen_snoc HD.out
        have hol2 : (out ++ t.text ++ [46]).length ≤ tlen (ts.take (m + 2)) := by
          have := HSN.out
          rw [show m + 2 = m + 1 + 1 by omega, hsn2]
          simp; omega
        have hmm : ((m + 2 : Nat) : Int) = (m : Int) + 1 + 1 := by omega
        rw [hmm] at HP6 HF6 HAT
        clear hp5 hF5 hsn2
        have hs3 : (bs (out ++ t.text)).size + 1 ≤ 9223372036854775807 := hs2
        have HOL := Lib.hid hol2
        clear hs2 hol2 hmm
        go_wp2
        go_roundw
        case rel =>
          refine ⟨m + 2, _, out ++ t.text ++ [46], rfl, rfl, by rw [← bs_app]; rfl, ?_, HOL.out, HP6.out, HF6.out⟩
          rw [HEQ.out, domainG_dot _ _ HT.out HK.out HD.out HK2.out]
          rw [show spaceH (ts.drop m) = t.space by rw [drop_head HT.out]; rfl, show spaceH (ts.drop (m + 1)) = d.space by rw [drop_head HD.out]; rfl]
        case measure => rw [HAT.out, HPM.out.at, HNN.out]; omega
end Go.Proofs.YtmcjmmcamelmcaaGreatDoor
