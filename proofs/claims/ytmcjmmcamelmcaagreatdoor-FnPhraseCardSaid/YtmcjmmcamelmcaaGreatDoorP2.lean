/- spec.parser: words: the walk. -/
import Derived.Test.YtmcjmmcamelmcaaGreatDoorP1
namespace Go.Proofs.YtmcjmmcamelmcaaGreatDoor
open Go Go.RowKit

def wordsN (ts : List Tok) (n : Nat) : Nat := ((ts.drop n).takeWhile wordK).length
def atOf (pb : Nat) (w : World) : Nat := match w.cell? ⟨pb, 1, none⟩ with | some (.int _ n) => n.toNat | _ => 0
theorem Par.at {pb : Nat} {tv : Value} {ts : List Tok} {n : Nat} {ok : Bool} {w : World} (h : Par pb tv ts n ok w) : atOf pb w = n := by
  unfold atOf; rw [h.cells.2.1]; simp
theorem isH_none {k : UInt8} {ts : List Tok} {n : Nat} (h : ts.length ≤ n) : isH k (ts.drop n) = false := by
  rw [List.drop_eq_nil_of_le h]; rfl
theorem isH_at {k : UInt8} {ts : List Tok} {n : Nat} {t : Tok} (h : ts[n]? = some t) : isH k (ts.drop n) = (t.kind == k) := by
  rw [drop_head h]; rfl
theorem span_tok (p : Tok → Bool) (L : List Tok) : ∀ j, j ≤ L.length → (L.take j).all p = true → (∀ x, L[j]? = some x → p x = false) → L.takeWhile p = L.take j ∧ L.dropWhile p = L.drop j := by
  induction L with
  | nil => intro j _ _ _; simp
  | cons a t ih =>
    intro j hj ha hx
    cases j with
    | zero =>
      have := hx a rfl
      simp [this]
    | succ j =>
      rw [List.take_succ_cons, List.all_cons, Bool.and_eq_true] at ha
      obtain ⟨h1, h2⟩ := ih j (by simpa using hj) ha.2 (fun x h => hx x (by simpa using h))
      simp [ha.1, h1, h2]
/-- A slice of tokens, to be read. -/
def TView (pb : Nat) (us : List Tok) (v : Value) (w : World) : Prop :=
  ∃ (a : Option Addr) (cap : Nat), v = .slice a us.length cap ∧ us.length ≤ cap ∧ us.length ≤ 4398046511104 ∧ (us ≠ [] → ∃ g o, a = some ⟨g, o, none⟩ ∧ g < w.heap.size ∧ g ≠ pb ∧ ∀ i t, us[i]? = some t → w.cell? ⟨g, o + i * 3, none⟩ = some (.int .u8 t.kind.toNat) ∧ w.cell? ⟨g, o + i * 3 + 1, none⟩ = some (.string ⟨t.text.toArray⟩) ∧ w.cell? ⟨g, o + i * 3 + 2, none⟩ = some (.bool t.space))

theorem words_step {ts : List Tok} {n m : Nat} {t : Tok} (h : ((ts.drop n).take (m - n)).all wordK = true) (hm : n ≤ m) (ht : ts[m]? = some t) (hw : wordK t = true) : ((ts.drop n).take (m + 1 - n)).all wordK = true := by
  rw [show m + 1 - n = (m - n) + 1 by omega, List.take_add_one, List.all_append, h, List.getElem?_drop, show n + (m - n) = m by omega, ht]
  simp [hw]

theorem TView.fr {pb : Nat} {us : List Tok} {v : Value} {w w' : World} (h : TView pb us v w) (hs : w.heap.size ≤ w'.heap.size) (hf : ∀ k, k ≠ pb → k < w.heap.size → w'.heap[k]? = w.heap[k]?) : TView pb us v w' := by
  obtain ⟨a, cap, hv, h1, h2, h3⟩ := h
  refine ⟨a, cap, hv, h1, h2, fun hne => ?_⟩
  obtain ⟨g, o, ha, hg, hgp, hc⟩ := h3 hne
  refine ⟨g, o, ha, Nat.lt_of_lt_of_le hg hs, hgp, fun i t ht => ?_⟩
  have e := hf g hgp hg
  obtain ⟨c1, c2, c3⟩ := hc i t ht
  exact ⟨(World.cell?_of_block (w := w) (a := ⟨g, o + i * 3, none⟩) e).trans c1, (World.cell?_of_block (w := w) (a := ⟨g, o + i * 3 + 1, none⟩) e).trans c2, (World.cell?_of_block (w := w) (a := ⟨g, o + i * 3 + 2, none⟩) e).trans c3⟩

def WRel (pb : Nat) (tv : Value) (ts : List Tok) (n : Nat) (ok : Bool) (w wr : World) : Prop :=
  ∃ m, n ≤ m ∧ m ≤ ts.length ∧ ((ts.drop n).take (m - n)).all wordK = true ∧ Par pb tv ts m ok wr ∧ Fr (· ≠ pb) w wr

set_option maxHeartbeats 2000000 in
set_option maxRecDepth 100000 in
theorem words_any (pb : Nat) (tv : Value) (ts : List Tok) (n : Nat) (ok : Bool) (w : World) (h : Par pb tv ts n ok w) :
    Calls Tryz.prog 23 #[.pointer (some ⟨pb, 0, none⟩)] w fun x w' => (∃ v, x = .returned v ∧ TView pb ((ts.drop n).takeWhile wordK) v w') ∧ Par pb tv ts (n + wordsN ts n) ok w' ∧ Fr (· ≠ pb) w w' := by
  obtain ⟨c0, c1, c2⟩ := h.cells
  have hlen := h.len
  have HP := Lib.hid h
  clear h
  go_enter Tryz.func23, Tryz.ntmps23
  go_wp2
  clear c0 c1 c2
  go_loopw [] (fun wr => WRel pb tv ts n ok w wr) (fun wr => ts.length - atOf pb wr)
  case atStart => exact ⟨n, Nat.le_refl _, HP.out.le, by simp, HP.out, Fr.refl _ _⟩
  case round =>
    obtain ⟨m, hm1, hm2, hall, hp, hF⟩ := hrel
    have HALL := Lib.hid hall; have HPM := Lib.hid hp; have HF := Lib.hid hF
    clear hall hp hF
    have hkind : (∃ t, ts[m]? = some t ∧ t.kind = 97) ∨ (∃ t, ts[m]? = some t ∧ t.kind = 113) ∨ (∃ t, ts[m]? = some t ∧ t.kind = 46) ∨ (isH 97 (ts.drop m) = false ∧ isH 113 (ts.drop m) = false ∧ isH 46 (ts.drop m) = false ∧ ∀ x, ts[m]? = some x → wordK x = false) := by
      rcases Nat.lt_or_ge m ts.length with hlt | hge
      · obtain ⟨t, ht⟩ : ∃ t, ts[m]? = some t := ⟨_, List.getElem?_eq_getElem hlt⟩
        by_cases h1 : t.kind = 97
        · exact .inl ⟨t, ht, h1⟩
        · by_cases h2 : t.kind = 113
          · exact .inr (.inl ⟨t, ht, h2⟩)
          · by_cases h3 : t.kind = 46
            · exact .inr (.inr (.inl ⟨t, ht, h3⟩))
            · refine .inr (.inr (.inr ⟨?_, ?_, ?_, fun x hx => ?_⟩))
              · rw [isH_at ht]; simpa using h1
              · rw [isH_at ht]; simpa using h2
              · rw [isH_at ht]; simpa using h3
              · rw [ht] at hx; cases hx; simp [wordK, h1, h2, h3]
      · exact .inr (.inr (.inr ⟨isH_none hge, isH_none hge, isH_none hge, fun x hx => by rw [List.getElem?_eq_none hge] at hx; cases hx⟩))
    rcases hkind with ⟨t, ht, hkd⟩ | ⟨t, ht, hkd⟩ | ⟨t, ht, hkd⟩ | ⟨h97, h113, h46, hstop⟩
    · have HPQ0 := HPM; have HFQ0 := HF
      have hlt : m < ts.length := (List.getElem?_eq_some_iff.1 ht).1
      have hw : wordK t = true := by simp [wordK, hkd]
      have H97 : Hid (isH 97 (ts.drop m) = true) := Lib.hid (by rw [isH_at ht, hkd]; rfl)
      have HT := Lib.hid ht; have HW := Lib.hid hw
      clear ht hkd hw
      go_wp2_with fail
      refine (is_any pb tv ts m ok 97 _ HPQ0.out).mono ?_
      rintro x w0 ⟨rfl, q0, rfl⟩
      rw [H97.out]
      have HPQ1 := Lib.hid (HPQ0.out.drewN q0); have HFQ1 := Lib.hid (HFQ0.out.drewN q0)
      generalize wr.drewN q0 = v0 at *
      have e1 := HPQ1.out.cells.2.1
      have hfz := HPQ1.out.frozen 1
      have HPS := Lib.hid (HPQ1.out.setAt (m + 1) (by omega))
      have HFS := Lib.hid (HFQ1.out.setCell (p := ⟨pb, 1, none⟩) (fun h => h rfl) (.int .i64 ((m + 1 : Nat) : Int)))
      have HME := Lib.hid (HPS.out.at)
      push_cast at HPS HFS HME
      go_wp2
      go_roundw
      case rel => exact ⟨m + 1, by omega, by omega, words_step HALL.out hm1 HT.out HW.out, HPS.out, HFS.out⟩
      case measure => rw [HME.out, HPM.out.at]; omega
    · have HPQ0 := HPM; have HFQ0 := HF
      have hlt : m < ts.length := (List.getElem?_eq_some_iff.1 ht).1
      have hw : wordK t = true := by simp [wordK, hkd]
      have H97 : Hid (isH 97 (ts.drop m) = false) := Lib.hid (by rw [isH_at ht, hkd]; rfl)
      have H113 : Hid (isH 113 (ts.drop m) = true) := Lib.hid (by rw [isH_at ht, hkd]; rfl)
      have HT := Lib.hid ht; have HW := Lib.hid hw
      clear ht hkd hw
      go_wp2_with fail
      refine (is_any pb tv ts m ok 97 _ HPQ0.out).mono ?_
      rintro x w0 ⟨rfl, q0, rfl⟩
      rw [H97.out]
      have HPQ1 := Lib.hid (HPQ0.out.drewN q0); have HFQ1 := Lib.hid (HFQ0.out.drewN q0)
      generalize wr.drewN q0 = v0 at *
      go_wp2_with fail
      refine (is_any pb tv ts m ok 113 _ HPQ1.out).mono ?_
      rintro x w1 ⟨rfl, q1, rfl⟩
      rw [H113.out]
      have HPQ2 := Lib.hid (HPQ1.out.drewN q1); have HFQ2 := Lib.hid (HFQ1.out.drewN q1)
      generalize v0.drewN q1 = v1 at *
      have e1 := HPQ2.out.cells.2.1
      have hfz := HPQ2.out.frozen 1
      have HPS := Lib.hid (HPQ2.out.setAt (m + 1) (by omega))
      have HFS := Lib.hid (HFQ2.out.setCell (p := ⟨pb, 1, none⟩) (fun h => h rfl) (.int .i64 ((m + 1 : Nat) : Int)))
      have HME := Lib.hid (HPS.out.at)
      push_cast at HPS HFS HME
      go_wp2
      go_roundw
      case rel => exact ⟨m + 1, by omega, by omega, words_step HALL.out hm1 HT.out HW.out, HPS.out, HFS.out⟩
      case measure => rw [HME.out, HPM.out.at]; omega
    · have HPQ0 := HPM; have HFQ0 := HF
      have hlt : m < ts.length := (List.getElem?_eq_some_iff.1 ht).1
      have hw : wordK t = true := by simp [wordK, hkd]
      have H97 : Hid (isH 97 (ts.drop m) = false) := Lib.hid (by rw [isH_at ht, hkd]; rfl)
      have H113 : Hid (isH 113 (ts.drop m) = false) := Lib.hid (by rw [isH_at ht, hkd]; rfl)
      have H46 : Hid (isH 46 (ts.drop m) = true) := Lib.hid (by rw [isH_at ht, hkd]; rfl)
      have HT := Lib.hid ht; have HW := Lib.hid hw
      clear ht hkd hw
      go_wp2_with fail
      refine (is_any pb tv ts m ok 97 _ HPQ0.out).mono ?_
      rintro x w0 ⟨rfl, q0, rfl⟩
      rw [H97.out]
      have HPQ1 := Lib.hid (HPQ0.out.drewN q0); have HFQ1 := Lib.hid (HFQ0.out.drewN q0)
      generalize wr.drewN q0 = v0 at *
      go_wp2_with fail
      refine (is_any pb tv ts m ok 113 _ HPQ1.out).mono ?_
      rintro x w1 ⟨rfl, q1, rfl⟩
      rw [H113.out]
      have HPQ2 := Lib.hid (HPQ1.out.drewN q1); have HFQ2 := Lib.hid (HFQ1.out.drewN q1)
      generalize v0.drewN q1 = v1 at *
      go_wp2_with fail
      refine (is_any pb tv ts m ok 46 _ HPQ2.out).mono ?_
      rintro x w2 ⟨rfl, q2, rfl⟩
      rw [H46.out]
      have HPQ3 := Lib.hid (HPQ2.out.drewN q2); have HFQ3 := Lib.hid (HFQ2.out.drewN q2)
      generalize v1.drewN q2 = v2 at *
      have e1 := HPQ3.out.cells.2.1
      have hfz := HPQ3.out.frozen 1
      have HPS := Lib.hid (HPQ3.out.setAt (m + 1) (by omega))
      have HFS := Lib.hid (HFQ3.out.setCell (p := ⟨pb, 1, none⟩) (fun h => h rfl) (.int .i64 ((m + 1 : Nat) : Int)))
      have HME := Lib.hid (HPS.out.at)
      push_cast at HPS HFS HME
      go_wp2
      go_roundw
      case rel => exact ⟨m + 1, by omega, by omega, words_step HALL.out hm1 HT.out HW.out, HPS.out, HFS.out⟩
      case measure => rw [HME.out, HPM.out.at]; omega
    · have hspan := span_tok wordK (ts.drop n) (m - n) (by simp; omega) HALL.out (fun x hx => hstop x (by rw [List.getElem?_drop, show n + (m - n) = m by omega] at hx; exact hx))
      have hwn : n + wordsN ts n = m := by
        unfold wordsN
        rw [hspan.1, List.length_take, List.length_drop]; omega
      have HPQ0 := HPM; have HFQ0 := HF
      have H97 := Lib.hid h97; have H113 := Lib.hid h113; have H46 := Lib.hid h46; have HSP := Lib.hid hspan; have HWN := Lib.hid hwn
      clear h97 h113 h46 hstop hspan hwn
      go_wp2_with fail
      refine (is_any pb tv ts m ok 97 _ HPQ0.out).mono ?_
      rintro x w0 ⟨rfl, q0, rfl⟩
      rw [H97.out]
      have HPQ1 := Lib.hid (HPQ0.out.drewN q0); have HFQ1 := Lib.hid (HFQ0.out.drewN q0)
      generalize wr.drewN q0 = v0 at *
      go_wp2_with fail
      refine (is_any pb tv ts m ok 113 _ HPQ1.out).mono ?_
      rintro x w1 ⟨rfl, q1, rfl⟩
      rw [H113.out]
      have HPQ2 := Lib.hid (HPQ1.out.drewN q1); have HFQ2 := Lib.hid (HFQ1.out.drewN q1)
      generalize v0.drewN q1 = v1 at *
      go_wp2_with fail
      refine (is_any pb tv ts m ok 46 _ HPQ2.out).mono ?_
      rintro x w2 ⟨rfl, q2, rfl⟩
      rw [H46.out]
      have HPQ3 := Lib.hid (HPQ2.out.drewN q2); have HFQ3 := Lib.hid (HFQ2.out.drewN q2)
      generalize v1.drewN q2 = v2 at *
      obtain ⟨e0, e1, -⟩ := HPQ3.out.cells
      have hfin : Fr (· ≠ pb) w v2 := HFQ3.out
      have HFIN := Lib.hid hfin
      clear hfin
      rcases HPQ3.out.val with ⟨rfl, rfl⟩ | ⟨g, cap, rfl, hc1, hc2, hcell⟩
      · obtain rfl : m = 0 := by simpa using hm2
        obtain rfl : n = 0 := by omega
        clear hm1 hm2
        go_wp2
        go_quiet (fail)
        go_wp2
        go_ret
        exact ⟨⟨_, rfl, none, 0, rfl, Nat.le_refl _, by simp, fun h => absurd rfl h⟩, by rw [HWN.out]; exact HPQ3.out.drewN _, HFIN.out.drewN _⟩
      · obtain ⟨N, hN⟩ : ∃ N, ts.length = N := ⟨_, rfl⟩
        have HNN := Lib.hid hN; have HCELL := Lib.hid hcell
        rw [hN] at e0 hm2 hc1 hlen
        clear hN hcell
        have i1 : (n : Int) ≤ (m : Int) := by omega
        have i2 : (m : Int) ≤ (cap : Int) := by omega
        by_cases hcn : cap = n
        · have hmn : m = n := by omega
          subst hmn
          have hcm := Lib.hid hcn
          have i3 : ((cap : Int) == (m : Int)) = true := by rw [beq_iff_eq]; omega
          go_wp2
          go_quiet (fail)
          go_wp2
          go_ret
          refine ⟨⟨_, rfl, ?_⟩, by rw [HWN.out]; exact HPQ3.out.drewN _, HFIN.out.drewN _⟩
          rw [HSP.out.1, Nat.sub_self, List.take_zero]
          exact ⟨some ⟨g, 0, none⟩, 0, by simp, Nat.le_refl _, by simp, fun h => absurd rfl h⟩
        · go_wp2
          go_quiet (fail)
          go_wp2
          go_ret
          refine ⟨⟨_, rfl, ?_⟩, by rw [HWN.out]; exact HPQ3.out.drewN _, HFIN.out.drewN _⟩
          rw [HSP.out.1]
          have hl : ((ts.drop n).take (m - n)).length = m - n := by rw [List.length_take, List.length_drop, HNN.out]; omega
          refine ⟨some ⟨g, n * 3, none⟩, cap - n, by rw [hl]; rfl, by rw [hl]; omega, by rw [hl]; omega, fun h => ⟨g, n * 3, rfl, ?_, fun e => HPQ3.out.ne (by rw [e]; rfl), fun i t ht => ?_⟩⟩
          · rw [hsize_drewN]
            rcases HPQ3.out.own.2 with ⟨h, _⟩ | ⟨g', cap', cur, h, _, hg, _⟩
            · cases h
            · cases h; exact (Array.getElem?_eq_some_iff.1 hg).1
          · have ht2 : ts[n + i]? = some t := by
              rw [List.getElem?_take] at ht
              split at ht
              · rwa [List.getElem?_drop] at ht
              · cases ht
            have h1 := HCELL.out (n + i) t ht2
            rw [show (n + i) * 3 = n * 3 + i * 3 by omega] at h1
            simpa using h1
end Go.Proofs.YtmcjmmcamelmcaaGreatDoor
