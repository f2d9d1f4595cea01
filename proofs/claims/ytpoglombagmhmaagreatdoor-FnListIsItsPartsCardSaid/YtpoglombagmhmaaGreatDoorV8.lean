/- spec.parser: name: what it computes; the walk. -/
import Derived.Test.YtpoglombagmhmaaGreatDoorV5
import Derived.Test.YtpoglombagmhmaaGreatDoorP4
import Derived.Deep.Cut
import Derived.Laws.ResultCell
namespace Go.Proofs.YtpoglombagmhmaaGreatDoor
open Go Go.RowKit

def nBad (k : Nat) (t : Tok) : Bool := t.kind == 46 || (decide (0 < k) && !t.space) || (t.kind == 113 && decide (t.text = []))
def nCode (t : Tok) : Bool := t.kind == 97 && markedL t.text
def nText (t : Tok) : List UInt8 := if nCode t then (decodedL t.text true).getD [] else t.text
def nDec (t : Tok) : Bool := !(nCode t && (decodedL t.text true).isNone)
/-- Words as a name: no obsolete form, the text. -/
def nameG : List Tok → Nat → Bool → Bool → List UInt8 → Bool × List UInt8
  | [], _, ok, _, out => (ok, out)
  | t :: r, k, ok, coded, out => nameG r (k + 1) (ok && !nBad k t && nDec t) (nCode t) (out ++ (if decide (0 < k) && !(coded && nCode t) then [32] else []) ++ nText t)

theorem textC_len {a b t : List UInt8} (h : textC a b = some t) : t.length ≤ 2 * b.length := by
  unfold textC at h
  split at h
  · split at h
    · cases h; omega
    · cases h
  · split at h
    · cases h; exact latin_len b
    · split at h
      · split at h
        · cases h; omega
        · cases h
      · cases h
theorem decodedL_len {l t : List UInt8} {p : Bool} (h : decodedL l p = some t) : t.length ≤ 2 * l.length := by
  unfold decodedL at h
  split at h
  · cases h
  · have hx : ∀ x ∈ splitQ ((l.take (l.length - 2)).drop 2), x.length ≤ l.length := fun x hx => by
      have := splitQ_mem _ x hx
      rw [List.length_drop, List.length_take] at this; omega
    generalize splitQ ((l.take (l.length - 2)).drop 2) = ps at h hx
    unfold partsC at h
    split at h
    · rename_i a m b
      split at h
      · cases h
      · obtain ⟨c, hc, ht⟩ := Option.bind_eq_some_iff.1 h
        have h1 := bytesC_len hc
        have h2 := textC_len ht
        have h3 := hx b (by simp)
        omega
    · cases h
theorem nText_len (t : Tok) : (nText t).length ≤ 2 * t.text.length := by
  unfold nText
  split
  · cases h : decodedL t.text true with
    | none => simp
    | some x => exact decodedL_len h
  · omega
theorem nameG_step {us : List Tok} {k : Nat} {t : Tok} (ok coded : Bool) (out : List UInt8) (h : us[k]? = some t) : nameG (us.drop k) k ok coded out = nameG (us.drop (k + 1)) (k + 1) (ok && !nBad k t && nDec t) (nCode t) (out ++ (if decide (0 < k) && !(coded && nCode t) then [32] else []) ++ nText t) := by
  rw [drop_head h, nameG]

/-- The world of a round: the parser, the words, and the word at hand in block ab. -/
structure NW (pb : Nat) (tv : Value) (ts us : List Tok) (n : Nat) (v : Value) (w : World) (ab : Nat) (t : Tok) (ok : Bool) (wx : World) : Prop where
  par : Par pb tv ts n ok wx
  view : TView pb us v wx
  fr : Fr (fun b => b ≠ pb ∧ b < w.heap.size) w wx
  blk : wx.heap[ab]? = some (.cells #[.int .u8 t.kind.toNat, .string (bs t.text), .bool t.space] 68 (0, 0))
  ne : ab ≠ pb
theorem NW.lt {pb : Nat} {tv : Value} {ts us : List Tok} {n : Nat} {v : Value} {w : World} {ab : Nat} {t : Tok} {ok : Bool} {wx : World} (h : NW pb tv ts us n v w ab t ok wx) : ab < wx.heap.size := (Array.getElem?_eq_some_iff.1 h.blk).1
theorem NW.more {pb : Nat} {tv : Value} {ts us : List Tok} {n : Nat} {v : Value} {w : World} {ab : Nat} {t : Tok} {ok : Bool} {wx wy : World} (h : NW pb tv ts us n v w ab t ok wx) (hf : Fr (· < wx.heap.size) wx wy) : NW pb tv ts us n v w ab t ok wy :=
  ⟨h.par.frk hf, h.view.fr hf.size (fun k _ hk => hf.block k hk), h.fr.trans (hf.mono (fun _ hk => Nat.lt_of_lt_of_le hk.2 h.fr.size)), (hf.block ab h.lt).trans h.blk, h.ne⟩
theorem NW.drewN {pb : Nat} {tv : Value} {ts us : List Tok} {n : Nat} {v : Value} {w : World} {ab : Nat} {t : Tok} {ok : Bool} {wx : World} (h : NW pb tv ts us n v w ab t ok wx) (q : Nat) : NW pb tv ts us n v w ab t ok (wx.drewN q) := h.more ((Fr.refl _ wx).drewN q)
theorem NW.bad {pb : Nat} {tv : Value} {ts us : List Tok} {n : Nat} {v : Value} {w : World} {ab : Nat} {t : Tok} {ok : Bool} {wx : World} (h : NW pb tv ts us n v w ab t ok wx) (b : Bool) : NW pb tv ts us n v w ab t b (wx.setCell ⟨pb, 2, none⟩ (.bool b)) :=
  ⟨h.par.setOk b, h.view.fr (by simp [World.setCell]) (fun k hk _ => Below.heap_setCell _ ⟨pb, 2, none⟩ _ k hk), h.fr.setCell (p := ⟨pb, 2, none⟩) (fun e => e.1 rfl) _, (Below.heap_setCell _ ⟨pb, 2, none⟩ _ ab h.ne).trans h.blk, h.ne⟩
theorem NW.cells {pb : Nat} {tv : Value} {ts us : List Tok} {n : Nat} {v : Value} {w : World} {ab : Nat} {t : Tok} {ok : Bool} {wx : World} (h : NW pb tv ts us n v w ab t ok wx) : wx.cell? ⟨ab, 0, none⟩ = some (.int .u8 t.kind.toNat) ∧ wx.cell? ⟨ab, 1, none⟩ = some (.string (bs t.text)) ∧ wx.cell? ⟨ab, 2, none⟩ = some (.bool t.space) := by
  refine ⟨?_, ?_, ?_⟩ <;> rw [Lib.cell_of_heap h.blk] <;> rfl

theorem tabs_frk {K : Nat → Prop} {g3 g4 : Nat} {w w' : World} (h : Lib.Utf8Tabs g3 g4 w) (hf : Fr K w w') (h3 : g3 < w.heap.size → K g3) (h4 : g4 < w.heap.size → K g4) : Lib.Utf8Tabs g3 g4 w' := by
  have lt : ∀ {a : Addr} {v : Value}, w.cell? a = some v → a.block < w.heap.size := fun {a v} hc => by
    rcases Nat.lt_or_ge a.block w.heap.size with h' | h'
    · exact h'
    · simp [World.cell?, Array.getElem?_eq_none h'] at hc
  exact ⟨fun c hc => (hf.cell (h3 (lt (h.1 c hc)))).trans (h.1 c hc), fun i hi => ⟨(hf.cell (h4 (lt (h.2 i hi).1))).trans (h.2 i hi).1, (hf.cell (h4 (lt (h.2 i hi).2))).trans (h.2 i hi).2⟩⟩
def NmRel (pb : Nat) (tv : Value) (ts us : List Tok) (n : Nat) (ok : Bool) (v : Value) (w : World) (o c i : Value) (wr : World) : Prop :=
  ∃ k ok' coded out, o = .string (bs out) ∧ c = .bool coded ∧ i = .int .i64 (k : Nat) ∧ k ≤ us.length ∧ nameG us 0 ok false [] = nameG (us.drop k) k ok' coded out ∧ out.length ≤ 2 * tlen (us.take k) ∧ Par pb tv ts n ok' wr ∧ TView pb us v wr ∧ Fr (fun b => b ≠ pb ∧ b < w.heap.size) w wr

set_option maxHeartbeats 4000000 in
set_option maxRecDepth 100000 in
theorem name_any (pb : Nat) (tv : Value) (ts us : List Tok) (n : Nat) (ok : Bool) (v : Value) (w : World) (h : Par pb tv ts n ok w) (hv : TView pb us v w) (hus : tlen us ≤ 4398046511104) (hT : Lib.Utf8Tabs 0 1 w) (hgb : pb ≠ 0 ∧ pb ≠ 1) :
    Calls Tryz.prog 26 #[.pointer (some ⟨pb, 0, none⟩), v] w fun x w' => x = .returned (.string (bs (nameG us 0 ok false []).2)) ∧ Par pb tv ts n (nameG us 0 ok false []).1 w' ∧ Fr (fun b => b ≠ pb ∧ b < w.heap.size) w w' := by
  have hv0 := hv
  obtain ⟨a, cap, rfl, hc1, hc2, hc3⟩ := hv
  have HP := Lib.hid h; have HV := Lib.hid hv0; have HTB := Lib.hid hT; have HGB := Lib.hid hgb
  clear h hv0 hc3 hT hgb
  obtain ⟨N, hN⟩ : ∃ N, us.length = N := ⟨_, rfl⟩
  have HN := Lib.hid hN
  rw [hN] at hc1 hc2 ⊢
  rw [hN] at HV
  clear hN
  go_enter Tryz.func26, Tryz.ntmps26
  go_wp2
  go_loopw [5, 6, 14] (fun o c i wr => NmRel pb tv ts us n ok (.slice a N cap) w o c i wr) (fun _ _ i _ => N - (intOf i).toNat)
  case atStart => exact ⟨0, ok, false, [], rfl, rfl, rfl, Nat.zero_le _, rfl, Nat.zero_le _, HP.out, HV.out, Fr.refl _ _⟩
  case round =>
    obtain ⟨k, ok', coded, out, rfl, rfl, rfl, hk, heq, hol, hp, hvw, hF⟩ := hrel
    rw [HN.out] at hk
    by_cases hlt : k < N
    · obtain ⟨t, ht⟩ : ∃ t, us[k]? = some t := ⟨_, List.getElem?_eq_getElem (by rw [HN.out]; exact hlt)⟩
      obtain ⟨g, o, rfl, hg, hgp, hc⟩ : ∃ g o, a = some ⟨g, o, none⟩ ∧ g < wr.heap.size ∧ g ≠ pb ∧ (wr.cell? ⟨g, o + k * 3, none⟩ = some (.int .u8 t.kind.toNat) ∧ wr.cell? ⟨g, o + k * 3 + 1, none⟩ = some (.string (bs t.text)) ∧ wr.cell? ⟨g, o + k * 3 + 2, none⟩ = some (.bool t.space)) := by
        obtain ⟨a', cap', hv, _, _, h3⟩ := hvw
        cases hv
        obtain ⟨g, o, ha, hg, hgp, hc⟩ := h3 (fun e => by rw [e] at ht; simp at ht)
        exact ⟨g, o, ha, hg, hgp, hc k t ht⟩
      obtain ⟨d0, d1, d2⟩ := hc
      rw [nameG_step ok' coded out ht] at heq
      have hsn := tlen_snoc ht
      have hkN : (k : Int) < (N : Int) := by omega
      have hpb : wr.heap.size ≠ pb := fun e => by have := hp.lt; omega
      obtain ⟨T, hT⟩ : ∃ T : Obj, .cells #[.int .u8 t.kind.toNat, .string (bs t.text), .bool t.space] 68 = T := ⟨_, rfl⟩
      have HW := Lib.hid (show NW pb tv ts us n (.slice (some ⟨g, o, none⟩) N cap) w wr.heap.size t ok' (wr.alloc (.cells #[.int .u8 t.kind.toNat, .string (bs t.text), .bool t.space] 68)) from
        ⟨hp.frk ((Fr.refl _ wr).alloc (fun k hk => hk) _), hvw.fr (by simp) (fun k _ hk => Below.heap_alloc _ _ _ hk), hF.alloc (fun k hk => Nat.lt_of_lt_of_le hk.2 hF.size) _, heap_alloc_new wr _, hpb⟩)
      have HEQ := Lib.hid heq; have HT := Lib.hid ht; have HSN := Lib.hid hsn; have HOL := Lib.hid hol
      clear heq ht hsn hol hp hvw hF hT
      go_upto_region 6 with fail
      generalize wr.alloc (.cells #[.int .u8 t.kind.toNat, .string (bs t.text), .bool t.space] 68) = w1 at HW ⊢
      generalize wr.heap.size = ab at HW ⊢
      clear d0 d1 d2
      go_cut [42] from 21 to 42 (fun c wx => c = .bool (nBad k t) ∧ NW pb tv ts us n (.slice (some ⟨g, o, none⟩) N cap) w ab t ok' wx)
      case first =>
        obtain ⟨e0, e1, e2⟩ := HW.out.cells
        obtain ⟨X, hX⟩ : ∃ X, bs t.text = X := ⟨_, rfl⟩
        have HX := Lib.hid (show X.toList = t.text by rw [← hX, toL, bs_list])
        rw [hX] at e1
        clear hX
        by_cases h46 : t.kind = 46
        · have t46 : ((t.kind.toNat : Int) == 46) = true := ceq h46
          have HB := Lib.hid (show nBad k t = true by unfold nBad; simp [h46])
          clear h46
          go_wp2
          go_meet
          exact ⟨by rw [HB.out], HW.out⟩
        · have t46 : ((t.kind.toNat : Int) == 46) = false := cneq h46
          obtain ⟨sp, hsp⟩ : ∃ sp, t.space = sp := ⟨_, rfl⟩
          rw [hsp] at e2
          have hk0 : (0 < k ∧ sp = false) ∨ (nBad k t = (t.kind == 113 && decide (t.text = [])) ∧ ((k = 0) ∨ (0 < k ∧ sp = true))) := by
            rcases Nat.eq_zero_or_pos k with h | h
            · refine .inr ⟨?_, .inl h⟩
              unfold nBad; rw [h, beq_eq_false_iff_ne.2 h46]; simp
            · cases hq : sp
              · exact .inl ⟨h, rfl⟩
              · refine .inr ⟨?_, .inr ⟨h, rfl⟩⟩
                unfold nBad; rw [hsp, hq, beq_eq_false_iff_ne.2 h46]; simp
          rcases hk0 with ⟨h0, rfl⟩ | ⟨hB, h0⟩
          · have z0 : (0 : Int) < (k : Int) := by omega
            have z1 : decide ((0 : Int) < (k : Int)) = true := decide_eq_true z0
            have HB := Lib.hid (show nBad k t = true by unfold nBad; rw [hsp]; simp [h0])
            clear h46 hsp h0
            go_wp2
            go_meet
            exact ⟨by rw [HB.out], HW.out⟩
          · by_cases h113 : t.kind = 113
            · have t113 : ((t.kind.toNat : Int) == 113) = true := ceq h113
              by_cases hx : t.text = []
              · have u5 : (X.toList == []) = true := by rw [HX.out, hx]; rfl
                have HB := Lib.hid (show nBad k t = true by rw [hB, h113, hx]; rfl)
                clear h113 hx hB h46 hsp
                rcases h0 with h0 | ⟨h0, rfl⟩
                · have z0 : ¬ (0 : Int) < (k : Int) := by omega
                  have z1 : decide ((0 : Int) < (k : Int)) = false := decide_eq_false z0
                  clear h0
                  go_wp2
                  go_meet
                  exact ⟨by rw [HB.out], HW.out⟩
                · have z0 : (0 : Int) < (k : Int) := by omega
                  have z1 : decide ((0 : Int) < (k : Int)) = true := decide_eq_true z0
                  clear h0
                  go_wp2
                  go_meet
                  exact ⟨by rw [HB.out], HW.out⟩
              · have u5 : (X.toList == []) = false := by rw [beq_eq_false_iff_ne, HX.out]; exact hx
                have HB := Lib.hid (show nBad k t = false by rw [hB, decide_eq_false hx, Bool.and_false])
                clear h113 hx hB h46 hsp
                rcases h0 with h0 | ⟨h0, rfl⟩
                · have z0 : ¬ (0 : Int) < (k : Int) := by omega
                  have z1 : decide ((0 : Int) < (k : Int)) = false := decide_eq_false z0
                  clear h0
                  go_wp2
                  go_meet
                  exact ⟨by rw [HB.out], HW.out⟩
                · have z0 : (0 : Int) < (k : Int) := by omega
                  have z1 : decide ((0 : Int) < (k : Int)) = true := decide_eq_true z0
                  clear h0
                  go_wp2
                  go_meet
                  exact ⟨by rw [HB.out], HW.out⟩
            · have t113 : ((t.kind.toNat : Int) == 113) = false := cneq h113
              have HB := Lib.hid (show nBad k t = false by rw [hB, beq_eq_false_iff_ne.2 h113, Bool.false_and])
              clear h113 hB h46 hsp
              rcases h0 with h0 | ⟨h0, rfl⟩
              · have z0 : ¬ (0 : Int) < (k : Int) := by omega
                have z1 : decide ((0 : Int) < (k : Int)) = false := decide_eq_false z0
                clear h0
                go_wp2
                go_meet
                exact ⟨by rw [HB.out], HW.out⟩
              · have z0 : (0 : Int) < (k : Int) := by omega
                have z1 : decide ((0 : Int) < (k : Int)) = true := decide_eq_true z0
                clear h0
                go_wp2
                go_meet
                exact ⟨by rw [HB.out], HW.out⟩
      case rest =>
        obtain ⟨rfl, hnw⟩ := hcut
        have HW2 := Lib.hid hnw
        clear hnw HW
        go_upto_if 42 with fail
        go_cut [] from 42 to 45 (fun wx => NW pb tv ts us n (.slice (some ⟨g, o, none⟩) N cap) w ab t (ok' && !nBad k t) wx)
        case first =>
          cases hB : nBad k t with
          | true =>
            have HNW := Lib.hid (HW2.out.bad false)
            have hfz := HW2.out.par.frozen 2
            have e2 := HW2.out.par.cells.2.2
            go_wp2
            go_meet
            rw [hB, Bool.not_true, Bool.and_false]
            exact HNW.out
          | false =>
            go_wp2
            go_meet
            rw [hB, Bool.not_false, Bool.and_true]
            exact HW2.out
        case rest =>
          have HW3 := Lib.hid hcut
          clear hcut HW2
          obtain ⟨e0, e1, e2⟩ := HW3.out.cells
          have htl : t.text.length ≤ 4398046511104 := by
            have h1 := HSN.out
            have h2 := tlen_take us (k + 1)
            omega
          go_upto_region 8 with fail
          go_cut [53] from 46 to 53 (fun c wx => c = .bool (nCode t) ∧ NW pb tv ts us n (.slice (some ⟨g, o, none⟩) N cap) w ab t (ok' && !nBad k t) wx)
          case first =>
            have HMK := Lib.hid (fun W => Marked_any (bs t.text) W (by rw [bs_size]; omega))
            by_cases h97 : t.kind = 97
            · have t97 : ((t.kind.toNat : Int) == 97) = true := ceq h97
              have HB := Lib.hid (show nCode t = markedL t.text by unfold nCode; rw [h97]; rfl)
              clear h97
              go_wp2_with fail
              refine (HMK.out _).mono ?_
              rintro x w2 ⟨rfl, rfl⟩
              go_wp2
              go_meet
              exact ⟨by rw [HB.out, bs_list], HW3.out⟩
            · have t97 : ((t.kind.toNat : Int) == 97) = false := cneq h97
              have HB := Lib.hid (show nCode t = false by unfold nCode; rw [beq_eq_false_iff_ne.2 h97, Bool.false_and])
              clear h97
              go_wp2
              go_meet
              exact ⟨by rw [HB.out], HW3.out⟩
          case rest =>
            obtain ⟨rfl, hnw⟩ := hcut
            have HW4 := Lib.hid hnw
            clear hnw HW3 e0 e1 e2
            go_upto_if 53 with fail
            go_cut [9, 10] from 53 to 64 (fun x c wx => x = .string (bs (nText t)) ∧ c = .bool (nCode t) ∧ NW pb tv ts us n (.slice (some ⟨g, o, none⟩) N cap) w ab t (ok' && !nBad k t && nDec t) wx)
            case first =>
              cases hC : nCode t with
              | true =>
                obtain ⟨e0, e1, e2⟩ := HW4.out.cells
                have HTB4 : Lib.Utf8Tabs 0 1 wc := tabs_frk (K := fun b => b ≠ pb ∧ b < w.heap.size) HTB.out HW4.out.fr (fun h => ⟨fun e => HGB.out.1 e.symm, h⟩) (fun h => ⟨fun e => HGB.out.2 e.symm, h⟩)
                have HDC := Lib.hid (Decoded_any (bs t.text) true wc HTB4)
                rw [bs_list] at HDC
                clear HTB4
                have HCC := Lib.hid hC
                clear hC
                go_wp2_with fail
                refine HDC.out.mono ?_
                rintro x w5 ⟨rfl, hb5⟩
                have HW5 := Lib.hid (HW4.out.more (Fr.of_below hb5))
                clear hb5
                cases hD : decodedL t.text true with
                | none =>
                  have HD := Lib.hid hD
                  have HNW := Lib.hid (HW5.out.bad false)
                  have hfz := HW5.out.par.frozen 2
                  have e2 := HW5.out.par.cells.2.2
                  simp only [DcRet]
                  go_wp2
                  go_meet
                  refine ⟨by unfold nText; rw [HCC.out, HD.out]; rfl, by rw [HCC.out], ?_⟩
                  rw [show nDec t = false by unfold nDec; rw [HCC.out, HD.out]; rfl, Bool.and_false]
                  exact HNW.out
                | some y =>
                  have HD := Lib.hid hD
                  simp only [DcRet]
                  go_wp2
                  go_meet
                  refine ⟨by unfold nText; rw [HCC.out, HD.out]; rfl, by rw [HCC.out], ?_⟩
                  rw [show nDec t = true by unfold nDec; rw [HCC.out, HD.out]; rfl, Bool.and_true]
                  exact HW5.out
              | false =>
                have HCC := Lib.hid hC
                go_wp2
                go_meet
                refine ⟨by unfold nText; rw [HCC.out]; rfl, by rw [HCC.out], ?_⟩
                rw [show nDec t = true by unfold nDec; rw [HCC.out]; rfl, Bool.and_true]
                exact HW4.out
            case rest =>
              obtain ⟨rfl, rfl, hnw⟩ := hcut
              have HW5 := Lib.hid hnw
              clear hnw HW4
              go_upto_region 14 with fail
              go_cut [73] from 65 to 73 (fun c wx => c = .bool (decide (0 < k) && !(coded && nCode t)) ∧ NW pb tv ts us n (.slice (some ⟨g, o, none⟩) N cap) w ab t (ok' && !nBad k t && nDec t) wx)
              case first =>
                rcases Nat.eq_zero_or_pos k with h0 | h0
                · have z0 : ¬ (0 : Int) < (k : Int) := by omega
                  have z1 : decide ((0 : Int) < (k : Int)) = false := decide_eq_false z0
                  have HK := Lib.hid (show decide (0 < k) = false from decide_eq_false (by omega))
                  clear h0
                  go_wp2
                  go_meet
                  exact ⟨by rw [HK.out]; rfl, HW5.out⟩
                · have z0 : (0 : Int) < (k : Int) := by omega
                  have z1 : decide ((0 : Int) < (k : Int)) = true := decide_eq_true z0
                  have HK := Lib.hid (show decide (0 < k) = true from decide_eq_true h0)
                  clear h0
                  cases coded with
                  | false =>
                    go_wp2
                    go_meet
                    exact ⟨by rw [HK.out]; rfl, HW5.out⟩
                  | true =>
                    go_wp2
                    go_meet
                    exact ⟨by rw [HK.out]; rfl, HW5.out⟩
              case rest =>
                obtain ⟨rfl, hnw⟩ := hcut
                have HW6 := Lib.hid hnw
                clear hnw HW5
                have hol := HOL.out
                have hnl := nText_len t
                have hsn := HSN.out
                have htk1 := tlen_take us (k + 1)
                cases hF : (decide (0 < k) && !(coded && nCode t)) with
                | true =>
                  have HFT := Lib.hid hF
                  have q1 : (bs out).size + 1 ≤ 9223372036854775807 := by rw [bs_size]; omega
                  have q2 : (bs out ++ (⟨#[32]⟩ : ByteArray)).size + (bs (nText t)).size ≤ 9223372036854775807 := by
                    rw [ByteArray.size_append, bs_size, bs_size]
                    show out.length + 1 + _ ≤ _
                    omega
                  clear hF
                  go_wp2
                  go_roundw
                  case rel =>
                    refine ⟨k + 1, _, _, out ++ [32] ++ nText t, by rw [← bs_app, ← bs_app]; rfl, rfl, by go_num, by rw [HN.out]; omega, ?_, ?_, HW6.out.par, HW6.out.view, HW6.out.fr⟩
                    · rw [HEQ.out, HFT.out]; rfl
                    · simp; omega
                  case measure => simp [intOf]; omega
                | false =>
                  have HFT := Lib.hid hF
                  have q2 : (bs out).size + (bs (nText t)).size ≤ 9223372036854775807 := by
                    rw [bs_size, bs_size]; omega
                  clear hF
                  go_wp2
                  go_roundw
                  case rel =>
                    refine ⟨k + 1, _, _, out ++ nText t, by rw [← bs_app], rfl, by go_num, by rw [HN.out]; omega, ?_, ?_, HW6.out.par, HW6.out.view, HW6.out.fr⟩
                    · rw [HEQ.out, HFT.out]; simp
                    · simp; omega
                  case measure => simp [intOf]; omega
    · have hkN : k = us.length := by rw [HN.out]; omega
      have z0 : ¬ (k : Int) < (N : Int) := by omega
      have hd : us.drop k = [] := List.drop_eq_nil_of_le (by omega)
      rw [hd, nameG] at heq
      have HEQ := Lib.hid heq; have HPM := Lib.hid hp; have HF := Lib.hid hF
      clear heq hp hF hd hvw hkN
      go_wp2
      go_ret
      rw [HEQ.out]
      exact ⟨rfl, HPM.out, HF.out⟩
end Go.Proofs.YtpoglombagmhmaaGreatDoor
/- spec.parser: address, a name and an address in angles: the walk. -/
namespace Go.Proofs.YtpoglombagmhmaaGreatDoor
open Go Go.RowKit

theorem localG_len : ∀ (us : List Tok) (k : Nat) (ok : Bool) (out : List UInt8), (localG us k ok out).2.1.length ≤ out.length + 2 * tlen us
  | [], k, ok, out => by simp [localG]
  | t :: r, k, ok, out => by
    rw [localG]
    have ht : tlen (t :: r) = t.text.length + 1 + tlen r := by simp [tlen]
    split
    · simp
    · have h := localG_len r (k + 1) (ok && !(decide (0 < k) && t.space) && !(t.kind == 113)) (out ++ (if t.kind = 46 then [46] else []) ++ t.text)
      have h2 : (if t.kind = 46 then [46] else ([] : List UInt8)).length ≤ 1 := by split <;> simp
      simp only [List.length_append] at h
      omega
theorem domainG_len : ∀ (n : Nat) (us : List Tok) (ok : Bool) (out : List UInt8), us.length ≤ n → (domainG us ok out).2.2.1.length ≤ out.length + 2 * tlen us
  | _, [], ok, out, _ => by simp [domainG]
  | _, [t], ok, out, _ => by
    rw [domainG]
    split
    · simp [tlen]; omega
    · simp
  | 0, t :: d :: r, ok, out, h => by simp at h
  | n + 1, t :: d :: r, ok, out, h => by
    rw [domainG]
    have ht : tlen (t :: d :: r) = t.text.length + 1 + (d.text.length + 1 + tlen r) := by simp [tlen]
    split
    · split
      · have h := domainG_len n r (ok && !t.space && !d.space) (out ++ t.text ++ [46]) (by simp at h; omega)
        simp only [List.length_append, List.length_cons, List.length_nil] at h
        omega
      · simp; omega
    · simp
theorem tlen_drop (ts : List Tok) (n : Nat) : tlen (ts.drop n) ≤ tlen ts := by
  have h := tlen_app (ts.take n) (ts.drop n)
  rw [List.take_append_drop] at h
  omega
theorem tlen_while (p : Tok → Bool) : ∀ ts : List Tok, tlen (ts.takeWhile p) ≤ tlen ts
  | [] => by simp
  | t :: r => by
    have := tlen_while p r
    rw [List.takeWhile_cons]
    split
    · simp only [tlen, List.map_cons, List.sum_cons] at this ⊢; omega
    · simp [tlen]

theorem tabs_par {pb : Nat} {w w' : World} (h : Lib.Utf8Tabs 0 1 w) (hf : Fr (· ≠ pb) w w') (hgb : pb ≠ 0 ∧ pb ≠ 1) : Lib.Utf8Tabs 0 1 w' :=
  tabs_frk (K := fun b => b ≠ pb) h hf (fun _ e => hgb.1 e.symm) (fun _ e => hgb.2 e.symm)

/-- The parser, and the address at hand in block ab. -/
structure AW (pb : Nat) (tv : Value) (ts : List Tok) (ab : Nat) (nm : List UInt8) (w : World) (m : Nat) (ok : Bool) (wx : World) : Prop where
  par : Par pb tv ts m ok wx
  fr : Fr (fun b => b ≠ pb ∧ b < w.heap.size) w wx
  blk : wx.heap[ab]? = some (.cells #[.string (bs nm), .string ⟨#[]⟩] 38 (0, 0))
  ne : ab ≠ pb
theorem AW.step {pb : Nat} {tv : Value} {ts : List Tok} {ab : Nat} {nm : List UInt8} {w : World} {m m' : Nat} {ok ok' : Bool} {wx wy : World} (h : AW pb tv ts ab nm w m ok wx) (hp : Par pb tv ts m' ok' wy) (hf : Fr (fun b => b ≠ pb ∧ b < wx.heap.size) wx wy) : AW pb tv ts ab nm w m' ok' wy :=
  ⟨hp, h.fr.trans (hf.mono (fun _ hk => ⟨hk.1, Nat.lt_of_lt_of_le hk.2 h.fr.size⟩)), (hf.block ab ⟨h.ne, (Array.getElem?_eq_some_iff.1 h.blk).1⟩).trans h.blk, h.ne⟩
theorem AW.step' {pb : Nat} {tv : Value} {ts : List Tok} {ab : Nat} {nm : List UInt8} {w : World} {m m' : Nat} {ok ok' : Bool} {wx wy : World} (h : AW pb tv ts ab nm w m ok wx) (hp : Par pb tv ts m' ok' wy) (hf : Fr (· ≠ pb) wx wy) : AW pb tv ts ab nm w m' ok' wy := h.step hp (hf.mono (fun _ hk => hk.1))
theorem AW.drewN {pb : Nat} {tv : Value} {ts : List Tok} {ab : Nat} {nm : List UInt8} {w : World} {m : Nat} {ok : Bool} {wx : World} (h : AW pb tv ts ab nm w m ok wx) (q : Nat) : AW pb tv ts ab nm w m ok (wx.drewN q) := h.step' (h.par.drewN q) ((Fr.refl _ wx).drewN q)

theorem own_other {w : World} {B sz : Nat} {e T : TypeId} {v : Value} {n : Nat} {xs : List Value} {b : Nat} {cs : Array Value} {fr : Nat × Nat} (hown : w.ownsRow B e sz v n xs) (hb : w.heap[b]? = some (.cells cs T fr)) (hTe : T ≠ e) : v.ownBlock ≠ some b := by
  rcases hown.2 with ⟨rfl, _⟩ | ⟨g, cap, cur, rfl, _, hg, _⟩
  · simp [Value.ownBlock]
  · intro h
    simp only [Value.ownBlock, Option.some.injEq] at h
    subst h
    rw [hg] at hb
    cases hb
    exact hTe rfl
theorem AW.put {pb : Nat} {tv : Value} {ts : List Tok} {ab : Nat} {nm : List UInt8} {w : World} {m : Nat} {ok : Bool} {wx : World} (h : AW pb tv ts ab nm w m ok wx) (hab : w.heap.size ≤ ab) (u : Value) : Par pb tv ts m ok (wx.setCell ⟨ab, 1, none⟩ u) ∧ Fr (fun b => b ≠ pb ∧ b < w.heap.size) w (wx.setCell ⟨ab, 1, none⟩ u) := by
  have hne : tv.ownBlock ≠ some ab := own_other h.par.own h.blk (by decide)
  exact ⟨⟨(Below.heap_setCell wx ⟨ab, 1, none⟩ u pb (fun e => h.ne e.symm)).trans h.par.blk, own_fr h.par.own (fun k hk _ => Below.heap_setCell wx ⟨ab, 1, none⟩ u k (fun e => hne (by rw [hk, e]))), h.par.ne, h.par.le, h.par.tl⟩,
    h.fr.setCell (p := ⟨ab, 1, none⟩) (fun e => by have := e.2; simp at this; omega) u⟩

set_option maxHeartbeats 4000000 in
set_option maxRecDepth 100000 in
theorem address_plain (pb : Nat) (tv : Value) (ts us vs : List Tok) (n n1 n2 : Nat) (ok ok2 ok3 b4 b6 ok7 : Bool) (nm lc dm : List UInt8) (r4 : List Tok) (w : World) (h : Par pb tv ts n ok w) (hT : Lib.Utf8Tabs 0 1 w) (hgb : pb ≠ 0 ∧ pb ≠ 1)
    (hus : (ts.drop n).takeWhile wordK = us) (hn1 : n + wordsN ts n = n1) (h1 : isH 60 (ts.drop n1) = true) (h2 : isH 64 (ts.drop (n1 + 1)) = false)
    (hnm : nameG us 0 ok false [] = (ok2, nm))
    (hvs : (ts.drop (n1 + 1)).takeWhile wordK = vs) (hn2 : n1 + 1 + wordsN ts (n1 + 1) = n2)
    (hlc : localG vs 0 (ok2 && !spaceH (ts.drop (n1 + 1))) [] = (ok3, lc, b4)) (hb4 : b4 = true) (h3 : isH 64 (ts.drop n2) = true)
    (hdm : domainG (ts.drop (n2 + 1)) (ok3 && !spaceH (ts.drop n2)) [] = (r4, ok7, dm, b6)) (hb6 : b6 = true) (h4 : isH 62 r4 = true) :
    Calls Tryz.prog 19 #[.pointer (some ⟨pb, 0, none⟩)] w fun x w' => (∃ g, x = .returned (.tuple #[.slice (some ⟨g, 0, none⟩) 1 1, .bool true]) ∧ w'.cell? ⟨g, 0, none⟩ = some (.string (bs nm)) ∧ w'.cell? ⟨g, 1, none⟩ = some (.string (bs (lc ++ [64] ++ dm)))) ∧ (∃ m, r4 = ts.drop m ∧ Par pb tv ts (m + 1) (ok7 && !spaceH r4) w') ∧ Fr (fun b => b ≠ pb ∧ b < w.heap.size) w w' := by
  subst hb4 hb6
  have HP := Lib.hid h; have HTB := Lib.hid hT; have HGB := Lib.hid hgb
  have HUS := Lib.hid hus; have HN1 := Lib.hid hn1; have H1 := Lib.hid h1; have h1k := Lib.hid h1; have H2 := Lib.hid h2; have HNM := Lib.hid hnm; have HVS := Lib.hid hvs; have HN2 := Lib.hid hn2; have HLC := Lib.hid hlc; have H3 := Lib.hid h3; have HDM := Lib.hid hdm; have H4 := Lib.hid h4
  have htl := h.tl
  have hul : tlen us ≤ 4398046511104 := by rw [← hus]; exact Nat.le_trans (tlen_while _ _) (Nat.le_trans (tlen_drop _ _) htl)
  have hvl : tlen vs ≤ 4398046511104 := by rw [← hvs]; exact Nat.le_trans (tlen_while _ _) (Nat.le_trans (tlen_drop _ _) htl)
  have hll : lc.length ≤ 8796093022208 := by
    have h5 := localG_len vs 0 (ok2 && !spaceH (ts.drop (n1 + 1))) []
    rw [hlc] at h5; simp at h5; omega
  have hdl : dm.length ≤ 8796093022208 := by
    have h5 := domainG_len _ (ts.drop (n2 + 1)) (ok3 && !spaceH (ts.drop n2)) [] (Nat.le_refl _)
    have h6 := tlen_drop ts (n2 + 1)
    rw [hdm] at h5; simp at h5; omega
  clear h hT hgb hus hn1 h1 h2 hnm hvs hn2 hlc h3 hdm h4
  go_enter Tryz.func19, Tryz.ntmps19
  go_wp2_with fail
  refine (words_any pb tv ts n ok _ HP.out).mono ?_
  rintro x w1 ⟨⟨v, rfl, hv⟩, hp, hf⟩
  rw [HUS.out] at hv
  rw [HN1.out] at hp
  have HV := Lib.hid hv; have HP1 := Lib.hid hp; have HF1 := Lib.hid hf
  clear hv hp hf
  go_wp2_with fail
  refine (is_any pb tv ts n1 ok 60 _ HP1.out).mono ?_
  rintro x w2 ⟨rfl, m2, rfl⟩
  rw [H1.out]
  have HP2 := Lib.hid (HP1.out.drewN m2)
  have HF2 := Lib.hid (HF1.out.drewN m2)
  have HV2 := Lib.hid (HV.out.fr (w' := w1.drewN m2) (by rw [hsize_drewN]; exact Nat.le_refl _) (fun k _ _ => by rw [heap_drewN]))
  generalize w1.drewN m2 = w2 at HP2 HF2 HV2 ⊢
  clear HP1 HF1 HV H1
  go_wp2_with fail
  refine (name_any pb tv ts us n1 ok v _ HP2.out HV2.out hul (tabs_par HTB.out HF2.out HGB.out) HGB.out).mono ?_
  rintro x w3 ⟨rfl, hp, hf⟩
  rw [HNM.out] at hp ⊢
  have HP3 := Lib.hid hp
  have HF3 := Lib.hid ((HF2.out.mono (fun k (hk : k ≠ pb ∧ k < w.heap.size) => hk.1)).trans (hf.mono (fun k (hk : k ≠ pb ∧ k < w.heap.size) => ⟨hk.1, Nat.lt_of_lt_of_le hk.2 HF2.out.size⟩)))
  clear hp hf HP2 HF2 HV2
  obtain ⟨ab, hab⟩ : ∃ ab, w3.heap.size = ab := ⟨_, rfl⟩
  have HP4 := Lib.hid (HP3.out.frk ((Fr.refl _ w3).alloc (fun k hk => hk) (.cells #[.string (bs nm), .string ⟨#[]⟩] 38)))
  have HF4 := Lib.hid (HF3.out.alloc (fun k hk => Nat.lt_of_lt_of_le hk.2 HF3.out.size) (.cells #[.string (bs nm), .string ⟨#[]⟩] 38))
  have HA4 : Hid ((w3.alloc (.cells #[.string (bs nm), .string ⟨#[]⟩] 38)).heap[ab]? = some (.cells #[.string (bs nm), .string ⟨#[]⟩] 38 (0, 0))) := Lib.hid (by rw [← hab]; exact heap_alloc_new w3 _)
  have hne : ab ≠ pb := fun e => by have := HP3.out.lt; omega
  have habw : w.heap.size ≤ ab := by rw [← hab]; exact HF3.out.size
  have c1 := HP4.out.cells.2.1
  have hfz := HP4.out.frozen 1
  have hn1l : n1 + 1 ≤ ts.length := by
    obtain ⟨t, ht, -⟩ := isH_some h1k.out
    have := (List.getElem?_eq_some_iff.1 ht).1; omega
  have HP5 := Lib.hid (HP4.out.setAt (n1 + 1) hn1l)
  have HF5 := Lib.hid (HF4.out.setCell (p := ⟨pb, 1, none⟩) (fun e => e.1 rfl) (.int .i64 ((n1 + 1 : Nat) : Int)))
  have HA5 := Lib.hid ((Below.heap_setCell (w3.alloc (.cells #[.string (bs nm), .string ⟨#[]⟩] 38)) ⟨pb, 1, none⟩ (.int .i64 ((n1 + 1 : Nat) : Int)) ab hne).trans HA4.out)
  rw [show ((n1 + 1 : Nat) : Int) = (n1 : Int) + 1 by omega] at HP5 HF5 HA5
  clear HP3 HF3 HP4 HF4 HA4
  have hn1b : n1 + 1 ≤ 4398046511104 := Nat.le_trans hn1l HP.out.len
  go_wp2_with fail
  have HW0 := Lib.hid (AW.mk (nm := nm) HP5.out HF5.out HA5.out hne)
  generalize (w3.alloc (.cells #[.string (bs nm), .string ⟨#[]⟩] 38)).setCell ⟨pb, 1, none⟩ (.int .i64 ((n1 : Int) + 1)) = w5 at HW0 ⊢
  clear HP5 HF5 HA5 c1 hfz
  refine (is_any pb tv ts (n1 + 1) ok2 64 _ HW0.out.par).mono ?_
  rintro x w6 ⟨rfl, m6, rfl⟩
  rw [H2.out]
  have HW1 := Lib.hid (HW0.out.drewN m6)
  generalize w5.drewN m6 = w6 at HW1 ⊢
  clear HW0 H2
  go_wp2_with fail
  refine (near_any pb tv ts (n1 + 1) ok2 _ HW1.out.par).mono ?_
  rintro x w7 ⟨rfl, hp, hf⟩
  have HW2 := Lib.hid (HW1.out.step' hp hf)
  clear HW1 hp hf
  go_wp2_with fail
  refine (words_any pb tv ts (n1 + 1) _ _ HW2.out.par).mono ?_
  rintro x w8 ⟨⟨v2, rfl, hv⟩, hp, hf⟩
  rw [HVS.out] at hv
  rw [HN2.out] at hp
  have HV := Lib.hid hv
  have HW3 := Lib.hid (HW2.out.step' hp hf)
  clear HW2 hp hf hv
  go_wp2_with fail
  refine (local_any pb tv ts vs n2 _ v2 _ HW3.out.par HV.out hvl).mono ?_
  rintro x w9 ⟨rfl, hp, hf⟩
  rw [HLC.out] at hp ⊢
  have HW4 := Lib.hid (HW3.out.step hp hf)
  clear HW3 hp hf HV
  go_wp2_with fail
  refine (near_any pb tv ts n2 _ _ HW4.out.par).mono ?_
  rintro x w10 ⟨rfl, hp, hf⟩
  have HW5 := Lib.hid (HW4.out.step' hp hf)
  clear HW4 hp hf
  go_wp2_with fail
  refine (take_yes pb tv ts n2 _ 64 _ HW5.out.par H3.out).mono ?_
  rintro x w11 ⟨rfl, hp, hf⟩
  have HW6 := Lib.hid (HW5.out.step' hp hf)
  clear HW5 hp hf
  go_wp2_with fail
  refine (domain_any pb tv ts (n2 + 1) _ _ HW6.out.par).mono ?_
  rintro x w12 ⟨rfl, ⟨m, hm, hp⟩, hf⟩
  rw [HDM.out] at hp hm ⊢
  obtain rfl : r4 = ts.drop m := congrArg (·.1) hm
  have HW7 := Lib.hid (HW6.out.step' hp hf)
  clear HW6 hp hf hm
  simp only [DRet]
  go_wp2_with fail
  refine (near_any pb tv ts m _ _ HW7.out.par).mono ?_
  rintro x w13 ⟨rfl, hp, hf⟩
  have HW8 := Lib.hid (HW7.out.step' hp hf)
  clear HW7 hp hf
  go_wp2_with fail
  refine (take_yes pb tv ts m _ 62 _ HW8.out.par H4.out).mono ?_
  rintro x w14 ⟨rfl, hp, hf⟩
  have HW9 := Lib.hid (HW8.out.step' hp hf)
  clear HW8 hp hf
  have q1 : (bs lc).size + 1 ≤ 9223372036854775807 := by rw [bs_size]; omega
  have q2 : (bs lc ++ (⟨#[64]⟩ : ByteArray)).size + (bs dm).size ≤ 9223372036854775807 := by
    rw [ByteArray.size_append, bs_size, bs_size]
    show lc.length + 1 + _ ≤ _
    omega
  have k0 : w14.cell? ⟨ab, 0, none⟩ = some (.string (bs nm)) := by rw [Lib.cell_of_heap HW9.out.blk]; rfl
  have k1 : w14.cell? ⟨ab, 1, none⟩ = some (.string ⟨#[]⟩) := by rw [Lib.cell_of_heap HW9.out.blk]; rfl
  have kz : w14.frozen? ⟨ab, 1, none⟩ = false := Lib.frozen_of_heap HW9.out.blk 1
  have hbs : bs (lc ++ [64] ++ dm) = bs lc ++ (⟨#[64]⟩ : ByteArray) ++ bs dm := by rw [← bs_app, ← bs_app]; rfl
  have HBS := Lib.hid hbs
  clear hbs
  obtain ⟨X, hX⟩ : ∃ X, bs lc ++ (⟨#[64]⟩ : ByteArray) ++ bs dm = X := ⟨_, rfl⟩
  have HX := Lib.hid hX
  have hblk : (w14.setCell ⟨ab, 1, none⟩ (.string X)).heap[ab]? = some (.cells #[.string (bs nm), .string X] 38 (0, 0)) := heap_setCell_row HW9.out.blk
  have k0' : (w14.setCell ⟨ab, 1, none⟩ (.string X)).cell? ⟨ab, 0, none⟩ = some (.string (bs nm)) := by rw [Lib.cell_of_heap hblk]; rfl
  have k1' : (w14.setCell ⟨ab, 1, none⟩ (.string X)).cell? ⟨ab, 1, none⟩ = some (.string X) := by rw [Lib.cell_of_heap hblk]; rfl
  have HPUT := Lib.hid (HW9.out.put habw (.string X))
  clear hblk
  go_wp2
  go_ret2
  obtain ⟨hp9, hf9⟩ := HPUT.out
  have hz : (w14.setCell ⟨ab, 1, none⟩ (.string X)).heap.size = w14.heap.size := by simp [World.setCell]
  generalize w14.setCell ⟨ab, 1, none⟩ (.string X) = w15 at hp9 hf9 hz ⊢
  have hnb := heap_alloc_new w15 (.cells #[.string (bs nm), .string X] 38)
  rw [hz] at hnb
  refine ⟨⟨w14.heap.size, rfl, ?_, ?_⟩, ⟨m, rfl, hp9.frk ((Fr.refl _ w15).alloc (fun k hk => hk) _)⟩, hf9.alloc (fun k hk => Nat.lt_of_lt_of_le hk.2 hf9.size) _⟩
  · rw [Lib.cell_of_heap hnb]; rfl
  · rw [Lib.cell_of_heap hnb, HBS.out, HX.out]; rfl
end Go.Proofs.YtpoglombagmhmaaGreatDoor
/- spec.One, on a text of one name and one address in angles: the walk. -/
namespace Go.Proofs.YtpoglombagmhmaaGreatDoor
open Go Go.RowKit

theorem own_base {w : World} {B : Nat} {e : TypeId} {sz n : Nat} {v : Value} {xs : List Value} (h : w.ownsRow B e sz v n xs) : w.ownsRow 0 e sz v n xs := by
  refine ⟨h.1, ?_⟩
  rcases h.2 with h0 | ⟨g, cap, cur, h1, _, h2⟩
  · exact .inl h0
  · exact .inr ⟨g, cap, cur, h1, Nat.zero_le _, h2⟩
set_option maxHeartbeats 4000000 in
set_option maxRecDepth 100000 in
theorem One_plain (s : ByteArray) (ts us vs : List Tok) (last : Bool) (n1 n2 : Nat) (ok2 ok3 ok7 : Bool) (nm lc dm : List UInt8) (r4 : List Tok) (w : World) (hT : Lib.Utf8Tabs 0 1 w) (hs : s.size ≤ 1099511627776)
    (hts : tokensL s.data.toList = .good ts last) (htl : tlen ts ≤ 4398046511104)
    (hus : ts.takeWhile wordK = us) (hn1 : 0 + wordsN ts 0 = n1) (h1 : isH 60 (ts.drop n1) = true) (h2 : isH 64 (ts.drop (n1 + 1)) = false)
    (hnm : nameG us 0 true false [] = (ok2, nm))
    (hvs : (ts.drop (n1 + 1)).takeWhile wordK = vs) (hn2 : n1 + 1 + wordsN ts (n1 + 1) = n2)
    (hlc : localG vs 0 (ok2 && !spaceH (ts.drop (n1 + 1))) [] = (ok3, lc, true)) (h3 : isH 64 (ts.drop n2) = true)
    (hdm : domainG (ts.drop (n2 + 1)) (ok3 && !spaceH (ts.drop n2)) [] = (r4, ok7, dm, true)) (h4 : isH 62 r4 = true) (h5 : r4.length = 1) (h6 : (ok7 && !spaceH r4) = true) :
    Calls Tryz.prog 13 #[.string s] w fun x w' => x = .returned (.tuple #[.agg #[.string (bs nm), .string (bs (lc ++ [64] ++ dm))], .int .i64 0]) ∧ Below w.heap.size w w' := by
  have HTB := Lib.hid hT; have HTS := Lib.hid hts
  have HADR := Lib.hid (fun pb tv W (hp : Par pb tv ts 0 true W) (hT' : Lib.Utf8Tabs 0 1 W) (hg : pb ≠ 0 ∧ pb ≠ 1) => address_plain pb tv ts us vs 0 n1 n2 true ok2 ok3 true true ok7 nm lc dm r4 W hp hT' hg (by rw [List.drop_zero]; exact hus) hn1 h1 h2 hnm hvs hn2 hlc rfl h3 hdm rfl h4)
  have hne : ts ≠ [] := by rintro rfl; simp [isH] at h1
  have H5 := Lib.hid h5; have H6 := Lib.hid h6
  clear hT hts hus hn1 h1 h2 hnm hvs hn2 hlc h3 hdm h4 h5 h6
  have hB1 := (Below.refl w.heap.size w).alloc (Nat.le_refl _) (.cells #[.string ⟨#[]⟩, .string ⟨#[]⟩] 38)
  have hA1 := heap_alloc_new w (.cells #[.string ⟨#[]⟩, .string ⟨#[]⟩] 38)
  have HB1 := Lib.hid hB1; have HA1 := Lib.hid hA1
  have HS1 := Lib.hid (show (w.alloc (.cells #[.string ⟨#[]⟩, .string ⟨#[]⟩] 38)).heap.size = w.heap.size + 1 by simp)
  clear hB1 hA1
  have HTB1 := Lib.hid (Utf8Tabs_below HTB.out HB1.out)
  go_enter Tryz.func13, Tryz.ntmps13
  go_wp2_with fail
  generalize w.alloc (.cells #[.string ⟨#[]⟩, .string ⟨#[]⟩] 38) = w1 at HB1 HA1 HS1 HTB1 ⊢
  refine (tokens_any s _ hs HTB1.out).mono ?_
  rintro x w2 ⟨hx, hb⟩
  rw [HTS.out] at hx
  obtain ⟨tv, rfl, hown⟩ := hx
  have HOWN := Lib.hid hown; have HB2 := Lib.hid hb
  clear hown hb
  obtain ⟨g, cap, rfl, hgB⟩ : ∃ g cap, tv = .slice (some ⟨g, 0, none⟩) ts.length cap ∧ (w1.heap.size ≤ g ∧ g < w2.heap.size) := by
    rcases HOWN.out.2 with ⟨rfl, h0⟩ | ⟨g, cap, cur, rfl, hB, hg, rest⟩
    · exact absurd (List.eq_nil_of_length_eq_zero h0) hne
    · exact ⟨g, cap, rfl, hB, (Array.getElem?_eq_some_iff.1 hg).1⟩
  obtain ⟨pb, hpb⟩ : ∃ pb, w2.heap.size = pb := ⟨_, rfl⟩
  have hP : Par pb (.slice (some ⟨g, 0, none⟩) ts.length cap) ts 0 true (w2.alloc (.cells #[.slice (some ⟨g, 0, none⟩) ts.length cap, .int .i64 0, .bool true] 57)) := by
    refine ⟨?_, ?_, ?_, Nat.zero_le _, htl⟩
    · rw [← hpb]; exact heap_alloc_new w2 _
    · exact World.ownsRow.alloc (own_base HOWN.out) _
    · intro e; simp [Value.ownBlock] at e; omega
  have HP := Lib.hid hP
  have HB3 := Lib.hid (((HB1.out.trans (HB2.out.mono HB1.out.size))).alloc (by have := HB1.out.size; have := HB2.out.size; omega) (.cells #[.slice (some ⟨g, 0, none⟩) ts.length cap, .int .i64 0, .bool true] 57))
  have HA3 := Lib.hid (show (w2.alloc (.cells #[.slice (some ⟨g, 0, none⟩) ts.length cap, .int .i64 0, .bool true] 57)).heap[w.heap.size]? = some (.cells #[.string ⟨#[]⟩, .string ⟨#[]⟩] 38 (0, 0)) from
    (((Below.refl w2.heap.size w2).alloc (Nat.le_refl _) _).block _ (by have := HB2.out.size; have := HS1.out; omega)).trans ((HB2.out.block _ (by have := HS1.out; omega)).trans HA1.out))
  have hpw : w.heap.size < pb := by have := HB2.out.size; have := HS1.out; omega
  have HTB3 := Lib.hid (Utf8Tabs_below HTB.out HB3.out)
  clear hP
  have lt : ∀ {a : Addr} {v : Value}, w.cell? a = some v → a.block < w.heap.size := fun {a v} hc => by
    rcases Nat.lt_or_ge a.block w.heap.size with h' | h'
    · exact h'
    · simp [World.cell?, Array.getElem?_eq_none h'] at hc
  have g0 : 0 < w.heap.size := lt (HTB.out.1 0 (by decide))
  have g1 : 1 < w.heap.size := lt (HTB.out.2 0 (by decide)).1
  have hgn : pb ≠ 0 ∧ pb ≠ 1 := ⟨by omega, by omega⟩
  go_wp2_with fail
  refine (HADR.out pb _ _ HP.out HTB3.out hgn).mono ?_
  rintro x w4 ⟨⟨g9, rfl, k0, k1⟩, ⟨m, hm, hp⟩, hf⟩
  rw [H6.out] at hp
  have hlen : m + 1 = ts.length := by
    have h7 := H5.out
    rw [hm, List.length_drop] at h7; omega
  have hlt : ¬ ((m + 1 : Nat) : Int) < (ts.length : Int) := by omega
  obtain ⟨p0, p1, p2⟩ := hp.cells
  have hA4 : w4.heap[w.heap.size]? = some (.cells #[.string ⟨#[]⟩, .string ⟨#[]⟩] 38 (0, 0)) :=
    (hf.block _ ⟨by omega, by rw [World.size_alloc]; omega⟩).trans HA3.out
  have e0 : w4.cell? ⟨w.heap.size, 0, none⟩ = some (.string ⟨#[]⟩) := by rw [Lib.cell_of_heap hA4]; rfl
  have e1 : w4.cell? ⟨w.heap.size, 1, none⟩ = some (.string ⟨#[]⟩) := by rw [Lib.cell_of_heap hA4]; rfl
  have f0 : w4.frozen? ⟨w.heap.size, 0, none⟩ = false := Lib.frozen_of_heap hA4 0
  have f1 : w4.frozen? ⟨w.heap.size, 1, none⟩ = false := Lib.frozen_of_heap hA4 1
  have HB4 := Lib.hid (HB3.out.trans ((hf.mono (fun k (hk : k < w.heap.size) => ⟨by omega, by rw [World.size_alloc]; omega⟩)).below))
  have HA4 := Lib.hid hA4
  rw [hlen] at p1
  have hlt2 : ¬ (ts.length : Int) < (ts.length : Int) := by omega
  clear hm hp hf hlen hlt hA4 lt
  go_wp2
  have hX : lc ++ 64 :: dm = lc ++ [64] ++ dm := by simp
  obtain ⟨X, hXX⟩ : ∃ X, bs (lc ++ 64 :: dm) = X := ⟨_, rfl⟩
  have hXY : bs (lc ++ [64] ++ dm) = X := by rw [← hX]; exact hXX
  rw [hXX]
  have hb5 : ((w4.setCell ⟨w.heap.size, 0, none⟩ (.string (bs nm))).setCell ⟨w.heap.size, 1, none⟩ (.string X)).heap[w.heap.size]? = some (.cells #[.string (bs nm), .string X] 38 (0, 0)) := heap_setCell_row (heap_setCell_row HA4.out)
  have hbel : Below w.heap.size w ((w4.setCell ⟨w.heap.size, 0, none⟩ (.string (bs nm))).setCell ⟨w.heap.size, 1, none⟩ (.string X)) :=
    (((Fr.of_below HB4.out).setCell (p := ⟨w.heap.size, 0, none⟩) (Nat.lt_irrefl _) _).setCell (p := ⟨w.heap.size, 1, none⟩) (Nat.lt_irrefl _) _).below
  generalize (w4.setCell ⟨w.heap.size, 0, none⟩ (.string (bs nm))).setCell ⟨w.heap.size, 1, none⟩ (.string X) = w9 at hb5 hbel ⊢
  have u0 : w9.cell? ⟨w.heap.size, 0, none⟩ = some (.string (bs nm)) := by rw [Lib.cell_of_heap hb5]; rfl
  have u1 : w9.cell? ⟨w.heap.size, 1, none⟩ = some (.string X) := by rw [Lib.cell_of_heap hb5]; rfl
  (try simp only [Exit.inBlock, Exit.then])
  refine bodyPost_ret (v := .tuple #[.agg #[.string (bs nm), .string X], .int .i64 0]) ?_ rfl ⟨by rw [hXY], hbel⟩
  rw [results_cell_tmp rfl]
  go_simp
end Go.Proofs.YtpoglombagmhmaaGreatDoor
