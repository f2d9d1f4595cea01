/- spec.parser: name: what it computes; the walk. -/
import Derived.Test.YtmcjmmcamelmcaaGreatDoorV5
import Derived.Test.YtmcjmmcamelmcaaGreatDoorP4
import Derived.Deep.Cut
namespace Go.Proofs.YtmcjmmcamelmcaaGreatDoor
open Go Go.RowKit

def nBad (k : Nat) (t : Tok) : Bool := t.kind == 46 || (decide (0 < k) && !t.space) || (t.kind == 113 && decide (t.text = []))
def nCode (t : Tok) : Bool := t.kind == 97 && markedL t.text
def nText (t : Tok) : List UInt8 := if nCode t then (decodedL t.text true).getD [] else t.text
def nDec (t : Tok) : Bool := !(nCode t && (decodedL t.text true).isNone)
/-- Words as a name: no obsolete form, the text. -/
def nameG : List Tok → Nat → Bool → Bool → List UInt8 → Bool × List UInt8
  | [], _, ok, _, out => (ok, out)
  | t :: r, k, ok, coded, out => nameG r (k + 1) (ok && !nBad k t && nDec t) (nCode t) (out ++ (if decide (0 < k) && !(coded && nCode t) then [32] else []) ++ nText t)

theorem textC_len {a b t : List UInt8} (h : textC a b = some t) : t.length ≤ 2 * b.length := by
  unfold textC at h
  split at h
  · split at h
    · cases h; omega
    · cases h
  · split at h
    · cases h; exact latin_len b
    · split at h
      · split at h
        · cases h; omega
        · cases h
      · cases h
theorem decodedL_len {l t : List UInt8} {p : Bool} (h : decodedL l p = some t) : t.length ≤ 2 * l.length := by
  unfold decodedL at h
  split at h
  · cases h
  · have hx : ∀ x ∈ splitQ ((l.take (l.length - 2)).drop 2), x.length ≤ l.length := fun x hx => by
      have := splitQ_mem _ x hx
      rw [List.length_drop, List.length_take] at this; omega
    generalize splitQ ((l.take (l.length - 2)).drop 2) = ps at h hx
    unfold partsC at h
    split at h
    · rename_i a m b
      split at h
      · cases h
      · obtain ⟨c, hc, ht⟩ := Option.bind_eq_some_iff.1 h
        have h1 := bytesC_len hc
        have h2 := textC_len ht
        have h3 := hx b (by simp)
        omega
    · cases h
theorem nText_len (t : Tok) : (nText t).length ≤ 2 * t.text.length := by
  unfold nText
  split
  · cases h : decodedL t.text true with
    | none => simp
    | some x => exact decodedL_len h
  · omega
theorem nameG_step {us : List Tok} {k : Nat} {t : Tok} (ok coded : Bool) (out : List UInt8) (h : us[k]? = some t) : nameG (us.drop k) k ok coded out = nameG (us.drop (k + 1)) (k + 1) (ok && !nBad k t && nDec t) (nCode t) (out ++ (if decide (0 < k) && !(coded && nCode t) then [32] else []) ++ nText t) := by
  rw [drop_head h, nameG]

/-- The world of a round: the parser, the words, and the word at hand in block ab. -/
structure NW (pb : Nat) (tv : Value) (ts us : List Tok) (n : Nat) (v : Value) (w : World) (ab : Nat) (t : Tok) (ok : Bool) (wx : World) : Prop where
  par : Par pb tv ts n ok wx
  view : TView pb us v wx
  fr : Fr (fun b => b ≠ pb ∧ b < w.heap.size) w wx
  blk : wx.heap[ab]? = some (.cells #[.int .u8 t.kind.toNat, .string (bs t.text), .bool t.space] 63 (0, 0))
  ne : ab ≠ pb
theorem NW.lt {pb : Nat} {tv : Value} {ts us : List Tok} {n : Nat} {v : Value} {w : World} {ab : Nat} {t : Tok} {ok : Bool} {wx : World} (h : NW pb tv ts us n v w ab t ok wx) : ab < wx.heap.size := (Array.getElem?_eq_some_iff.1 h.blk).1
theorem NW.more {pb : Nat} {tv : Value} {ts us : List Tok} {n : Nat} {v : Value} {w : World} {ab : Nat} {t : Tok} {ok : Bool} {wx wy : World} (h : NW pb tv ts us n v w ab t ok wx) (hf : Fr (· < wx.heap.size) wx wy) : NW pb tv ts us n v w ab t ok wy :=
  ⟨h.par.frk hf, h.view.fr hf.size (fun k _ hk => hf.block k hk), h.fr.trans (hf.mono (fun _ hk => Nat.lt_of_lt_of_le hk.2 h.fr.size)), (hf.block ab h.lt).trans h.blk, h.ne⟩
theorem NW.drewN {pb : Nat} {tv : Value} {ts us : List Tok} {n : Nat} {v : Value} {w : World} {ab : Nat} {t : Tok} {ok : Bool} {wx : World} (h : NW pb tv ts us n v w ab t ok wx) (q : Nat) : NW pb tv ts us n v w ab t ok (wx.drewN q) := h.more ((Fr.refl _ wx).drewN q)
theorem NW.bad {pb : Nat} {tv : Value} {ts us : List Tok} {n : Nat} {v : Value} {w : World} {ab : Nat} {t : Tok} {ok : Bool} {wx : World} (h : NW pb tv ts us n v w ab t ok wx) (b : Bool) : NW pb tv ts us n v w ab t b (wx.setCell ⟨pb, 2, none⟩ (.bool b)) :=
  ⟨h.par.setOk b, h.view.fr (by simp [World.setCell]) (fun k hk _ => Below.heap_setCell _ ⟨pb, 2, none⟩ _ k hk), h.fr.setCell (p := ⟨pb, 2, none⟩) (fun e => e.1 rfl) _, (Below.heap_setCell _ ⟨pb, 2, none⟩ _ ab h.ne).trans h.blk, h.ne⟩
theorem NW.cells {pb : Nat} {tv : Value} {ts us : List Tok} {n : Nat} {v : Value} {w : World} {ab : Nat} {t : Tok} {ok : Bool} {wx : World} (h : NW pb tv ts us n v w ab t ok wx) : wx.cell? ⟨ab, 0, none⟩ = some (.int .u8 t.kind.toNat) ∧ wx.cell? ⟨ab, 1, none⟩ = some (.string (bs t.text)) ∧ wx.cell? ⟨ab, 2, none⟩ = some (.bool t.space) := by
  refine ⟨?_, ?_, ?_⟩ <;> rw [Lib.cell_of_heap h.blk] <;> rfl

theorem tabs_frk {K : Nat → Prop} {g3 g4 : Nat} {w w' : World} (h : Lib.Utf8Tabs g3 g4 w) (hf : Fr K w w') (h3 : g3 < w.heap.size → K g3) (h4 : g4 < w.heap.size → K g4) : Lib.Utf8Tabs g3 g4 w' := by
  have lt : ∀ {a : Addr} {v : Value}, w.cell? a = some v → a.block < w.heap.size := fun {a v} hc => by
    rcases Nat.lt_or_ge a.block w.heap.size with h' | h'
    · exact h'
    · simp [World.cell?, Array.getElem?_eq_none h'] at hc
  exact ⟨fun c hc => (hf.cell (h3 (lt (h.1 c hc)))).trans (h.1 c hc), fun i hi => ⟨(hf.cell (h4 (lt (h.2 i hi).1))).trans (h.2 i hi).1, (hf.cell (h4 (lt (h.2 i hi).2))).trans (h.2 i hi).2⟩⟩
def NmRel (pb : Nat) (tv : Value) (ts us : List Tok) (n : Nat) (ok : Bool) (v : Value) (w : World) (o c i : Value) (wr : World) : Prop :=
  ∃ k ok' coded out, o = .string (bs out) ∧ c = .bool coded ∧ i = .int .i64 (k : Nat) ∧ k ≤ us.length ∧ nameG us 0 ok false [] = nameG (us.drop k) k ok' coded out ∧ out.length ≤ 2 * tlen (us.take k) ∧ Par pb tv ts n ok' wr ∧ TView pb us v wr ∧ Fr (fun b => b ≠ pb ∧ b < w.heap.size) w wr

set_option maxHeartbeats 4000000 in
set_option maxRecDepth 100000 in
theorem name_any (pb : Nat) (tv : Value) (ts us : List Tok) (n : Nat) (ok : Bool) (v : Value) (w : World) (h : Par pb tv ts n ok w) (hv : TView pb us v w) (hus : tlen us ≤ 4398046511104) (hT : Lib.Utf8Tabs 0 1 w) (hgb : pb ≠ 0 ∧ pb ≠ 1) :
    Calls Tryz.prog 25 #[.pointer (some ⟨pb, 0, none⟩), v] w fun x w' => x = .returned (.string (bs (nameG us 0 ok false []).2)) ∧ Par pb tv ts n (nameG us 0 ok false []).1 w' ∧ Fr (fun b => b ≠ pb ∧ b < w.heap.size) w w' := by
  have hv0 := hv
  obtain ⟨a, cap, rfl, hc1, hc2, hc3⟩ := hv
  have HP := Lib.hid h; have HV := Lib.hid hv0; have HTB := Lib.hid hT; have HGB := Lib.hid hgb
  clear h hv0 hc3 hT hgb
  obtain ⟨N, hN⟩ : ∃ N, us.length = N := ⟨_, rfl⟩
  have HN := Lib.hid hN
  rw [hN] at hc1 hc2 ⊢
  rw [hN] at HV
  clear hN
  go_enter Tryz.func25, Tryz.ntmps25
  go_wp2
  go_loopw [5, 6, 14] (fun o c i wr => NmRel pb tv ts us n ok (.slice a N cap) w o c i wr) (fun _ _ i _ => N - (intOf i).toNat)
  case atStart => exact ⟨0, ok, false, [], rfl, rfl, rfl, Nat.zero_le _, rfl, Nat.zero_le _, HP.out, HV.out, Fr.refl _ _⟩
  case round =>
    obtain ⟨k, ok', coded, out, rfl, rfl, rfl, hk, heq, hol, hp, hvw, hF⟩ := hrel
    rw [HN.out] at hk
    by_cases hlt : k < N
    · obtain ⟨t, ht⟩ : ∃ t, us[k]? = some t := ⟨_, List.getElem?_eq_getElem (by rw [HN.out]; exact hlt)⟩
      obtain ⟨g, o, rfl, hg, hgp, hc⟩ : ∃ g o, a = some ⟨g, o, none⟩ ∧ g < wr.heap.size ∧ g ≠ pb ∧ (wr.cell? ⟨g, o + k * 3, none⟩ = some (.int .u8 t.kind.toNat) ∧ wr.cell? ⟨g, o + k * 3 + 1, none⟩ = some (.string (bs t.text)) ∧ wr.cell? ⟨g, o + k * 3 + 2, none⟩ = some (.bool t.space)) := by
        obtain ⟨a', cap', hv, _, _, h3⟩ := hvw
        cases hv
        obtain ⟨g, o, ha, hg, hgp, hc⟩ := h3 (fun e => by rw [e] at ht; simp at ht)
        exact ⟨g, o, ha, hg, hgp, hc k t ht⟩
      obtain ⟨d0, d1, d2⟩ := hc
      rw [nameG_step ok' coded out ht] at heq
      have hsn := tlen_snoc ht
      have hkN : (k : Int) < (N : Int) := by omega
      have hpb : wr.heap.size ≠ pb := fun e => by have := hp.lt; omega
      obtain ⟨T, hT⟩ : ∃ T : Obj, .cells #[.int .u8 t.kind.toNat, .string (bs t.text), .bool t.space] 63 = T := ⟨_, rfl⟩
      have HW := Lib.hid (show NW pb tv ts us n (.slice (some ⟨g, o, none⟩) N cap) w wr.heap.size t ok' (wr.alloc (.cells #[.int .u8 t.kind.toNat, .string (bs t.text), .bool t.space] 63)) from
        ⟨hp.frk ((Fr.refl _ wr).alloc (fun k hk => hk) _), hvw.fr (by simp) (fun k _ hk => Below.heap_alloc _ _ _ hk), hF.alloc (fun k hk => Nat.lt_of_lt_of_le hk.2 hF.size) _, heap_alloc_new wr _, hpb⟩)
      have HEQ := Lib.hid heq; have HT := Lib.hid ht; have HSN := Lib.hid hsn; have HOL := Lib.hid hol
      clear heq ht hsn hol hp hvw hF hT
      go_upto_region 6 with fail
      generalize wr.alloc (.cells #[.int .u8 t.kind.toNat, .string (bs t.text), .bool t.space] 63) = w1 at HW ⊢
      generalize wr.heap.size = ab at HW ⊢
      clear d0 d1 d2
      go_cut [42] from 21 to 42 (fun c wx => c = .bool (nBad k t) ∧ NW pb tv ts us n (.slice (some ⟨g, o, none⟩) N cap) w ab t ok' wx)
      case first =>
        obtain ⟨e0, e1, e2⟩ := HW.out.cells
        obtain ⟨X, hX⟩ : ∃ X, bs t.text = X := ⟨_, rfl⟩
        have HX := Lib.hid (show X.toList = t.text by rw [← hX, toL, bs_list])
        rw [hX] at e1
        clear hX
        by_cases h46 : t.kind = 46
        · have t46 : ((t.kind.toNat : Int) == 46) = true := ceq h46
          have HB := Lib.hid (show nBad k t = true by unfold nBad; simp [h46])
          clear h46
          go_wp2
          go_meet
          exact ⟨by rw [HB.out], HW.out⟩
        · have t46 : ((t.kind.toNat : Int) == 46) = false := cneq h46
          obtain ⟨sp, hsp⟩ : ∃ sp, t.space = sp := ⟨_, rfl⟩
          rw [hsp] at e2
          have hk0 : (0 < k ∧ sp = false) ∨ (nBad k t = (t.kind == 113 && decide (t.text = [])) ∧ ((k = 0) ∨ (0 < k ∧ sp = true))) := by
            rcases Nat.eq_zero_or_pos k with h | h
            · refine .inr ⟨?_, .inl h⟩
              unfold nBad; rw [h, beq_eq_false_iff_ne.2 h46]; simp
            · cases hq : sp
              · exact .inl ⟨h, rfl⟩
              · refine .inr ⟨?_, .inr ⟨h, rfl⟩⟩
                unfold nBad; rw [hsp, hq, beq_eq_false_iff_ne.2 h46]; simp
          rcases hk0 with ⟨h0, rfl⟩ | ⟨hB, h0⟩
          · have z0 : (0 : Int) < (k : Int) := by omega
            have z1 : decide ((0 : Int) < (k : Int)) = true := decide_eq_true z0
            have HB := Lib.hid (show nBad k t = true by unfold nBad; rw [hsp]; simp [h0])
            clear h46 hsp h0
            go_wp2
            go_meet
            exact ⟨by rw [HB.out], HW.out⟩
          · by_cases h113 : t.kind = 113
            · have t113 : ((t.kind.toNat : Int) == 113) = true := ceq h113
              by_cases hx : t.text = []
              · have u5 : (X.toList == []) = true := by rw [HX.out, hx]; rfl
                have HB := Lib.hid (show nBad k t = true by rw [hB, h113, hx]; rfl)
                clear h113 hx hB h46 hsp
                rcases h0 with h0 | ⟨h0, rfl⟩
                · have z0 : ¬ (0 : Int) < (k : Int) := by omega
                  have z1 : decide ((0 : Int) < (k : Int)) = false := decide_eq_false z0
                  clear h0
                  go_wp2
                  go_meet
                  exact ⟨by rw [HB.out], HW.out⟩
                · have z0 : (0 : Int) < (k : Int) := by omega
                  have z1 : decide ((0 : Int) < (k : Int)) = true := decide_eq_true z0
                  clear h0
                  go_wp2
                  go_meet
                  exact ⟨by rw [HB.out], HW.out⟩
              · have u5 : (X.toList == []) = false := by rw [beq_eq_false_iff_ne, HX.out]; exact hx
                have HB := Lib.hid (show nBad k t = false by rw [hB, decide_eq_false hx, Bool.and_false])
                clear h113 hx hB h46 hsp
                rcases h0 with h0 | ⟨h0, rfl⟩
                · have z0 : ¬ (0 : Int) < (k : Int) := by omega
                  have z1 : decide ((0 : Int) < (k : Int)) = false := decide_eq_false z0
                  clear h0
                  go_wp2
                  go_meet
                  exact ⟨by rw [HB.out], HW.out⟩
                · have z0 : (0 : Int) < (k : Int) := by omega
                  have z1 : decide ((0 : Int) < (k : Int)) = true := decide_eq_true z0
                  clear h0
                  go_wp2
                  go_meet
                  exact ⟨by rw [HB.out], HW.out⟩
            · have t113 : ((t.kind.toNat : Int) == 113) = false := cneq h113
              have HB := Lib.hid (show nBad k t = false by rw [hB, beq_eq_false_iff_ne.2 h113, Bool.false_and])
              clear h113 hB h46 hsp
              rcases h0 with h0 | ⟨h0, rfl⟩
              · have z0 : ¬ (0 : Int) < (k : Int) := by omega
                have z1 : decide ((0 : Int) < (k : Int)) = false := decide_eq_false z0
                clear h0
                go_wp2
                go_meet
                exact ⟨by rw [HB.out], HW.out⟩
              · have z0 : (0 : Int) < (k : Int) := by omega
                have z1 : decide ((0 : Int) < (k : Int)) = true := decide_eq_true z0
                clear h0
                go_wp2
                go_meet
                exact ⟨by rw [HB.out], HW.out⟩
      case rest =>
        obtain ⟨rfl, hnw⟩ := hcut
        have HW2 := Lib.hid hnw
        clear hnw HW
        go_upto_if 42 with fail
        go_cut [] from 42 to 45 (fun wx => NW pb tv ts us n (.slice (some ⟨g, o, none⟩) N cap) w ab t (ok' && !nBad k t) wx)
        case first =>
          cases hB : nBad k t with
          | true =>
            have HNW := Lib.hid (HW2.out.bad false)
            have hfz := HW2.out.par.frozen 2
            have e2 := HW2.out.par.cells.2.2
            go_wp2
            go_meet
            rw [hB, Bool.not_true, Bool.and_false]
            exact HNW.out
          | false =>
            go_wp2
            go_meet
            rw [hB, Bool.not_false, Bool.and_true]
            exact HW2.out
        case rest =>
          have HW3 := Lib.hid hcut
          clear hcut HW2
          obtain ⟨e0, e1, e2⟩ := HW3.out.cells
          have htl : t.text.length ≤ 4398046511104 := by
            have h1 := HSN.out
            have h2 := tlen_take us (k + 1)
            omega
          go_upto_region 8 with fail
          go_cut [53] from 46 to 53 (fun c wx => c = .bool (nCode t) ∧ NW pb tv ts us n (.slice (some ⟨g, o, none⟩) N cap) w ab t (ok' && !nBad k t) wx)
          case first =>
            have HMK := Lib.hid (fun W => Marked_any (bs t.text) W (by rw [bs_size]; omega))
            by_cases h97 : t.kind = 97
            · have t97 : ((t.kind.toNat : Int) == 97) = true := ceq h97
              have HB := Lib.hid (show nCode t = markedL t.text by unfold nCode; rw [h97]; rfl)
              clear h97
              go_wp2_with fail
              refine (HMK.out _).mono ?_
              rintro x w2 ⟨rfl, rfl⟩
              go_wp2
              go_meet
              exact ⟨by rw [HB.out, bs_list], HW3.out⟩
            · have t97 : ((t.kind.toNat : Int) == 97) = false := cneq h97
              have HB := Lib.hid (show nCode t = false by unfold nCode; rw [beq_eq_false_iff_ne.2 h97, Bool.false_and])
              clear h97
              go_wp2
              go_meet
              exact ⟨by rw [HB.out], HW3.out⟩
          case rest =>
            obtain ⟨rfl, hnw⟩ := hcut
            have HW4 := Lib.hid hnw
            clear hnw HW3 e0 e1 e2
            go_upto_if 53 with fail
            go_cut [9, 10] from 53 to 64 (fun x c wx => x = .string (bs (nText t)) ∧ c = .bool (nCode t) ∧ NW pb tv ts us n (.slice (some ⟨g, o, none⟩) N cap) w ab t (ok' && !nBad k t && nDec t) wx)
            case first =>
              cases hC : nCode t with
              | true =>
                obtain ⟨e0, e1, e2⟩ := HW4.out.cells
                have HTB4 : Lib.Utf8Tabs 0 1 wc := tabs_frk (K := fun b => b ≠ pb ∧ b < w.heap.size) HTB.out HW4.out.fr (fun h => ⟨fun e => HGB.out.1 e.symm, h⟩) (fun h => ⟨fun e => HGB.out.2 e.symm, h⟩)
                have HDC := Lib.hid (Decoded_any (bs t.text) true wc HTB4)
                rw [bs_list] at HDC
                clear HTB4
                have HCC := Lib.hid hC
                clear hC
                go_wp2_with fail
                refine HDC.out.mono ?_
                rintro x w5 ⟨rfl, hb5⟩
                have HW5 := Lib.hid (HW4.out.more (Fr.of_below hb5))
                clear hb5
                cases hD : decodedL t.text true with
                | none =>
                  have HD := Lib.hid hD
                  have HNW := Lib.hid (HW5.out.bad false)
                  have hfz := HW5.out.par.frozen 2
                  have e2 := HW5.out.par.cells.2.2
                  simp only [DcRet]
                  go_wp2
                  go_meet
                  refine ⟨by unfold nText; rw [HCC.out, HD.out]; rfl, by rw [HCC.out], ?_⟩
                  rw [show nDec t = false by unfold nDec; rw [HCC.out, HD.out]; rfl, Bool.and_false]
                  exact HNW.out
                | some y =>
                  have HD := Lib.hid hD
                  simp only [DcRet]
                  go_wp2
                  go_meet
                  refine ⟨by unfold nText; rw [HCC.out, HD.out]; rfl, by rw [HCC.out], ?_⟩
                  rw [show nDec t = true by unfold nDec; rw [HCC.out, HD.out]; rfl, Bool.and_true]
                  exact HW5.out
              | false =>
                have HCC := Lib.hid hC
                go_wp2
                go_meet
                refine ⟨by unfold nText; rw [HCC.out]; rfl, by rw [HCC.out], ?_⟩
                rw [show nDec t = true by unfold nDec; rw [HCC.out]; rfl, Bool.and_true]
                exact HW4.out
            case rest =>
              obtain ⟨rfl, rfl, hnw⟩ := hcut
              have HW5 := Lib.hid hnw
              clear hnw HW4
              go_upto_region 14 with fail
              go_cut [73] from 65 to 73 (fun c wx => c = .bool (decide (0 < k) && !(coded && nCode t)) ∧ NW pb tv ts us n (.slice (some ⟨g, o, none⟩) N cap) w ab t (ok' && !nBad k t && nDec t) wx)
              case first =>
                rcases Nat.eq_zero_or_pos k with h0 | h0
                · have z0 : ¬ (0 : Int) < (k : Int) := by omega
                  have z1 : decide ((0 : Int) < (k : Int)) = false := decide_eq_false z0
                  have HK := Lib.hid (show decide (0 < k) = false from decide_eq_false (by omega))
                  clear h0
                  go_wp2
                  go_meet
                  exact ⟨by rw [HK.out]; rfl, HW5.out⟩
                · have z0 : (0 : Int) < (k : Int) := by omega
                  have z1 : decide ((0 : Int) < (k : Int)) = true := decide_eq_true z0
                  have HK := Lib.hid (show decide (0 < k) = true from decide_eq_true h0)
                  clear h0
                  cases coded with
                  | false =>
                    go_wp2
                    go_meet
                    exact ⟨by rw [HK.out]; rfl, HW5.out⟩
                  | true =>
                    go_wp2
                    go_meet
                    exact ⟨by rw [HK.out]; rfl, HW5.out⟩
              case rest =>
                obtain ⟨rfl, hnw⟩ := hcut
                have HW6 := Lib.hid hnw
                clear hnw HW5
                have hol := HOL.out
                have hnl := nText_len t
                have hsn := HSN.out
                have htk1 := tlen_take us (k + 1)
                cases hF : (decide (0 < k) && !(coded && nCode t)) with
                | true =>
                  have HFT := Lib.hid hF
                  have q1 : (bs out).size + 1 ≤ 9223372036854775807 := by rw [bs_size]; omega
                  have q2 : (bs out ++ (⟨#[32]⟩ : ByteArray)).size + (bs (nText t)).size ≤ 9223372036854775807 := by
                    rw [ByteArray.size_append, bs_size, bs_size]
                    show out.length + 1 + _ ≤ _
                    omega
                  clear hF
                  go_wp2
                  go_roundw
                  case rel =>
                    refine ⟨k + 1, _, _, out ++ [32] ++ nText t, by rw [← bs_app, ← bs_app]; rfl, rfl, by go_num, by rw [HN.out]; omega, ?_, ?_, HW6.out.par, HW6.out.view, HW6.out.fr⟩
                    · rw [HEQ.out, HFT.out]; rfl
                    · simp; omega
                  case measure => simp [intOf]; omega
                | false =>
                  have HFT := Lib.hid hF
                  have q2 : (bs out).size + (bs (nText t)).size ≤ 9223372036854775807 := by
                    rw [bs_size, bs_size]; omega
                  clear hF
                  go_wp2
                  go_roundw
                  case rel =>
                    refine ⟨k + 1, _, _, out ++ nText t, by rw [← bs_app], rfl, by go_num, by rw [HN.out]; omega, ?_, ?_, HW6.out.par, HW6.out.view, HW6.out.fr⟩
                    · rw [HEQ.out, HFT.out]; simp
                    · simp; omega
                  case measure => simp [intOf]; omega
    · have hkN : k = us.length := by rw [HN.out]; omega
      have z0 : ¬ (k : Int) < (N : Int) := by omega
      have hd : us.drop k = [] := List.drop_eq_nil_of_le (by omega)
      rw [hd, nameG] at heq
      have HEQ := Lib.hid heq; have HPM := Lib.hid hp; have HF := Lib.hid hF
      clear heq hp hF hd hvw hkN
      go_wp2
      go_ret
      rw [HEQ.out]
      exact ⟨rfl, HPM.out, HF.out⟩
end Go.Proofs.YtmcjmmcamelmcaaGreatDoor
