/- DecodeHeader, on encoded words: the walk. -/
import Derived.Test.YtciejdaifjbjdaaDoorWrd
namespace Go.Proofs.YtciejdaifjbjdaaDoor
open Go Go.RowKit

theorem ext_end {h : ByteArray} {X Y : List UInt8} {k : Nat} (hl : h.data.toList = X ++ Y) (hk : X.length = k) : (h.extract k h.size).data.toList = Y := by
  have hz : h.size = X.length + Y.length := by rw [← List.length_append, ← hl, Array.length_toList]; rfl
  rw [hz, ← hk, extract_list, hl, List.drop_left, List.take_length]
theorem ext_mid {h : ByteArray} {X Y Z : List UInt8} {k m : Nat} (hl : h.data.toList = X ++ (Y ++ Z)) (hk : X.length = k) (hm : k + Y.length = m) : (h.extract k m).data.toList = Y := by
  rw [← hm, ← hk, extract_list, hl, List.drop_left, List.take_left]
theorem ba_eq {a b : ByteArray} (h : a.data.toList = b.data.toList) : a = b := by
  cases a; cases b; simp at h; rw [h]

/-- What a round of DecodeHeader finds. -/
structure Found (h : ByteArray) (e : UInt8) (w R : List UInt8) (p L : Nat) : Prop where
  size : h.size = p + 12 + L + R.length
  start : ∀ r, FirstAt [61, 63] h.data.toList r → r = p
  mark : ∀ r, FirstAt [63] (h.extract (p + 2) h.size).data.toList r → r = 5
  charset : h.extract (p + 2) (p + 7) = utf8B
  enc : ∀ hh : p + 8 < h.size, h[p + 8] = e
  mark2 : ∀ hh : p + 9 < h.size, h[p + 9] = 63
  stop : ∀ r, FirstAt [63, 61] (h.extract (p + 10) h.size).data.toList r → r = L
  text : (h.extract (p + 10) (p + 10 + L)).data.toList = w
  rest : (h.extract (p + 12 + L) h.size).data.toList = R

theorem found (h : ByteArray) (e : UInt8) (pre w R : List UInt8) (hp : ∀ x ∈ pre, x ≠ 61) (hw : ∀ x ∈ w, x ≠ 63) (hl : h.data.toList = pre ++ ([61, 63] ++ (utf8S ++ ([63, e, 63] ++ (w ++ [63, 61]))) ++ R)) : Found h e w R pre.length w.length := by
  have hz : h.size = pre.length + 12 + w.length + R.length := by
    have h1 : h.size = h.data.toList.length := by rw [Array.length_toList]; rfl
    rw [h1, hl]
    simp [utf8S]
    omega
  have h2 : h.data.toList = (pre ++ [61, 63]) ++ (utf8S ++ ([63, e, 63] ++ (w ++ [63, 61])) ++ R) := by rw [hl]; simp
  have h3 : h.data.toList = (pre ++ [61, 63] ++ utf8S ++ [63, e, 63]) ++ (w ++ ([63, 61] ++ R)) := by rw [hl]; simp
  have h4 : h.data.toList = (pre ++ [61, 63] ++ utf8S ++ [63, e, 63] ++ w ++ [63, 61]) ++ R := by rw [hl]; simp
  have at_ : ∀ (k : Nat) (x : UInt8), h.data.toList[k]? = some x → ∀ hh : k < h.size, h[k] = x := by
    intro k x hx hh
    obtain ⟨_, h1⟩ := List.getElem?_eq_some_iff.1 hx
    rw [← h1, ByteArray.getElem_eq_getElem_data]; simp
  refine ⟨hz, fun r hr => ?_, fun r hr => ?_, ?_, at_ _ _ ?_, at_ _ _ ?_, fun r hr => ?_, ?_, ?_⟩
  · rw [hl] at hr
    exact FirstAt.after (a := 61) (p := [63]) (X := pre) (Y := utf8S ++ ([63, e, 63] ++ (w ++ [63, 61])) ++ R) (by simpa using hr) hp
  · rw [ext_end h2 (by simp)] at hr
    exact FirstAt.after (a := 63) (p := []) (X := utf8S) (Y := [e, 63] ++ (w ++ [63, 61]) ++ R) (by simpa using hr) (by decide)
  · refine ba_eq ?_
    rw [ext_mid (X := pre ++ [61, 63]) (Y := utf8S) (Z := [63, e, 63] ++ (w ++ [63, 61]) ++ R) (by rw [hl]; simp) (by simp) (by simp [utf8S])]
    rfl
  · rw [hl, List.getElem?_append_right (by omega), Nat.add_sub_cancel_left]; rfl
  · rw [hl, List.getElem?_append_right (by omega), Nat.add_sub_cancel_left]; rfl
  · rw [ext_end h3 (by simp [utf8S])] at hr
    exact FirstAt.after (a := 63) (p := [61]) (X := w) (Y := R) hr hw
  · exact ext_mid h3 (by simp [utf8S]) rfl
  · exact ext_end h4 (by simp [utf8S]; omega)

def strLen : Value → Nat | .string h => h.size | _ => 0

/-- Where the loop of DecodeHeader stands. -/
def DHRel (e : UInt8) (f : List UInt8 → List UInt8) (cs : List (List UInt8)) (b : Nat) (K : Nat → Prop) (w : World) (hv r4 r5 bw : Value) (wr : World) : Prop :=
  ∃ (h : ByteArray) (done rest : List (List UInt8)) (q : Bool), hv = .string h ∧ r4 = .string ⟨#[]⟩ ∧ r5 = .nilIface ∧ bw = .bool q ∧ done ++ rest = cs ∧ h.data.toList = txtE e f q rest ∧ h.size ≤ 1048576 ∧ Bld b K done.flatten wr ∧ Fr K w wr

/-- What decode answers at a word. -/
def DecOk (e : UInt8) (f : List UInt8 → List UInt8) (c : List UInt8) : Prop :=
  ∀ (s : ByteArray) (w : World), s.data.toList = f c → s.size ≤ 1048576 → Calls Tryd.prog 37 #[.int .u8 e.toNat, .string s] w fun x w' => ∃ g cap l, x = .returned (.tuple #[.slice (some ⟨g, 0, none⟩) c.length cap, .nilIface]) ∧ w.heap.size ≤ g ∧ c.length ≤ cap ∧ Row g l w' ∧ l.take c.length = c ∧ Below w.heap.size w w'

set_option maxHeartbeats 4000000 in
set_option maxRecDepth 100000 in
theorem DecodeHeader_words (d : Value) (e : UInt8) (f : List UInt8 → List UInt8) (hf : ∀ c, ∀ x ∈ f c, x ≠ 63) (cs : List (List UInt8)) (hne : cs ≠ []) (hdec : ∀ c ∈ cs, DecOk e f c) (s : ByteArray) (hs : s.data.toList = txtE e f false cs) (hsz : s.size ≤ 1048576) (hcz : cs.flatten.length ≤ 1048576)
    (K : Nat → Prop) (w : World) (hK : ∀ k, K k → k < w.heap.size) :
    Calls Tryd.prog 17 #[d, .string s] w fun x w' => x = .returned (.tuple #[.string ⟨cs.flatten.toArray⟩, .nilIface]) ∧ Fr K w w' := by
  obtain ⟨c0, cs0, rfl⟩ : ∃ c0 cs0, cs = c0 :: cs0 := by cases cs; exact absurd rfl hne; exact ⟨_, _, rfl⟩
  have hfd := found s e [] (f c0) (tailE e f cs0) (by simp) (hf c0) hs
  have HFD := Lib.hid hfd; have HS := Lib.hid hs; have HD := Lib.hid hdec; have HF := Lib.hid hf; have HK := Lib.hid hK
  clear hfd hs hdec hf hK hne
  go_enter Tryd.func17, Tryd.ntmps17
  go_wp2_with fail
  refine (zzIndex_any s ⟨#[61, 63]⟩ _ (by omega) (by decide)).mono ?_
  rintro x w1 ⟨⟨r, rfl, hr⟩, rfl⟩
  obtain rfl : r = 0 := HFD.out.start r hr
  clear hr
  have hB0 := Bld.fresh w K HK.out
  have hF0 : Fr K w (w.alloc (.cells #[.pointer none, .slice none 0 0] 82)) := (Fr.refl K w).alloc HK.out _
  have HB0 := Lib.hid hB0; have HF0 := Lib.hid hF0
  clear hB0 hF0
  go_wp2_with fail
  generalize w.alloc (.cells #[.pointer none, .slice none 0 0] 82) = w1 at *
  obtain ⟨b, hb⟩ : ∃ b, w.heap.size = b := ⟨_, rfl⟩
  have HBB := Lib.hid hb
  rw [hb] at HB0 ⊢
  clear hb
  refine (WriteString_any b K [] ByteArray.empty w1 HB0.out (by simp)).mono ?_
  rintro x w2 ⟨rfl, hB2, hF2⟩
  have hB2' : Bld b K [] w2 := by simpa using hB2
  have HB2 := Lib.hid hB2'; have HF2 := Lib.hid (HF0.out.trans hF2)
  clear hB2 hB2' hF2
  go_wp2
  go_loopw [1, 4, 5, 8] (fun hv r4 r5 bw wr => DHRel e f (c0 :: cs0) b K w hv r4 r5 bw wr) (fun hv _ _ _ _ => strLen hv)
  case atStart => exact ⟨_, [], c0 :: cs0, false, rfl, rfl, rfl, rfl, rfl, HS.out, hsz, HB2.out, HF2.out⟩
  case round =>
    obtain ⟨h, done, rest, q, rfl, rfl, rfl, rfl, hcs, htx, hhz, hbl, hF1⟩ := hrel
    cases rest with
    | nil =>
      have hz : h.size = 0 := by
        have h1 : h.size = h.data.toList.length := by rw [Array.length_toList]; rfl
        rw [h1, htx]; rfl
      have hno := fun r (hr : FirstAt [61, 63] h.data.toList r) => hr.none (by rw [htx]; simp [txtE])
      have t0 : ¬ (0 : Int) < (h.size : Int) := by omega
      have HNO := Lib.hid hno; have HBL := Lib.hid hbl; have HF1 := Lib.hid hF1; have HCS := Lib.hid hcs
      clear hno hbl hF1 hcs htx hz
      go_wp2_with fail
      refine (zzIndex_any h ⟨#[61, 63]⟩ _ (by omega) (by decide)).mono ?_
      rintro x w2 ⟨⟨r, rfl, hr⟩, rfl⟩
      obtain rfl : r = -1 := HNO.out r hr
      clear hr
      go_wp2_with fail
      refine (String_any b K _ _ HBL.out).mono ?_
      rintro x w5 ⟨rfl, -, hF5⟩
      go_wp2
      go_ret2
      have hcs := HCS.out
      rw [List.append_nil] at hcs
      exact ⟨by rw [hcs]; rfl, HF1.out.trans hF5⟩
    | cons c rest =>
      cases q
      · have hfd := found h e [] (f c) (tailE e f rest) (by simp) (HF.out c) htx
        obtain ⟨L, hL⟩ : ∃ L, (f c).length = L := ⟨_, rfl⟩
        rw [hL] at hfd
        have hsize := hfd.size
        simp only [List.length_nil, Nat.zero_add] at hsize hfd
        have HFD := Lib.hid hfd; have HTX := Lib.hid htx; have HBL := Lib.hid hbl; have HF1 := Lib.hid hF1; have HCS := Lib.hid hcs; have HL := Lib.hid hL; have HSIZE := Lib.hid hsize
        have z1 : 12 + L ≤ h.size := by omega
        have z2 : h.size ≤ 1048576 := hhz
        clear hfd htx hbl hF1 hcs hL hsize hhz
        go_wp2_with fail
        refine (zzIndex_any h ⟨#[61, 63]⟩ _ (by omega) (by decide)).mono ?_
        rintro x w2 ⟨⟨r, rfl, hr⟩, rfl⟩
        obtain rfl : r = 0 := HFD.out.start r hr
        clear hr
        go_wp2_with fail
        refine (zzIndex_any (h.extract (0 + 2) h.size) ⟨#[63]⟩ _ (by rw [ByteArray.size_extract]; omega) (by decide)).mono ?_
        rintro x w2 ⟨⟨r, rfl, hr⟩, rfl⟩
        obtain rfl : r = 5 := HFD.out.mark r hr
        clear hr
        have h8 : 8 < h.size := by omega
        have h9 : 9 < h.size := by omega
        have e8 : h[8] = e := HFD.out.enc h8
        have e9 : h[9] = 63 := HFD.out.mark2 h9
        have i12 : (12 : Int) ≤ (h.size : Int) := by omega
        go_wp2_with fail
        refine (zzIndex_any (h.extract 10 h.size) ⟨#[63, 61]⟩ _ (by rw [ByteArray.size_extract]; omega) (by decide)).mono ?_
        rintro x w2 ⟨⟨r, rfl, hr⟩, rfl⟩
        obtain rfl : r = (L : Int) := HFD.out.stop r hr
        clear hr
        have j1 : ((L : Int) == -1) = false := by rw [beq_eq_false_iff_ne]; omega
        have j2 : (10 : Int) + (L : Int) ≤ (h.size : Int) := by omega
        have j3 : (12 : Int) + (L : Int) ≤ (h.size : Int) := by omega
        go_wp2_with fail
        clear e8 e9 h8 h9
        refine (HD.out c (by rw [← HCS.out]; simp) (h.extract 10 (10 + L)) _ HFD.out.text (by rw [ByteArray.size_extract]; omega)).mono ?_
        rintro x w3 ⟨g, cap, l, rfl, hg1, hg2, hR3, hl3, hb3⟩
        have hB3 := HBL.out.ext (Fr.of_below hb3)
        have hF3 : Fr K w w3 := HF1.out.trans (Fr.by_below hb3 HBL.out.kt)
        have hg3 := hR3.lt
        have hcell : ∀ j x, c[j]? = some x → w3.cell? ⟨g, 0 + j, none⟩ = some (.int .u8 x.toNat) := by
          intro j x hx
          rw [Nat.zero_add]
          refine hR3.cell ?_
          rw [← hl3, List.getElem?_take] at hx
          split at hx
          · exact hx
          · cases hx
        have hlc : done.flatten.length + c.length ≤ 1048576 := by
          have h1 := hcz
          rw [← HCS.out] at h1
          simp at h1
          simp; omega
        have ecs : h.extract 2 7 = utf8B := HFD.out.charset
        rw [ecs]
        clear ecs hR3 hl3
        have HB3 := Lib.hid hB3; have HF3 := Lib.hid hF3; have HCELL := Lib.hid hcell
        clear hB3 hF3 hcell
        go_wp2_with fail
        refine (convert_utf8 d b _ done.flatten c g cap w3 HB3.out (.inr ⟨hg1, hg3⟩) HCELL.out (by omega)).mono ?_
        rintro x w5 ⟨rfl, hB5, hF5⟩
        have HB5 := Lib.hid (hB5.mono (K' := K) (fun k hk => .inl hk)); have HF5 := Lib.hid (HF3.out.trans (hF5.mono (fun k hk => .inl hk)) : Fr K w w5)
        clear hB5 hF5
        go_wp2
        go_roundw
        case rel =>
          refine ⟨_, done ++ [c], rest, true, rfl, rfl, rfl, rfl, by rw [← HCS.out]; simp, ?_, by rw [ByteArray.size_extract]; omega, by simpa using HB5.out, HF5.out⟩
          rw [show 10 + L + 2 = 0 + 12 + L by omega, txtE_true]
          exact HFD.out.rest
        case measure => simp [strLen, ByteArray.size_extract]; omega
      · have hfd := found h e [32] (f c) (tailE e f rest) (by simp) (HF.out c) htx
        obtain ⟨L, hL⟩ : ∃ L, (f c).length = L := ⟨_, rfl⟩
        rw [hL] at hfd
        have hsize := hfd.size
        simp only [List.length_cons, List.length_nil, Nat.zero_add] at hsize hfd
        have HFD := Lib.hid hfd; have HTX := Lib.hid htx; have HBL := Lib.hid hbl; have HF1 := Lib.hid hF1; have HCS := Lib.hid hcs; have HL := Lib.hid hL; have HSIZE := Lib.hid hsize
        have z1 : 13 + L ≤ h.size := by omega
        have z2 : h.size ≤ 1048576 := hhz
        clear hfd htx hbl hF1 hcs hL hsize hhz
        go_wp2_with fail
        refine (zzIndex_any h ⟨#[61, 63]⟩ _ (by omega) (by decide)).mono ?_
        rintro x w2 ⟨⟨r, rfl, hr⟩, rfl⟩
        obtain rfl : r = 1 := HFD.out.start r hr
        clear hr
        go_wp2_with fail
        refine (zzIndex_any (h.extract (1 + 2) h.size) ⟨#[63]⟩ _ (by rw [ByteArray.size_extract]; omega) (by decide)).mono ?_
        rintro x w2 ⟨⟨r, rfl, hr⟩, rfl⟩
        obtain rfl : r = 5 := HFD.out.mark r hr
        clear hr
        have h8 : 9 < h.size := by omega
        have h9 : 10 < h.size := by omega
        have e8 : h[9] = e := HFD.out.enc h8
        have e9 : h[10] = 63 := HFD.out.mark2 h9
        have i12 : (13 : Int) ≤ (h.size : Int) := by omega
        go_wp2_with fail
        refine (zzIndex_any (h.extract 11 h.size) ⟨#[63, 61]⟩ _ (by rw [ByteArray.size_extract]; omega) (by decide)).mono ?_
        rintro x w2 ⟨⟨r, rfl, hr⟩, rfl⟩
        obtain rfl : r = (L : Int) := HFD.out.stop r hr
        clear hr
        have j1 : ((L : Int) == -1) = false := by rw [beq_eq_false_iff_ne]; omega
        have j2 : (11 : Int) + (L : Int) ≤ (h.size : Int) := by omega
        have j3 : (13 : Int) + (L : Int) ≤ (h.size : Int) := by omega
        go_wp2_with fail
        clear e8 e9 h8 h9
        refine (HD.out c (by rw [← HCS.out]; simp) (h.extract 11 (11 + L)) _ HFD.out.text (by rw [ByteArray.size_extract]; omega)).mono ?_
        rintro x w3 ⟨g, cap, l, rfl, hg1, hg2, hR3, hl3, hb3⟩
        have hB3 := HBL.out.ext (Fr.of_below hb3)
        have hF3 : Fr K w w3 := HF1.out.trans (Fr.by_below hb3 HBL.out.kt)
        have hg3 := hR3.lt
        have hcell : ∀ j x, c[j]? = some x → w3.cell? ⟨g, 0 + j, none⟩ = some (.int .u8 x.toNat) := by
          intro j x hx
          rw [Nat.zero_add]
          refine hR3.cell ?_
          rw [← hl3, List.getElem?_take] at hx
          split at hx
          · exact hx
          · cases hx
        have hlc : done.flatten.length + c.length ≤ 1048576 := by
          have h1 := hcz
          rw [← HCS.out] at h1
          simp at h1
          simp; omega
        have ecs : h.extract 3 8 = utf8B := HFD.out.charset
        rw [ecs]
        clear ecs hR3 hl3
        have HB3 := Lib.hid hB3; have HF3 := Lib.hid hF3; have HCELL := Lib.hid hcell
        clear hB3 hF3 hcell
        have esp : h.extract 0 1 = ⟨#[32]⟩ := ba_eq (ext_mid (X := []) (Y := [32]) (Z := wordE e f c ++ tailE e f rest) HTX.out rfl rfl)
        have HESP := Lib.hid esp
        clear esp
        go_wp2_with fail
        rw [HESP.out]
        refine (hasNonWhitespace_space _).mono ?_
        rintro x w4 ⟨rfl, hb4⟩
        have hB4 := HB3.out.ext (Fr.of_below hb4)
        have hF4 : Fr K w w4 := HF3.out.trans (Fr.by_below hb4 (fun k hk => HB3.out.kt k (.inl hk)))
        have hcell : ∀ j x, c[j]? = some x → w4.cell? ⟨g, 0 + j, none⟩ = some (.int .u8 x.toNat) := fun j x hx => by
          rw [hb4.cell (p := ⟨g, 0 + j, none⟩) hg3]; exact HCELL.out j x hx
        have HB4 := Lib.hid hB4; have HF4 := Lib.hid hF4; have HCELL4 := Lib.hid hcell
        clear hB4 hF4 hcell
        go_wp2_with fail
        refine (convert_utf8 d b _ done.flatten c g cap w4 HB4.out (.inl (.inr ⟨hg1, hg3⟩)) HCELL4.out (by omega)).mono ?_
        rintro x w5 ⟨rfl, hB5, hF5⟩
        have HB5 := Lib.hid (hB5.mono (K' := K) (fun k hk => .inl (.inl hk))); have HF5 := Lib.hid (HF4.out.trans (hF5.mono (fun k hk => .inl (.inl hk))) : Fr K w w5)
        clear hB5 hF5
        go_wp2
        go_roundw
        case rel =>
          refine ⟨_, done ++ [c], rest, true, rfl, rfl, rfl, rfl, by rw [← HCS.out]; simp, ?_, by rw [ByteArray.size_extract]; omega, by simpa using HB5.out, HF5.out⟩
          rw [show 11 + L + 2 = 1 + 12 + L by omega, txtE_true]
          exact HFD.out.rest
        case measure => simp [strLen, ByteArray.size_extract]; omega

theorem DecodedHeader_words (e : UInt8) (f : List UInt8 → List UInt8) (hf : ∀ c, ∀ x ∈ f c, x ≠ 63) (cs : List (List UInt8)) (hne : cs ≠ []) (hdec : ∀ c ∈ cs, DecOk e f c) (s : ByteArray) (hs : s.data.toList = txtE e f false cs) (hsz : s.size ≤ 1048576) (hcz : cs.flatten.length ≤ 1048576)
    (K : Nat → Prop) (w : World) (hK : ∀ k, K k → k < w.heap.size) :
    Calls Tryd.prog 10 #[.string s] w fun x w' => x = .returned (.tuple #[.string ⟨cs.flatten.toArray⟩, .bool true]) ∧ Fr K w w' := by
  have HD := Lib.hid hdec; have HS := Lib.hid hs; have HF := Lib.hid hf; have HN := Lib.hid hne; have HK := Lib.hid hK
  clear hdec hs hf hne hK
  go_enter Tryd.func10, Tryd.ntmps10
  go_wp2_with fail
  refine (DecodeHeader_words _ e f HF.out cs HN.out HD.out s HS.out hsz hcz K _ (fun k hk => by have := HK.out k hk; simp; omega)).mono ?_
  rintro x w1 ⟨rfl, hF1⟩
  have hF2 := ((Fr.refl K w).alloc HK.out _).trans hF1
  have HF2 := Lib.hid hF2
  clear hF2 hF1
  go_wp2
  go_quiet (fail)
  go_wp2
  go_ret2
  exact ⟨rfl, HF2.out.drewN _⟩
end Go.Proofs.YtciejdaifjbjdaaDoor
