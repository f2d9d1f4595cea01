/- bEncode: the walk, a long text. -/
import Derived.Test.YtciejdaifjbjdaaDoorB64d
import Derived.Deep.RegionHeld3
namespace Go.Proofs.YtciejdaifjbjdaaDoor
open Go Go.RowKit Go.Lib

/-- A word of base64: some whole runes, 45 bytes at the most. -/
def bGood (c : List UInt8) : Prop := c ≠ [] ∧ validD c = true ∧ c.length ≤ 45
def bMid (sep : List UInt8) (done : List (List UInt8)) : List UInt8 := done.flatMap fun c => b64 c ++ sep
structure BInv (s : List UInt8) (k : Nat) (done : List (List UInt8)) (cur : List UInt8) : Prop where
  le : k ≤ s.length
  whole : done.flatten ++ cur = s.take k
  good : ∀ c ∈ done, bGood c
  valid : validD cur = true
  len : cur.length ≤ 45
  some : 0 < k → cur ≠ []
  rest : validD (s.drop k) = true

theorem BInv.start (s : List UInt8) (h : validD s = true) : BInv s 0 [] [] := ⟨Nat.zero_le _, rfl, fun _ h => (by cases h), rfl, by simp, fun h => absurd h (Nat.lt_irrefl 0), by simpa using h⟩
section
variable {s : List UInt8} {k : Nat} {done : List (List UInt8)} {cur : List UInt8}
theorem BInv.go (h : BInv s k done cur) (hk : k < s.length) (hl : cur.length + wd (s.drop k) ≤ 45) : BInv s (k + wd (s.drop k)) done (cur ++ (s.drop k).take (wd (s.drop k))) := by
  have hne : s.drop k ≠ [] := by rw [Ne, List.drop_eq_nil_iff]; omega
  have hle := wd_le _ hne
  have hp := wd_pos (s.drop k)
  rw [List.length_drop] at hle
  refine ⟨by omega, ?_, h.good, valid_snoc h.valid h.rest hne, ?_, fun _ => ?_, ?_⟩
  · rw [take_add', ← h.whole, List.append_assoc]
  · rw [List.length_append, List.length_take]; omega
  · intro e
    have := congrArg List.length e
    rw [List.length_append, List.length_take, List.length_drop] at this
    simp at this
    omega
  · rw [← List.drop_drop]; exact valid_drop h.rest hne
theorem BInv.cut (h : BInv s k done cur) (hk : k < s.length) (hc : cur ≠ []) : BInv s (k + wd (s.drop k)) (done ++ [cur]) ((s.drop k).take (wd (s.drop k))) := by
  have hne : s.drop k ≠ [] := by rw [Ne, List.drop_eq_nil_iff]; omega
  have hle := wd_le _ hne
  have hp := wd_pos (s.drop k)
  have h4 := wd_le4 (s.drop k)
  rw [List.length_drop] at hle
  refine ⟨by omega, ?_, ?_, ?_, ?_, fun _ => ?_, ?_⟩
  · rw [take_add', ← h.whole]; simp
  · intro c hcc
    rcases List.mem_append.1 hcc with hcc | hcc
    · exact h.good c hcc
    · rw [List.mem_singleton.1 hcc]; exact ⟨hc, h.valid, h.len⟩
  · have := valid_snoc (cur := []) rfl h.rest hne
    simpa using this
  · rw [List.length_take]; omega
  · intro e
    have := congrArg List.length e
    rw [List.length_take, List.length_drop] at this
    simp at this
    omega
  · rw [← List.drop_drop]; exact valid_drop h.rest hne
/-- The open word, where it lies. -/
theorem BInv.cur_eq (h : BInv s k done cur) : cur = (s.drop done.flatten.length).take cur.length ∧ done.flatten.length + cur.length = k := by
  have hw := h.whole
  have hl := congrArg List.length hw
  rw [List.length_append, List.length_take] at hl
  have hle := h.le
  have he : done.flatten.length + cur.length = k := by omega
  refine ⟨?_, he⟩
  have := congrArg (List.drop done.flatten.length) hw
  rw [List.drop_append_of_le_length (Nat.le_refl _), List.drop_length, List.nil_append, List.drop_take] at this
  rw [show cur.length = k - done.flatten.length by omega]
  exact this
theorem bMid_snoc (sep : List UInt8) (done : List (List UInt8)) (c : List UInt8) : bMid sep (done ++ [c]) = bMid sep done ++ (b64 c ++ sep) := by simp [bMid]
end
theorem bMid_len (e : UInt8) : ∀ done : List (List UInt8), (∀ c ∈ done, bGood c) → (bMid (sepL e) done).length ≤ 20 * done.flatten.length
  | [], _ => by simp [bMid]
  | c :: t, h => by
    have h1 := h c (by simp)
    have h2 := bMid_len e t (fun x hx => h x (by simp [hx]))
    have h4 : 0 < c.length := List.length_pos_iff.2 h1.1
    have h5 : bMid (sepL e) (c :: t) = (b64 c ++ sepL e) ++ bMid (sepL e) t := by simp [bMid]
    rw [h5, List.length_append, List.length_append, sepL_length, b64_length, List.flatten_cons, List.length_append]
    omega
theorem BInv.room {e : UInt8} {s : List UInt8} {k : Nat} {done : List (List UInt8)} {cur : List UInt8} (h : BInv s k done cur) : (bMid (sepL e) done).length ≤ 20 * s.length := by
  have h1 := bMid_len e done h.good
  have h2 := congrArg List.length h.whole
  rw [List.length_append, List.length_take] at h2
  omega

def BRel (e : UInt8) (s : ByteArray) (b ea eb : Nat) (K : Nat → Prop) (l : List UInt8) (w : World) (cl la i : Value) (wr : World) : Prop :=
  ∃ (k : Nat) (done : List (List UInt8)) (cur : List UInt8) (K' : Nat → Prop), i = .int .i64 k ∧ cl = .int .i64 cur.length ∧ la = .int .i64 done.flatten.length ∧ BInv s.data.toList k done cur ∧ (∀ k, K k → K' k ∧ k ≠ eb) ∧ BW b ea eb K' (l ++ bMid (sepL e) done) wr ∧ Fr K w wr

def BEnd (e : UInt8) (s : ByteArray) (b : Nat) (K : Nat → Prop) (l : List UInt8) (w' : World) : Prop :=
  ∃ (done : List (List UInt8)) (cur : List UInt8), (done ++ [cur]).flatten = s.data.toList ∧ (∀ c ∈ done ++ [cur], bGood c) ∧ Bld b K (l ++ bMid (sepL e) done ++ b64 cur) w'

theorem nilAhead_ew (a : Addr) (w : World) : (nilAhead 307 181 (.pointer (some a)) "Write").run Tryd.prog w = .ok (some false) w := by kernel_rfl

theorem brel_go {e : UInt8} {s : ByteArray} {b ea eb : Nat} {K K' : Nat → Prop} {l : List UInt8} {w w2 : World} {k n q j : Nat} {done : List (List UInt8)} {cur : List UInt8} (hI : BInv s.data.toList k done cur) (hk : k < s.size)
    (hn : wd (s.data.toList.drop k) = n) (hq : cur.length = q) (hj : done.flatten.length = j) (hl : q + n ≤ 45) (hK : ∀ k, K k → K' k ∧ k ≠ eb)
    (hB : BW b ea eb K' (l ++ bMid (sepL e) done) w2) (hF : Fr K w w2) (cl la i : Value) (hcl : cl = .int .i64 ((q + n : Nat) : Int)) (hla : la = .int .i64 (j : Int)) (hi : i = .int .i64 ((k + n : Nat) : Int)) : BRel e s b ea eb K l w cl la i w2 := by
  subst hn hq hj
  have hg := hI.go (by simpa using hk) hl
  have hne : s.data.toList.drop k ≠ [] := by rw [Ne, List.drop_eq_nil_iff]; simp; omega
  have hle := wd_le _ hne
  refine ⟨_, done, _, K', hi, ?_, hla, hg, hK, hB, hF⟩
  rw [hcl, List.length_append, List.length_take, Nat.min_eq_left hle]
theorem brel_cut {e : UInt8} {s : ByteArray} {b ea eb : Nat} {K K' : Nat → Prop} {l : List UInt8} {w w2 : World} {k n q : Nat} {done : List (List UInt8)} {cur : List UInt8} (hI : BInv s.data.toList k done cur) (hk : k < s.size)
    (hn : wd (s.data.toList.drop k) = n) (hq : cur.length = q) (hl : 0 < q) (hK : ∀ k, K k → K' k ∧ k ≠ eb)
    (hB : BW b ea eb K' (l ++ bMid (sepL e) done ++ b64 cur ++ ([63, 61, 32, 61, 63] ++ utf8B.data.toList ++ [63, e, 63])) w2) (hF : Fr K w w2) (cl la i : Value) (hcl : cl = .int .i64 (n : Int)) (hla : la = .int .i64 (k : Int)) (hi : i = .int .i64 ((k + n : Nat) : Int)) : BRel e s b ea eb K l w cl la i w2 := by
  subst hn hq
  have hc : cur ≠ [] := List.length_pos_iff.1 hl
  have hg := hI.cut (by simpa using hk) hc
  have hne : s.data.toList.drop k ≠ [] := by rw [Ne, List.drop_eq_nil_iff]; simp; omega
  have hle := wd_le _ hne
  refine ⟨_, done ++ [cur], _, K', hi, ?_, ?_, hg, hK, ?_, hF⟩
  · rw [hcl, List.length_take, Nat.min_eq_left hle]
  · rw [hla]; have := hI.cur_eq.2; simp [← this]
  · rw [bMid_snoc]
    simpa [sepL, utf8S] using hB
theorem BW.kept {b ea eb : Nat} {K : Nat → Prop} {l l' : List UInt8} {w w' : World} (h : BW b ea eb K l w) (hB : Bld b K l' w') (hf : Fr K w w') : BW b ea eb K l' w' := ⟨hB, h.enc.kept (hf.block ea h.ka), h.wr.kept (hf.block eb h.ke), h.ka, h.ke, h.ne⟩

set_option maxHeartbeats 4000000 in
set_option maxRecDepth 100000 in
theorem bEncode_long (e : UInt8) (s : ByteArray) (b : Nat) (K : Nat → Prop) (l : List UInt8) (w : World) (h : Bld b K l w) (hT : Lib.Utf8Tabs 0 1 w) (hK0 : K 0) (hK1 : K 1)
    (hv : Lib.validD s.data.toList = true) (h0 : 45 < s.size) (hs : s.size ≤ 1099511627776) (hlen : l.length ≤ 1099511627776) :
    Calls Tryd.prog 63 #[.int .u8 e.toNat, .pointer (some ⟨b, 0, none⟩), .string utf8B, .string s] w fun x w' => x = .returned (.tuple #[]) ∧ BEnd e s b K l w' ∧ Fr K w w' := by
  have HV := Lib.hid hv; have HT := Lib.hid hT
  obtain ⟨n, hsn⟩ : ∃ n, s.size = n := ⟨_, rfl⟩
  have hKt := h.kt
  rw [hsn] at hs h0
  have HSN := Lib.hid hsn; have HKT := Lib.hid hKt
  have hle : ¬ ((n : Int) + 2) / 3 * 4 ≤ 63 := by omega
  clear hsn hKt hv hT
  go_enter Tryd.func63, Tryd.ntmps63
  go_wp2_with fail
  refine (stdEncoding_any _).mono ?_
  rintro x w1 ⟨rfl, hE1, hb1⟩
  have h1 := h.ext (Fr.of_below hb1)
  go_wp2_with fail
  refine (NewEncoder_any _ b _).mono ?_
  rintro x w2 ⟨rfl, hD2, hb2⟩
  have h2 := h1.ext (Fr.of_below hb2)
  have hE2 : EncM 64 w.heap.size w2 := hE1.kept (hb2.block _ hE1.lt)
  have hne : w.heap.size < w1.heap.size := hE1.lt
  have he2 : w1.heap.size < w2.heap.size := hD2.lt
  generalize hea : w.heap.size = ea at *
  generalize heb : w1.heap.size = eb at *
  have HA := Lib.hid hea; have HB := Lib.hid heb
  clear hea heb
  have hmw : ∀ W, (method 307 181 (.pointer (some ⟨eb, 0, none⟩)) "Write").run Tryd.prog W = .ok (130, .pointer (some ⟨eb, 0, none⟩)) W := fun W => method_ew _ W
  have hmc : ∀ W, (method 307 181 (.pointer (some ⟨eb, 0, none⟩)) "Close").run Tryd.prog W = .ok (129, .pointer (some ⟨eb, 0, none⟩)) W := fun W => method_ec _ W
  have HMC := Lib.hid hmc; have HMW := Lib.hid hmw
  clear hmc hmw
  go_wp2_with fail
  refine (isUTF8_any _).mono ?_
  rintro x w3 ⟨rfl, rfl⟩
  have HBW : Hid (BW b ea eb _ l w2) := Lib.hid ⟨h2, hE2, hD2, .inl (.inr ⟨Nat.le_refl _, hne⟩), .inr ⟨Nat.le_refl _, he2⟩, Nat.ne_of_lt hne⟩
  have hk12 : ∀ k, K k → (fun k => (K k ∨ ea ≤ k ∧ k < eb) ∨ eb ≤ k ∧ k < w2.heap.size) k := fun k hk => .inl (.inl hk)
  have hkw : ∀ k, K k → k < ea := fun k hk => HA.out ▸ HKT.out k hk
  generalize (fun k => (K k ∨ ea ≤ k ∧ k < eb) ∨ eb ≤ k ∧ k < w2.heap.size) = K2 at *
  have hfr2 : Fr K w w2 := (Fr.by_below hb1 hkw).trans (Fr.by_below hb2 (fun k hk => by have := hkw k hk; omega))
  have hke : ∀ k, K k → k ≠ eb := fun k hk => by have := hkw k hk; omega
  have HKE := Lib.hid hke; have HFR := Lib.hid hfr2
  clear hke hfr2
  have HK := Lib.hid hk12; have HKW := Lib.hid hkw
  clear h2 hE2 hD2 h1 hE1 hk12 hkw
  go_wp2_with fail
  refine (stdEncoding_any _).mono ?_
  rintro x w3 ⟨rfl, hE3, hb3⟩
  go_wp2_with fail
  rw [HSN.out]
  refine (EncodedLen_any _ n _ hE3 (by omega)).mono ?_
  rintro x w3' ⟨rfl, rfl⟩
  rw [show (((n + 2) / 3 * 4 : Nat) : Int) = ((n : Int) + 2) / 3 * 4 by norm_cast]
  obtain ⟨K3, hW3, hk3, -⟩ := HBW.out.ext (Fr.of_below hb3)
  have hfr3 : Fr K w w3 := HFR.out.trans (Fr.by_below hb3 (fun k hk => by have := HKW.out k hk; omega))
  have HFR3 := Lib.hid hfr3
  have hk : ∀ k, K k → K3 k ∧ k ≠ eb := fun k h => ⟨hk3 k (HK.out k h), HKE.out k h⟩
  have HW3 := Lib.hid hW3; have HK3 := Lib.hid hk
  clear hW3 hfr3 hk hE3 hk3 hb3 hb2 hb1
  go_wp2_with fail
  go_loopw [9, 10, 11, 12] (fun cl la rl i wr => (∃ r : Int, rl = .int .i64 r) ∧ BRel e s b ea eb K l w cl la i wr) (fun _ _ _ i _ => s.size - (RowKit.intOf i).toNat)
  case atStart => exact ⟨⟨0, rfl⟩, 0, [], [], K3, rfl, rfl, rfl, BInv.start _ HV.out, HK3.out, by simpa [bMid] using HW3.out, HFR3.out⟩
  case round =>
    obtain ⟨⟨r, rfl⟩, k, done, cur, K5, rfl, rfl, rfl, hI, hK5, hW5, hF5⟩ := hrel
    by_cases hlt : k < s.size
    · obtain ⟨m, hm⟩ : ∃ m, wd (s.data.toList.drop k) = m := ⟨_, rfl⟩
      obtain ⟨q, hq⟩ : ∃ q, cur.length = q := ⟨_, rfl⟩
      obtain ⟨j, hj⟩ : ∃ j, done.flatten.length = j := ⟨_, rfl⟩
      have hne' : s.data.toList.drop k ≠ [] := by rw [Ne, List.drop_eq_nil_iff]; simp; omega
      have n1 : 1 ≤ m := by rw [← hm]; exact wd_pos _
      have n4 : m ≤ 4 := by rw [← hm]; exact wd_le4 _
      have nk : k + m ≤ s.size := by have := wd_le _ hne'; rw [hm, List.length_drop] at this; simp at this; omega
      have q45 : q ≤ 45 := by rw [← hq]; exact hI.len
      obtain ⟨hcur, hjk⟩ := hI.cur_eq
      rw [hq, hj] at hjk
      rw [hq, hj] at hcur
      have hroom := hI.room (e := e)
      have hsl : s.data.toList.length = s.size := by simp
      rw [hsl] at hroom
      rw [hq, hj]
      have hT2 := tabs_fr HT.out hF5 hK0 hK1
      have hdg := decodeGo_wd s k hlt
      have hszn : s.size ≤ 1099511627776 := HSN.out ▸ hs
      have HF5 := Lib.hid hF5
      clear hF5
      rw [hm] at hdg
      have HM := Lib.hid hm; have HQ := Lib.hid hq; have HJ := Lib.hid hj; have HSL := Lib.hid hsl; have HCUR := Lib.hid hcur; have HNE := Lib.hid hne'; have HT2 := Lib.hid hT2; have HD := Lib.hid hdg; have HW5 := Lib.hid hW5; have HK5 := Lib.hid hK5; have HI := Lib.hid hI
      clear hm hq hj hsl hcur hne' hT2 hdg hW5 hK5 hI
      rw [HSN.out] at hroom
      by_cases hcut : (q : Int) + (m : Int) ≤ 45
      · go_wp2_with fail
        refine (Tryd.utf8_DecodeRuneInString _ _ HT2.out).mono ?_
        rintro x w6 ⟨rfl, hb6⟩
        rw [HD.out]
        obtain ⟨K6, hW6, hk6, -⟩ := HW5.out.ext (Fr.of_below hb6)
        have HW6 := Lib.hid hW6
        have hF6 := HF5.out.trans (Fr.by_below hb6 (fun k hk => HW5.out.bld.kt k (HK5.out k hk).1))
        have HF6 := Lib.hid hF6
        clear hW6 hF6
        go_wp2_with fail
        go_roundw
        case rel => exact ⟨⟨_, rfl⟩, brel_go HI.out hlt HM.out HQ.out HJ.out (by omega) (fun k h => ⟨hk6 k (HK5.out k h).1, (HK5.out k h).2⟩) HW6.out HF6.out _ _ _ (by go_num) rfl (by go_num)⟩
        case measure => simp [RowKit.intOf]; omega
      · have hq0 : 0 < q := by omega
        go_wp2_with fail
        refine (Tryd.utf8_DecodeRuneInString _ _ HT2.out).mono ?_
        rintro x w6 ⟨rfl, hb6⟩
        rw [HD.out]
        obtain ⟨K6, hW6, hk6, -⟩ := HW5.out.ext (Fr.of_below hb6)
        have hF6 := HF5.out.trans (Fr.by_below hb6 (fun k hk => HW5.out.bld.kt k (HK5.out k hk).1))
        have hlenb : (l ++ bMid (sepL e) done).length ≤ 1099511627776 * 64 := by rw [List.length_append]; omega
        have hxs : (s.extract j k).size = q := by rw [ByteArray.size_extract]; omega
        have hxl : (s.extract j k).data.toList = cur := by
          rw [← hjk, extract_list]; exact HCUR.out.symm
        obtain ⟨c, w7, hrun, hc1, hc2, hsz7, hf7, hcell7⟩ := conv_bytes w6.drew (s.extract j k) (by rw [hxs]; unfold maxLen; omega)
        rw [hxs] at hrun hc1
        rw [hxl] at hcell7
        obtain ⟨K7, hW7, hk7, hn7⟩ := hW6.ext (show Fr (· < w6.heap.size) w6 w7 from (Fr.refl _ w6).drew.trans hf7)
        rw [show w6.drew.heap.size = w6.heap.size from rfl] at *
        have hpk : K7 w6.heap.size := hn7 _ (Nat.le_refl _) (by omega)
        have hpne : w6.heap.size ≠ eb := by have := hW6.wr.lt; omega
        have hmf : ∀ (fn : Fn) (first cap : Array Value) (w : World), (Instr.makeFunc fn first cap).run Tryd.prog w = .ok (.func fn first cap) w := fun _ _ _ _ => rfl
        have hwr := eWrite_any ea b eb w6.heap.size q c K7 _ cur HQ.out w7 hW7.bld hW7.enc hW7.wr hW7.ka hW7.ke hpk hW7.ne hpne hcell7 q45 hc1 hc2 hlenb
        have hF7 := hF6.trans (show Fr K w6 w7 from ((Fr.refl _ w6).drew.trans hf7).mono (fun k hk => hW6.bld.kt k (hk6 k (HK5.out k hk).1)))
        have hK7 : ∀ k, K k → K7 k ∧ k ≠ eb := fun k h => ⟨hk7 k (hk6 k (HK5.out k h).1), (HK5.out k h).2⟩
        have HLB := Lib.hid hlenb; have HWR := Lib.hid hwr; have HW7 := Lib.hid hW7; have HF7 := Lib.hid hF7; have HK7 := Lib.hid hK7
        have hmw := HMW.out
        have hna := nilAhead_ew ⟨eb, 0, none⟩
        have i1 : (j : Int) ≤ (k : Int) := by omega
        clear hwr hW7 hn7 hcell7 hf7 hxl hxs hlenb hroom hW6 hF6 hF7 hK7
        go_wp2_with fail
        go_region_with (go_at_call 130; refine HWR.out.mono ?_; rintro x w8 ⟨rfl, h8, hD8, hf8⟩)
        all_goals
          have hE8 : EncM 64 ea w8 := HW7.out.enc.kept (hf8.block ea ⟨HW7.out.ka, HW7.out.ne⟩)
          clear hmw
          have hmc := HMC.out
          clear hrun
          go_wp2_with fail
          refine (eClose_any ea b eb _ _ _ w8 h8 hE8 hD8 HW7.out.ke HW7.out.ne (by have := HLB.out; rw [List.length_append, b64_length, List.length_take, HQ.out]; omega)).mono ?_
          rintro x w9 ⟨rfl, h9, hD9, hf9⟩
          clear hmc
          rw [List.append_assoc, ← b64_append (q / 3) _ _ (by rw [List.length_take, HQ.out]; omega), List.take_append_drop] at h9
          have hW9 : BW b ea eb K7 _ w9 := ⟨h9, hE8.kept (hf9.block ea ⟨HW7.out.ka, HW7.out.ne⟩), hD9, HW7.out.ka, HW7.out.ke, HW7.out.ne⟩
          have hF9 := (HF7.out.trans (hf8.mono HK7.out)).trans (hf9.mono HK7.out)
          have HW9 := Lib.hid hW9; have HF9 := Lib.hid hF9
          clear hW9 hF9 hf9 hf8 hE8 hD8 hD9 h8
          go_wp2_with fail
          refine (splitWord_any e utf8B b K7 _ _ h9 (by have := HLB.out; have hu : utf8B.size = 5 := rfl; rw [List.length_append, b64_length, HQ.out]; omega)).mono ?_
          rintro x w10 ⟨rfl, h10, hf10⟩
          have HW10 := Lib.hid (HW9.out.kept h10 hf10)
          have HF10 := Lib.hid (HF9.out.trans (hf10.mono (fun k hk => (HK7.out k hk).1)))
          clear h9 h10 hf10
          go_wp2_with fail
          go_roundw
          case rel => exact ⟨⟨_, rfl⟩, brel_cut HI.out hlt HM.out HQ.out hq0 HK7.out HW10.out HF10.out _ _ _ rfl rfl (by go_num)⟩
          case measure => simp [RowKit.intOf]; omega
    · obtain ⟨hcur, hjk⟩ := hI.cur_eq
      have hsl : s.data.toList.length = s.size := by simp
      have hks : k = s.size := by have := hI.le; rw [hsl] at this; omega
      obtain ⟨q, hq⟩ : ∃ q, cur.length = q := ⟨_, rfl⟩
      obtain ⟨j, hj⟩ : ∃ j, done.flatten.length = j := ⟨_, rfl⟩
      have q45 : q ≤ 45 := by rw [← hq]; exact hI.len
      rw [hq, hj] at hjk
      rw [hq, hj] at hcur
      have hroom := hI.room (e := e)
      rw [hsl] at hroom
      have hsz := HSN.out
      have hlenb : (l ++ bMid (sepL e) done).length ≤ 1099511627776 * 64 := by rw [List.length_append]; omega
      rw [hq, hj]
      have hxs : (s.extract j s.size).size = q := by rw [ByteArray.size_extract]; omega
      have hxl : (s.extract j s.size).data.toList = cur := by
        rw [show s.size = j + q by omega, extract_list]; exact hcur.symm
      obtain ⟨c, w4, hrun, hc1, hc2, hsz4, hf4, hcell4⟩ := conv_bytes wr.drew (s.extract j s.size) (by rw [hxs]; unfold maxLen; omega)
      rw [hxs] at hrun hc1
      rw [hxl] at hcell4
      obtain ⟨K4, hW4, hk4, hn4⟩ := hW5.ext (show Fr (· < wr.heap.size) wr w4 from (Fr.refl _ wr).drew.trans hf4)
      rw [show wr.drew.heap.size = wr.heap.size from rfl] at *
      have HF4 := Lib.hid (show Fr (· < wr.heap.size) wr w4 from (Fr.refl _ wr).drew.trans hf4)
      have hpk : K4 wr.heap.size := hn4 _ (Nat.le_refl _) (by omega)
      have hpne : wr.heap.size ≠ eb := by have := hW5.wr.lt; omega
      have hmf : ∀ (fn : Fn) (first cap : Array Value) (w : World), (Instr.makeFunc fn first cap).run Tryd.prog w = .ok (.func fn first cap) w := fun _ _ _ _ => rfl
      have hwr := eWrite_any ea b eb wr.heap.size q c K4 _ cur hq w4 hW4.bld hW4.enc hW4.wr hW4.ka hW4.ke hpk hW4.ne hpne hcell4 q45 hc1 hc2 hlenb
      have HLB := Lib.hid hlenb; have HWR := Lib.hid hwr; have HW4 := Lib.hid hW4; have HQ := Lib.hid hq; have HKS := Lib.hid hks; have HI := Lib.hid hI; have HW5 := Lib.hid hW5; have HK5 := Lib.hid hK5
      have hmw := HMW.out
      have hna := nilAhead_ew ⟨eb, 0, none⟩
      have i1 : (j : Int) ≤ (s.size : Int) := by omega
      clear hwr hW4 hq hsl hcur hn4 hsz hlenb hroom hcell4 hf4 hxl hxs hI hW5 hK5
      go_wp2_with fail
      go_region_with (go_at_call 130; refine HWR.out.mono ?_; rintro x w5 ⟨rfl, h5, hD5, hf5⟩)
      all_goals
        have hE5 : EncM 64 ea w5 := HW4.out.enc.kept (hf5.block ea ⟨HW4.out.ka, HW4.out.ne⟩)
        clear hmw
        have hmc := HMC.out
        clear hrun
        go_wp2_with fail
        refine (eClose_any ea b eb _ _ _ w5 h5 hE5 hD5 HW4.out.ke HW4.out.ne (by have := HLB.out; rw [List.length_append, b64_length, List.length_take, HQ.out]; omega)).mono ?_
        rintro x w6 ⟨rfl, h6, hD6, hf6⟩
        clear hmc
        go_wp2_with fail
        go_end0
        refine ⟨rfl, ⟨done, cur, ?_, ?_, ?_⟩, ?_⟩
        · rw [List.flatten_append, List.flatten_cons, List.flatten_nil, List.append_nil, HI.out.whole, List.take_of_length_le (by rw [Array.length_toList]; exact Nat.le_of_eq HKS.out.symm)]
        · intro c hcc
          have hI := HI.out
          rcases List.mem_append.1 hcc with hcc | hcc
          · exact hI.good c hcc
          · rw [List.mem_singleton.1 hcc]; exact ⟨hI.some (by have := HKS.out; have := HSN.out; omega), hI.valid, hI.len⟩
        · have h7 := h6.mono (K' := K) (fun k hk => hk4 k (HK5.out k hk).1)
          rw [List.append_assoc, ← b64_append (q / 3) _ _ (by rw [List.length_take, HQ.out]; omega), List.take_append_drop] at h7
          exact h7
        · have hk : ∀ k, K k → K4 k ∧ k ≠ eb := fun k h => ⟨hk4 k (HK5.out k h).1, (HK5.out k h).2⟩
          exact ((hF5.trans (HF4.out.mono (fun k hk => HW5.out.bld.kt k (HK5.out k hk).1))).trans (hf5.mono hk)).trans (hf6.mono hk)

end Go.Proofs.YtciejdaifjbjdaaDoor
