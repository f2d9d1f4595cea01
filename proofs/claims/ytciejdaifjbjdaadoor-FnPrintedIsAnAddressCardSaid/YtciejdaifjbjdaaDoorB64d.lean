/- bEncode: the walk. -/
import Derived.Test.YtciejdaifjbjdaaDoorB64c
import Derived.Test.YtciejdaifjbjdaaDoorEnc4
import Derived.Lib.ConvBytes
namespace Go.Proofs.YtciejdaifjbjdaaDoor
open Go Go.RowKit

/-- All that is laid anew is set apart too. -/
theorem Bld.ext {b : Nat} {K : Nat → Prop} {l : List UInt8} {w w' : World} (h : Bld b K l w) (f : Fr (· < w.heap.size) w w') : Bld b (fun k => K k ∨ (w.heap.size ≤ k ∧ k < w'.heap.size)) l w' := by
  obtain ⟨p, v, hp, hb, ho, hr, hn, hs⟩ := h
  have hlt : b < w.heap.size := (Array.getElem?_eq_some_iff.1 hb).1
  refine ⟨p, v, hp, (f.block b hlt).trans hb, ⟨ho.1, ?_⟩, fun k e hk => ?_, fun hk => ?_, fun k hk => ?_⟩
  · rcases ho.2 with h0 | ⟨g, cap, cur, rfl, hB, hg, rest⟩
    · exact .inl h0
    · exact .inr ⟨g, cap, cur, rfl, hB, (f.block g (Array.getElem?_eq_some_iff.1 hg).1).trans hg, rest⟩
  · rcases hk with hk | hk
    · exact hr k e hk
    · have := (ho.lt k e).2; omega
  · rcases hk with hk | hk
    · exact hn hk
    · omega
  · rcases hk with hk | hk
    · have := hs k hk; have := f.size; omega
    · exact hk.2

theorem addr_add (b o j : Nat) : (⟨b, o, none⟩ : Addr).add j = ⟨b, o + j, none⟩ := by unfold Addr.add; split <;> simp_all

theorem method_ew (a : Addr) (w : World) : (method 307 181 (.pointer (some a)) "Write").run Tryd.prog w = .ok (130, .pointer (some a)) w := by kernel_rfl
theorem method_ec (a : Addr) (w : World) : (method 307 181 (.pointer (some a)) "Close").run Tryd.prog w = .ok (129, .pointer (some a)) w := by kernel_rfl

/-- '[]byte(s)': a new row with the bytes, nothing else turned. -/
theorem conv_bytes (w : World) (s : ByteArray) (hs : s.size ≤ maxLen) : ∃ c w', (convert 9 80 (.string s)).run Tryd.prog w = .ok (.slice (some ⟨w.heap.size, 0, none⟩) s.size c) w' ∧ s.size ≤ c ∧ c ≤ 9223372036854775807 ∧ w'.heap.size = w.heap.size + 1 ∧ Fr (· < w.heap.size) w w' ∧
    (∀ j x, s.data.toList[j]? = some x → w'.cell? ⟨w.heap.size, 0 + j, none⟩ = some (.int .u8 x.toNat)) := by
  refine ⟨_, _, Lib.run_convert_string_bytes w 9 80 5 s (u := .string) (by kernel_rfl) (by kernel_rfl) (by kernel_rfl), grownCap_ge _ _ _ _, grownCap_le_maxLen _ _ _ _ hs, Lib.bytesWorld_size _ _ _, ?_, ?_⟩
  · unfold Lib.bytesWorld
    exact (((Fr.refl _ w).drew.alloc (fun k hk => hk) _).freeze (Nat.lt_irrefl _) _)
  · intro j x hx
    have hj : j < s.size := (List.getElem?_eq_some_iff.1 hx).1
    rw [Nat.zero_add, Lib.bytesWorld_cell w _ s j hj, List.getD_eq_getElem?_getD, hx]; rfl

/-- The writer between two words: all it has written is in the builder. -/
structure BW (b ea eb : Nat) (K : Nat → Prop) (l : List UInt8) (W : World) : Prop where
  bld : Bld b K l W
  enc : EncM 64 ea W
  wr : Encd ea b eb [] W
  ka : K ea
  ke : K eb
  ne : ea ≠ eb

theorem BW.ext {b ea eb : Nat} {K : Nat → Prop} {l : List UInt8} {W W' : World} (h : BW b ea eb K l W) (hf : Fr (· < W.heap.size) W W') : ∃ K', BW b ea eb K' l W' ∧ (∀ k, K k → K' k) ∧ (∀ k, W.heap.size ≤ k → k < W'.heap.size → K' k) :=
  ⟨fun k => K k ∨ (W.heap.size ≤ k ∧ k < W'.heap.size), ⟨h.bld.ext hf, h.enc.kept (hf.block _ h.enc.lt), h.wr.kept (hf.block _ h.wr.lt), .inl h.ka, .inl h.ke, h.ne⟩, fun _ => .inl, fun _ a b => .inr ⟨a, b⟩⟩

set_option maxHeartbeats 4000000 in
set_option maxRecDepth 100000 in
theorem bEncode_short (e : UInt8) (s : ByteArray) (b : Nat) (K : Nat → Prop) (l : List UInt8) (w : World) (h : Bld b K l w)
    (hs : s.size ≤ 45) (hlen : l.length ≤ 1099511627776) :
    Calls Tryd.prog 63 #[.int .u8 e.toNat, .pointer (some ⟨b, 0, none⟩), .string utf8B, .string s] w fun x w' => x = .returned (.tuple #[]) ∧ Bld b K (l ++ b64 s.data.toList) w' ∧ Fr K w w' := by
  obtain ⟨n, hsn⟩ : ∃ n, s.size = n := ⟨_, rfl⟩
  have hconv := fun W => conv_bytes W s (by unfold maxLen; omega)
  have hKt := h.kt
  rw [hsn] at hs
  simp only [hsn] at hconv
  have HC := Lib.hid hconv; have HSN := Lib.hid hsn; have HKT := Lib.hid hKt
  have hle : ((n : Int) + 2) / 3 * 4 ≤ 63 := by omega
  clear hconv hsn hKt
  go_enter Tryd.func63, Tryd.ntmps63
  go_wp2_with fail
  refine (stdEncoding_any _).mono ?_
  rintro x w1 ⟨rfl, hE1, hb1⟩
  have h1 := h.ext (Fr.of_below hb1)
  go_wp2_with fail
  refine (NewEncoder_any _ b _).mono ?_
  rintro x w2 ⟨rfl, hD2, hb2⟩
  have h2 := h1.ext (Fr.of_below hb2)
  have hE2 : EncM 64 w.heap.size w2 := hE1.kept (hb2.block _ hE1.lt)
  have hne : w.heap.size < w1.heap.size := hE1.lt
  have he2 : w1.heap.size < w2.heap.size := hD2.lt
  generalize hea : w.heap.size = ea at *
  generalize heb : w1.heap.size = eb at *
  have HA := Lib.hid hea; have HB := Lib.hid heb
  clear hea heb
  have hmw : ∀ W, (method 307 181 (.pointer (some ⟨eb, 0, none⟩)) "Write").run Tryd.prog W = .ok (130, .pointer (some ⟨eb, 0, none⟩)) W := fun W => method_ew _ W
  have hmc : ∀ W, (method 307 181 (.pointer (some ⟨eb, 0, none⟩)) "Close").run Tryd.prog W = .ok (129, .pointer (some ⟨eb, 0, none⟩)) W := fun W => method_ec _ W
  have HMC := Lib.hid hmc; have HMW := Lib.hid hmw
  clear hmc hmw
  go_wp2_with fail
  refine (isUTF8_any _).mono ?_
  rintro x w3 ⟨rfl, rfl⟩
  have HBW : Hid (BW b ea eb _ l w2) := Lib.hid ⟨h2, hE2, hD2, .inl (.inr ⟨Nat.le_refl _, hne⟩), .inr ⟨Nat.le_refl _, he2⟩, Nat.ne_of_lt hne⟩
  have hk12 : ∀ k, K k → (fun k => (K k ∨ ea ≤ k ∧ k < eb) ∨ eb ≤ k ∧ k < w2.heap.size) k := fun k hk => .inl (.inl hk)
  have hkw : ∀ k, K k → k < ea := fun k hk => HA.out ▸ HKT.out k hk
  have hlen3 : (s.data.toList.take (n / 3 * 3)).length = 3 * (n / 3) := by rw [List.length_take, Array.length_toList, show s.data.size = n from HSN.out]; omega
  generalize (fun k => (K k ∨ ea ≤ k ∧ k < eb) ∨ eb ≤ k ∧ k < w2.heap.size) = K2 at *
  have hfr2 : Fr K w w2 := (Fr.by_below hb1 hkw).trans (Fr.by_below hb2 (fun k hk => by have := hkw k hk; omega))
  have hke : ∀ k, K k → k ≠ eb := fun k hk => by have := hkw k hk; omega
  have HKE := Lib.hid hke; have HFR := Lib.hid hfr2
  clear hke hfr2
  have HH3 := Lib.hid hlen3; have HK := Lib.hid hk12; have HKW := Lib.hid hkw
  clear h2 hE2 hD2 h1 hE1 hlen3 hk12 hkw
  go_wp2_with fail
  refine (stdEncoding_any _).mono ?_
  rintro x w3 ⟨rfl, hE3, hb3⟩
  go_wp2_with fail
  rw [HSN.out]
  refine (EncodedLen_any _ n _ hE3 (by omega)).mono ?_
  rintro x w3' ⟨rfl, rfl⟩
  rw [show (((n + 2) / 3 * 4 : Nat) : Int) = ((n : Int) + 2) / 3 * 4 by norm_cast]
  obtain ⟨K3, hW3, hk3, -⟩ := HBW.out.ext (Fr.of_below hb3)
  have HBW3 := Lib.hid hW3
  have hfr3 : Fr K w w3 := HFR.out.trans (Fr.by_below hb3 (fun k hk => by have := HKW.out k hk; omega))
  have HFR3 := Lib.hid hfr3
  clear hW3 hfr3
  go_wp2_with fail
  obtain ⟨c, w4, hrun, hc1, hc2, hsz4, hf4, hcell4⟩ := HC.out w3
  rw [hrun]; simp only [Result.andThen]; rw [Oper.upon_value]
  obtain ⟨K4, hW4, hk4, hn4⟩ := HBW3.out.ext hf4
  have hpk : K4 w3.heap.size := hn4 _ (Nat.le_refl _) (by omega)
  have hpne : w3.heap.size ≠ eb := by have := HBW3.out.wr.lt; omega
  have hfr4 : Fr K w w4 := HFR3.out.trans (hf4.mono (fun k hk => by have := HKW.out k hk; have := hb3.size; omega))
  have HF4 := Lib.hid hfr4; have HCELL := Lib.hid hcell4; have HW4 := Lib.hid hW4
  have hmw := HMW.out
  clear hsz4 hf4 hcell4 hrun hn4 hW4 hfr4
  generalize hpb : w3.heap.size = pb at *
  clear hpb
  go_wp2_with fail
  refine (eWrite_any ea b eb pb n c _ l s.data.toList (Array.length_toList.trans HSN.out) w4 HW4.out.bld HW4.out.enc HW4.out.wr HW4.out.ka HW4.out.ke hpk HW4.out.ne hpne HCELL.out hs hc1 hc2 (by omega)).mono ?_
  rintro x w5 ⟨rfl, h5, hD5, hf5⟩
  have hE5 : EncM 64 ea w5 := HW4.out.enc.kept (hf5.block ea ⟨HW4.out.ka, HW4.out.ne⟩)
  clear hmw
  have hmc := HMC.out
  go_wp2_with fail
  refine (eClose_any ea b eb _ _ _ w5 h5 hE5 hD5 HW4.out.ke HW4.out.ne (by rw [List.length_append, b64_length]; simp; omega)).mono ?_
  rintro x w6 ⟨rfl, h6, hD6, hf6⟩
  clear hmc
  go_wp2_with fail
  refine end_ret rfl rfl ⟨rfl, ?_, ?_⟩
  · have h7 := h6.mono (K' := K) (fun k hk => hk4 k (hk3 k (HK.out k hk)))
    rw [List.append_assoc, ← b64_append _ _ _ HH3.out, List.take_append_drop] at h7
    exact h7
  · have hk : ∀ k, K k → K4 k ∧ k ≠ eb := fun k h => ⟨hk4 k (hk3 k (HK.out k h)), HKE.out k h⟩
    exact (HF4.out.trans (hf5.mono hk)).trans (hf6.mono hk)
end Go.Proofs.YtciejdaifjbjdaaDoor
