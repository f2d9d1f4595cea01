/- base64: DecodeString; decode by B: the walks. -/
import Derived.Test.YtpoglombagmhmaaGreatDoorBs
import Derived.Test.YtpoglombagmhmaaGreatDoorStd
namespace Go.Proofs.YtpoglombagmhmaaGreatDoor
open Go Go.RowKit

set_option maxHeartbeats 1000000 in
set_option maxRecDepth 100000 in
theorem DecodeString_b64 (ea : Nat) (s : ByteArray) (c : List UInt8) (hs : s.data.toList = b64 c) (hc : c ≠ []) (hlen : c.length ≤ 4096) (w : World) (hE : EncM 64 ea w) :
    Calls Tryz.prog 107 #[.pointer (some ⟨ea, 0, none⟩), .string s] w fun x w' => ∃ g cap l, x = .returned (.tuple #[.slice (some ⟨g, 0, none⟩) c.length cap, .nilIface]) ∧ w.heap.size ≤ g ∧ c.length ≤ cap ∧ Row g l w' ∧ l.take c.length = c ∧ Below w.heap.size w w' := by
  obtain ⟨q, hq⟩ : ∃ q, (c.length + 2) / 3 = q := ⟨_, rfl⟩
  obtain ⟨N, hN⟩ : ∃ N, s.size = N := ⟨_, rfl⟩
  obtain ⟨M, hM⟩ : ∃ M, 3 * q = M := ⟨_, rfl⟩
  have hl0 : 0 < c.length := List.length_pos_iff.2 hc
  have hN4 : N = 4 * q := by
    have h1 : s.size = (b64 c).length := by rw [← hs, Array.length_toList]; rfl
    rw [← hN, h1, b64_length]; omega
  have hdl := DecodedLen_four ea q (by omega) w hE
  rw [← hN4, hM] at hdl
  have hmk := make_bytes M (by omega)
  obtain ⟨cv, w2, hrun, hc1, hc2, hsz2, hf2, hcell2⟩ := conv_bytes (w.alloc (.cells (madeCells #[Value.int .u8 0] M) 5)) s (by rw [hN]; unfold maxLen; omega)
  have hr0 := Row.make w M
  have hM3 : M = 3 * q := hM.symm
  have hq0 : 0 < q := by omega
  have hcM : c.length ≤ M := by omega
  have HS := Lib.hid hs; have HN4 := Lib.hid hN4; have HM := Lib.hid hM3; have HQ := Lib.hid hq; have HDL := Lib.hid hdl; have HR0 := Lib.hid hr0; have HE := Lib.hid hE; have HF2 := Lib.hid hf2; have HC2 := Lib.hid hcell2; have HSZ := Lib.hid hsz2
  rw [hN] at hrun hc1
  have HRUN := Lib.hid hrun
  rw [show (w.alloc (.cells (madeCells #[Value.int .u8 0] M) 5)).heap.size = w.heap.size + 1 by simp] at HRUN HC2 HSZ
  clear hs hN4 hM hM3 hq hdl hr0 hE hf2 hcell2 hsz2 hrun hc
  go_enter Tryz.func107, Tryz.ntmps107
  go_wp2_with fail
  refine HDL.out.mono ?_
  rintro x w1 ⟨rfl, rfl⟩
  go_wp2_with fail
  rw [HRUN.out]; simp only [Result.andThen]; rw [Oper.upon_value]
  have hEw : EncM 64 ea w2 := (HE.out.kept (Below.heap_alloc _ _ _ HE.out.lt)).kept (HF2.out.block ea (by rw [World.size_alloc]; have := HE.out.lt; omega))
  have hRw : Row w.heap.size (List.replicate M 0) w2 := HR0.out.kept (HF2.out.block _ (by simp))
  go_wp2_with fail
  refine (Decode_b64 ea w.heap.size (w.heap.size + 1) N M q M cv c (List.replicate M 0) w2 hEw hRw (by rw [List.length_replicate]; exact HM.out) HQ.out hq0 HN4.out HM.out (by have := HQ.out; omega) (Nat.le_refl _) (by have := HM.out; have := HQ.out; omega) hc1 hc2 (by rw [← HS.out]; exact HC2.out) (by have := HE.out.lt; omega) (by omega)).mono ?_
  rintro x w3 ⟨⟨l', rfl, hR3, hl3⟩, hF3⟩
  have HF3 := Lib.hid hF3; have HL3 := Lib.hid hl3
  clear hF3 hl3
  have i1 : (c.length : Int) ≤ (M : Int) := by omega
  go_wp2
  go_ret2
  refine ⟨_, _, l', rfl, Nat.le_refl _, hcM, hR3, HL3.out, ?_⟩
  have hsz : w2.heap.size = w.heap.size + 2 := HSZ.out
  exact ((((Fr.refl _ w).alloc (fun k hk => hk) _).trans (HF2.out.mono (fun k hk => by simp; omega))).trans (HF3.out.mono (fun k hk => by omega))).below

theorem decode_b (s : ByteArray) (c : List UInt8) (hs : s.data.toList = b64 c) (hc : c ≠ []) (hlen : c.length ≤ 4096) (w : World) :
    Calls Tryz.prog 97 #[.int .u8 98, .string s] w fun x w' => ∃ g cap l, x = .returned (.tuple #[.slice (some ⟨g, 0, none⟩) c.length cap, .nilIface]) ∧ w.heap.size ≤ g ∧ c.length ≤ cap ∧ Row g l w' ∧ l.take c.length = c ∧ Below w.heap.size w w' := by
  have HS := Lib.hid hs
  have HC := Lib.hid hc
  clear hs hc
  go_enter Tryz.func97, Tryz.ntmps97
  go_wp2_with fail
  refine (stdEncoding_any _).mono ?_
  rintro x w1 ⟨rfl, hE1, hb1⟩
  go_wp2_with fail
  refine (DecodeString_b64 _ s c HS.out HC.out hlen _ hE1).mono ?_
  rintro x w2 ⟨g, cap, l, rfl, h1, h2, h3, h4, h5⟩
  have hz := hb1.size
  go_wp2
  go_ret2
  exact ⟨g, cap, l, rfl, Nat.le_trans hz h1, h2, h3, h4, hb1.trans (h5.mono hz)⟩
end Go.Proofs.YtpoglombagmhmaaGreatDoor
