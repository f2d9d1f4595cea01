/- decodeQuantum, where the last quantum has two pads: the walk. -/
import Derived.Test.YtpoglombagmhmaaGreatDoorBd3
namespace Go.Proofs.YtpoglombagmhmaaGreatDoor
open Go Go.RowKit

theorem chainV2 (n0 n1 V : Nat) (h0 : n0 < 64) (h1 : n1 < 64) (hV : n0 * 262144 + n1 * 4096 = V) :
    bits .or .u64 (bits .or .u64 (bits .or .u64 ((n0 : Int) * 262144) ((n1 : Int) * 4096)) 0) 0 = (V : Int) := by
  have h := chainV n0 n1 0 0 h0 h1 (by omega) (by omega)
  simp only [Nat.zero_mul, Nat.add_zero, hV] at h
  rw [show ((0 : Nat) : Int) = (0 : Int) from rfl, Int.zero_mul] at h
  exact h
def DQ4 (d k : Nat) (n0 n1 : Nat) (w : World) (si j : Value) (wr : World) : Prop :=
  ∃ i s : Nat, i ≤ 2 ∧ s = k + i ∧ j = .int .i64 i ∧ si = .int .i64 s ∧ Buf4 d (if 0 < i then n0 else 0) (if 1 < i then n1 else 0) 0 0 wr ∧ Fr (· < w.heap.size) w wr

set_option maxHeartbeats 1000000 in
set_option maxRecDepth 100000 in
theorem decodeQuantum_one (ea g n m cap sb N scap k : Nat) (n0 n1 : Nat) (h0 : n0 < 64) (h1 : n1 < 64) (l : List UInt8) (w : World) (hE : EncM 64 ea w) (hR : Row g l w) (hn : n + 3 ≤ l.length) (hm : 3 ≤ m) (hk : k + 4 = N) (hN : N ≤ 1048576) (_hcap : N ≤ scap)
    (hs : ∀ j (x : UInt8), [sgn n0, sgn n1, 61, 61][j]? = some x → w.cell? ⟨sb, k + j, none⟩ = some (.int .u8 x.toNat)) (hga : g ≠ ea) (hgs : g ≠ sb) (p0 : UInt8) (hp : n0 * 262144 + n1 * 4096 = p0.toNat * 65536) :
    Calls Tryz.prog 136 #[.pointer (some ⟨ea, 0, none⟩), .slice (some ⟨g, n, none⟩) m cap, .slice (some ⟨sb, 0, none⟩) N scap, .int .i64 k] w fun x w' => x = .returned (.tuple #[.int .i64 N, .int .i64 1, .nilIface]) ∧ Row g (l.set n p0) w' ∧ Fr (fun b => b ≠ g ∧ b < w.heap.size) w w' := by
  have HS := Lib.hid hs; have HP := Lib.hid hp; have HR := Lib.hid hR; have HE := Lib.hid hE
  clear hs hp hR hE
  go_enter Tryz.func136, Tryz.ntmps136
  have hB0 : Buf4 w.heap.size 0 0 0 0 (w.alloc (.cells #[.int .u8 0, .int .u8 0, .int .u8 0, .int .u8 0] 168)) := heap_alloc_new w _
  have hF0 : Fr (· < w.heap.size) w (w.alloc (.cells #[.int .u8 0, .int .u8 0, .int .u8 0, .int .u8 0] 168)) := (Fr.refl _ w).alloc (fun k hk => hk) _
  have HB0 := Lib.hid hB0; have HF0 := Lib.hid hF0
  have HE1 := Lib.hid (HE.out.kept (hF0.block ea HE.out.lt))
  clear hB0 hF0
  obtain ⟨L, hL, hLc⟩ := HE1.out.map
  have HL := Lib.hid hL; have HLC := Lib.hid hLc
  clear hL hLc
  go_wp2_with (refine wpList_load_at rfl 81 _ rfl ⟨ea, 64, none⟩ rfl L _ HLC.out Tryz.underlying81 rfl (by rw [HL.out]; exact arr256) ?_)
  generalize L.toArray = LA
  generalize w.alloc (.cells #[Value.int .u8 0, .int .u8 0, .int .u8 0, .int .u8 0] 168) = w1 at *
  obtain ⟨d, hd⟩ : ∃ d, w.heap.size = d := ⟨_, rfl⟩
  have HD := Lib.hid hd
  rw [hd] at HB0 ⊢
  clear hd
  have src : ∀ (j : Nat) (x : UInt8), [sgn n0, sgn n1, 61, 61][j]? = some x → ∀ wr, Fr (· < w.heap.size) w wr → wr.cell? ⟨sb, k + j, none⟩ = some (.int .u8 x.toNat) := by
    intro j x hx wr hf
    have h := HS.out j x hx
    have hlt : sb < w.heap.size := by
      rcases Nat.lt_or_ge sb w.heap.size with h' | h'
      · exact h'
      · simp [World.cell?, Array.getElem?_eq_none h'] at h
    rw [hf.cell (p := ⟨sb, k + j, none⟩) hlt]; exact h
  have SRC := Lib.hid src
  have map : ∀ (i : Nat), i < 64 → ∀ wr, Fr (· < w.heap.size) w wr → wr.cell? ⟨ea, 64 + (sgn i).toNat, none⟩ = some (.int .u8 i) := fun i hi wr hf => (HE.out.kept (hf.block ea HE.out.lt)).sign hi
  have MAP := Lib.hid map
  clear src map
  go_loopw [3, 10, 12, 13] (fun si er dl j wr => er = .nilIface ∧ dl = .int .i64 4 ∧ DQ4 d k n0 n1 w si j wr) (fun _ _ _ j _ => 4 - (intOf j).toNat)
  case atStart => exact ⟨rfl, rfl, 0, k, by omega, rfl, rfl, rfl, HB0.out, HF0.out⟩
  case round =>
    obtain ⟨rfl, rfl, i, s, hi, hs, rfl, rfl, hB, hF⟩ := hrel
    have hi' : i = 0 ∨ i = 1 ∨ i = 2 := by omega
    rcases hi' with rfl | rfl | rfl
    · have hc : wr.cell? ⟨sb, s, none⟩ = some (.int .u8 (sgn n0).toNat) := by rw [hs]; exact SRC.out 0 _ rfl wr hF
      have hm := MAP.out n0 h0 wr hF
      obtain ⟨b0, b1, b2, b3⟩ := hB.cells
      have hfz := hB.frozen 0
      have HB := Lib.hid (hB.set0 n0); have HF := Lib.hid (hF.setCell (p := ⟨d, 0, none⟩) (fun h => Nat.lt_irrefl d (HD.out ▸ h)) (.int .u8 n0))
      have hne : ((n0 : Int) != 255) = true := by rw [bne_iff_ne]; omega
      have hsn := (sgn n0).toNat_lt
      have t0 : ((N : Int) == (s : Int)) = false := by rw [beq_eq_false_iff_ne]; omega
      have t1 : (s : Int) < (N : Int) := by omega
      have HSS := Lib.hid hs
      clear hB hF hs
      go_wp2
      go_roundw
      case rel => exact ⟨rfl, rfl, 1, s + 1, by omega, by rw [HSS.out], by go_num, by go_num, HB.out, HF.out⟩
      case measure => simp [intOf]
    · have hc : wr.cell? ⟨sb, s, none⟩ = some (.int .u8 (sgn n1).toNat) := by rw [hs]; exact SRC.out 1 _ rfl wr hF
      have hm := MAP.out n1 h1 wr hF
      obtain ⟨b0, b1, b2, b3⟩ := hB.cells
      have hfz := hB.frozen 1
      have HB := Lib.hid (hB.set1 n1); have HF := Lib.hid (hF.setCell (p := ⟨d, 1, none⟩) (fun h => Nat.lt_irrefl d (HD.out ▸ h)) (.int .u8 n1))
      have hne : ((n1 : Int) != 255) = true := by rw [bne_iff_ne]; omega
      have hsn := (sgn n1).toNat_lt
      have t0 : ((N : Int) == (s : Int)) = false := by rw [beq_eq_false_iff_ne]; omega
      have t1 : (s : Int) < (N : Int) := by omega
      have HSS := Lib.hid hs
      clear hB hF hs
      go_wp2
      go_roundw
      case rel => exact ⟨rfl, rfl, 2, s + 1, by omega, by rw [HSS.out], by go_num, by go_num, HB.out, HF.out⟩
      case measure => simp [intOf]
    · have hc : wr.cell? ⟨sb, s, none⟩ = some (.int .u8 (61 : UInt8).toNat) := by rw [hs]; exact SRC.out 2 _ rfl wr hF
      have hc' : wr.cell? ⟨sb, s, none⟩ = some (.int .u8 61) := hc
      have hd2 : wr.cell? ⟨sb, s + 1, none⟩ = some (.int .u8 (61 : UInt8).toNat) := by rw [hs]; exact SRC.out 3 _ rfl wr hF
      have hd' : wr.cell? ⟨sb, s + 1, none⟩ = some (.int .u8 61) := hd2
      have hE := HE.out.kept (hF.block ea HE.out.lt)
      have hm := hE.pads
      have hpc := hE.padC
      have hm' : wr.cell? ⟨ea, 125, none⟩ = some (.int .u8 255) := hm
      have t0 : ((N : Int) == (s : Int)) = false := by rw [beq_eq_false_iff_ne]; omega
      have t1 : (s : Int) < (N : Int) := by omega
      have t2 : (s : Int) + 1 < (N : Int) := by omega
      have t3 : ((s : Int) + 1 == (N : Int)) = false := by rw [beq_eq_false_iff_ne]; omega
      have HSN1 := Lib.hid (show (s : Int) + 1 + 1 = (N : Int) by omega)
      have HSS := Lib.hid hs; have HB := Lib.hid hB; have HF := Lib.hid hF; have HD2 := Lib.hid hd'
      clear hs hc hm hB hF hE hd2 hd'
      go_wp2
      have hg : g < w.heap.size := HR.out.lt
      go_loopw [3] (fun si w2 => si = .int .i64 ((s : Int) + 1) ∧ w2 = wr) (fun _ _ => 0)
      case atStart => exact ⟨rfl, rfl⟩
      case round =>
       obtain ⟨rfl, rfl⟩ := hrel
       have hd' := HD2.out
       go_wp2
       go_quiet (fail)
       have hBq : Buf4 d n0 n1 0 0 (wr.drewN nq) := by have h := HB.out; unfold Buf4 at h ⊢; rw [heap_drewN]; exact h
       have hFq := HF.out.drewN nq
       have HBQ := Lib.hid hBq; have HFQ := Lib.hid hFq
       clear hBq hFq hd' hc' hm' hpc
       generalize wr.drewN nq = wq at *
       go_wp2
       go_loopw [3] (fun si w3 => si = .int .i64 N ∧ w3 = wq) (fun _ _ => 0)
       case atStart => exact ⟨by rw [HSN1.out], rfl⟩
       case round =>
        obtain ⟨rfl, rfl⟩ := hrel
        have HB := HBQ; have HF := HFQ
        have hB := HB.out
        have hF := HF.out
        obtain ⟨b0, b1, b2, b3⟩ := hB.cells
        have HRR := Lib.hid (HR.out.kept (hF.block g hg))
        have hst := (HE.out.kept (hF.block ea HE.out.lt)).strictC
        obtain ⟨y0, hy0⟩ : ∃ y, l[n]? = some y := ⟨_, List.getElem?_eq_getElem (by omega)⟩
        have d0 := HRR.out.cell hy0
        have g0 := HRR.out.frozen n
        have f0 := hB.frozen 0
        have f1 := hB.frozen 1
        have f2 := hB.frozen 2
        have hdg : d ≠ g := by have := HD.out; omega
        have hde : d ≠ ea := by have := HD.out; have := HE.out.lt; omega
        obtain ⟨V, hV⟩ : ∃ V, n0 * 262144 + n1 * 4096 = V := ⟨_, rfl⟩
        have hch := chainV2 n0 n1 V h0 h1 hV
        have hVp := HP.out
        rw [hV] at hVp
        have l0 := p0.toNat_lt
        have hVlt : V < 16777216 := by omega
        have e0 : IntKind.u8.wrap ((V : Int) / 65536) = (p0.toNat : Int) := by rw [IntKind.wrap_u8']; omega
        have e1 : IntKind.u8.wrap ((V : Int) / 256) = 0 := by rw [IntKind.wrap_u8']; omega
        have e2 : IntKind.u8.wrap (V : Int) = 0 := by rw [IntKind.wrap_u8']; omega
        have HV := Lib.hid hV; have HVP := Lib.hid hVp
        clear hB hF hV hVp l0 hy0
        go_wp2
        go_ret3
        refine ⟨rfl, ((((HRR.out.other hdg 2 _).other hdg 1 _).other hdg 0 _)).set n p0, ?_⟩
        have hnd : ∀ j : Nat, ¬ ((⟨d, j, none⟩ : Addr).block ≠ g ∧ (⟨d, j, none⟩ : Addr).block < w.heap.size) := fun j h => Nat.lt_irrefl d (HD.out ▸ h.2)
        have hng : ∀ j : Nat, ¬ ((⟨g, j, none⟩ : Addr).block ≠ g ∧ (⟨g, j, none⟩ : Addr).block < w.heap.size) := fun j h => h.1 rfl
        exact (((((HF.out.mono (fun k hk => hk.2)).setCell (p := ⟨d, 2, none⟩) (hnd 2) _).setCell (p := ⟨d, 1, none⟩) (hnd 1) _).setCell (p := ⟨d, 0, none⟩) (hnd 0) _).setCell (p := ⟨g, n, none⟩) (hng _) _)
end Go.Proofs.YtpoglombagmhmaaGreatDoor
