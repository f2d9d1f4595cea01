/- decodeQuantum, on the last four signs: the walk. -/
import Derived.Test.YtpoglombagmhmaaGreatDoorBd1
import Derived.Test.YtpoglombagmhmaaGreatDoorA1
import Derived.OwnWalk
namespace Go.Proofs.YtpoglombagmhmaaGreatDoor
open Go Go.RowKit

/-- The four bytes at hand, of which j are known. -/
def Buf4 (d : Nat) (x0 x1 x2 x3 : Nat) (w : World) : Prop := w.heap[d]? = some (.cells #[.int .u8 x0, .int .u8 x1, .int .u8 x2, .int .u8 x3] 168 (0, 0))
theorem Buf4.cells {d x0 x1 x2 x3 : Nat} {w : World} (h : Buf4 d x0 x1 x2 x3 w) : w.cell? ⟨d, 0, none⟩ = some (.int .u8 x0) ∧ w.cell? ⟨d, 1, none⟩ = some (.int .u8 x1) ∧ w.cell? ⟨d, 2, none⟩ = some (.int .u8 x2) ∧ w.cell? ⟨d, 3, none⟩ = some (.int .u8 x3) := by
  refine ⟨?_, ?_, ?_, ?_⟩ <;> rw [Lib.cell_of_heap h] <;> rfl
theorem Buf4.frozen {d x0 x1 x2 x3 : Nat} {w : World} (h : Buf4 d x0 x1 x2 x3 w) (j : Nat) : w.frozen? ⟨d, j, none⟩ = false := Lib.frozen_of_heap h j
theorem Buf4.set0 {d x0 x1 x2 x3 : Nat} {w : World} (h : Buf4 d x0 x1 x2 x3 w) (y : Nat) : Buf4 d y x1 x2 x3 (w.setCell ⟨d, 0, none⟩ (.int .u8 y)) := heap_setCell_row h
theorem Buf4.set1 {d x0 x1 x2 x3 : Nat} {w : World} (h : Buf4 d x0 x1 x2 x3 w) (y : Nat) : Buf4 d x0 y x2 x3 (w.setCell ⟨d, 1, none⟩ (.int .u8 y)) := heap_setCell_row h
theorem Buf4.set2 {d x0 x1 x2 x3 : Nat} {w : World} (h : Buf4 d x0 x1 x2 x3 w) (y : Nat) : Buf4 d x0 x1 y x3 (w.setCell ⟨d, 2, none⟩ (.int .u8 y)) := heap_setCell_row h
theorem Buf4.set3 {d x0 x1 x2 x3 : Nat} {w : World} (h : Buf4 d x0 x1 x2 x3 w) (y : Nat) : Buf4 d x0 x1 x2 y (w.setCell ⟨d, 3, none⟩ (.int .u8 y)) := heap_setCell_row h

theorem Row.other {g d : Nat} {l : List UInt8} {w : World} (h : Row g l w) (hd : d ≠ g) (j : Nat) (v : Value) : Row g l (w.setCell ⟨d, j, none⟩ v) :=
  h.kept (Below.heap_setCell w ⟨d, j, none⟩ v g (fun e => hd e.symm))
theorem arr256 : (Tryz.prog.info? 81).map (·.size) = some 256 := by kernel_rfl
/-- The decoding map as one value. -/
theorem EncM.map {ea : Nat} {w : World} (h : EncM 64 ea w) : ∃ L : List Value, L.length = 256 ∧ ∀ j v, L[j]? = some v → w.cell? ((⟨ea, 64, none⟩ : Addr).add j) = some v := by
  obtain ⟨cs, hb, hc⟩ := h
  refine ⟨(List.range 256).map (fun c => .int .u8 (dm 64 c)), by simp, fun j v hv => ?_⟩
  rw [addr_add, Lib.cell_of_heap hb]
  rw [List.getElem?_map] at hv
  by_cases hj : j < 256
  · rw [List.getElem?_range hj] at hv
    simp only [Option.map_some, Option.some.injEq] at hv
    rw [hc.dec j hj, hv]
  · rw [List.getElem?_eq_none (by simp; omega)] at hv
    cases hv

theorem chainV (n0 n1 n2 n3 : Nat) (h0 : n0 < 64) (h1 : n1 < 64) (h2 : n2 < 64) (h3 : n3 < 64) :
    bits .or .u64 (bits .or .u64 (bits .or .u64 ((n0 : Int) * 262144) ((n1 : Int) * 4096)) ((n2 : Int) * 64)) (n3 : Int) = ((n0 * 262144 + n1 * 4096 + n2 * 64 + n3 : Nat) : Int) :=
  or64 (n0 * 262144 + n1 * 4096 + n2 * 64) n3 6 _ _ (or64 (n0 * 262144 + n1 * 4096) (n2 * 64) 12 _ _ (or64 (n0 * 262144) (n1 * 4096) 18 _ _ (by omega) (by omega) (by omega) (by omega) (by omega)) (by omega) (by omega) (by omega) (by omega)) rfl (by omega) (by omega) (by omega)

/-- j signs are read. -/
def DQ (d k : Nat) (n0 n1 n2 n3 : Nat) (w : World) (si j : Value) (wr : World) : Prop :=
  ∃ i s : Nat, i ≤ 4 ∧ s = k + i ∧ j = .int .i64 i ∧ si = .int .i64 s ∧ Buf4 d (if 0 < i then n0 else 0) (if 1 < i then n1 else 0) (if 2 < i then n2 else 0) (if 3 < i then n3 else 0) wr ∧ Fr (· < w.heap.size) w wr

set_option maxHeartbeats 1000000 in
set_option maxRecDepth 100000 in
theorem decodeQuantum_full (ea g n m cap sb N scap k : Nat) (n0 n1 n2 n3 : Nat) (h0 : n0 < 64) (h1 : n1 < 64) (h2 : n2 < 64) (h3 : n3 < 64) (l : List UInt8) (w : World) (hE : EncM 64 ea w) (hR : Row g l w) (hn : n + 3 ≤ l.length) (hm : 3 ≤ m) (hk : k + 4 = N) (hN : N ≤ 1048576) (hcap : N ≤ scap)
    (hs : ∀ j (x : UInt8), [sgn n0, sgn n1, sgn n2, sgn n3][j]? = some x → w.cell? ⟨sb, k + j, none⟩ = some (.int .u8 x.toNat)) (hga : g ≠ ea) (hgs : g ≠ sb) (p0 p1 p2 : UInt8) (hp : n0 * 262144 + n1 * 4096 + n2 * 64 + n3 = p0.toNat * 65536 + p1.toNat * 256 + p2.toNat) :
    Calls Tryz.prog 136 #[.pointer (some ⟨ea, 0, none⟩), .slice (some ⟨g, n, none⟩) m cap, .slice (some ⟨sb, 0, none⟩) N scap, .int .i64 k] w fun x w' => x = .returned (.tuple #[.int .i64 N, .int .i64 3, .nilIface]) ∧ Row g (((l.set (n + 2) p2).set (n + 1) p1).set n p0) w' ∧ Fr (fun b => b ≠ g ∧ b < w.heap.size) w w' := by
  have HS := Lib.hid hs; have HP := Lib.hid hp; have HR := Lib.hid hR; have HE := Lib.hid hE
  clear hs hp hR hE
  go_enter Tryz.func136, Tryz.ntmps136
  have hB0 : Buf4 w.heap.size 0 0 0 0 (w.alloc (.cells #[.int .u8 0, .int .u8 0, .int .u8 0, .int .u8 0] 168)) := heap_alloc_new w _
  have hF0 : Fr (· < w.heap.size) w (w.alloc (.cells #[.int .u8 0, .int .u8 0, .int .u8 0, .int .u8 0] 168)) := (Fr.refl _ w).alloc (fun k hk => hk) _
  have HB0 := Lib.hid hB0; have HF0 := Lib.hid hF0
  have HE1 := Lib.hid (HE.out.kept (hF0.block ea HE.out.lt))
  clear hB0 hF0
  obtain ⟨L, hL, hLc⟩ := HE1.out.map
  have HL := Lib.hid hL; have HLC := Lib.hid hLc
  clear hL hLc
  go_wp2_with (refine wpList_load_at rfl 81 _ rfl ⟨ea, 64, none⟩ rfl L _ HLC.out Tryz.underlying81 rfl (by rw [HL.out]; exact arr256) ?_)
  generalize L.toArray = LA
  generalize w.alloc (.cells #[Value.int .u8 0, .int .u8 0, .int .u8 0, .int .u8 0] 168) = w1 at *
  obtain ⟨d, hd⟩ : ∃ d, w.heap.size = d := ⟨_, rfl⟩
  have HD := Lib.hid hd
  rw [hd] at HB0 ⊢
  clear hd
  have src : ∀ (j : Nat) (x : UInt8), [sgn n0, sgn n1, sgn n2, sgn n3][j]? = some x → ∀ wr, Fr (· < w.heap.size) w wr → wr.cell? ⟨sb, k + j, none⟩ = some (.int .u8 x.toNat) := by
    intro j x hx wr hf
    have h := HS.out j x hx
    have hlt : sb < w.heap.size := by
      rcases Nat.lt_or_ge sb w.heap.size with h' | h'
      · exact h'
      · simp [World.cell?, Array.getElem?_eq_none h'] at h
    rw [hf.cell (p := ⟨sb, k + j, none⟩) hlt]; exact h
  have SRC := Lib.hid src
  have map : ∀ (i : Nat), i < 64 → ∀ wr, Fr (· < w.heap.size) w wr → wr.cell? ⟨ea, 64 + (sgn i).toNat, none⟩ = some (.int .u8 i) := fun i hi wr hf => (HE.out.kept (hf.block ea HE.out.lt)).sign hi
  have MAP := Lib.hid map
  clear src map
  go_loopw [3, 10, 12, 13] (fun si er dl j wr => er = .nilIface ∧ dl = .int .i64 4 ∧ DQ d k n0 n1 n2 n3 w si j wr) (fun _ _ _ j _ => 4 - (intOf j).toNat)
  case atStart => exact ⟨rfl, rfl, 0, k, by omega, rfl, rfl, rfl, HB0.out, HF0.out⟩
  case round =>
    obtain ⟨rfl, rfl, i, s, hi, hs, rfl, rfl, hB, hF⟩ := hrel
    have hi' : i = 0 ∨ i = 1 ∨ i = 2 ∨ i = 3 ∨ i = 4 := by omega
    rcases hi' with rfl | rfl | rfl | rfl | rfl
    · have hc : wr.cell? ⟨sb, s, none⟩ = some (.int .u8 (sgn n0).toNat) := by rw [hs]; exact SRC.out 0 _ rfl wr hF
      have hm := MAP.out n0 h0 wr hF
      obtain ⟨b0, b1, b2, b3⟩ := hB.cells
      have hfz := hB.frozen 0
      have HB := Lib.hid (hB.set0 n0); have HF := Lib.hid (hF.setCell (p := ⟨d, 0, none⟩) (fun h => Nat.lt_irrefl d (HD.out ▸ h)) (.int .u8 n0))
      have hne : ((n0 : Int) != 255) = true := by rw [bne_iff_ne]; omega
      have hsn := (sgn n0).toNat_lt
      have t0 : ((N : Int) == (s : Int)) = false := by rw [beq_eq_false_iff_ne]; omega
      have t1 : (s : Int) < (N : Int) := by omega
      have HSS := Lib.hid hs
      clear hB hF hs
      go_wp2
      go_roundw
      case rel => exact ⟨rfl, rfl, 1, s + 1, by omega, by rw [HSS.out], by go_num, by go_num, HB.out, HF.out⟩
      case measure => simp [intOf]
    · have hc : wr.cell? ⟨sb, s, none⟩ = some (.int .u8 (sgn n1).toNat) := by rw [hs]; exact SRC.out 1 _ rfl wr hF
      have hm := MAP.out n1 h1 wr hF
      obtain ⟨b0, b1, b2, b3⟩ := hB.cells
      have hfz := hB.frozen 1
      have HB := Lib.hid (hB.set1 n1); have HF := Lib.hid (hF.setCell (p := ⟨d, 1, none⟩) (fun h => Nat.lt_irrefl d (HD.out ▸ h)) (.int .u8 n1))
      have hne : ((n1 : Int) != 255) = true := by rw [bne_iff_ne]; omega
      have hsn := (sgn n1).toNat_lt
      have t0 : ((N : Int) == (s : Int)) = false := by rw [beq_eq_false_iff_ne]; omega
      have t1 : (s : Int) < (N : Int) := by omega
      have HSS := Lib.hid hs
      clear hB hF hs
      go_wp2
      go_roundw
      case rel => exact ⟨rfl, rfl, 2, s + 1, by omega, by rw [HSS.out], by go_num, by go_num, HB.out, HF.out⟩
      case measure => simp [intOf]
    · have hc : wr.cell? ⟨sb, s, none⟩ = some (.int .u8 (sgn n2).toNat) := by rw [hs]; exact SRC.out 2 _ rfl wr hF
      have hm := MAP.out n2 h2 wr hF
      obtain ⟨b0, b1, b2, b3⟩ := hB.cells
      have hfz := hB.frozen 2
      have HB := Lib.hid (hB.set2 n2); have HF := Lib.hid (hF.setCell (p := ⟨d, 2, none⟩) (fun h => Nat.lt_irrefl d (HD.out ▸ h)) (.int .u8 n2))
      have hne : ((n2 : Int) != 255) = true := by rw [bne_iff_ne]; omega
      have hsn := (sgn n2).toNat_lt
      have t0 : ((N : Int) == (s : Int)) = false := by rw [beq_eq_false_iff_ne]; omega
      have t1 : (s : Int) < (N : Int) := by omega
      have HSS := Lib.hid hs
      clear hB hF hs
      go_wp2
      go_roundw
      case rel => exact ⟨rfl, rfl, 3, s + 1, by omega, by rw [HSS.out], by go_num, by go_num, HB.out, HF.out⟩
      case measure => simp [intOf]
    · have hc : wr.cell? ⟨sb, s, none⟩ = some (.int .u8 (sgn n3).toNat) := by rw [hs]; exact SRC.out 3 _ rfl wr hF
      have hm := MAP.out n3 h3 wr hF
      obtain ⟨b0, b1, b2, b3⟩ := hB.cells
      have hfz := hB.frozen 3
      have HB := Lib.hid (hB.set3 n3); have HF := Lib.hid (hF.setCell (p := ⟨d, 3, none⟩) (fun h => Nat.lt_irrefl d (HD.out ▸ h)) (.int .u8 n3))
      have hne : ((n3 : Int) != 255) = true := by rw [bne_iff_ne]; omega
      have hsn := (sgn n3).toNat_lt
      have t0 : ((N : Int) == (s : Int)) = false := by rw [beq_eq_false_iff_ne]; omega
      have t1 : (s : Int) < (N : Int) := by omega
      have HSS := Lib.hid hs
      clear hB hF hs
      go_wp2
      go_roundw
      case rel => exact ⟨rfl, rfl, 4, s + 1, by omega, by rw [HSS.out], by go_num, by go_num, HB.out, HF.out⟩
      case measure => simp [intOf]
    · have hsN : s = N := by omega
      have HB := Lib.hid hB; have HF := Lib.hid hF
      obtain ⟨b0, b1, b2, b3⟩ := hB.cells
      subst hsN
      have hg : g < w.heap.size := HR.out.lt
      have HRR := Lib.hid (HR.out.kept (hF.block g hg))
      have hst := (HE.out.kept (hF.block ea HE.out.lt)).strictC
      obtain ⟨y0, hy0⟩ : ∃ y, l[n]? = some y := ⟨_, List.getElem?_eq_getElem (by omega)⟩
      obtain ⟨y1, hy1⟩ : ∃ y, l[n + 1]? = some y := ⟨_, List.getElem?_eq_getElem (by omega)⟩
      obtain ⟨y2, hy2⟩ : ∃ y, l[n + 2]? = some y := ⟨_, List.getElem?_eq_getElem (by omega)⟩
      have d0 := HRR.out.cell hy0
      have d1 := HRR.out.cell hy1
      have d2 := HRR.out.cell hy2
      have g0 := HRR.out.frozen n
      have g1 := HRR.out.frozen (n + 1)
      have g2 := HRR.out.frozen (n + 2)
      have f0 := hB.frozen 0
      have f1 := hB.frozen 1
      have f2 := hB.frozen 2
      have hdg : d ≠ g := by have := HD.out; omega
      have hde : d ≠ ea := by have := HD.out; have := HE.out.lt; omega
      have hch := chainV n0 n1 n2 n3 h0 h1 h2 h3
      obtain ⟨V, hV⟩ : ∃ V, n0 * 262144 + n1 * 4096 + n2 * 64 + n3 = V := ⟨_, rfl⟩
      rw [hV] at hch
      have hVp := HP.out
      rw [hV] at hVp
      have l0 := p0.toNat_lt
      have l1 := p1.toNat_lt
      have l2 := p2.toNat_lt
      have hVlt : V < 16777216 := by omega
      have e0 : IntKind.u8.wrap ((V : Int) / 65536) = (p0.toNat : Int) := by rw [IntKind.wrap_u8']; omega
      have e1 : IntKind.u8.wrap ((V : Int) / 256) = (p1.toNat : Int) := by rw [IntKind.wrap_u8']; omega
      have e2 : IntKind.u8.wrap (V : Int) = (p2.toNat : Int) := by rw [IntKind.wrap_u8']; omega
      have i2 : (2 : Int) < (m : Int) := by omega
      have HV := Lib.hid hV; have HVP := Lib.hid hVp
      clear hB hF hs hV hVp l0 l1 l2 hy0 hy1 hy2
      go_wp2
      go_ret3
      refine ⟨rfl, ((((((HRR.out.other hdg 2 _).other hdg 1 _).other hdg 0 _).set (n + 2) p2).other hdg 2 _).set (n + 1) p1).other hdg 1 _ |>.set n p0, ?_⟩
      have hnd : ∀ j : Nat, ¬ ((⟨d, j, none⟩ : Addr).block ≠ g ∧ (⟨d, j, none⟩ : Addr).block < w.heap.size) := fun j h => Nat.lt_irrefl d (HD.out ▸ h.2)
      have hng : ∀ j : Nat, ¬ ((⟨g, j, none⟩ : Addr).block ≠ g ∧ (⟨g, j, none⟩ : Addr).block < w.heap.size) := fun j h => h.1 rfl
      exact (((((((((HF.out.mono (fun k hk => hk.2)).setCell (p := ⟨d, 2, none⟩) (hnd 2) _).setCell (p := ⟨d, 1, none⟩) (hnd 1) _).setCell (p := ⟨d, 0, none⟩) (hnd 0) _).setCell (p := ⟨g, n + 2, none⟩) (hng _) _).setCell (p := ⟨d, 2, none⟩) (hnd 2) _).setCell (p := ⟨g, n + 1, none⟩) (hng _) _).setCell (p := ⟨d, 1, none⟩) (hnd 1) _).setCell (p := ⟨g, n, none⟩) (hng _) _)
end Go.Proofs.YtpoglombagmhmaaGreatDoor
