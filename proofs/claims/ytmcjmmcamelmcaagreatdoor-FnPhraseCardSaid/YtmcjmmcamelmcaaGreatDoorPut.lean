/- BEPutUint32, BEPutUint64: the walks. -/
import Derived.Test.YtmcjmmcamelmcaaGreatDoorAsm
namespace Go.Proofs.YtmcjmmcamelmcaaGreatDoor
open Go Go.RowKit

set_option maxHeartbeats 1000000 in
set_option maxRecDepth 100000 in
theorem BEPutUint32_any (g n m cap : Nat) (l : List UInt8) (p0 p1 p2 p3 : UInt8) (V : Nat) (hV : V = p0.toNat * 16777216 + p1.toNat * 65536 + p2.toNat * 256 + p3.toNat * 1) (w : World) (hR : Row g l w) (hn : n + 4 ≤ l.length) (hm : 4 ≤ m) :
    Calls Tryz.prog 126 #[.slice (some ⟨g, n, none⟩) m cap, .int .u32 V] w fun x w' => x = .returned (.tuple #[]) ∧ Row g ((((l.set n p0).set (n + 1) p1).set (n + 2) p2).set (n + 3) p3) w' ∧ Fr (· ≠ g) w w' := by
  have l0 := p0.toNat_lt
  have l1 := p1.toNat_lt
  have l2 := p2.toNat_lt
  have l3 := p3.toNat_lt
  obtain ⟨y0, hy0⟩ : ∃ y, l[n]? = some y := ⟨_, List.getElem?_eq_getElem (by omega)⟩
  have c0 := hR.cell hy0
  have f0 := hR.frozen (n)
  obtain ⟨y1, hy1⟩ : ∃ y, l[n + 1]? = some y := ⟨_, List.getElem?_eq_getElem (by omega)⟩
  have c1 := hR.cell hy1
  have f1 := hR.frozen (n + 1)
  obtain ⟨y2, hy2⟩ : ∃ y, l[n + 2]? = some y := ⟨_, List.getElem?_eq_getElem (by omega)⟩
  have c2 := hR.cell hy2
  have f2 := hR.frozen (n + 2)
  obtain ⟨y3, hy3⟩ : ∃ y, l[n + 3]? = some y := ⟨_, List.getElem?_eq_getElem (by omega)⟩
  have c3 := hR.cell hy3
  have f3 := hR.frozen (n + 3)
  have e0 : IntKind.u8.wrap ((V : Int) / 16777216) = (p0.toNat : Int) := by rw [IntKind.wrap_u8']; omega
  have e1 : IntKind.u8.wrap ((V : Int) / 65536) = (p1.toNat : Int) := by rw [IntKind.wrap_u8']; omega
  have e2 : IntKind.u8.wrap ((V : Int) / 256) = (p2.toNat : Int) := by rw [IntKind.wrap_u8']; omega
  have e3 : IntKind.u8.wrap (V : Int) = (p3.toNat : Int) := by rw [IntKind.wrap_u8']; omega
  have HR := Lib.hid ((((hR.set (n) p0).set (n + 1) p1).set (n + 2) p2).set (n + 3) p3); have HF := Lib.hid (((((Fr.refl (· ≠ g) w).setCell (p := ⟨g, n, none⟩) (fun h => h rfl) (.int .u8 p0.toNat)).setCell (p := ⟨g, n + 1, none⟩) (fun h => h rfl) (.int .u8 p1.toNat)).setCell (p := ⟨g, n + 2, none⟩) (fun h => h rfl) (.int .u8 p2.toNat)).setCell (p := ⟨g, n + 3, none⟩) (fun h => h rfl) (.int .u8 p3.toNat))
  have i1 : (3 : Int) < (m : Int) := by omega
  clear hR hV l0 hy0 l1 hy1 l2 hy2 l3 hy3
  go_enter Tryz.func126, Tryz.ntmps126
  go_wp2
  go_end0
  exact ⟨rfl, HR.out, HF.out⟩

set_option maxHeartbeats 1000000 in
set_option maxRecDepth 100000 in
theorem BEPutUint64_any (g n m cap : Nat) (l : List UInt8) (p0 p1 p2 p3 p4 p5 p6 p7 : UInt8) (V : Nat) (hV : V = p0.toNat * 72057594037927936 + p1.toNat * 281474976710656 + p2.toNat * 1099511627776 + p3.toNat * 4294967296 + p4.toNat * 16777216 + p5.toNat * 65536 + p6.toNat * 256 + p7.toNat * 1) (w : World) (hR : Row g l w) (hn : n + 8 ≤ l.length) (hm : 8 ≤ m) :
    Calls Tryz.prog 123 #[.slice (some ⟨g, n, none⟩) m cap, .int .u64 V] w fun x w' => x = .returned (.tuple #[]) ∧ Row g ((((((((l.set n p0).set (n + 1) p1).set (n + 2) p2).set (n + 3) p3).set (n + 4) p4).set (n + 5) p5).set (n + 6) p6).set (n + 7) p7) w' ∧ Fr (· ≠ g) w w' := by
  have l0 := p0.toNat_lt
  have l1 := p1.toNat_lt
  have l2 := p2.toNat_lt
  have l3 := p3.toNat_lt
  have l4 := p4.toNat_lt
  have l5 := p5.toNat_lt
  have l6 := p6.toNat_lt
  have l7 := p7.toNat_lt
  obtain ⟨y0, hy0⟩ : ∃ y, l[n]? = some y := ⟨_, List.getElem?_eq_getElem (by omega)⟩
  have c0 := hR.cell hy0
  have f0 := hR.frozen (n)
  obtain ⟨y1, hy1⟩ : ∃ y, l[n + 1]? = some y := ⟨_, List.getElem?_eq_getElem (by omega)⟩
  have c1 := hR.cell hy1
  have f1 := hR.frozen (n + 1)
  obtain ⟨y2, hy2⟩ : ∃ y, l[n + 2]? = some y := ⟨_, List.getElem?_eq_getElem (by omega)⟩
  have c2 := hR.cell hy2
  have f2 := hR.frozen (n + 2)
  obtain ⟨y3, hy3⟩ : ∃ y, l[n + 3]? = some y := ⟨_, List.getElem?_eq_getElem (by omega)⟩
  have c3 := hR.cell hy3
  have f3 := hR.frozen (n + 3)
  obtain ⟨y4, hy4⟩ : ∃ y, l[n + 4]? = some y := ⟨_, List.getElem?_eq_getElem (by omega)⟩
  have c4 := hR.cell hy4
  have f4 := hR.frozen (n + 4)
  obtain ⟨y5, hy5⟩ : ∃ y, l[n + 5]? = some y := ⟨_, List.getElem?_eq_getElem (by omega)⟩
  have c5 := hR.cell hy5
  have f5 := hR.frozen (n + 5)
  obtain ⟨y6, hy6⟩ : ∃ y, l[n + 6]? = some y := ⟨_, List.getElem?_eq_getElem (by omega)⟩
  have c6 := hR.cell hy6
  have f6 := hR.frozen (n + 6)
  obtain ⟨y7, hy7⟩ : ∃ y, l[n + 7]? = some y := ⟨_, List.getElem?_eq_getElem (by omega)⟩
  have c7 := hR.cell hy7
  have f7 := hR.frozen (n + 7)
  have e0 : IntKind.u8.wrap ((V : Int) / 72057594037927936) = (p0.toNat : Int) := by rw [IntKind.wrap_u8']; omega
  have e1 : IntKind.u8.wrap ((V : Int) / 281474976710656) = (p1.toNat : Int) := by rw [IntKind.wrap_u8']; omega
  have e2 : IntKind.u8.wrap ((V : Int) / 1099511627776) = (p2.toNat : Int) := by rw [IntKind.wrap_u8']; omega
  have e3 : IntKind.u8.wrap ((V : Int) / 4294967296) = (p3.toNat : Int) := by rw [IntKind.wrap_u8']; omega
  have e4 : IntKind.u8.wrap ((V : Int) / 16777216) = (p4.toNat : Int) := by rw [IntKind.wrap_u8']; omega
  have e5 : IntKind.u8.wrap ((V : Int) / 65536) = (p5.toNat : Int) := by rw [IntKind.wrap_u8']; omega
  have e6 : IntKind.u8.wrap ((V : Int) / 256) = (p6.toNat : Int) := by rw [IntKind.wrap_u8']; omega
  have e7 : IntKind.u8.wrap (V : Int) = (p7.toNat : Int) := by rw [IntKind.wrap_u8']; omega
  have HR := Lib.hid ((((((((hR.set (n) p0).set (n + 1) p1).set (n + 2) p2).set (n + 3) p3).set (n + 4) p4).set (n + 5) p5).set (n + 6) p6).set (n + 7) p7); have HF := Lib.hid (((((((((Fr.refl (· ≠ g) w).setCell (p := ⟨g, n, none⟩) (fun h => h rfl) (.int .u8 p0.toNat)).setCell (p := ⟨g, n + 1, none⟩) (fun h => h rfl) (.int .u8 p1.toNat)).setCell (p := ⟨g, n + 2, none⟩) (fun h => h rfl) (.int .u8 p2.toNat)).setCell (p := ⟨g, n + 3, none⟩) (fun h => h rfl) (.int .u8 p3.toNat)).setCell (p := ⟨g, n + 4, none⟩) (fun h => h rfl) (.int .u8 p4.toNat)).setCell (p := ⟨g, n + 5, none⟩) (fun h => h rfl) (.int .u8 p5.toNat)).setCell (p := ⟨g, n + 6, none⟩) (fun h => h rfl) (.int .u8 p6.toNat)).setCell (p := ⟨g, n + 7, none⟩) (fun h => h rfl) (.int .u8 p7.toNat))
  have i1 : (7 : Int) < (m : Int) := by omega
  clear hR hV l0 hy0 l1 hy1 l2 hy2 l3 hy3 l4 hy4 l5 hy5 l6 hy6 l7 hy7
  go_enter Tryz.func123, Tryz.ntmps123
  go_wp2
  go_end0
  exact ⟨rfl, HR.out, HF.out⟩

end Go.Proofs.YtmcjmmcamelmcaaGreatDoor
