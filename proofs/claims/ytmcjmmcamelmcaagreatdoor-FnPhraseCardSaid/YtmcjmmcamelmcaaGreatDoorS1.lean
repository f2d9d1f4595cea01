/- spec.IsAtom, spec.quoted: the walks. -/
import Derived.Test.YtmcjmmcamelmcaaGreatDoorUtf
import Derived.Test.YtmcjmmcamelmcaaGreatDoorRow
import Derived.Lib.SlBytesConst
import Derived.Laws.NewBlocks
namespace Go.Proofs.YtmcjmmcamelmcaaGreatDoor
open Go Go.RowKit

def atomS : List UInt8 := [33, 35, 36, 37, 38, 39, 42, 43, 45, 47, 61, 63, 94, 95, 96, 123, 124, 125, 126]
def inAtomS (c : UInt8) : Bool := atomS.contains c
def atomC : Array Value := (atomS.map fun x => Value.int .u8 x.toNat).toArray
theorem atomC_eq : #[Value.int .u8 33, .int .u8 35, .int .u8 36, .int .u8 37, .int .u8 38, .int .u8 39, .int .u8 42, .int .u8 43, .int .u8 45, .int .u8 47, .int .u8 61, .int .u8 63, .int .u8 94, .int .u8 95, .int .u8 96, .int .u8 123, .int .u8 124, .int .u8 125, .int .u8 126] = atomC := rfl
theorem atomC_at (w : World) (j : Nat) (x : UInt8) (h : atomS[j]? = some x) : (w.alloc (.cells atomC 5 (19, 20))).cell? ⟨w.heap.size, j, none⟩ = some (.int .u8 x.toNat) := by
  rw [World.cell?_alloc_mark]
  simp [atomC, h]
theorem atomB_in {c : UInt8} (h : (48 ≤ c.toNat ∧ c.toNat ≤ 57) ∨ (97 ≤ c.toNat ∧ c.toNat ≤ 122) ∨ (65 ≤ c.toNat ∧ c.toNat ≤ 90) ∨ 128 ≤ c.toNat) : atomB c = true := by
  unfold atomB; rw [decide_eq_true h]; rfl
theorem atomB_out {c : UInt8} (h : ¬ ((48 ≤ c.toNat ∧ c.toNat ≤ 57) ∨ (97 ≤ c.toNat ∧ c.toNat ≤ 122) ∨ (65 ≤ c.toNat ∧ c.toNat ≤ 90) ∨ 128 ≤ c.toNat)) : atomB c = inAtomS c := by
  unfold atomB; rw [decide_eq_false h]; rfl

set_option maxHeartbeats 1000000 in
set_option maxRecDepth 100000 in
theorem IsAtom_out (c : UInt8) (w : World) (h : ¬ ((48 ≤ c.toNat ∧ c.toNat ≤ 57) ∨ (97 ≤ c.toNat ∧ c.toNat ≤ 122) ∨ (65 ≤ c.toNat ∧ c.toNat ≤ 90) ∨ 128 ≤ c.toNat)) :
    Calls Tryz.prog 21 #[.int .u8 c.toNat] w fun x w' => x = .returned (.bool (inAtomS c)) ∧ Below w.heap.size w w' := by
  have hlt := c.toNat_lt
  have t1 : ((48 : Int) ≤ (c.toNat : Int) ∧ ¬ (c.toNat : Int) ≤ 57) ∨ ¬ (48 : Int) ≤ (c.toNat : Int) := by omega
  have t2 : ((97 : Int) ≤ (c.toNat : Int) ∧ ¬ (c.toNat : Int) ≤ 122) ∨ ¬ (97 : Int) ≤ (c.toNat : Int) := by omega
  have t3 : ((65 : Int) ≤ (c.toNat : Int) ∧ ¬ (c.toNat : Int) ≤ 90) ∨ ¬ (65 : Int) ≤ (c.toNat : Int) := by omega
  have t4 : ¬ (128 : Int) ≤ (c.toNat : Int) := by omega
  have hconv := Lib.run_convert_bytes_const (P := Tryz.prog) w 79 5 atomC 19 19 Tryz.underlying79 Tryz.underlying5
  have hr := fun (j : Nat) (x : UInt8) (h : atomS[j]? = some x) => atomC_at w j x h
  have hb : Below w.heap.size w (w.alloc (.cells atomC 5 (19, 20))) := (Below.refl _ w).alloc (Nat.le_refl _) _
  have HR := Lib.hid hr; have HB := Lib.hid hb; have HC := Lib.hid hconv
  clear hr hb h hlt hconv
  rcases t1 with ⟨a1, a2⟩ | a1 <;> rcases t2 with ⟨b1, b2⟩ | b1 <;> rcases t3 with ⟨c1, c2⟩ | c1 <;> try (exfalso; omega)
  all_goals
    go_enter Tryz.func21, Tryz.ntmps21
    go_wp2
    rw [atomC_eq, HC.out]; simp only [Result.andThen]; rw [Oper.upon_value]
    rw [show atomC.size = 19 from rfl]
    rw [show atomC.size = 19 from rfl] at HC
    clear HC
    generalize w.alloc (.cells atomC 5 (19, 20)) = w1 at *
    go_wp2
    clear a1 b1 c1 t4
    try clear a2
    try clear b2
    try clear c2
    go_loop [34] (fun i => ∃ k : Nat, k ≤ 19 ∧ i = .int .i64 k ∧ (atomS.take k).contains c = false) (fun i => 19 - (intOf i).toNat)
    case atStart => exact ⟨0, by omega, rfl, rfl⟩
    case round =>
      obtain ⟨k, hk, rfl, hno⟩ := hrel
      by_cases hlt : k < 19
      · obtain ⟨x, hx⟩ : ∃ x, atomS[k]? = some x := ⟨_, List.getElem?_eq_getElem (by simpa [atomS] using hlt)⟩
        have hc := HR.out k x hx
        have htk : atomS.take (k + 1) = atomS.take k ++ [x] := by rw [List.take_add_one, hx]; rfl
        have HX := Lib.hid hx; have HNO := Lib.hid hno; have HTK := Lib.hid htk
        clear hx hno htk
        by_cases he : c = x
        · have t : ((c.toNat : Int) == (x.toNat : Int)) = true := by rw [he]; simp
          have HE := Lib.hid he
          clear he
          go_wp2
          go_ret
          refine ⟨ret_bool ?_, HB.out⟩
          rw [HE.out]
          exact (List.contains_iff_mem.2 (List.mem_of_getElem? HX.out)).symm
        · have t : ((c.toNat : Int) == (x.toNat : Int)) = false := by
            rw [beq_eq_false_iff_ne]; intro h; exact he (UInt8.toNat.inj (by omega))
          have HE := Lib.hid he
          clear he
          go_wp2
          go_round
          case rel =>
            refine ⟨k + 1, by omega, by go_num, ?_⟩
            rw [HTK.out, List.contains_append, HNO.out]
            simp [HE.out]
          case measure => simp [intOf]; omega
      · have hk19 : k = 19 := by omega
        subst hk19
        have HNO := Lib.hid hno
        clear hno
        go_wp2
        go_ret
        exact ⟨ret_bool (Eq.symm HNO.out), HB.out⟩

theorem IsAtom_in (c : UInt8) (w : World) (h : (48 ≤ c.toNat ∧ c.toNat ≤ 57) ∨ (97 ≤ c.toNat ∧ c.toNat ≤ 122) ∨ (65 ≤ c.toNat ∧ c.toNat ≤ 90) ∨ 128 ≤ c.toNat) :
    Calls Tryz.prog 21 #[.int .u8 c.toNat] w fun x w' => x = .returned (.bool true) ∧ Below w.heap.size w w' := by
  have hlt := c.toNat_lt
  by_cases h0 : (48 : Int) ≤ (c.toNat : Int) ∧ (c.toNat : Int) ≤ 57
  · obtain ⟨a1, a2⟩ := h0
    clear h
    go_enter Tryz.func21, Tryz.ntmps21
    go_wp2
    go_ret
    exact ⟨rfl, Below.refl _ _⟩
  · have t1 : ((48 : Int) ≤ (c.toNat : Int) ∧ ¬ (c.toNat : Int) ≤ 57) ∨ ¬ (48 : Int) ≤ (c.toNat : Int) := by omega
    have t2 : ((97 : Int) ≤ (c.toNat : Int) ∧ (c.toNat : Int) ≤ 122) ∨ ((97 : Int) ≤ (c.toNat : Int) ∧ ¬ (c.toNat : Int) ≤ 122) ∨ ¬ (97 : Int) ≤ (c.toNat : Int) := by omega
    have t3 : ((65 : Int) ≤ (c.toNat : Int) ∧ (c.toNat : Int) ≤ 90) ∨ ((65 : Int) ≤ (c.toNat : Int) ∧ ¬ (c.toNat : Int) ≤ 90) ∨ ¬ (65 : Int) ≤ (c.toNat : Int) := by omega
    have t4 : (128 : Int) ≤ (c.toNat : Int) ∨ ¬ (128 : Int) ≤ (c.toNat : Int) := by omega
    clear h0
    rcases t1 with ⟨a1, a2⟩ | a1 <;> rcases t2 with ⟨b1, b2⟩ | ⟨b1, b2⟩ | b1 <;> rcases t3 with ⟨c1, c2⟩ | ⟨c1, c2⟩ | c1 <;> rcases t4 with d | d <;> try (exfalso; omega)
    all_goals
      clear h hlt
      go_enter Tryz.func21, Tryz.ntmps21
      go_wp2
      go_ret
      exact ⟨rfl, Below.refl _ _⟩
theorem IsAtom_any (c : UInt8) (w : World) :
    Calls Tryz.prog 21 #[.int .u8 c.toNat] w fun x w' => x = .returned (.bool (atomB c)) ∧ Below w.heap.size w w' := by
  by_cases h : (48 ≤ c.toNat ∧ c.toNat ≤ 57) ∨ (97 ≤ c.toNat ∧ c.toNat ≤ 122) ∨ (65 ≤ c.toNat ∧ c.toNat ≤ 90) ∨ 128 ≤ c.toNat
  · rw [atomB_in h]; exact IsAtom_in c w h
  · rw [atomB_out h]; exact IsAtom_out c w h
end Go.Proofs.YtmcjmmcamelmcaaGreatDoor
