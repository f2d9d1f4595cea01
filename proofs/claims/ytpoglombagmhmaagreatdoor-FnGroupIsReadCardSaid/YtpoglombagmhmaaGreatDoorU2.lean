/- spec.unquoted: the walk. -/
import Derived.Test.YtpoglombagmhmaaGreatDoorU1
import Derived.Deep.RegionLaw
namespace Go.Proofs.YtpoglombagmhmaaGreatDoor
open Go Go.RowKit

theorem unqL_nil (p : Bool) : unqL p [] = some [] := by rw [unqL]
theorem unqL_us (p : Bool) (t : List UInt8) : unqL p (95 :: t) = (unqL p t).map (32 :: ·) := by rw [unqL.eq_def]; rfl
theorem unqL_eq (p : Bool) (a b : UInt8) (t : List UInt8) : unqL p (61 :: a :: b :: t) = (match hexV a, hexV b with | some x, some y => (unqL p t).map (UInt8.ofNat (16 * x + y) :: ·) | _, _ => none) := by
  rw [unqL]
  rw [if_neg (by decide), if_pos rfl]
  cases hexV a <;> cases hexV b <;> rfl
theorem unqL_eq0 (p : Bool) (t : List UInt8) (h : t.length ≤ 1) : unqL p (61 :: t) = none := by
  match t, h with
  | [], _ => rw [unqL.eq_def]; rfl
  | [a], _ => rw [unqL.eq_def]; rfl
theorem unqL_raw {p : Bool} {c : UInt8} (t : List UInt8) (h1 : c ≠ 95) (h2 : c ≠ 61) (h3 : qOk p c = true) : unqL p (c :: t) = (unqL p t).map (c :: ·) := by
  rw [unqL.eq_def]; simp only; rw [if_neg h1, if_neg h2, if_pos h3]
theorem unqL_bad {p : Bool} {c : UInt8} (t : List UInt8) (h1 : c ≠ 95) (h2 : c ≠ 61) (h3 : qOk p c = false) : unqL p (c :: t) = none := by
  rw [unqL.eq_def]; simp only; rw [if_neg h1, if_neg h2, if_neg (by rw [h3]; decide)]
theorem map_app (out : List UInt8) (c : UInt8) (r : Option (List UInt8)) : (r.map (c :: ·)).map (out ++ ·) = r.map ((out ++ [c]) ++ ·) := by cases r <;> simp

def UqRet (r : Option (List UInt8)) (B : Nat) (x : Ending) (w' : World) : Prop :=
  match r with
  | none => x = .returned (.tuple #[.slice none 0 0, .bool false])
  | some l => ∃ v, x = .returned (.tuple #[v, .bool true]) ∧ OwnB B l v w'
def UqRel (s : ByteArray) (p : Bool) (w : World) (r4 r5 v i : Value) (wr : World) : Prop :=
  ∃ (k : Nat) (out : List UInt8), r4 = .slice none 0 0 ∧ r5 = .bool false ∧ i = .int .i64 (k : Nat) ∧ out.length ≤ k ∧ k ≤ s.size ∧ unqL p s.data.toList = (unqL p (s.data.toList.drop k)).map (out ++ ·) ∧ OwnB w.heap.size out v wr ∧ Fr (· < w.heap.size) w wr
theorem i64_or_nat (a b : Nat) (ha : a < 9223372036854775808) (hb : b < 9223372036854775808) : bits .or .i64 (a : Int) (b : Int) = ((a ||| b : Nat) : Int) := by
  have hx : a ||| b < 2 ^ 63 := Nat.or_lt_two_pow (by omega) (by omega)
  show IntKind.i64.wrap ((BitVec.ofInt 64 (a : Int) ||| BitVec.ofInt 64 (b : Int)).toNat : Int) = _
  rw [BitVec.toNat_or, ofInt_u64 a (by omega), ofInt_u64 b (by omega)]
  exact IntWalk.i64_in _ (by omega)
theorem i64_and_nat (a b : Nat) (ha : a < 9223372036854775808) (hb : b < 9223372036854775808) : bits .and .i64 (a : Int) (b : Int) = ((a &&& b : Nat) : Int) := by
  have hx : a &&& b < 2 ^ 63 := Nat.and_lt_two_pow _ (by omega)
  show IntKind.i64.wrap ((BitVec.ofInt 64 (a : Int) &&& BitVec.ofInt 64 (b : Int)).toNat : Int) = _
  rw [BitVec.toNat_and, ofInt_u64 a (by omega), ofInt_u64 b (by omega)]
  exact IntWalk.i64_in _ (by omega)
theorem byte_lt (x y : Nat) (hx : x < 16) (hy : y < 16) : (UInt8.ofNat (16 * x + y)).toNat = 16 * x + y := by
  rw [UInt8.toNat_ofNat']; omega
theorem or_hex (x y : Nat) (hx : x < 16) (hy : y < 16) : IntKind.u8.wrap (bits .or .i64 ((x : Int) * 16) (y : Int)) = ((UInt8.ofNat (16 * x + y)).toNat : Int) := by
  have h : bits .or .i64 ((x : Int) * 16) (y : Int) = ((16 * x + y : Nat) : Int) := by
    rw [show (x : Int) * 16 = ((x * 16 : Nat) : Int) by omega]
    rw [i64_or_nat _ _ (by omega) (by omega)]
    have := or_shift x y 4 (by omega)
    rw [show x * 16 = x * 2 ^ 4 by rfl, this]
    congr 1; omega
  rw [h, byte_lt x y hx hy, IntKind.wrap_u8']
  omega
theorem qOk_true {c : UInt8} (h : (48 ≤ c.toNat ∧ c.toNat ≤ 57) ∨ (97 ≤ c.toNat ∧ c.toNat ≤ 122) ∨ (65 ≤ c.toNat ∧ c.toNat ≤ 90) ∨ c = 33 ∨ c = 42 ∨ c = 43 ∨ c = 45 ∨ c = 47) (p : Bool) : qOk p c = true := by
  unfold qOk; rw [decide_eq_true h]; rfl
theorem qOk_false {c : UInt8} (h : ¬ ((48 ≤ c.toNat ∧ c.toNat ≤ 57) ∨ (97 ≤ c.toNat ∧ c.toNat ≤ 122) ∨ (65 ≤ c.toNat ∧ c.toNat ≤ 90) ∨ c = 33 ∨ c = 42 ∨ c = 43 ∨ c = 45 ∨ c = 47)) (p : Bool) : qOk p c = (!p && decide (32 < c.toNat ∧ c.toNat < 127)) := by
  unfold qOk; rw [decide_eq_false h]; rfl

set_option maxHeartbeats 16000000 in
set_option maxRecDepth 100000 in
theorem unquoted_any (s : ByteArray) (p : Bool) (w : World) (hs : s.size ≤ 70368744177664) :
    Calls Tryz.prog 48 #[.string s, .bool p] w fun x w' => UqRet (unqL p s.data.toList) w.heap.size x w' ∧ Below w.heap.size w w' := by
  go_enter Tryz.func48, Tryz.ntmps48
  go_wp2
  go_loopw [4, 5, 6, 7] (fun r4 r5 v i wr => UqRel s p w r4 r5 v i wr) (fun _ _ _ i _ => s.size - (intOf i).toNat)
  case atStart => exact ⟨0, [], rfl, rfl, rfl, Nat.le_refl _, Nat.zero_le _, by simp, OwnB.nil _ _, Fr.refl _ _⟩
  case round =>
    obtain ⟨k, out, rfl, rfl, rfl, hol, hk, heq, hown, hF⟩ := hrel
    have HOWN := Lib.hid hown; have HF := Lib.hid hF
    have hB : w.heap.size ≤ wr.heap.size := hF.size
    by_cases hlt : k < s.size
    · rw [drop_at s k hlt] at heq
      obtain ⟨c, hc⟩ : ∃ c, s[k] = c := ⟨_, rfl⟩
      rw [hc] at heq
      have hct := c.toNat_lt
      by_cases h95 : c = 95
      · have t95 : ((c.toNat : Int) == 95) = true := ceq h95
        rw [h95, unqL_us, map_app] at heq
        have HEQ := Lib.hid heq
        clear heq hown hF h95
        go_wp2_with (at_builtin; refine wpList_push_byte rfl _ _ rfl w.heap.size out _ 32 wr HOWN.out hB ?c4 rfl rfl ?_)
        case c4 => omega
        intro v' w2 hown' hg _
        have HO2 := Lib.hid hown'; have HF2 := Lib.hid (push_fr HF.out HOWN.out hg)
        clear hown' hg
        go_wp2
        go_roundw
        case rel => exact ⟨k + 1, out ++ [32], rfl, rfl, by go_num, by simp; omega, by omega, HEQ.out, HO2.out, HF2.out⟩
        case measure => simp [intOf]; omega
      · have t95 : ((c.toNat : Int) == 95) = false := cneq h95
        by_cases h61 : c = 61
        · have t61 : ((c.toNat : Int) == 61) = true := ceq h61
          by_cases h2 : k + 2 < s.size
          · have h1 : k + 1 < s.size := by omega
            rw [h61, drop_at s (k + 1) h1, drop_at s (k + 1 + 1) h2, unqL_eq] at heq
            obtain ⟨a, ha⟩ : ∃ a, s[k + 1] = a := ⟨_, rfl⟩
            obtain ⟨b, hb⟩ : ∃ b, s[k + 2] = b := ⟨_, rfl⟩
            have hb' : s[k + 1 + 1] = b := hb
            rw [ha, hb'] at heq
            have i2 : ¬ (s.size : Int) ≤ (k : Int) + 2 := by omega
            cases hx : hexV a with
            | none =>
              rw [hx] at heq
              have HEQ := Lib.hid heq
              have HX := Lib.hid (hexI_none hx)
              clear heq hown hF h61 h95 hx hb'
              go_wp2_with fail
              refine (hex_any a _).mono ?_
              rintro x w2 ⟨rfl, rfl⟩
              rw [HX.out]
              go_wp2
              go_ret2
              refine ⟨?_, HF.out.below⟩
              rw [HEQ.out]; rfl
            | some x =>
              have HXL := hexV_lt hx
              have HX := Lib.hid (hexI_some hx)
              cases hy : hexV b with
              | none =>
                rw [hx, hy] at heq
                have HEQ := Lib.hid heq
                have HY := Lib.hid (hexI_none hy)
                have t0 : ¬ (x : Int) < 0 := by omega
                clear heq hown hF h61 h95 hx hy hb'
                go_wp2_with fail
                refine (hex_any a _).mono ?_
                rintro x1 w2 ⟨rfl, rfl⟩
                rw [HX.out]
                go_wp2_with fail
                refine (hex_any b _).mono ?_
                rintro x2 w2 ⟨rfl, rfl⟩
                rw [HY.out]
                go_wp2
                go_ret2
                refine ⟨?_, HF.out.below⟩
                rw [HEQ.out]; rfl
              | some y =>
                have HYL := hexV_lt hy
                have HY := Lib.hid (hexI_some hy)
                rw [hx, hy] at heq
                simp only at heq
                rw [map_app] at heq
                have HEQ := Lib.hid heq
                have t0 : ¬ (x : Int) < 0 := by omega
                have t1 : ¬ (y : Int) < 0 := by omega
                have HOR := Lib.hid (or_hex x y HXL HYL)
                have hxa := fun W => hex_any a W
                have hyb := fun W => hex_any b W
                rw [HX.out] at hxa
                rw [HY.out] at hyb
                have HXA := Lib.hid hxa; have HYB := Lib.hid hyb
                clear heq hown hF h61 h95 hx hy hb' hxa hyb
                go_wp2_with fail
                refine (HXA.out _).mono ?_
                rintro x1 w2 ⟨rfl, rfl⟩
                go_wp2_with fail
                refine (HYB.out _).mono ?_
                rintro x2 w2 ⟨rfl, rfl⟩
                have hsum1 : IntKind.i64.wrap ((k : Int) + 1) = (k : Int) + 1 := IntWalk.i64_in _ (by omega)
                have hsum2 : IntKind.i64.wrap ((k : Int) + 2) = (k : Int) + 2 := IntWalk.i64_in _ (by omega)
                have p1 : (0 : Int) ≤ (k : Int) + 1 := by omega
                have p2 : (0 : Int) ≤ (k : Int) + 2 := by omega
                have q1 : ((k : Int) + 1).toNat = k + 1 := by omega
                have b1 : (k : Int) + 1 < (s.size : Int) := by omega
                have b2 : (k : Int) + 2 < (s.size : Int) := by omega
                have q2 : ((k : Int) + 2).toNat = k + 2 := by omega
                go_wp2_with fail
                obtain ⟨z, hz⟩ : ∃ z, UInt8.ofNat (16 * x + y) = z := ⟨_, rfl⟩
                rw [hz] at HEQ HOR
                clear hz
                have hxe := HX.out; have hye := HY.out; have hor := HOR.out
                have hx16 : IntKind.i64.wrap ((x : Int) * 16) = (x : Int) * 16 := IntWalk.i64_in _ (by omega)
                have HOD := Lib.hid (HOWN.out.fr (w' := w2.drew) (fun _ _ _ => rfl)); have HFD := Lib.hid HF.out.drew
                have hBD : w.heap.size ≤ w2.drew.heap.size := hB
                have hlenf : out.length + 1 ≤ 140737488355328 := by omega
                go_region_law (first | (go_simp; go_at_call 67; refine (hex_any _ _).mono ?_; rintro e wz ⟨rfl, rfl⟩) | (refine step_push_byte rfl _ _ rfl w.heap.size out _ z w2.drew HOD.out hBD hlenf rfl rfl ?_; intro v' w5 hown' hg))
                all_goals
                  have HO2 := Lib.hid hown'; have HF2 := Lib.hid (push_fr HFD.out HOD.out hg)
                  clear hown' hg hxe hye hor hx16
                  go_wp2
                  go_roundw
                  case rel => exact ⟨k + 3, out ++ [z], rfl, rfl, by go_num, by simp; omega, by omega, HEQ.out, HO2.out, HF2.out⟩
                  case measure => simp [intOf]; omega
          · rw [h61, unqL_eq0 _ _ (by simp; omega)] at heq
            have HEQ := Lib.hid heq
            have i2 : (s.size : Int) ≤ (k : Int) + 2 := by omega
            clear heq hown hF h61 h95
            go_wp2
            go_ret2
            refine ⟨?_, HF.out.below⟩
            rw [HEQ.out]; rfl
        · have t61 : ((c.toNat : Int) == 61) = false := cneq h61
          have hlenf : out.length + 1 ≤ 140737488355328 := by omega
          have hcs : (0 ≤ c.toNat ∧ c.toNat ≤ 32) ∨ (33 ≤ c.toNat ∧ c.toNat ≤ 33) ∨ (34 ≤ c.toNat ∧ c.toNat ≤ 41) ∨ (42 ≤ c.toNat ∧ c.toNat ≤ 42) ∨ (43 ≤ c.toNat ∧ c.toNat ≤ 43) ∨ (44 ≤ c.toNat ∧ c.toNat ≤ 44) ∨ (45 ≤ c.toNat ∧ c.toNat ≤ 45) ∨ (46 ≤ c.toNat ∧ c.toNat ≤ 46) ∨ (47 ≤ c.toNat ∧ c.toNat ≤ 47) ∨ (48 ≤ c.toNat ∧ c.toNat ≤ 57) ∨ (58 ≤ c.toNat ∧ c.toNat ≤ 64) ∨ (65 ≤ c.toNat ∧ c.toNat ≤ 90) ∨ (91 ≤ c.toNat ∧ c.toNat ≤ 96) ∨ (97 ≤ c.toNat ∧ c.toNat ≤ 122) ∨ (123 ≤ c.toNat ∧ c.toNat ≤ 126) ∨ (127 ≤ c.toNat ∧ c.toNat ≤ 255) := by omega
          rcases hcs with ⟨l1, l2⟩ | ⟨l1, l2⟩ | ⟨l1, l2⟩ | ⟨l1, l2⟩ | ⟨l1, l2⟩ | ⟨l1, l2⟩ | ⟨l1, l2⟩ | ⟨l1, l2⟩ | ⟨l1, l2⟩ | ⟨l1, l2⟩ | ⟨l1, l2⟩ | ⟨l1, l2⟩ | ⟨l1, l2⟩ | ⟨l1, l2⟩ | ⟨l1, l2⟩ | ⟨l1, l2⟩
          · have hq := qOk_false (c := c) (by
              rintro (h | h | h | h | h | h | h | h)
              · omega
              · omega
              · omega
              all_goals (rw [h] at l1 l2; revert l1 l2; decide)) p
            have g0 : ¬ ((48 : Int) ≤ (c.toNat : Int)) := by omega
            have g1 : (c.toNat : Int) ≤ 57 := by omega
            have g2 : ¬ ((97 : Int) ≤ (c.toNat : Int)) := by omega
            have g3 : (c.toNat : Int) ≤ 122 := by omega
            have g4 : ¬ ((65 : Int) ≤ (c.toNat : Int)) := by omega
            have g5 : (c.toNat : Int) ≤ 90 := by omega
            have g6 : ¬ ((32 : Int) < (c.toNat : Int)) := by omega
            have g7 : (c.toNat : Int) < 127 := by omega
            have g8 : ((c.toNat : Int) == 33) = false := by rw [beq_eq_false_iff_ne]; omega
            have g9 : ((c.toNat : Int) == 42) = false := by rw [beq_eq_false_iff_ne]; omega
            have g10 : ((c.toNat : Int) == 43) = false := by rw [beq_eq_false_iff_ne]; omega
            have g11 : ((c.toNat : Int) == 45) = false := by rw [beq_eq_false_iff_ne]; omega
            have g12 : ((c.toNat : Int) == 47) = false := by rw [beq_eq_false_iff_ne]; omega
            have hq2 : qOk p c = false := by rw [hq, decide_eq_false (by omega)]; simp
            rw [unqL_bad _ h95 h61 hq2] at heq
            have HEQ := Lib.hid heq
            clear heq hown hF h61 h95 hq hq2 l1 l2
            cases p
            · go_wp2
              go_ret2
              refine ⟨?_, HF.out.below⟩
              rw [HEQ.out]; rfl
            · go_wp2
              go_ret2
              refine ⟨?_, HF.out.below⟩
              rw [HEQ.out]; rfl
          · have hq : qOk p c = true := qOk_true (by first | (left; omega) | (right; left; omega) | (right; right; left; omega) | (right; right; right; left; exact UInt8.toNat.inj (by show c.toNat = 33; omega)) | (right; right; right; right; left; exact UInt8.toNat.inj (by show c.toNat = 42; omega)) | (right; right; right; right; right; left; exact UInt8.toNat.inj (by show c.toNat = 43; omega)) | (right; right; right; right; right; right; left; exact UInt8.toNat.inj (by show c.toNat = 45; omega)) | (right; right; right; right; right; right; right; exact UInt8.toNat.inj (by show c.toNat = 47; omega))) p
            rw [unqL_raw _ h95 h61 hq, map_app] at heq
            have HEQ := Lib.hid heq
            have g0 : ¬ ((48 : Int) ≤ (c.toNat : Int)) := by omega
            have g1 : (c.toNat : Int) ≤ 57 := by omega
            have g2 : ¬ ((97 : Int) ≤ (c.toNat : Int)) := by omega
            have g3 : (c.toNat : Int) ≤ 122 := by omega
            have g4 : ¬ ((65 : Int) ≤ (c.toNat : Int)) := by omega
            have g5 : (c.toNat : Int) ≤ 90 := by omega
            have g6 : (32 : Int) < (c.toNat : Int) := by omega
            have g7 : (c.toNat : Int) < 127 := by omega
            have g8 : ((c.toNat : Int) == 33) = true := by rw [beq_iff_eq]; omega
            have g9 : ((c.toNat : Int) == 42) = false := by rw [beq_eq_false_iff_ne]; omega
            have g10 : ((c.toNat : Int) == 43) = false := by rw [beq_eq_false_iff_ne]; omega
            have g11 : ((c.toNat : Int) == 45) = false := by rw [beq_eq_false_iff_ne]; omega
            have g12 : ((c.toNat : Int) == 47) = false := by rw [beq_eq_false_iff_ne]; omega
            clear heq hown hF h61 h95 hq l1 l2
            go_wp2_with (at_builtin; refine wpList_push_byte rfl _ _ rfl w.heap.size out _ c wr HOWN.out hB hlenf rfl rfl ?_)
            intro v' w2 hown' hg _
            have HO2 := Lib.hid hown'; have HF2 := Lib.hid (push_fr HF.out HOWN.out hg)
            clear hown' hg
            go_wp2
            go_roundw
            case rel => exact ⟨k + 1, out ++ [c], rfl, rfl, by go_num, by simp; omega, by omega, HEQ.out, HO2.out, HF2.out⟩
            case measure => simp [intOf]; omega
          · have hq := qOk_false (c := c) (by
              rintro (h | h | h | h | h | h | h | h)
              · omega
              · omega
              · omega
              all_goals (rw [h] at l1 l2; revert l1 l2; decide)) p
            have g0 : ¬ ((48 : Int) ≤ (c.toNat : Int)) := by omega
            have g1 : (c.toNat : Int) ≤ 57 := by omega
            have g2 : ¬ ((97 : Int) ≤ (c.toNat : Int)) := by omega
            have g3 : (c.toNat : Int) ≤ 122 := by omega
            have g4 : ¬ ((65 : Int) ≤ (c.toNat : Int)) := by omega
            have g5 : (c.toNat : Int) ≤ 90 := by omega
            have g6 : (32 : Int) < (c.toNat : Int) := by omega
            have g7 : (c.toNat : Int) < 127 := by omega
            have g8 : ((c.toNat : Int) == 33) = false := by rw [beq_eq_false_iff_ne]; omega
            have g9 : ((c.toNat : Int) == 42) = false := by rw [beq_eq_false_iff_ne]; omega
            have g10 : ((c.toNat : Int) == 43) = false := by rw [beq_eq_false_iff_ne]; omega
            have g11 : ((c.toNat : Int) == 45) = false := by rw [beq_eq_false_iff_ne]; omega
            have g12 : ((c.toNat : Int) == 47) = false := by rw [beq_eq_false_iff_ne]; omega
            have hd : decide (32 < c.toNat ∧ c.toNat < 127) = true := decide_eq_true (by omega)
            rw [hd] at hq
            clear hd
            cases p
            · rw [unqL_raw _ h95 h61 hq, map_app] at heq
              have HEQ := Lib.hid heq
              clear heq hown hF h61 h95 hq l1 l2
              go_wp2_with (at_builtin; refine wpList_push_byte rfl _ _ rfl w.heap.size out _ c wr HOWN.out hB hlenf rfl rfl ?_)
              intro v' w2 hown' hg _
              have HO2 := Lib.hid hown'; have HF2 := Lib.hid (push_fr HF.out HOWN.out hg)
              clear hown' hg
              go_wp2
              go_roundw
              case rel => exact ⟨k + 1, out ++ [c], rfl, rfl, by go_num, by simp; omega, by omega, HEQ.out, HO2.out, HF2.out⟩
              case measure => simp [intOf]; omega
            · rw [unqL_bad _ h95 h61 hq] at heq
              have HEQ := Lib.hid heq
              clear heq hown hF h61 h95 hq l1 l2
              go_wp2
              go_ret2
              refine ⟨?_, HF.out.below⟩
              rw [HEQ.out]; rfl
          · have hq : qOk p c = true := qOk_true (by first | (left; omega) | (right; left; omega) | (right; right; left; omega) | (right; right; right; left; exact UInt8.toNat.inj (by show c.toNat = 33; omega)) | (right; right; right; right; left; exact UInt8.toNat.inj (by show c.toNat = 42; omega)) | (right; right; right; right; right; left; exact UInt8.toNat.inj (by show c.toNat = 43; omega)) | (right; right; right; right; right; right; left; exact UInt8.toNat.inj (by show c.toNat = 45; omega)) | (right; right; right; right; right; right; right; exact UInt8.toNat.inj (by show c.toNat = 47; omega))) p
            rw [unqL_raw _ h95 h61 hq, map_app] at heq
            have HEQ := Lib.hid heq
            have g0 : ¬ ((48 : Int) ≤ (c.toNat : Int)) := by omega
            have g1 : (c.toNat : Int) ≤ 57 := by omega
            have g2 : ¬ ((97 : Int) ≤ (c.toNat : Int)) := by omega
            have g3 : (c.toNat : Int) ≤ 122 := by omega
            have g4 : ¬ ((65 : Int) ≤ (c.toNat : Int)) := by omega
            have g5 : (c.toNat : Int) ≤ 90 := by omega
            have g6 : (32 : Int) < (c.toNat : Int) := by omega
            have g7 : (c.toNat : Int) < 127 := by omega
            have g8 : ((c.toNat : Int) == 33) = false := by rw [beq_eq_false_iff_ne]; omega
            have g9 : ((c.toNat : Int) == 42) = true := by rw [beq_iff_eq]; omega
            have g10 : ((c.toNat : Int) == 43) = false := by rw [beq_eq_false_iff_ne]; omega
            have g11 : ((c.toNat : Int) == 45) = false := by rw [beq_eq_false_iff_ne]; omega
            have g12 : ((c.toNat : Int) == 47) = false := by rw [beq_eq_false_iff_ne]; omega
            clear heq hown hF h61 h95 hq l1 l2
            go_wp2_with (at_builtin; refine wpList_push_byte rfl _ _ rfl w.heap.size out _ c wr HOWN.out hB hlenf rfl rfl ?_)
            intro v' w2 hown' hg _
            have HO2 := Lib.hid hown'; have HF2 := Lib.hid (push_fr HF.out HOWN.out hg)
            clear hown' hg
            go_wp2
            go_roundw
            case rel => exact ⟨k + 1, out ++ [c], rfl, rfl, by go_num, by simp; omega, by omega, HEQ.out, HO2.out, HF2.out⟩
            case measure => simp [intOf]; omega
          · have hq : qOk p c = true := qOk_true (by first | (left; omega) | (right; left; omega) | (right; right; left; omega) | (right; right; right; left; exact UInt8.toNat.inj (by show c.toNat = 33; omega)) | (right; right; right; right; left; exact UInt8.toNat.inj (by show c.toNat = 42; omega)) | (right; right; right; right; right; left; exact UInt8.toNat.inj (by show c.toNat = 43; omega)) | (right; right; right; right; right; right; left; exact UInt8.toNat.inj (by show c.toNat = 45; omega)) | (right; right; right; right; right; right; right; exact UInt8.toNat.inj (by show c.toNat = 47; omega))) p
            rw [unqL_raw _ h95 h61 hq, map_app] at heq
            have HEQ := Lib.hid heq
            have g0 : ¬ ((48 : Int) ≤ (c.toNat : Int)) := by omega
            have g1 : (c.toNat : Int) ≤ 57 := by omega
            have g2 : ¬ ((97 : Int) ≤ (c.toNat : Int)) := by omega
            have g3 : (c.toNat : Int) ≤ 122 := by omega
            have g4 : ¬ ((65 : Int) ≤ (c.toNat : Int)) := by omega
            have g5 : (c.toNat : Int) ≤ 90 := by omega
            have g6 : (32 : Int) < (c.toNat : Int) := by omega
            have g7 : (c.toNat : Int) < 127 := by omega
            have g8 : ((c.toNat : Int) == 33) = false := by rw [beq_eq_false_iff_ne]; omega
            have g9 : ((c.toNat : Int) == 42) = false := by rw [beq_eq_false_iff_ne]; omega
            have g10 : ((c.toNat : Int) == 43) = true := by rw [beq_iff_eq]; omega
            have g11 : ((c.toNat : Int) == 45) = false := by rw [beq_eq_false_iff_ne]; omega
            have g12 : ((c.toNat : Int) == 47) = false := by rw [beq_eq_false_iff_ne]; omega
            clear heq hown hF h61 h95 hq l1 l2
            go_wp2_with (at_builtin; refine wpList_push_byte rfl _ _ rfl w.heap.size out _ c wr HOWN.out hB hlenf rfl rfl ?_)
            intro v' w2 hown' hg _
            have HO2 := Lib.hid hown'; have HF2 := Lib.hid (push_fr HF.out HOWN.out hg)
            clear hown' hg
            go_wp2
            go_roundw
            case rel => exact ⟨k + 1, out ++ [c], rfl, rfl, by go_num, by simp; omega, by omega, HEQ.out, HO2.out, HF2.out⟩
            case measure => simp [intOf]; omega
          · have hq := qOk_false (c := c) (by
              rintro (h | h | h | h | h | h | h | h)
              · omega
              · omega
              · omega
              all_goals (rw [h] at l1 l2; revert l1 l2; decide)) p
            have g0 : ¬ ((48 : Int) ≤ (c.toNat : Int)) := by omega
            have g1 : (c.toNat : Int) ≤ 57 := by omega
            have g2 : ¬ ((97 : Int) ≤ (c.toNat : Int)) := by omega
            have g3 : (c.toNat : Int) ≤ 122 := by omega
            have g4 : ¬ ((65 : Int) ≤ (c.toNat : Int)) := by omega
            have g5 : (c.toNat : Int) ≤ 90 := by omega
            have g6 : (32 : Int) < (c.toNat : Int) := by omega
            have g7 : (c.toNat : Int) < 127 := by omega
            have g8 : ((c.toNat : Int) == 33) = false := by rw [beq_eq_false_iff_ne]; omega
            have g9 : ((c.toNat : Int) == 42) = false := by rw [beq_eq_false_iff_ne]; omega
            have g10 : ((c.toNat : Int) == 43) = false := by rw [beq_eq_false_iff_ne]; omega
            have g11 : ((c.toNat : Int) == 45) = false := by rw [beq_eq_false_iff_ne]; omega
            have g12 : ((c.toNat : Int) == 47) = false := by rw [beq_eq_false_iff_ne]; omega
            have hd : decide (32 < c.toNat ∧ c.toNat < 127) = true := decide_eq_true (by omega)
            rw [hd] at hq
            clear hd
            cases p
            · rw [unqL_raw _ h95 h61 hq, map_app] at heq
              have HEQ := Lib.hid heq
              clear heq hown hF h61 h95 hq l1 l2
              go_wp2_with (at_builtin; refine wpList_push_byte rfl _ _ rfl w.heap.size out _ c wr HOWN.out hB hlenf rfl rfl ?_)
              intro v' w2 hown' hg _
              have HO2 := Lib.hid hown'; have HF2 := Lib.hid (push_fr HF.out HOWN.out hg)
              clear hown' hg
              go_wp2
              go_roundw
              case rel => exact ⟨k + 1, out ++ [c], rfl, rfl, by go_num, by simp; omega, by omega, HEQ.out, HO2.out, HF2.out⟩
              case measure => simp [intOf]; omega
            · rw [unqL_bad _ h95 h61 hq] at heq
              have HEQ := Lib.hid heq
              clear heq hown hF h61 h95 hq l1 l2
              go_wp2
              go_ret2
              refine ⟨?_, HF.out.below⟩
              rw [HEQ.out]; rfl
          · have hq : qOk p c = true := qOk_true (by first | (left; omega) | (right; left; omega) | (right; right; left; omega) | (right; right; right; left; exact UInt8.toNat.inj (by show c.toNat = 33; omega)) | (right; right; right; right; left; exact UInt8.toNat.inj (by show c.toNat = 42; omega)) | (right; right; right; right; right; left; exact UInt8.toNat.inj (by show c.toNat = 43; omega)) | (right; right; right; right; right; right; left; exact UInt8.toNat.inj (by show c.toNat = 45; omega)) | (right; right; right; right; right; right; right; exact UInt8.toNat.inj (by show c.toNat = 47; omega))) p
            rw [unqL_raw _ h95 h61 hq, map_app] at heq
            have HEQ := Lib.hid heq
            have g0 : ¬ ((48 : Int) ≤ (c.toNat : Int)) := by omega
            have g1 : (c.toNat : Int) ≤ 57 := by omega
            have g2 : ¬ ((97 : Int) ≤ (c.toNat : Int)) := by omega
            have g3 : (c.toNat : Int) ≤ 122 := by omega
            have g4 : ¬ ((65 : Int) ≤ (c.toNat : Int)) := by omega
            have g5 : (c.toNat : Int) ≤ 90 := by omega
            have g6 : (32 : Int) < (c.toNat : Int) := by omega
            have g7 : (c.toNat : Int) < 127 := by omega
            have g8 : ((c.toNat : Int) == 33) = false := by rw [beq_eq_false_iff_ne]; omega
            have g9 : ((c.toNat : Int) == 42) = false := by rw [beq_eq_false_iff_ne]; omega
            have g10 : ((c.toNat : Int) == 43) = false := by rw [beq_eq_false_iff_ne]; omega
            have g11 : ((c.toNat : Int) == 45) = true := by rw [beq_iff_eq]; omega
            have g12 : ((c.toNat : Int) == 47) = false := by rw [beq_eq_false_iff_ne]; omega
            clear heq hown hF h61 h95 hq l1 l2
            go_wp2_with (at_builtin; refine wpList_push_byte rfl _ _ rfl w.heap.size out _ c wr HOWN.out hB hlenf rfl rfl ?_)
            intro v' w2 hown' hg _
            have HO2 := Lib.hid hown'; have HF2 := Lib.hid (push_fr HF.out HOWN.out hg)
            clear hown' hg
            go_wp2
            go_roundw
            case rel => exact ⟨k + 1, out ++ [c], rfl, rfl, by go_num, by simp; omega, by omega, HEQ.out, HO2.out, HF2.out⟩
            case measure => simp [intOf]; omega
          · have hq := qOk_false (c := c) (by
              rintro (h | h | h | h | h | h | h | h)
              · omega
              · omega
              · omega
              all_goals (rw [h] at l1 l2; revert l1 l2; decide)) p
            have g0 : ¬ ((48 : Int) ≤ (c.toNat : Int)) := by omega
            have g1 : (c.toNat : Int) ≤ 57 := by omega
            have g2 : ¬ ((97 : Int) ≤ (c.toNat : Int)) := by omega
            have g3 : (c.toNat : Int) ≤ 122 := by omega
            have g4 : ¬ ((65 : Int) ≤ (c.toNat : Int)) := by omega
            have g5 : (c.toNat : Int) ≤ 90 := by omega
            have g6 : (32 : Int) < (c.toNat : Int) := by omega
            have g7 : (c.toNat : Int) < 127 := by omega
            have g8 : ((c.toNat : Int) == 33) = false := by rw [beq_eq_false_iff_ne]; omega
            have g9 : ((c.toNat : Int) == 42) = false := by rw [beq_eq_false_iff_ne]; omega
            have g10 : ((c.toNat : Int) == 43) = false := by rw [beq_eq_false_iff_ne]; omega
            have g11 : ((c.toNat : Int) == 45) = false := by rw [beq_eq_false_iff_ne]; omega
            have g12 : ((c.toNat : Int) == 47) = false := by rw [beq_eq_false_iff_ne]; omega
            have hd : decide (32 < c.toNat ∧ c.toNat < 127) = true := decide_eq_true (by omega)
            rw [hd] at hq
            clear hd
            cases p
            · rw [unqL_raw _ h95 h61 hq, map_app] at heq
              have HEQ := Lib.hid heq
              clear heq hown hF h61 h95 hq l1 l2
              go_wp2_with (at_builtin; refine wpList_push_byte rfl _ _ rfl w.heap.size out _ c wr HOWN.out hB hlenf rfl rfl ?_)
              intro v' w2 hown' hg _
              have HO2 := Lib.hid hown'; have HF2 := Lib.hid (push_fr HF.out HOWN.out hg)
              clear hown' hg
              go_wp2
              go_roundw
              case rel => exact ⟨k + 1, out ++ [c], rfl, rfl, by go_num, by simp; omega, by omega, HEQ.out, HO2.out, HF2.out⟩
              case measure => simp [intOf]; omega
            · rw [unqL_bad _ h95 h61 hq] at heq
              have HEQ := Lib.hid heq
              clear heq hown hF h61 h95 hq l1 l2
              go_wp2
              go_ret2
              refine ⟨?_, HF.out.below⟩
              rw [HEQ.out]; rfl
          · have hq : qOk p c = true := qOk_true (by first | (left; omega) | (right; left; omega) | (right; right; left; omega) | (right; right; right; left; exact UInt8.toNat.inj (by show c.toNat = 33; omega)) | (right; right; right; right; left; exact UInt8.toNat.inj (by show c.toNat = 42; omega)) | (right; right; right; right; right; left; exact UInt8.toNat.inj (by show c.toNat = 43; omega)) | (right; right; right; right; right; right; left; exact UInt8.toNat.inj (by show c.toNat = 45; omega)) | (right; right; right; right; right; right; right; exact UInt8.toNat.inj (by show c.toNat = 47; omega))) p
            rw [unqL_raw _ h95 h61 hq, map_app] at heq
            have HEQ := Lib.hid heq
            have g0 : ¬ ((48 : Int) ≤ (c.toNat : Int)) := by omega
            have g1 : (c.toNat : Int) ≤ 57 := by omega
            have g2 : ¬ ((97 : Int) ≤ (c.toNat : Int)) := by omega
            have g3 : (c.toNat : Int) ≤ 122 := by omega
            have g4 : ¬ ((65 : Int) ≤ (c.toNat : Int)) := by omega
            have g5 : (c.toNat : Int) ≤ 90 := by omega
            have g6 : (32 : Int) < (c.toNat : Int) := by omega
            have g7 : (c.toNat : Int) < 127 := by omega
            have g8 : ((c.toNat : Int) == 33) = false := by rw [beq_eq_false_iff_ne]; omega
            have g9 : ((c.toNat : Int) == 42) = false := by rw [beq_eq_false_iff_ne]; omega
            have g10 : ((c.toNat : Int) == 43) = false := by rw [beq_eq_false_iff_ne]; omega
            have g11 : ((c.toNat : Int) == 45) = false := by rw [beq_eq_false_iff_ne]; omega
            have g12 : ((c.toNat : Int) == 47) = true := by rw [beq_iff_eq]; omega
            clear heq hown hF h61 h95 hq l1 l2
            go_wp2_with (at_builtin; refine wpList_push_byte rfl _ _ rfl w.heap.size out _ c wr HOWN.out hB hlenf rfl rfl ?_)
            intro v' w2 hown' hg _
            have HO2 := Lib.hid hown'; have HF2 := Lib.hid (push_fr HF.out HOWN.out hg)
            clear hown' hg
            go_wp2
            go_roundw
            case rel => exact ⟨k + 1, out ++ [c], rfl, rfl, by go_num, by simp; omega, by omega, HEQ.out, HO2.out, HF2.out⟩
            case measure => simp [intOf]; omega
          · have hq : qOk p c = true := qOk_true (by first | (left; omega) | (right; left; omega) | (right; right; left; omega) | (right; right; right; left; exact UInt8.toNat.inj (by show c.toNat = 33; omega)) | (right; right; right; right; left; exact UInt8.toNat.inj (by show c.toNat = 42; omega)) | (right; right; right; right; right; left; exact UInt8.toNat.inj (by show c.toNat = 43; omega)) | (right; right; right; right; right; right; left; exact UInt8.toNat.inj (by show c.toNat = 45; omega)) | (right; right; right; right; right; right; right; exact UInt8.toNat.inj (by show c.toNat = 47; omega))) p
            rw [unqL_raw _ h95 h61 hq, map_app] at heq
            have HEQ := Lib.hid heq
            have g0 : (48 : Int) ≤ (c.toNat : Int) := by omega
            have g1 : (c.toNat : Int) ≤ 57 := by omega
            have g2 : ¬ ((97 : Int) ≤ (c.toNat : Int)) := by omega
            have g3 : (c.toNat : Int) ≤ 122 := by omega
            have g4 : ¬ ((65 : Int) ≤ (c.toNat : Int)) := by omega
            have g5 : (c.toNat : Int) ≤ 90 := by omega
            have g6 : (32 : Int) < (c.toNat : Int) := by omega
            have g7 : (c.toNat : Int) < 127 := by omega
            have g8 : ((c.toNat : Int) == 33) = false := by rw [beq_eq_false_iff_ne]; omega
            have g9 : ((c.toNat : Int) == 42) = false := by rw [beq_eq_false_iff_ne]; omega
            have g10 : ((c.toNat : Int) == 43) = false := by rw [beq_eq_false_iff_ne]; omega
            have g11 : ((c.toNat : Int) == 45) = false := by rw [beq_eq_false_iff_ne]; omega
            have g12 : ((c.toNat : Int) == 47) = false := by rw [beq_eq_false_iff_ne]; omega
            clear heq hown hF h61 h95 hq l1 l2
            go_wp2_with (at_builtin; refine wpList_push_byte rfl _ _ rfl w.heap.size out _ c wr HOWN.out hB hlenf rfl rfl ?_)
            intro v' w2 hown' hg _
            have HO2 := Lib.hid hown'; have HF2 := Lib.hid (push_fr HF.out HOWN.out hg)
            clear hown' hg
            go_wp2
            go_roundw
            case rel => exact ⟨k + 1, out ++ [c], rfl, rfl, by go_num, by simp; omega, by omega, HEQ.out, HO2.out, HF2.out⟩
            case measure => simp [intOf]; omega
          · have hq := qOk_false (c := c) (by
              rintro (h | h | h | h | h | h | h | h)
              · omega
              · omega
              · omega
              all_goals (rw [h] at l1 l2; revert l1 l2; decide)) p
            have g0 : (48 : Int) ≤ (c.toNat : Int) := by omega
            have g1 : ¬ ((c.toNat : Int) ≤ 57) := by omega
            have g2 : ¬ ((97 : Int) ≤ (c.toNat : Int)) := by omega
            have g3 : (c.toNat : Int) ≤ 122 := by omega
            have g4 : ¬ ((65 : Int) ≤ (c.toNat : Int)) := by omega
            have g5 : (c.toNat : Int) ≤ 90 := by omega
            have g6 : (32 : Int) < (c.toNat : Int) := by omega
            have g7 : (c.toNat : Int) < 127 := by omega
            have g8 : ((c.toNat : Int) == 33) = false := by rw [beq_eq_false_iff_ne]; omega
            have g9 : ((c.toNat : Int) == 42) = false := by rw [beq_eq_false_iff_ne]; omega
            have g10 : ((c.toNat : Int) == 43) = false := by rw [beq_eq_false_iff_ne]; omega
            have g11 : ((c.toNat : Int) == 45) = false := by rw [beq_eq_false_iff_ne]; omega
            have g12 : ((c.toNat : Int) == 47) = false := by rw [beq_eq_false_iff_ne]; omega
            have hd : decide (32 < c.toNat ∧ c.toNat < 127) = true := decide_eq_true (by omega)
            rw [hd] at hq
            clear hd
            cases p
            · rw [unqL_raw _ h95 h61 hq, map_app] at heq
              have HEQ := Lib.hid heq
              clear heq hown hF h61 h95 hq l1 l2
              go_wp2_with (at_builtin; refine wpList_push_byte rfl _ _ rfl w.heap.size out _ c wr HOWN.out hB hlenf rfl rfl ?_)
              intro v' w2 hown' hg _
              have HO2 := Lib.hid hown'; have HF2 := Lib.hid (push_fr HF.out HOWN.out hg)
              clear hown' hg
              go_wp2
              go_roundw
              case rel => exact ⟨k + 1, out ++ [c], rfl, rfl, by go_num, by simp; omega, by omega, HEQ.out, HO2.out, HF2.out⟩
              case measure => simp [intOf]; omega
            · rw [unqL_bad _ h95 h61 hq] at heq
              have HEQ := Lib.hid heq
              clear heq hown hF h61 h95 hq l1 l2
              go_wp2
              go_ret2
              refine ⟨?_, HF.out.below⟩
              rw [HEQ.out]; rfl
          · have hq : qOk p c = true := qOk_true (by first | (left; omega) | (right; left; omega) | (right; right; left; omega) | (right; right; right; left; exact UInt8.toNat.inj (by show c.toNat = 33; omega)) | (right; right; right; right; left; exact UInt8.toNat.inj (by show c.toNat = 42; omega)) | (right; right; right; right; right; left; exact UInt8.toNat.inj (by show c.toNat = 43; omega)) | (right; right; right; right; right; right; left; exact UInt8.toNat.inj (by show c.toNat = 45; omega)) | (right; right; right; right; right; right; right; exact UInt8.toNat.inj (by show c.toNat = 47; omega))) p
            rw [unqL_raw _ h95 h61 hq, map_app] at heq
            have HEQ := Lib.hid heq
            have g0 : (48 : Int) ≤ (c.toNat : Int) := by omega
            have g1 : ¬ ((c.toNat : Int) ≤ 57) := by omega
            have g2 : ¬ ((97 : Int) ≤ (c.toNat : Int)) := by omega
            have g3 : (c.toNat : Int) ≤ 122 := by omega
            have g4 : (65 : Int) ≤ (c.toNat : Int) := by omega
            have g5 : (c.toNat : Int) ≤ 90 := by omega
            have g6 : (32 : Int) < (c.toNat : Int) := by omega
            have g7 : (c.toNat : Int) < 127 := by omega
            have g8 : ((c.toNat : Int) == 33) = false := by rw [beq_eq_false_iff_ne]; omega
            have g9 : ((c.toNat : Int) == 42) = false := by rw [beq_eq_false_iff_ne]; omega
            have g10 : ((c.toNat : Int) == 43) = false := by rw [beq_eq_false_iff_ne]; omega
            have g11 : ((c.toNat : Int) == 45) = false := by rw [beq_eq_false_iff_ne]; omega
            have g12 : ((c.toNat : Int) == 47) = false := by rw [beq_eq_false_iff_ne]; omega
            clear heq hown hF h61 h95 hq l1 l2
            go_wp2_with (at_builtin; refine wpList_push_byte rfl _ _ rfl w.heap.size out _ c wr HOWN.out hB hlenf rfl rfl ?_)
            intro v' w2 hown' hg _
            have HO2 := Lib.hid hown'; have HF2 := Lib.hid (push_fr HF.out HOWN.out hg)
            clear hown' hg
            go_wp2
            go_roundw
            case rel => exact ⟨k + 1, out ++ [c], rfl, rfl, by go_num, by simp; omega, by omega, HEQ.out, HO2.out, HF2.out⟩
            case measure => simp [intOf]; omega
          · have hq := qOk_false (c := c) (by
              rintro (h | h | h | h | h | h | h | h)
              · omega
              · omega
              · omega
              all_goals (rw [h] at l1 l2; revert l1 l2; decide)) p
            have g0 : (48 : Int) ≤ (c.toNat : Int) := by omega
            have g1 : ¬ ((c.toNat : Int) ≤ 57) := by omega
            have g2 : ¬ ((97 : Int) ≤ (c.toNat : Int)) := by omega
            have g3 : (c.toNat : Int) ≤ 122 := by omega
            have g4 : (65 : Int) ≤ (c.toNat : Int) := by omega
            have g5 : ¬ ((c.toNat : Int) ≤ 90) := by omega
            have g6 : (32 : Int) < (c.toNat : Int) := by omega
            have g7 : (c.toNat : Int) < 127 := by omega
            have g8 : ((c.toNat : Int) == 33) = false := by rw [beq_eq_false_iff_ne]; omega
            have g9 : ((c.toNat : Int) == 42) = false := by rw [beq_eq_false_iff_ne]; omega
            have g10 : ((c.toNat : Int) == 43) = false := by rw [beq_eq_false_iff_ne]; omega
            have g11 : ((c.toNat : Int) == 45) = false := by rw [beq_eq_false_iff_ne]; omega
            have g12 : ((c.toNat : Int) == 47) = false := by rw [beq_eq_false_iff_ne]; omega
            have hd : decide (32 < c.toNat ∧ c.toNat < 127) = true := decide_eq_true (by omega)
            rw [hd] at hq
            clear hd
            cases p
            · rw [unqL_raw _ h95 h61 hq, map_app] at heq
              have HEQ := Lib.hid heq
              clear heq hown hF h61 h95 hq l1 l2
              go_wp2_with (at_builtin; refine wpList_push_byte rfl _ _ rfl w.heap.size out _ c wr HOWN.out hB hlenf rfl rfl ?_)
              intro v' w2 hown' hg _
              have HO2 := Lib.hid hown'; have HF2 := Lib.hid (push_fr HF.out HOWN.out hg)
              clear hown' hg
              go_wp2
              go_roundw
              case rel => exact ⟨k + 1, out ++ [c], rfl, rfl, by go_num, by simp; omega, by omega, HEQ.out, HO2.out, HF2.out⟩
              case measure => simp [intOf]; omega
            · rw [unqL_bad _ h95 h61 hq] at heq
              have HEQ := Lib.hid heq
              clear heq hown hF h61 h95 hq l1 l2
              go_wp2
              go_ret2
              refine ⟨?_, HF.out.below⟩
              rw [HEQ.out]; rfl
          · have hq : qOk p c = true := qOk_true (by first | (left; omega) | (right; left; omega) | (right; right; left; omega) | (right; right; right; left; exact UInt8.toNat.inj (by show c.toNat = 33; omega)) | (right; right; right; right; left; exact UInt8.toNat.inj (by show c.toNat = 42; omega)) | (right; right; right; right; right; left; exact UInt8.toNat.inj (by show c.toNat = 43; omega)) | (right; right; right; right; right; right; left; exact UInt8.toNat.inj (by show c.toNat = 45; omega)) | (right; right; right; right; right; right; right; exact UInt8.toNat.inj (by show c.toNat = 47; omega))) p
            rw [unqL_raw _ h95 h61 hq, map_app] at heq
            have HEQ := Lib.hid heq
            have g0 : (48 : Int) ≤ (c.toNat : Int) := by omega
            have g1 : ¬ ((c.toNat : Int) ≤ 57) := by omega
            have g2 : (97 : Int) ≤ (c.toNat : Int) := by omega
            have g3 : (c.toNat : Int) ≤ 122 := by omega
            have g4 : (65 : Int) ≤ (c.toNat : Int) := by omega
            have g5 : ¬ ((c.toNat : Int) ≤ 90) := by omega
            have g6 : (32 : Int) < (c.toNat : Int) := by omega
            have g7 : (c.toNat : Int) < 127 := by omega
            have g8 : ((c.toNat : Int) == 33) = false := by rw [beq_eq_false_iff_ne]; omega
            have g9 : ((c.toNat : Int) == 42) = false := by rw [beq_eq_false_iff_ne]; omega
            have g10 : ((c.toNat : Int) == 43) = false := by rw [beq_eq_false_iff_ne]; omega
            have g11 : ((c.toNat : Int) == 45) = false := by rw [beq_eq_false_iff_ne]; omega
            have g12 : ((c.toNat : Int) == 47) = false := by rw [beq_eq_false_iff_ne]; omega
            clear heq hown hF h61 h95 hq l1 l2
            go_wp2_with (at_builtin; refine wpList_push_byte rfl _ _ rfl w.heap.size out _ c wr HOWN.out hB hlenf rfl rfl ?_)
            intro v' w2 hown' hg _
            have HO2 := Lib.hid hown'; have HF2 := Lib.hid (push_fr HF.out HOWN.out hg)
            clear hown' hg
            go_wp2
            go_roundw
            case rel => exact ⟨k + 1, out ++ [c], rfl, rfl, by go_num, by simp; omega, by omega, HEQ.out, HO2.out, HF2.out⟩
            case measure => simp [intOf]; omega
          · have hq := qOk_false (c := c) (by
              rintro (h | h | h | h | h | h | h | h)
              · omega
              · omega
              · omega
              all_goals (rw [h] at l1 l2; revert l1 l2; decide)) p
            have g0 : (48 : Int) ≤ (c.toNat : Int) := by omega
            have g1 : ¬ ((c.toNat : Int) ≤ 57) := by omega
            have g2 : (97 : Int) ≤ (c.toNat : Int) := by omega
            have g3 : ¬ ((c.toNat : Int) ≤ 122) := by omega
            have g4 : (65 : Int) ≤ (c.toNat : Int) := by omega
            have g5 : ¬ ((c.toNat : Int) ≤ 90) := by omega
            have g6 : (32 : Int) < (c.toNat : Int) := by omega
            have g7 : (c.toNat : Int) < 127 := by omega
            have g8 : ((c.toNat : Int) == 33) = false := by rw [beq_eq_false_iff_ne]; omega
            have g9 : ((c.toNat : Int) == 42) = false := by rw [beq_eq_false_iff_ne]; omega
            have g10 : ((c.toNat : Int) == 43) = false := by rw [beq_eq_false_iff_ne]; omega
            have g11 : ((c.toNat : Int) == 45) = false := by rw [beq_eq_false_iff_ne]; omega
            have g12 : ((c.toNat : Int) == 47) = false := by rw [beq_eq_false_iff_ne]; omega
            have hd : decide (32 < c.toNat ∧ c.toNat < 127) = true := decide_eq_true (by omega)
            rw [hd] at hq
            clear hd
            cases p
            · rw [unqL_raw _ h95 h61 hq, map_app] at heq
              have HEQ := Lib.hid heq
              clear heq hown hF h61 h95 hq l1 l2
              go_wp2_with (at_builtin; refine wpList_push_byte rfl _ _ rfl w.heap.size out _ c wr HOWN.out hB hlenf rfl rfl ?_)
              intro v' w2 hown' hg _
              have HO2 := Lib.hid hown'; have HF2 := Lib.hid (push_fr HF.out HOWN.out hg)
              clear hown' hg
              go_wp2
              go_roundw
              case rel => exact ⟨k + 1, out ++ [c], rfl, rfl, by go_num, by simp; omega, by omega, HEQ.out, HO2.out, HF2.out⟩
              case measure => simp [intOf]; omega
            · rw [unqL_bad _ h95 h61 hq] at heq
              have HEQ := Lib.hid heq
              clear heq hown hF h61 h95 hq l1 l2
              go_wp2
              go_ret2
              refine ⟨?_, HF.out.below⟩
              rw [HEQ.out]; rfl
          · have hq := qOk_false (c := c) (by
              rintro (h | h | h | h | h | h | h | h)
              · omega
              · omega
              · omega
              all_goals (rw [h] at l1 l2; revert l1 l2; decide)) p
            have g0 : (48 : Int) ≤ (c.toNat : Int) := by omega
            have g1 : ¬ ((c.toNat : Int) ≤ 57) := by omega
            have g2 : (97 : Int) ≤ (c.toNat : Int) := by omega
            have g3 : ¬ ((c.toNat : Int) ≤ 122) := by omega
            have g4 : (65 : Int) ≤ (c.toNat : Int) := by omega
            have g5 : ¬ ((c.toNat : Int) ≤ 90) := by omega
            have g6 : (32 : Int) < (c.toNat : Int) := by omega
            have g7 : ¬ ((c.toNat : Int) < 127) := by omega
            have g8 : ((c.toNat : Int) == 33) = false := by rw [beq_eq_false_iff_ne]; omega
            have g9 : ((c.toNat : Int) == 42) = false := by rw [beq_eq_false_iff_ne]; omega
            have g10 : ((c.toNat : Int) == 43) = false := by rw [beq_eq_false_iff_ne]; omega
            have g11 : ((c.toNat : Int) == 45) = false := by rw [beq_eq_false_iff_ne]; omega
            have g12 : ((c.toNat : Int) == 47) = false := by rw [beq_eq_false_iff_ne]; omega
            have hq2 : qOk p c = false := by rw [hq, decide_eq_false (by omega)]; simp
            rw [unqL_bad _ h95 h61 hq2] at heq
            have HEQ := Lib.hid heq
            clear heq hown hF h61 h95 hq hq2 l1 l2
            cases p
            · go_wp2
              go_ret2
              refine ⟨?_, HF.out.below⟩
              rw [HEQ.out]; rfl
            · go_wp2
              go_ret2
              refine ⟨?_, HF.out.below⟩
              rw [HEQ.out]; rfl
    · have hd : s.data.toList.drop k = [] := List.drop_eq_nil_of_le (by simp; omega)
      rw [hd, unqL_nil] at heq
      have HEQ := Lib.hid heq
      clear heq hown hF hd
      go_wp2
      go_ret2
      refine ⟨?_, HF.out.below⟩
      rw [HEQ.out]
      exact ⟨_, rfl, by simpa using HOWN.out⟩
end Go.Proofs.YtpoglombagmhmaaGreatDoor
