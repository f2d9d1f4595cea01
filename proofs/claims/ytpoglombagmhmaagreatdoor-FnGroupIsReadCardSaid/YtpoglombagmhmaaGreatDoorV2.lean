/- unicode/utf8.Valid, of bytes in memory: the walk. -/
import Derived.Test.YtpoglombagmhmaaGreatDoorV1
import Derived.Lib.LaidU8
import Derived.Laws.BitsAllLaws
import Derived.Deep.LoopGhost
import Derived.Deep.DeepMust
import Derived.BigQuiet
namespace Go.Proofs.YtpoglombagmhmaaGreatDoor
open Go Go.RowKit

theorem CellsAt.below {g o : Nat} {l : List UInt8} {a w : World} (h : CellsAt g o l a) (hg : g < a.heap.size) (hb : Below a.heap.size a w) : CellsAt g o l w := h.fr (hb.block g hg)

/-- m bytes are left. -/
def VRel (g n : Nat) (l : List UInt8) (ans : Bool) (w : World) (gk : Nat) (s0 : Value) (wx : World) : Prop :=
  ∃ (k m : Nat) (p : Addr), k + m = n ∧ s0 = .slice (some p) m m ∧ (0 < m → p = ⟨g, k, none⟩) ∧ Lib.validD (l.drop k) = ans ∧ m < gk ∧ Below w.heap.size w wx

def VRel2 (g n M : Nat) (l : List UInt8) (ans : Bool) (w : World) (gk : Nat) (s0 : Value) (wx : World) : Prop :=
  ∃ (k m : Nat), k + m = n ∧ 0 < m ∧ s0 = .slice (some ⟨g, k, none⟩) m m ∧ Lib.validD (l.drop k) = ans ∧ m < gk ∧ m ≤ M ∧ Below w.heap.size w wx

theorem at_getD {l : List UInt8} {j : Nat} {x : UInt8} (h : l.getD j 0 = x) (hj : j < l.length) : l[j]? = some x := by
  rw [List.getD_eq_getElem?_getD, List.getElem?_eq_getElem hj] at h
  rw [List.getElem?_eq_getElem hj]
  exact congrArg some h

theorem asc_word {l : List UInt8} (h : 8 ≤ l.length) : (Lib.leNat (l.take 8) &&& 9259542123273814144 = 0) → ∀ b ∈ l.take 8, b.toNat < 128 := by
  have h8 : (l.take 8).length = 8 := by rw [List.length_take]; omega
  have := Lib.leNat_mask (l.take 8)
  rw [h8, Lib.maskN8] at this
  exact this.1
theorem leNat8_lt (l : List UInt8) : Lib.leNat (l.take 8) < 18446744073709551616 := by
  have h := Lib.leNat_lt (l.take 8)
  have hl : (l.take 8).length ≤ 8 := by rw [List.length_take]; omega
  have h2 : 256 ^ (l.take 8).length ≤ 256 ^ 8 := Nat.pow_le_pow_right (by omega) hl
  have h3 : (256 : Nat) ^ 8 = 18446744073709551616 := by decide
  omega
theorem validDrop {l : List UInt8} {k : Nat} (j : Nat) {ans : Bool} (hv : Lib.validD (l.drop k) = ans) (h : ∀ b ∈ (l.drop k).take j, b.toNat < 128) : Lib.validD (l.drop (k + j)) = ans := by
  rw [← hv, Lib.validD_ascii j _ h, List.drop_drop]
theorem asc_more {l : List UInt8} {a b : Nat} (h1 : ∀ c ∈ l.take a, c.toNat < 128) (h2 : ∀ c ∈ (l.drop a).take b, c.toNat < 128) : ∀ c ∈ l.take (a + b), c.toNat < 128 := by
  intro c hc
  rw [List.take_add] at hc
  rcases List.mem_append.1 hc with h | h
  · exact h1 c h
  · exact h2 c h
set_option maxRecDepth 100000 in
theorem and7 : ∀ X : Fin 256, bits .and .u8 ((X.val : Nat) : Int) 7 = ((X.val % 8 : Nat) : Int) := by decide

theorem word_ok {g n : Nat} {l : List UInt8} {wr : World} (h : CellsAt g 0 l wr) (hl : l.length = n) (k m : Nat) (hkm : k + m = n) (h8 : 8 ≤ m) :
    ∃ A : Nat, A < 18446744073709551616 ∧ (∀ r, Calls Tryz.prog 68 #[.slice (some ⟨g, k, none⟩) m m] (wr.drewN r) fun e w' => e = .returned (.int .u64 (A : Nat)) ∧ ∃ q, w' = (wr.drewN r).drewN q) ∧ (A &&& 9259542123273814144 = 0 → ∀ b ∈ (l.drop k).take 8, b.toNat < 128) := by
  have hlk : (l.drop k).length = m := by rw [List.length_drop, hl]; omega
  refine ⟨_, leNat8_lt (l.drop k), fun r => word_bytes g k m m (l.drop k) _ ?_ hlk h8, asc_word (by omega)⟩
  have h1 := h.drop k
  rw [Nat.zero_add] at h1
  exact h1.fr (by rw [heap_drewN])

set_option maxHeartbeats 16000000 in
set_option maxRecDepth 1000000 in
theorem valid_cells (g n c : Nat) (l : List UInt8) (w : World) (h : CellsAt g 0 l w) (hl : l.length = n) (hg : g < w.heap.size) (hn : 0 < n) (hc : n ≤ c) (hn2 : n ≤ 9223372036854775807) (hT : Lib.Utf8Tabs 0 1 w) :
    Calls Tryz.prog 51 #[.slice (some ⟨g, 0, none⟩) n c] w fun e w' => e = .returned (.bool (Lib.validD l)) ∧ Below w.heap.size w w' := by
  obtain ⟨ans, hans⟩ : ∃ ans, Lib.validD l = ans := ⟨_, rfl⟩
  have hans0 : Lib.validD (l.drop 0) = ans := by rw [List.drop_zero]; exact hans
  rw [hans]
  have HANS := Lib.hid hans0
  have HC := Lib.hid h
  have HL := Lib.hid hl
  have HT := Lib.hid hT
  clear hans hans0 h hl hT
  have i1 : (n : Int) ≤ (c : Int) := by omega
  go_enter Tryz.func51, Tryz.ntmps51
  go_wp2
  go_loopg [0, 2] (n + 1) (fun gk s0 s2 wx => s2 = .bool false ∧ VRel g n l ans w gk s0 wx)
  case atStart => exact ⟨rfl, 0, n, ⟨g, 0, none⟩, by omega, rfl, fun _ => rfl, HANS.out, by omega, Below.refl _ _⟩
  case round =>
    obtain ⟨rfl, k, m, p, hkm, rfl, hp, hv, hgk, hbw⟩ := hrel
    by_cases h0 : 0 < m
    · obtain rfl := hp h0
      obtain ⟨g', rfl⟩ : ∃ g', gk = g' + 1 := ⟨gk - 1, by omega⟩
      have hcw : CellsAt g (0 + k) (l.drop k) wr := (HC.out.below hg hbw).drop k
      rw [Nat.zero_add] at hcw
      have hlk : (l.drop k).length = m := by rw [List.length_drop, HL.out]; omega
      obtain ⟨ld, hld⟩ : ∃ ld, l.drop k = ld := ⟨_, rfl⟩
      have HLD := Lib.hid hld
      rw [hld] at hcw hlk hv
      obtain ⟨x0, hx0⟩ : ∃ x0, ld.getD 0 0 = x0 := ⟨_, rfl⟩
      have hg0 : ld[0]? = some x0 := by
        rw [List.getD_eq_getElem?_getD] at hx0
        rw [List.getElem?_eq_getElem (by omega)] at hx0 ⊢
        exact congrArg some hx0
      have cl0 : wr.cell? ⟨g, k, none⟩ = some (.int .u8 x0.toNat) := hcw 0 x0 hg0
      have hx0lt : x0.toNat < 256 := x0.toNat_lt
      have t0 : (0 : Int) < (m : Int) := by omega
      by_cases hasc : x0.toNat < 128
      · -- a byte below 128
        have hascz : (x0.toNat : Int) < 128 := by omega
        have a1 : ∀ b ∈ (l.drop k).take 1, b.toNat < 128 := by
          rw [hld]
          match ld, hg0 with
          | y :: _, hg0 =>
            intro b hb
            simp at hb hg0
            subst hb; rw [hg0]; exact hasc
        have hv1 : Lib.validD (l.drop (k + 1)) = ans := validDrop 1 (by rw [hld]; exact hv) a1
        have HV1 := Lib.hid hv1
        have HP := Lib.hid hp
        clear hv hp a1 hv1 hcw hlk hld hx0 hg0
        by_cases e1 : m = 1
        · subst e1
          clear HP
          go_wp2
          go_roundg g'
          case measure => omega
          case rel => exact ⟨rfl, k + 1, 0, _, by omega, rfl, fun h => absurd h (by omega), HV1.out, by omega, hbw⟩
        · obtain ⟨m1, rfl⟩ : ∃ m1, m = m1 + 1 := ⟨m - 1, by omega⟩
          have p1 : 0 < m1 := by omega
          by_cases c8 : 8 < m1
          · have c8z : (8 : Int) < (m1 : Int) := by omega
            have hck : CellsAt g 0 l wr := HC.out.below hg hbw
            obtain ⟨A1, lA1, cW1, kA1⟩ := word_ok hck HL.out (k + 1) m1 (by omega) (by omega)
            have hand1 : bits .and .u64 (A1 : Int) 9259542123273814144 = ((A1 &&& 9259542123273814144 : Nat) : Int) := u64_and_nat A1 9259542123273814144 lA1 (by omega)
            obtain ⟨Z1, hZ1⟩ : ∃ Z1, A1 &&& 9259542123273814144 = Z1 := ⟨_, rfl⟩
            rw [hZ1] at hand1 kA1
            have CW1 := Lib.hid cW1
            clear hck cW1 hZ1
            go_wp2_with fail
            refine (CW1.out 0).mono ?_
            rintro x W1 ⟨rfl, q1, rfl⟩
            rw [show wr.drewN 0 = wr from rfl]
            have hb1 : Below w.heap.size w (wr.drewN q1) := below_drewN hbw q1
            generalize wr.drewN q1 = wq at hb1 ⊢
            clear CW1 hbw cl0
            by_cases hz1 : Z1 = 0
            · have hz1b : ((Z1 : Int) == 0) = true := by simp [hz1]
              have HV2 := Lib.hid (validDrop 8 HV1.out (kA1 hz1))
              clear kA1 hz1
              obtain ⟨m2, rfl⟩ : ∃ m2, m1 = m2 + 8 := ⟨m1 - 8, by omega⟩
              have p2 : 0 < m2 := by omega
              by_cases c16 : 16 < m2
              · as_aux_lemma => -- fast
                  have c16z : (16 : Int) < (m2 : Int) := by omega
                  have s8z : (8 : Int) ≤ (m2 : Int) := by omega
                  have hck : CellsAt g 0 l wq := HC.out.below hg hb1
                  obtain ⟨A2, lA2, cW2, kA2⟩ := word_ok hck HL.out (k + 1 + 8) m2 (by omega) (by omega)
                  obtain ⟨A3, lA3, cW3, kA3⟩ := word_ok hck HL.out (k + 1 + 8 + 8) (m2 - 8) (by omega) (by omega)
                  rw [← List.drop_drop (i := 8) (j := k + 1 + 8)] at kA3
                  have hor2 : bits .or .u64 (A2 : Int) (A3 : Int) = ((A2 ||| A3 : Nat) : Int) := u64_or_nat A2 A3 lA2 lA3
                  have lor2 : A2 ||| A3 < 18446744073709551616 := Nat.or_lt_two_pow (n := 64) lA2 lA3
                  have hand2 : bits .and .u64 ((A2 ||| A3 : Nat) : Int) 9259542123273814144 = (((A2 ||| A3) &&& 9259542123273814144 : Nat) : Int) := u64_and_nat _ 9259542123273814144 lor2 (by omega)
                  have k2 : (A2 ||| A3) &&& 9259542123273814144 = 0 → ∀ b ∈ (l.drop (k + 1 + 8)).take (8 + 8), b.toNat < 128 := fun h0' => by
                    obtain ⟨e1, e2⟩ := (Lib.or_mask A2 A3 _).1 h0'
                    exact asc_more (kA2 e1) (kA3 e2)
                  obtain ⟨O2, hO2⟩ : ∃ O2, A2 ||| A3 = O2 := ⟨_, rfl⟩
                  rw [hO2] at hor2 hand2 k2
                  obtain ⟨Z2, hZ2⟩ : ∃ Z2, O2 &&& 9259542123273814144 = Z2 := ⟨_, rfl⟩
                  rw [hZ2] at hand2 k2
                  have CW2 := Lib.hid cW2
                  have CW3 := Lib.hid cW3
                  clear kA2 kA3 lor2 hO2 hZ2 cW2 cW3 hck
                  by_cases hz2 : Z2 = 0
                  · have hz2b : ((Z2 : Int) == 0) = true := by simp [hz2]
                    have HV3 := Lib.hid (validDrop 16 HV2.out (k2 hz2))
                    clear k2 hz2
                    go_wp2_with fail
                    go_big_quiet ((first | (go_at_call 68; with_reducible exact Calls.quiet_of (CW2.out _)) | (go_at_call 68; with_reducible exact Calls.quiet_of (CW3.out _))))
                    have hb2 : Below w.heap.size w (wq.drewN nq) := below_drewN hb1 nq
                    generalize wq.drewN nq = wq2 at hb2 ⊢
                    clear CW2 CW3 hb1 hand1 hand2 hor2 hz1b hz2b
                    obtain ⟨m3, rfl⟩ : ∃ m3, m2 = m3 + 16 := ⟨m2 - 16, by omega⟩
                    have p3 : 0 < m3 := by omega
                    go_wp2
                    go_loopg [0] (m3 + 1) (fun g2 s0 wx => VRel2 g n m3 l ans w g2 s0 wx)
                    case atStart => exact ⟨k + 1 + 8 + 16, m3, by omega, p3, rfl, HV3.out, by omega, Nat.le_refl _, hb2⟩
                    case round =>
                      obtain ⟨k4, m4, hk4, p4, rfl, hv4, hg4, hm4, hb4⟩ := hrel
                      have HV4 := Lib.hid hv4
                      clear hb2 hv4
                      by_cases c32 : 32 < m4
                      · obtain ⟨g3, rfl⟩ : ∃ g3, gk = g3 + 1 := ⟨gk - 1, by omega⟩
                        have c32z : (32 : Int) < (m4 : Int) := by omega
                        have s8u : (8 : Int) ≤ (m4 : Int) := by omega
                        have s16u : (16 : Int) ≤ (m4 : Int) := by omega
                        have s24u : (24 : Int) ≤ (m4 : Int) := by omega
                        have hck : CellsAt g 0 l wr := HC.out.below hg hb4
                        obtain ⟨B0, lB0, cB0, kB0⟩ := word_ok hck HL.out k4 m4 (by omega) (by omega)
                        obtain ⟨B1, lB1, cB1, kB1⟩ := word_ok hck HL.out (k4 + 8) (m4 - 8) (by omega) (by omega)
                        obtain ⟨B2, lB2, cB2, kB2⟩ := word_ok hck HL.out (k4 + 16) (m4 - 16) (by omega) (by omega)
                        obtain ⟨B3, lB3, cB3, kB3⟩ := word_ok hck HL.out (k4 + 24) (m4 - 24) (by omega) (by omega)
                        rw [← List.drop_drop] at kB1 kB2 kB3
                        have ho1 : bits .or .u64 (B0 : Int) (B1 : Int) = ((B0 ||| B1 : Nat) : Int) := u64_or_nat B0 B1 lB0 lB1
                        have ho2 : bits .or .u64 (B2 : Int) (B3 : Int) = ((B2 ||| B3 : Nat) : Int) := u64_or_nat B2 B3 lB2 lB3
                        have lo1 : B0 ||| B1 < 18446744073709551616 := Nat.or_lt_two_pow (n := 64) lB0 lB1
                        have lo2 : B2 ||| B3 < 18446744073709551616 := Nat.or_lt_two_pow (n := 64) lB2 lB3
                        have ho3 : bits .or .u64 ((B0 ||| B1 : Nat) : Int) ((B2 ||| B3 : Nat) : Int) = (((B0 ||| B1) ||| (B2 ||| B3) : Nat) : Int) := u64_or_nat _ _ lo1 lo2
                        have lo3 : (B0 ||| B1) ||| (B2 ||| B3) < 18446744073709551616 := Nat.or_lt_two_pow (n := 64) lo1 lo2
                        have hand3 : bits .and .u64 (((B0 ||| B1) ||| (B2 ||| B3) : Nat) : Int) 9259542123273814144 = ((((B0 ||| B1) ||| (B2 ||| B3)) &&& 9259542123273814144 : Nat) : Int) := u64_and_nat _ 9259542123273814144 lo3 (by omega)
                        have k3 : ((B0 ||| B1) ||| (B2 ||| B3)) &&& 9259542123273814144 = 0 → ∀ b ∈ (l.drop k4).take (8 + 8 + 8 + 8), b.toNat < 128 := fun h0' => by
                          obtain ⟨e01, e23⟩ := (Lib.or_mask _ _ _).1 h0'
                          obtain ⟨e0, e1⟩ := (Lib.or_mask _ _ _).1 e01
                          obtain ⟨e2, e3⟩ := (Lib.or_mask _ _ _).1 e23
                          exact asc_more (asc_more (asc_more (kB0 e0) (kB1 e1)) (kB2 e2)) (kB3 e3)
                        obtain ⟨P1, hP1⟩ : ∃ P1, B0 ||| B1 = P1 := ⟨_, rfl⟩
                        obtain ⟨P2, hP2⟩ : ∃ P2, B2 ||| B3 = P2 := ⟨_, rfl⟩
                        rw [hP1, hP2] at ho3 hand3 k3
                        rw [hP1] at ho1
                        rw [hP2] at ho2
                        obtain ⟨P3, hP3⟩ : ∃ P3, P1 ||| P2 = P3 := ⟨_, rfl⟩
                        rw [hP3] at ho3 hand3 k3
                        obtain ⟨Z3, hZ3⟩ : ∃ Z3, P3 &&& 9259542123273814144 = Z3 := ⟨_, rfl⟩
                        rw [hZ3] at hand3 k3
                        have CB0 := Lib.hid cB0
                        have CB1 := Lib.hid cB1
                        have CB2 := Lib.hid cB2
                        have CB3 := Lib.hid cB3
                        clear kB0 kB1 kB2 kB3 lo1 lo2 lo3 hP1 hP2 hP3 hZ3 cB0 cB1 cB2 cB3 hck
                        by_cases hz3 : Z3 = 0
                        · have hz3b : ((Z3 : Int) == 0) = true := by simp [hz3]
                          have HV5 := Lib.hid (validDrop 32 HV4.out (k3 hz3))
                          clear k3 hz3
                          go_wp2_with fail
                          go_big_quiet ((first | (go_at_call 68; with_reducible exact Calls.quiet_of (CB0.out _)) | (go_at_call 68; with_reducible exact Calls.quiet_of (CB1.out _)) | (go_at_call 68; with_reducible exact Calls.quiet_of (CB2.out _)) | (go_at_call 68; with_reducible exact Calls.quiet_of (CB3.out _))))
                          obtain ⟨m5, rfl⟩ : ∃ m5, m4 = m5 + 32 := ⟨m4 - 32, by omega⟩
                          have p5 : 0 < m5 := by omega
                          go_wp2
                          go_roundg g3
                          case measure => omega
                          case rel => exact ⟨k4 + 32, m5, by omega, p5, rfl, HV5.out, by omega, by omega, below_drewN hb4 _⟩
                        · have hz3b : ((Z3 : Int) == 0) = false := by simp; omega
                          clear k3 hz3
                          go_wp2_with fail
                          go_big_quiet ((first | (go_at_call 68; with_reducible exact Calls.quiet_of (CB0.out _)) | (go_at_call 68; with_reducible exact Calls.quiet_of (CB1.out _)) | (go_at_call 68; with_reducible exact Calls.quiet_of (CB2.out _)) | (go_at_call 68; with_reducible exact Calls.quiet_of (CB3.out _))))
                          go_wp2
                          go_roundg g'
                          case measure => omega
                          case rel => exact ⟨rfl, k4, m4, _, by omega, rfl, fun h => rfl, HV4.out, by omega, below_drewN hb4 _⟩
                      · have c32z : ¬ (32 : Int) < (m4 : Int) := by omega
                        have c32b : decide ((32 : Int) < (m4 : Int)) = false := decide_eq_false c32z
                        go_wp2_with fail
                        go_big_quiet (fail)
                        go_wp2
                        go_roundg g'
                        case measure => omega
                        case rel => exact ⟨rfl, k4, m4, _, by omega, rfl, fun h => rfl, HV4.out, by omega, below_drewN hb4 _⟩
                  · have hz2b : ((Z2 : Int) == 0) = false := by simp; omega
                    clear k2 hz2
                    go_wp2_with fail
                    go_big_quiet ((first | (go_at_call 68; with_reducible exact Calls.quiet_of (CW2.out _)) | (go_at_call 68; with_reducible exact Calls.quiet_of (CW3.out _))))
                    go_wp2
                    go_roundg g'
                    case measure => omega
                    case rel => exact ⟨rfl, k + 1 + 8, m2, _, by omega, rfl, fun h => rfl, HV2.out, by omega, below_drewN hb1 _⟩
              · have c16z : ¬ (16 : Int) < (m2 : Int) := by omega
                have c16b : decide ((16 : Int) < (m2 : Int)) = false := decide_eq_false c16z
                go_wp2_with fail
                go_quiet (fail)
                go_wp2
                go_roundg g'
                case measure => omega
                case rel => exact ⟨rfl, k + 1 + 8, m2, _, by omega, rfl, fun h => rfl, HV2.out, by omega, below_drewN hb1 _⟩
            · have hz1b : ((Z1 : Int) == 0) = false := by simp; omega
              go_wp2
              go_roundg g'
              case measure => omega
              case rel => exact ⟨rfl, k + 1, m1, _, by omega, rfl, fun h => rfl, HV1.out, by omega, hb1⟩
          · have c8z : ¬ (8 : Int) < (m1 : Int) := by omega
            go_wp2
            go_roundg g'
            case measure => omega
            case rel => exact ⟨rfl, k + 1, m1, _, by omega, rfl, fun h => rfl, HV1.out, by omega, hbw⟩
      · -- a lead byte from 128 on
        have hge : 128 ≤ x0.toNat := by omega
        have hascz : ¬ ((x0.toNat : Int) < 128) := by omega
        obtain ⟨x1, hx1⟩ : ∃ x1, ld.getD 1 0 = x1 := ⟨_, rfl⟩
        obtain ⟨x2, hx2⟩ : ∃ x2, ld.getD 2 0 = x2 := ⟨_, rfl⟩
        obtain ⟨x3, hx3⟩ : ∃ x3, ld.getD 3 0 = x3 := ⟨_, rfl⟩
        have l1 := x1.toNat_lt; have l2 := x2.toNat_lt; have l3 := x3.toNat_lt
        have hne : ld ≠ [] := fun h => by rw [h] at hlk; simp at hlk; omega
        have hlead := Lib.validD_lead ld hne (by rw [hx0]; exact hge)
        rw [hx0, hx1, hx2, hx3, hlk, hv] at hlead
        have hTr := Utf8Tabs_below HT.out hbw
        have hc0 := hTr.1 x0.toNat hx0lt
        have hXlt : Lib.firstT x0.toNat < 256 := by rcases Lib.firstT_cases x0.toNat with h | h | h | h | h | h | h | h | h <;> omega
        obtain ⟨X, hX⟩ : ∃ X, Lib.firstT x0.toNat = X := ⟨_, rfl⟩
        rw [hX] at hc0 hXlt hlead
        have h7 := and7 ⟨X, hXlt⟩
        simp only at h7
        have ha0 : wr.cell? ⟨1, X / 16 * 2, none⟩ = some (.int .u8 (Lib.accLo (X / 16))) := by rw [Nat.mul_comm]; exact (hTr.2 (X / 16) (by omega)).1
        have ha1 : wr.cell? ⟨1, X / 16 * 2 + 1, none⟩ = some (.int .u8 (Lib.accHi (X / 16))) := by rw [Nat.mul_comm]; exact (hTr.2 (X / 16) (by omega)).2
        obtain ⟨LO, hLO⟩ : ∃ LO, Lib.accLo (X / 16) = LO := ⟨_, rfl⟩
        obtain ⟨HI, hHI⟩ : ∃ HI, Lib.accHi (X / 16) = HI := ⟨_, rfl⟩
        rw [hLO] at ha0 hlead
        rw [hHI] at ha1 hlead
        obtain ⟨SZ, hSZ⟩ : ∃ SZ, X % 8 = SZ := ⟨_, rfl⟩
        rw [hSZ] at hlead
        have HX1 := Lib.hid hx1; have HX2 := Lib.hid hx2; have HX3 := Lib.hid hx3
        have HCW := Lib.hid hcw; have HLK := Lib.hid hlk
        clear hTr hX hv hLO hHI hne hx1 hx2 hx3 hcw hlk hld hx0 hg0
        have HB4 := Lib.hid (hbw.alloc hbw.size (.cells #[.int .u8 (LO : Nat), .int .u8 (HI : Nat)] 83))
        have hgw : g < wr.heap.size := Nat.lt_of_lt_of_le hg hbw.size
        have HXC := Lib.hid (HCW.out.fr (w' := wr.alloc (.cells #[.int .u8 (LO : Nat), .int .u8 (HI : Nat)] 83)) (((Below.refl wr.heap.size wr).alloc (Nat.le_refl _) _).block g hgw))
        have hw4 : (wr.alloc (.cells #[.int .u8 (LO : Nat), .int .u8 (HI : Nat)] 83)).heap[wr.heap.size]? = some (.cells #[.int .u8 (LO : Nat), .int .u8 (HI : Nat)] 83 (0, 0)) := heap_alloc_new wr _
        have HA0 := Lib.hid (show (wr.alloc (.cells #[.int .u8 (LO : Nat), .int .u8 (HI : Nat)] 83)).cell? ⟨wr.heap.size, 0, none⟩ = some (.int .u8 (LO : Nat)) by rw [Lib.cell_of_heap hw4]; rfl)
        have HA1 := Lib.hid (show (wr.alloc (.cells #[.int .u8 (LO : Nat), .int .u8 (HI : Nat)] 83)).cell? ⟨wr.heap.size, 1, none⟩ = some (.int .u8 (HI : Nat)) by rw [Lib.cell_of_heap hw4]; rfl)
        clear hw4 hgw HCW
        by_cases s2 : SZ = 2
        · as_aux_lemma =>
            subst s2
            have hSZz : (X : Int) % 8 = 2 := by omega
            simp only [Lib.checkN, Nat.reduceEqDiff, if_true, if_false] at hlead
            have HLEAD := Lib.hid hlead
            clear hlead hp
            go_upto_region 17 with fail
            generalize wr.alloc (.cells #[.int .u8 (LO : Nat), .int .u8 (HI : Nat)] 83) = w4 at HB4 HXC HA0 HA1 ⊢
            generalize wr.heap.size = ab at HA0 HA1 ⊢
            have la0 := HA0.out
            have la1 := HA1.out
            clear cl0 hc0 ha0 ha1 hbw HT HC
            by_cases q0 : m < 2
            · have q0z : (m : Int) < 2 := by omega
              have d0 : decide ((m : Int) < 2) = true := decide_eq_true q0z
              have HV := Lib.hid (show ans = false by have h5 := HLEAD.out; rw [if_pos (by omega)] at h5; exact h5)
              go_wp2_with fail
              go_big_quiet (fail)
              go_wp2
              go_ret
              exact ⟨by rw [HV.out]; rfl, below_drewN HB4.out _⟩
            · have q0z : ¬ ((m : Int) < 2) := by omega
              have d0 : decide ((m : Int) < 2) = false := decide_eq_false q0z
              have i1z : (1 : Int) < (m : Int) := by omega
              have y1 : w4.cell? ⟨g, k + 1, none⟩ = some (.int .u8 x1.toNat) := HXC.out 1 x1 (at_getD HX1.out (by rw [HLK.out]; omega))
              by_cases q1 : x1.toNat < LO
              · have q1z : (x1.toNat : Int) < (LO : Int) := by omega
                have d1 : decide ((x1.toNat : Int) < (LO : Int)) = true := decide_eq_true q1z
                have HV := Lib.hid (show ans = false by have h5 := HLEAD.out; rw [if_pos (by omega)] at h5; exact h5)
                go_wp2_with fail
                go_big_quiet (fail)
                go_wp2
                go_ret
                exact ⟨by rw [HV.out]; rfl, below_drewN HB4.out _⟩
              · have q1z : ¬ ((x1.toNat : Int) < (LO : Int)) := by omega
                have d1 : decide ((x1.toNat : Int) < (LO : Int)) = false := decide_eq_false q1z
                by_cases q2 : HI < x1.toNat
                · have q2z : (HI : Int) < (x1.toNat : Int) := by omega
                  have d2 : decide ((HI : Int) < (x1.toNat : Int)) = true := decide_eq_true q2z
                  have HV := Lib.hid (show ans = false by have h5 := HLEAD.out; rw [if_pos (by omega)] at h5; exact h5)
                  go_wp2_with fail
                  go_big_quiet (fail)
                  go_wp2
                  go_ret
                  exact ⟨by rw [HV.out]; rfl, below_drewN HB4.out _⟩
                · have q2z : ¬ ((HI : Int) < (x1.toNat : Int)) := by omega
                  have d2 : decide ((HI : Int) < (x1.toNat : Int)) = false := decide_eq_false q2z
                  have HV := Lib.hid (show ans = Lib.validD (l.drop (k + 2)) by have h5 := HLEAD.out; rw [if_neg (by omega)] at h5; rw [← List.drop_drop, HLD.out]; exact h5)
                  go_wp2_with fail
                  go_big_quiet (fail)
                  clear q0z d0 q1z d1 q2z d2 i1z y1
                  by_cases e5 : m = 2
                  · subst e5
                    go_wp2
                    go_roundg g'
                    case measure => omega
                    case rel => exact ⟨rfl, k + 2, 0, _, by omega, rfl, fun h => absurd h (by omega), HV.out.symm, by omega, below_drewN HB4.out _⟩
                  · obtain ⟨m5, rfl⟩ : ∃ m5, m = m5 + 2 := ⟨m - 2, by omega⟩
                    have p5 : 0 < m5 := by omega
                    go_wp2
                    go_roundg g'
                    case measure => omega
                    case rel => exact ⟨rfl, k + 2, m5, _, by omega, rfl, fun h => rfl, HV.out.symm, by omega, below_drewN HB4.out _⟩
        by_cases s3 : SZ = 3
        · as_aux_lemma =>
            subst s3
            have hSZz : (X : Int) % 8 = 3 := by omega
            simp only [Lib.checkN, Nat.reduceEqDiff, if_true, if_false] at hlead
            have HLEAD := Lib.hid hlead
            clear hlead hp
            go_upto_region 21 with fail
            generalize wr.alloc (.cells #[.int .u8 (LO : Nat), .int .u8 (HI : Nat)] 83) = w4 at HB4 HXC HA0 HA1 ⊢
            generalize wr.heap.size = ab at HA0 HA1 ⊢
            have la0 := HA0.out
            have la1 := HA1.out
            clear cl0 hc0 ha0 ha1 hbw HT HC
            by_cases q0 : m < 3
            · have q0z : (m : Int) < 3 := by omega
              have d0 : decide ((m : Int) < 3) = true := decide_eq_true q0z
              have HV := Lib.hid (show ans = false by have h5 := HLEAD.out; rw [if_pos (by omega)] at h5; exact h5)
              go_wp2_with fail
              go_big_quiet (fail)
              go_wp2
              go_ret
              exact ⟨by rw [HV.out]; rfl, below_drewN HB4.out _⟩
            · have q0z : ¬ ((m : Int) < 3) := by omega
              have d0 : decide ((m : Int) < 3) = false := decide_eq_false q0z
              have i1z : (1 : Int) < (m : Int) := by omega
              have y1 : w4.cell? ⟨g, k + 1, none⟩ = some (.int .u8 x1.toNat) := HXC.out 1 x1 (at_getD HX1.out (by rw [HLK.out]; omega))
              have i2z : (2 : Int) < (m : Int) := by omega
              have y2 : w4.cell? ⟨g, k + 2, none⟩ = some (.int .u8 x2.toNat) := HXC.out 2 x2 (at_getD HX2.out (by rw [HLK.out]; omega))
              by_cases q1 : x1.toNat < LO
              · have q1z : (x1.toNat : Int) < (LO : Int) := by omega
                have d1 : decide ((x1.toNat : Int) < (LO : Int)) = true := decide_eq_true q1z
                have HV := Lib.hid (show ans = false by have h5 := HLEAD.out; rw [if_pos (by omega)] at h5; exact h5)
                go_wp2_with fail
                go_big_quiet (fail)
                go_wp2
                go_ret
                exact ⟨by rw [HV.out]; rfl, below_drewN HB4.out _⟩
              · have q1z : ¬ ((x1.toNat : Int) < (LO : Int)) := by omega
                have d1 : decide ((x1.toNat : Int) < (LO : Int)) = false := decide_eq_false q1z
                by_cases q2 : HI < x1.toNat
                · have q2z : (HI : Int) < (x1.toNat : Int) := by omega
                  have d2 : decide ((HI : Int) < (x1.toNat : Int)) = true := decide_eq_true q2z
                  have HV := Lib.hid (show ans = false by have h5 := HLEAD.out; rw [if_pos (by omega)] at h5; exact h5)
                  go_wp2_with fail
                  go_big_quiet (fail)
                  go_wp2
                  go_ret
                  exact ⟨by rw [HV.out]; rfl, below_drewN HB4.out _⟩
                · have q2z : ¬ ((HI : Int) < (x1.toNat : Int)) := by omega
                  have d2 : decide ((HI : Int) < (x1.toNat : Int)) = false := decide_eq_false q2z
                  by_cases q3 : x2.toNat < 128
                  · have q3z : (x2.toNat : Int) < 128 := by omega
                    have d3 : decide ((x2.toNat : Int) < 128) = true := decide_eq_true q3z
                    have HV := Lib.hid (show ans = false by have h5 := HLEAD.out; rw [if_pos (by omega)] at h5; exact h5)
                    go_wp2_with fail
                    go_big_quiet (fail)
                    go_wp2
                    go_ret
                    exact ⟨by rw [HV.out]; rfl, below_drewN HB4.out _⟩
                  · have q3z : ¬ ((x2.toNat : Int) < 128) := by omega
                    have d3 : decide ((x2.toNat : Int) < 128) = false := decide_eq_false q3z
                    by_cases q4 : 191 < x2.toNat
                    · have q4z : (191 : Int) < (x2.toNat : Int) := by omega
                      have d4 : decide ((191 : Int) < (x2.toNat : Int)) = true := decide_eq_true q4z
                      have HV := Lib.hid (show ans = false by have h5 := HLEAD.out; rw [if_pos (by omega)] at h5; exact h5)
                      go_wp2_with fail
                      go_big_quiet (fail)
                      go_wp2
                      go_ret
                      exact ⟨by rw [HV.out]; rfl, below_drewN HB4.out _⟩
                    · have q4z : ¬ ((191 : Int) < (x2.toNat : Int)) := by omega
                      have d4 : decide ((191 : Int) < (x2.toNat : Int)) = false := decide_eq_false q4z
                      have HV := Lib.hid (show ans = Lib.validD (l.drop (k + 3)) by have h5 := HLEAD.out; rw [if_neg (by omega)] at h5; rw [← List.drop_drop, HLD.out]; exact h5)
                      go_wp2_with fail
                      go_big_quiet (fail)
                      clear q0z d0 q1z d1 q2z d2 q3z d3 q4z d4 i1z y1 i2z y2
                      by_cases e5 : m = 3
                      · subst e5
                        go_wp2
                        go_roundg g'
                        case measure => omega
                        case rel => exact ⟨rfl, k + 3, 0, _, by omega, rfl, fun h => absurd h (by omega), HV.out.symm, by omega, below_drewN HB4.out _⟩
                      · obtain ⟨m5, rfl⟩ : ∃ m5, m = m5 + 3 := ⟨m - 3, by omega⟩
                        have p5 : 0 < m5 := by omega
                        go_wp2
                        go_roundg g'
                        case measure => omega
                        case rel => exact ⟨rfl, k + 3, m5, _, by omega, rfl, fun h => rfl, HV.out.symm, by omega, below_drewN HB4.out _⟩
        by_cases s4 : SZ = 4
        · as_aux_lemma =>
            subst s4
            have hSZz : (X : Int) % 8 = 4 := by omega
            simp only [Lib.checkN, Nat.reduceEqDiff, if_true, if_false] at hlead
            have HLEAD := Lib.hid hlead
            clear hlead hp
            go_upto_region 25 with fail
            generalize wr.alloc (.cells #[.int .u8 (LO : Nat), .int .u8 (HI : Nat)] 83) = w4 at HB4 HXC HA0 HA1 ⊢
            generalize wr.heap.size = ab at HA0 HA1 ⊢
            have la0 := HA0.out
            have la1 := HA1.out
            clear cl0 hc0 ha0 ha1 hbw HT HC
            by_cases q0 : m < 4
            · have q0z : (m : Int) < 4 := by omega
              have d0 : decide ((m : Int) < 4) = true := decide_eq_true q0z
              have HV := Lib.hid (show ans = false by have h5 := HLEAD.out; rw [if_pos (by omega)] at h5; exact h5)
              go_wp2_with fail
              go_big_quiet (fail)
              go_wp2
              go_ret
              exact ⟨by rw [HV.out]; rfl, below_drewN HB4.out _⟩
            · have q0z : ¬ ((m : Int) < 4) := by omega
              have d0 : decide ((m : Int) < 4) = false := decide_eq_false q0z
              have i1z : (1 : Int) < (m : Int) := by omega
              have y1 : w4.cell? ⟨g, k + 1, none⟩ = some (.int .u8 x1.toNat) := HXC.out 1 x1 (at_getD HX1.out (by rw [HLK.out]; omega))
              have i2z : (2 : Int) < (m : Int) := by omega
              have y2 : w4.cell? ⟨g, k + 2, none⟩ = some (.int .u8 x2.toNat) := HXC.out 2 x2 (at_getD HX2.out (by rw [HLK.out]; omega))
              have i3z : (3 : Int) < (m : Int) := by omega
              have y3 : w4.cell? ⟨g, k + 3, none⟩ = some (.int .u8 x3.toNat) := HXC.out 3 x3 (at_getD HX3.out (by rw [HLK.out]; omega))
              by_cases q1 : x1.toNat < LO
              · have q1z : (x1.toNat : Int) < (LO : Int) := by omega
                have d1 : decide ((x1.toNat : Int) < (LO : Int)) = true := decide_eq_true q1z
                have HV := Lib.hid (show ans = false by have h5 := HLEAD.out; rw [if_pos (by omega)] at h5; exact h5)
                go_wp2_with fail
                go_big_quiet (fail)
                go_wp2
                go_ret
                exact ⟨by rw [HV.out]; rfl, below_drewN HB4.out _⟩
              · have q1z : ¬ ((x1.toNat : Int) < (LO : Int)) := by omega
                have d1 : decide ((x1.toNat : Int) < (LO : Int)) = false := decide_eq_false q1z
                by_cases q2 : HI < x1.toNat
                · have q2z : (HI : Int) < (x1.toNat : Int) := by omega
                  have d2 : decide ((HI : Int) < (x1.toNat : Int)) = true := decide_eq_true q2z
                  have HV := Lib.hid (show ans = false by have h5 := HLEAD.out; rw [if_pos (by omega)] at h5; exact h5)
                  go_wp2_with fail
                  go_big_quiet (fail)
                  go_wp2
                  go_ret
                  exact ⟨by rw [HV.out]; rfl, below_drewN HB4.out _⟩
                · have q2z : ¬ ((HI : Int) < (x1.toNat : Int)) := by omega
                  have d2 : decide ((HI : Int) < (x1.toNat : Int)) = false := decide_eq_false q2z
                  by_cases q3 : x2.toNat < 128
                  · have q3z : (x2.toNat : Int) < 128 := by omega
                    have d3 : decide ((x2.toNat : Int) < 128) = true := decide_eq_true q3z
                    have HV := Lib.hid (show ans = false by have h5 := HLEAD.out; rw [if_pos (by omega)] at h5; exact h5)
                    go_wp2_with fail
                    go_big_quiet (fail)
                    go_wp2
                    go_ret
                    exact ⟨by rw [HV.out]; rfl, below_drewN HB4.out _⟩
                  · have q3z : ¬ ((x2.toNat : Int) < 128) := by omega
                    have d3 : decide ((x2.toNat : Int) < 128) = false := decide_eq_false q3z
                    by_cases q4 : 191 < x2.toNat
                    · have q4z : (191 : Int) < (x2.toNat : Int) := by omega
                      have d4 : decide ((191 : Int) < (x2.toNat : Int)) = true := decide_eq_true q4z
                      have HV := Lib.hid (show ans = false by have h5 := HLEAD.out; rw [if_pos (by omega)] at h5; exact h5)
                      go_wp2_with fail
                      go_big_quiet (fail)
                      go_wp2
                      go_ret
                      exact ⟨by rw [HV.out]; rfl, below_drewN HB4.out _⟩
                    · have q4z : ¬ ((191 : Int) < (x2.toNat : Int)) := by omega
                      have d4 : decide ((191 : Int) < (x2.toNat : Int)) = false := decide_eq_false q4z
                      by_cases q5 : x3.toNat < 128
                      · have q5z : (x3.toNat : Int) < 128 := by omega
                        have d5 : decide ((x3.toNat : Int) < 128) = true := decide_eq_true q5z
                        have HV := Lib.hid (show ans = false by have h5 := HLEAD.out; rw [if_pos (by omega)] at h5; exact h5)
                        go_wp2_with fail
                        go_big_quiet (fail)
                        go_wp2
                        go_ret
                        exact ⟨by rw [HV.out]; rfl, below_drewN HB4.out _⟩
                      · have q5z : ¬ ((x3.toNat : Int) < 128) := by omega
                        have d5 : decide ((x3.toNat : Int) < 128) = false := decide_eq_false q5z
                        by_cases q6 : 191 < x3.toNat
                        · have q6z : (191 : Int) < (x3.toNat : Int) := by omega
                          have d6 : decide ((191 : Int) < (x3.toNat : Int)) = true := decide_eq_true q6z
                          have HV := Lib.hid (show ans = false by have h5 := HLEAD.out; rw [if_pos (by omega)] at h5; exact h5)
                          go_wp2_with fail
                          go_big_quiet (fail)
                          go_wp2
                          go_ret
                          exact ⟨by rw [HV.out]; rfl, below_drewN HB4.out _⟩
                        · have q6z : ¬ ((191 : Int) < (x3.toNat : Int)) := by omega
                          have d6 : decide ((191 : Int) < (x3.toNat : Int)) = false := decide_eq_false q6z
                          have HV := Lib.hid (show ans = Lib.validD (l.drop (k + 4)) by have h5 := HLEAD.out; rw [if_neg (by omega)] at h5; rw [← List.drop_drop, HLD.out]; exact h5)
                          go_wp2_with fail
                          go_big_quiet (fail)
                          clear q0z d0 q1z d1 q2z d2 q3z d3 q4z d4 q5z d5 q6z d6 i1z y1 i2z y2 i3z y3
                          by_cases e5 : m = 4
                          · subst e5
                            go_wp2
                            go_roundg g'
                            case measure => omega
                            case rel => exact ⟨rfl, k + 4, 0, _, by omega, rfl, fun h => absurd h (by omega), HV.out.symm, by omega, below_drewN HB4.out _⟩
                          · obtain ⟨m5, rfl⟩ : ∃ m5, m = m5 + 4 := ⟨m - 4, by omega⟩
                            have p5 : 0 < m5 := by omega
                            go_wp2
                            go_roundg g'
                            case measure => omega
                            case rel => exact ⟨rfl, k + 4, m5, _, by omega, rfl, fun h => rfl, HV.out.symm, by omega, below_drewN HB4.out _⟩
        · have e2 : ¬ ((X : Int) % 8 = 2) := by omega
          have e3 : ¬ ((X : Int) % 8 = 3) := by omega
          have e4 : ¬ ((X : Int) % 8 = 4) := by omega
          have e2b : (((X : Int) % 8) == 2) = false := by simp; omega
          have e3b : (((X : Int) % 8) == 3) = false := by simp; omega
          have e4b : (((X : Int) % 8) == 4) = false := by simp; omega
          simp only [Lib.checkN, s2, s3, s4, if_false] at hlead
          have HV := Lib.hid hlead
          clear hlead
          go_wp2
          all_goals (go_ret; exact ⟨by rw [HV.out]; rfl, HB4.out⟩)
    · have m0 : m = 0 := by omega
      have t0 : ¬ (0 : Int) < (m : Int) := by omega
      have hnil : l.drop k = [] := List.drop_eq_nil_of_le (by rw [HL.out]; omega)
      rw [hnil, Lib.validD_nil] at hv
      have HV := Lib.hid hv
      clear hp hv m0
      go_wp2
      go_ret
      exact ⟨by rw [← HV.out]; rfl, hbw⟩
end Go.Proofs.YtpoglombagmhmaaGreatDoor
