/- Plain Lean: groups of base64 signs, and the bytes that they are; a row that is filled from its beginning. -/
import Derived.Test.YtpoglombagmhmaaGreatDoorBd4
import Derived.BigQuiet
import Derived.IntWalk
namespace Go.Proofs.YtpoglombagmhmaaGreatDoor
open Go

theorem b64_drop (c : List UInt8) (j : Nat) (h : 3 * j ≤ c.length) : (b64 c).drop (4 * j) = b64 (c.drop (3 * j)) := by
  have h1 := b64_append j (c.take (3 * j)) (c.drop (3 * j)) (by rw [List.length_take]; omega)
  rw [List.take_append_drop] at h1
  have h2 : (b64 (c.take (3 * j))).length = 4 * j := by rw [b64_length, List.length_take]; omega
  rw [h1, List.drop_append_of_le_length (by omega), List.drop_of_length_le (by omega), List.nil_append]
theorem b64_at (c : List UInt8) (j i : Nat) (h : 3 * j ≤ c.length) : (b64 c)[4 * j + i]? = (b64 (c.drop (3 * j)))[i]? := by
  rw [← b64_drop c j h, List.getElem?_drop]
theorem drop_cons (c : List UInt8) (j : Nat) (h : j < c.length) : ∃ x, c.drop j = x :: c.drop (j + 1) := ⟨_, List.drop_eq_getElem_cons h⟩

/-- The six bits of three bytes. -/
def d0 (x : UInt8) : Nat := x.toNat / 4
def d1 (x y : UInt8) : Nat := x.toNat % 4 * 16 + y.toNat / 16
def d2 (y z : UInt8) : Nat := y.toNat % 16 * 4 + z.toNat / 64
def d3 (z : UInt8) : Nat := z.toNat % 64
theorem d0_lt (x : UInt8) : d0 x < 64 := by have := x.toNat_lt; unfold d0; omega
theorem d1_lt (x y : UInt8) : d1 x y < 64 := by have := y.toNat_lt; unfold d1; omega
theorem d2_lt (y z : UInt8) : d2 y z < 64 := by have := z.toNat_lt; unfold d2; omega
theorem d3_lt (z : UInt8) : d3 z < 64 := by unfold d3; omega
theorem join3 (x y z : UInt8) : d0 x * 262144 + d1 x y * 4096 + d2 y z * 64 + d3 z = x.toNat * 65536 + y.toNat * 256 + z.toNat := by
  have := x.toNat_lt; have := y.toNat_lt; have := z.toNat_lt
  unfold d0 d1 d2 d3; omega
theorem join2 (x y : UInt8) : d0 x * 262144 + d1 x y * 4096 + y.toNat % 16 * 4 * 64 = x.toNat * 65536 + y.toNat * 256 := by
  have := x.toNat_lt; have := y.toNat_lt
  unfold d0 d1; omega
theorem join1 (x : UInt8) : d0 x * 262144 + x.toNat % 4 * 16 * 4096 = x.toNat * 65536 := by
  have := x.toNat_lt
  unfold d0; omega
theorem b64_three (x y z : UInt8) (t : List UInt8) : b64 (x :: y :: z :: t) = sgn (d0 x) :: sgn (d1 x y) :: sgn (d2 y z) :: sgn (d3 z) :: b64 t := rfl
theorem b64_two (x y : UInt8) : b64 [x, y] = [sgn (d0 x), sgn (d1 x y), sgn (y.toNat % 16 * 4), 61] := rfl
theorem b64_one (x : UInt8) : b64 [x] = [sgn (d0 x), sgn (x.toNat % 4 * 16), 61, 61] := rfl

theorem take_set_same (l : List UInt8) (n : Nat) (x : UInt8) (h : n < l.length) : (l.set n x).take (n + 1) = l.take n ++ [x] := by
  rw [List.take_succ_eq_append_getElem (by simpa using h), List.getElem_set_self, List.take_set_of_le (Nat.le_refl _)]
theorem take_set_beyond (l : List UInt8) (n m : Nat) (x : UInt8) (h : m ≤ n) : (l.set n x).take m = l.take m := List.take_set_of_le h

theorem put6 (l : List UInt8) (n : Nat) (a b c d e f g h : UInt8) (hl : n + 8 ≤ l.length) :
    ((((((((l.set n a).set (n + 1) b).set (n + 2) c).set (n + 3) d).set (n + 4) e).set (n + 5) f).set (n + 6) g).set (n + 7) h).take (n + 6) = l.take n ++ [a, b, c, d, e, f] := by
  rw [take_set_beyond _ _ _ _ (by omega), take_set_beyond _ _ _ _ (by omega), take_set_same _ _ _ (by simp; omega), take_set_same _ _ _ (by simp; omega), take_set_same _ _ _ (by simp; omega), take_set_same _ _ _ (by simp; omega), take_set_same _ _ _ (by simp; omega), take_set_same _ _ _ (by omega)]
  simp
theorem put3 (l : List UInt8) (n : Nat) (a b c d : UInt8) (hl : n + 4 ≤ l.length) :
    ((((l.set n a).set (n + 1) b).set (n + 2) c).set (n + 3) d).take (n + 3) = l.take n ++ [a, b, c] := by
  rw [take_set_beyond _ _ _ _ (by omega), take_set_same _ _ _ (by simp; omega), take_set_same _ _ _ (by simp; omega), take_set_same _ _ _ (by omega)]
  simp
theorem put3' (l : List UInt8) (n : Nat) (a b c : UInt8) (hl : n + 3 ≤ l.length) : (((l.set (n + 2) c).set (n + 1) b).set n a).take (n + 3) = l.take n ++ [a, b, c] := by
  rw [List.set_comm _ _ (by omega : n + 1 ≠ n), List.set_comm _ _ (by omega : n + 2 ≠ n), List.set_comm _ _ (by omega : n + 2 ≠ n + 1)]
  rw [take_set_same _ _ _ (by simp; omega), take_set_same _ _ _ (by simp; omega), take_set_same _ _ _ (by omega)]
  simp
theorem put2' (l : List UInt8) (n : Nat) (a b : UInt8) (hl : n + 2 ≤ l.length) : ((l.set (n + 1) b).set n a).take (n + 2) = l.take n ++ [a, b] := by
  rw [List.set_comm _ _ (by omega : n + 1 ≠ n)]
  rw [take_set_same _ _ _ (by simp; omega), take_set_same _ _ _ (by omega)]
  simp

/-- j groups of the bytes c have come into the row l. -/
def Filled (c l : List UInt8) (j q : Nat) : Prop := l.length = 3 * q ∧ l.take (3 * j) = c.take (3 * j)
theorem take_drop_app (c : List UInt8) (n k : Nat) : c.take (n + k) = c.take n ++ (c.drop n).take k := List.take_add
theorem head_at {A B : List UInt8} {i : Nat} {x : UInt8} (hx : A[i]? = some x) : (A ++ B)[i]? = some x := by
  rw [List.getElem?_append_left (List.getElem?_eq_some_iff.1 hx).1]; exact hx
/-- Two whole groups ahead. -/
theorem eight (c : List UInt8) (j : Nat) (h : 3 * j + 6 ≤ c.length) : ∃ x0 x1 x2 x3 x4 x5 : UInt8, c.take (3 * (j + 2)) = c.take (3 * j) ++ [x0, x1, x2, x3, x4, x5] ∧
    ∀ i x, [sgn (d0 x0), sgn (d1 x0 x1), sgn (d2 x1 x2), sgn (d3 x2), sgn (d0 x3), sgn (d1 x3 x4), sgn (d2 x4 x5), sgn (d3 x5)][i]? = some x → (b64 c)[4 * j + i]? = some x := by
  obtain ⟨t, ht⟩ : ∃ t, c.drop (3 * j) = t := ⟨_, rfl⟩
  have hlen : 6 ≤ t.length := by rw [← ht, List.length_drop]; omega
  match t, hlen, ht with
  | x0 :: x1 :: x2 :: x3 :: x4 :: x5 :: t, _, ht =>
    refine ⟨x0, x1, x2, x3, x4, x5, ?_, fun i x hx => ?_⟩
    · rw [show 3 * (j + 2) = 3 * j + 6 by omega, take_drop_app, ht]; rfl
    · rw [b64_at c j i (by omega), ht, b64_three, b64_three]
      exact head_at (B := b64 t) hx
/-- One whole group ahead. -/
theorem four (c : List UInt8) (j : Nat) (h : 3 * j + 3 ≤ c.length) : ∃ x0 x1 x2 : UInt8, c.take (3 * (j + 1)) = c.take (3 * j) ++ [x0, x1, x2] ∧
    ∀ i x, [sgn (d0 x0), sgn (d1 x0 x1), sgn (d2 x1 x2), sgn (d3 x2)][i]? = some x → (b64 c)[4 * j + i]? = some x := by
  obtain ⟨t, ht⟩ : ∃ t, c.drop (3 * j) = t := ⟨_, rfl⟩
  have hlen : 3 ≤ t.length := by rw [← ht, List.length_drop]; omega
  match t, hlen, ht with
  | x0 :: x1 :: x2 :: t, _, ht =>
    refine ⟨x0, x1, x2, ?_, fun i x hx => ?_⟩
    · rw [show 3 * (j + 1) = 3 * j + 3 by omega, take_drop_app, ht]; rfl
    · rw [b64_at c j i (by omega), ht, b64_three]
      exact head_at (B := b64 t) hx
/-- The last group: of one, two or three bytes. -/
theorem last (c : List UInt8) (j : Nat) (h : 3 * j < c.length) (h2 : c.length ≤ 3 * j + 3) :
    (∃ x0 x1 x2 : UInt8, c.length = 3 * j + 3 ∧ c = c.take (3 * j) ++ [x0, x1, x2] ∧ ∀ i x, [sgn (d0 x0), sgn (d1 x0 x1), sgn (d2 x1 x2), sgn (d3 x2)][i]? = some x → (b64 c)[4 * j + i]? = some x) ∨
    (∃ x0 x1 : UInt8, c.length = 3 * j + 2 ∧ c = c.take (3 * j) ++ [x0, x1] ∧ ∀ i x, [sgn (d0 x0), sgn (d1 x0 x1), sgn (x1.toNat % 16 * 4), 61][i]? = some x → (b64 c)[4 * j + i]? = some x) ∨
    (∃ x0 : UInt8, c.length = 3 * j + 1 ∧ c = c.take (3 * j) ++ [x0] ∧ ∀ i x, [sgn (d0 x0), sgn (x0.toNat % 4 * 16), 61, 61][i]? = some x → (b64 c)[4 * j + i]? = some x) := by
  obtain ⟨t, ht⟩ : ∃ t, c.drop (3 * j) = t := ⟨_, rfl⟩
  have hlen : t.length = c.length - 3 * j := by rw [← ht, List.length_drop]
  have hc : c = c.take (3 * j) ++ t := by rw [← ht, List.take_append_drop]
  match t, hlen, ht, hc with
  | [x0, x1, x2], hlen, ht, hc =>
    refine .inl ⟨x0, x1, x2, by simp at hlen; omega, hc, fun i x hx => ?_⟩
    rw [b64_at c j i (by omega), ht, b64_three]; exact hx
  | [x0, x1], hlen, ht, hc =>
    refine .inr (.inl ⟨x0, x1, by simp at hlen; omega, hc, fun i x hx => ?_⟩)
    rw [b64_at c j i (by omega), ht, b64_two]; exact hx
  | [x0], hlen, ht, hc =>
    refine .inr (.inr ⟨x0, by simp at hlen; omega, hc, fun i x hx => ?_⟩)
    rw [b64_at c j i (by omega), ht, b64_one]; exact hx
  | [], hlen, ht, hc => simp at hlen; omega
  | x0 :: x1 :: x2 :: x3 :: t, hlen, ht, hc => simp at hlen; omega
theorem sum8 (x0 x1 x2 x3 x4 x5 : UInt8) (z : Nat) (hz : z = 0) : d0 x0 * 288230376151711744 + d1 x0 x1 * 4503599627370496 + d2 x1 x2 * 70368744177664 + d3 x2 * 1099511627776 + d0 x3 * 17179869184 + d1 x3 x4 * 268435456 + d2 x4 x5 * 4194304 + d3 x5 * 65536 =
    x0.toNat * 72057594037927936 + x1.toNat * 281474976710656 + x2.toNat * 1099511627776 + x3.toNat * 4294967296 + x4.toNat * 16777216 + x5.toNat * 65536 + z * 256 + z * 1 := by
  have h1 := join3 x0 x1 x2; have h2 := join3 x3 x4 x5
  generalize d0 x0 = n0 at *
  generalize d1 x0 x1 = n1 at *
  generalize d2 x1 x2 = n2 at *
  generalize d3 x2 = n3 at *
  generalize d0 x3 = n4 at *
  generalize d1 x3 x4 = n5 at *
  generalize d2 x4 x5 = n6 at *
  generalize d3 x5 = n7 at *
  generalize x0.toNat = y0 at *
  generalize x1.toNat = y1 at *
  generalize x2.toNat = y2 at *
  generalize x3.toNat = y3 at *
  generalize x4.toNat = y4 at *
  generalize x5.toNat = y5 at *
  subst hz
  grind
theorem sum4 (x0 x1 x2 : UInt8) (z : Nat) (hz : z = 0) : d0 x0 * 67108864 + d1 x0 x1 * 1048576 + d2 x1 x2 * 16384 + d3 x2 * 256 = x0.toNat * 16777216 + x1.toNat * 65536 + x2.toNat * 256 + z * 1 := by
  have h1 := join3 x0 x1 x2
  generalize d0 x0 = n0 at *
  generalize d1 x0 x1 = n1 at *
  generalize d2 x1 x2 = n2 at *
  generalize d3 x2 = n3 at *
  generalize x0.toNat = y0 at *
  generalize x1.toNat = y1 at *
  generalize x2.toNat = y2 at *
  subst hz
  grind
end Go.Proofs.YtpoglombagmhmaaGreatDoor
/- base64: Decode on what bEncode writes: the walk. -/
namespace Go.Proofs.YtpoglombagmhmaaGreatDoor
open Go Go.RowKit

/-- j groups are decoded. -/
def Dec (g q : Nat) (c : List UInt8) (w : World) (n si : Value) (wr : World) : Prop :=
  ∃ (j s m : Nat) (l : List UInt8), s = 4 * j ∧ m = 3 * j ∧ n = .int .i64 m ∧ si = .int .i64 s ∧ j + 1 ≤ q ∧ Filled c l j q ∧ Row g l wr ∧ Fr (fun b => b ≠ g ∧ b < w.heap.size) w wr

/-- But for the last group all is decoded; or all. -/
def DecE (g q N : Nat) (c : List UInt8) (w : World) (n si : Value) (wr : World) : Prop :=
  (Dec g q c w n si wr ∧ ∃ s : Nat, si = .int .i64 s ∧ s + 4 = N) ∨ (n = .int .i64 c.length ∧ si = .int .i64 N ∧ ∃ l', Row g l' wr ∧ l'.take c.length = c ∧ Fr (fun b => b ≠ g ∧ b < w.heap.size) w wr)

set_option maxHeartbeats 4000000 in
set_option maxRecDepth 100000 in
theorem Decode_b64 (ea g sb N M q cap scap : Nat) (c : List UInt8) (l : List UInt8) (w : World) (hE : EncM 64 ea w) (hR : Row g l w) (hl : l.length = 3 * q) (hq : (c.length + 2) / 3 = q) (h0 : 0 < q)
    (hN : N = 4 * q) (hM : M = 3 * q) (hq2 : q ≤ 262144) (hcap : M ≤ cap) (hcap2 : cap ≤ 9223372036854775807) (hscap : N ≤ scap) (hscap2 : scap ≤ 9223372036854775807)
    (hs : ∀ j (x : UInt8), (b64 c)[j]? = some x → w.cell? ⟨sb, 0 + j, none⟩ = some (.int .u8 x.toNat)) (hga : g ≠ ea) (hgs : g ≠ sb) :
    Calls Tryz.prog 124 #[.pointer (some ⟨ea, 0, none⟩), .slice (some ⟨g, 0, none⟩) M cap, .slice (some ⟨sb, 0, none⟩) N scap] w fun x w' => (∃ l', x = .returned (.tuple #[.int .i64 c.length, .nilIface]) ∧ Row g l' w' ∧ l'.take c.length = c) ∧ Fr (fun b => b ≠ g ∧ b < w.heap.size) w w' := by
  have HS := Lib.hid hs; have HR := Lib.hid hR; have HE := Lib.hid hE; have HL := Lib.hid hl; have HQ := Lib.hid hq; have HN := Lib.hid hN; have HM := Lib.hid hM
  have hNz : ((N : Int) == 0) = false := by rw [beq_eq_false_iff_ne]; omega
  have hNl : N ≤ 1048576 := by omega
  have hMl : M ≤ 1048576 := by omega
  obtain ⟨L, hL, hLc⟩ := HE.out.map
  have HLL := Lib.hid hL; have HLC := Lib.hid hLc
  clear hs hR hE hl hq hN hM hL hLc
  go_enter Tryz.func124, Tryz.ntmps124
  go_wp2_with (refine wpList_load_at rfl 81 _ rfl ⟨ea, 64, none⟩ rfl L _ HLC.out Tryz.underlying81 rfl (by rw [HLL.out]; exact arr256) ?_)
  generalize L.toArray = LA
  have HNZ := Lib.hid hNz
  clear hNz
  have MAP : Hid (∀ (i : Nat), i < 64 → ∀ wr, Fr (fun b => b ≠ g ∧ b < w.heap.size) w wr → wr.cell? ⟨ea, 64 + (sgn i).toNat, none⟩ = some (.int .u8 i)) := Lib.hid fun i hi wr hf => (HE.out.kept (hf.block ea ⟨hga.symm, HE.out.lt⟩)).sign hi
  go_loopw [6, 7, 8] (fun n er si wr => er = .nilIface ∧ Dec g q c w n si wr) (fun n _ _ _ => N - (intOf n).toNat)
  case atStart => exact ⟨rfl, 0, 0, 0, l, rfl, rfl, rfl, rfl, h0, ⟨HL.out, by simp⟩, HR.out, Fr.refl _ _⟩
  case round =>
    obtain ⟨rfl, j, s, m, l1, hs, hm, rfl, rfl, hj, hfl, hR1, hF1⟩ := hrel
    have HSJ := Lib.hid hs; have HMJ := Lib.hid hm; have HFL := Lib.hid hfl; have HR1 := Lib.hid hR1; have HF1 := Lib.hid hF1
    by_cases h3 : j + 3 ≤ q
    · have t0 : (8 : Int) ≤ (N : Int) - (s : Int) := by have := HN.out; omega
      have t1 : (8 : Int) ≤ (M : Int) - (m : Int) := by have := HM.out; omega
      have t2 : (s : Int) + 8 ≤ (N : Int) := by omega
      have t3 : (m : Int) + 8 ≤ (M : Int) := by omega
      have t4 : (s : Int) + 8 ≤ (scap : Int) := by omega
      obtain ⟨x0, x1, x2, x3, x4, x5, htk, hat⟩ := eight c j (by have := HQ.out; omega)
      have hlt : sb < w.heap.size := by
        rcases Nat.lt_or_ge sb w.heap.size with h' | h'
        · exact h'
        · have h := HS.out (4 * j + 0) _ (hat 0 _ rfl)
          simp [World.cell?, Array.getElem?_eq_none h'] at h
      have hcell : ∀ i x, [sgn (d0 x0), sgn (d1 x0 x1), sgn (d2 x1 x2), sgn (d3 x2), sgn (d0 x3), sgn (d1 x3 x4), sgn (d2 x4 x5), sgn (d3 x5)][i]? = some x → wr.cell? ⟨sb, s + i, none⟩ = some (.int .u8 x.toNat) := by
        intro i x hx
        rw [hF1.cell (p := ⟨sb, s + i, none⟩) ⟨hgs.symm, hlt⟩, hs]
        have := HS.out (4 * j + i) x (hat i x hx)
        rwa [Nat.zero_add] at this
      have k0 := hcell 0 _ rfl
      have k1 := hcell 1 _ rfl
      have k2 := hcell 2 _ rfl
      have k3 := hcell 3 _ rfl
      have k4 := hcell 4 _ rfl
      have k5 := hcell 5 _ rfl
      have k6 := hcell 6 _ rfl
      have k7 := hcell 7 _ rfl
      have k0' : wr.cell? ⟨sb, s, none⟩ = some (.int .u8 (sgn (d0 x0)).toNat) := k0
      have g0 := MAP.out _ (d0_lt x0) wr hF1
      have g1 := MAP.out _ (d1_lt x0 x1) wr hF1
      have g2 := MAP.out _ (d2_lt x1 x2) wr hF1
      have g3 := MAP.out _ (d3_lt x2) wr hF1
      have g4 := MAP.out _ (d0_lt x3) wr hF1
      have g5 := MAP.out _ (d1_lt x3 x4) wr hF1
      have g6 := MAP.out _ (d2_lt x4 x5) wr hF1
      have g7 := MAP.out _ (d3_lt x5) wr hF1
      have a0 := (sgn (d0 x0)).toNat_lt
      have a1 := (sgn (d1 x0 x1)).toNat_lt
      have a2 := (sgn (d2 x1 x2)).toNat_lt
      have a3 := (sgn (d3 x2)).toNat_lt
      have a4 := (sgn (d0 x3)).toNat_lt
      have a5 := (sgn (d1 x3 x4)).toNat_lt
      have a6 := (sgn (d2 x4 x5)).toNat_lt
      have a7 := (sgn (d3 x5)).toNat_lt
      have HASM := Lib.hid (fun w => (assemble64_six _ _ _ _ _ _ _ _ (d0_lt x0) (d1_lt x0 x1) (d2_lt x1 x2) (d3_lt x2) (d0_lt x3) (d1_lt x3 x4) (d2_lt x4 x5) (d3_lt x5) w).mono (fun _ _ h => (⟨h.1, h.2.symm⟩ : _ ∧ _)))
      have hsum := sum8 x0 x1 x2 x3 x4 x5 (0 : UInt8).toNat rfl
      obtain ⟨V, hV⟩ : ∃ V, d0 x0 * 288230376151711744 + d1 x0 x1 * 4503599627370496 + d2 x1 x2 * 70368744177664 + d3 x2 * 1099511627776 + d0 x3 * 17179869184 + d1 x3 x4 * 268435456 + d2 x4 x5 * 4194304 + d3 x5 * 65536 = V := ⟨_, rfl⟩
      rw [hV] at hsum HASM
      have HSUM := Lib.hid hsum; have HTK := Lib.hid htk
      clear hs hm hfl hR1 hF1 hcell k0 hat hsum hV htk
      generalize d0 x0 = n0 at *
      generalize d1 x0 x1 = n1 at *
      generalize d2 x1 x2 = n2 at *
      generalize d3 x2 = n3 at *
      generalize d0 x3 = n4 at *
      generalize d1 x3 x4 = n5 at *
      generalize d2 x4 x5 = n6 at *
      generalize d3 x5 = n7 at *
      generalize (sgn n0).toNat = m0 at *
      generalize (sgn n1).toNat = m1 at *
      generalize (sgn n2).toNat = m2 at *
      generalize (sgn n3).toNat = m3 at *
      generalize (sgn n4).toNat = m4 at *
      generalize (sgn n5).toNat = m5 at *
      generalize (sgn n6).toNat = m6 at *
      generalize (sgn n7).toNat = m7 at *
      go_wp2
      rw [Nat.add_sub_cancel_left]
      dsimp only [List.append]
      go_quiet ((go_at_call 134; exact Calls.quiet_of_same (HASM.out _)))
      clear k0' k1 k2 k3 k4 k5 k6 k7 g0 g1 g2 g3 g4 g5 g6 g7 a0 a1 a2 a3 a4 a5 a6 a7
      have hRq : Row g l1 (wr.drewN nq) := HR1.out.kept (by rw [heap_drewN])
      have hFq := HF1.out.drewN nq
      have HFQ := Lib.hid hFq
      clear hFq
      generalize wr.drewN nq = wq at *
      have hl1 : m + 8 ≤ l1.length := by have := HFL.out.1; have := HMJ.out; omega
      have hcm : (m : Int) + 8 ≤ (cap : Int) := by omega
      go_wp2_with fail
      refine (BEPutUint64_any g m (M - m) (cap - m) l1 x0 x1 x2 x3 x4 x5 0 0 V HSUM.out wq hRq hl1 (by omega)).mono ?_
      rintro e w2 ⟨rfl, hR2, hF2⟩
      have HF2 := Lib.hid ((HFQ.out.trans (hF2.mono (fun k hk => hk.1)) : Fr (fun b => b ≠ g ∧ b < w.heap.size) w w2))
      clear hF2
      go_wp2
      go_roundw
      case rel =>
        refine ⟨rfl, j + 2, s + 8, m + 6, _, by have := HSJ.out; omega, by have := HMJ.out; omega, by go_num, by go_num, by omega, ⟨by simp; exact HFL.out.1, ?_⟩, hR2, HF2.out⟩
        rw [show 3 * (j + 2) = m + 6 by have := HMJ.out; omega, put6 l1 m _ _ _ _ _ _ _ _ hl1, HMJ.out, HFL.out.2, ← HTK.out]
        congr 1
      case measure => have e1 := HN.out; have e2 := HMJ.out; simp [intOf]; omega
    · have hout : (j + 2 = q ∧ (8 : Int) ≤ (N : Int) - (s : Int) ∧ ¬ (8 : Int) ≤ (M : Int) - (m : Int)) ∨ (j + 1 = q ∧ ¬ (8 : Int) ≤ (N : Int) - (s : Int)) := by have := HN.out; have := HM.out; omega
      have b1 : (s : Int) ≤ (N : Int) := by have := HN.out; omega
      have b2 : (m : Int) ≤ (M : Int) := by have := HM.out; omega
      clear hs hm hfl hR1 hF1
      rcases hout with ⟨hjq, t0, t1⟩ | ⟨hjq, t0⟩
      all_goals
        have HJQ := Lib.hid hjq
        clear hjq
        go_wp2
        go_loopw [6, 7, 8] (fun n er si wr => er = .nilIface ∧ Dec g q c w n si wr) (fun n _ _ _ => N - (intOf n).toNat)
        case atStart => exact ⟨rfl, j, s, m, l1, HSJ.out, HMJ.out, rfl, rfl, hj, HFL.out, HR1.out, HF1.out⟩
        case round =>
          clear t0 b1 b2 HSJ HMJ HFL HR1 HF1 HJQ hj h3
          try clear t1
          obtain ⟨rfl, j, s, m, l1, hs, hm, rfl, rfl, hj, hfl, hR1, hF1⟩ := hrel
          have HSJ := Lib.hid hs; have HMJ := Lib.hid hm; have HFL := Lib.hid hfl; have HR1 := Lib.hid hR1; have HF1 := Lib.hid hF1
          by_cases h3 : j + 2 ≤ q
          · have t0 : (4 : Int) ≤ (N : Int) - (s : Int) := by have := HN.out; omega
            have t1 : (4 : Int) ≤ (M : Int) - (m : Int) := by have := HM.out; omega
            have t2 : (s : Int) + 4 ≤ (N : Int) := by omega
            have t3 : (m : Int) + 4 ≤ (M : Int) := by omega
            have t4 : (s : Int) + 4 ≤ (scap : Int) := by omega
            obtain ⟨x0, x1, x2, htk, hat⟩ := four c j (by have := HQ.out; omega)
            have hlt : sb < w.heap.size := by
              rcases Nat.lt_or_ge sb w.heap.size with h' | h'
              · exact h'
              · have h := HS.out (4 * j + 0) _ (hat 0 _ rfl)
                simp [World.cell?, Array.getElem?_eq_none h'] at h
            have hcell : ∀ i x, [sgn (d0 x0), sgn (d1 x0 x1), sgn (d2 x1 x2), sgn (d3 x2)][i]? = some x → wr.cell? ⟨sb, s + i, none⟩ = some (.int .u8 x.toNat) := by
              intro i x hx
              rw [hF1.cell (p := ⟨sb, s + i, none⟩) ⟨hgs.symm, hlt⟩, hs]
              have := HS.out (4 * j + i) x (hat i x hx)
              rwa [Nat.zero_add] at this
            have k0 := hcell 0 _ rfl
            have k1 := hcell 1 _ rfl
            have k2 := hcell 2 _ rfl
            have k3 := hcell 3 _ rfl
            have k0' : wr.cell? ⟨sb, s, none⟩ = some (.int .u8 (sgn (d0 x0)).toNat) := k0
            have g0 := MAP.out _ (d0_lt x0) wr hF1
            have g1 := MAP.out _ (d1_lt x0 x1) wr hF1
            have g2 := MAP.out _ (d2_lt x1 x2) wr hF1
            have g3 := MAP.out _ (d3_lt x2) wr hF1
            have a0 := (sgn (d0 x0)).toNat_lt
            have a1 := (sgn (d1 x0 x1)).toNat_lt
            have a2 := (sgn (d2 x1 x2)).toNat_lt
            have a3 := (sgn (d3 x2)).toNat_lt
            have HASM := Lib.hid (fun w => (assemble32_six _ _ _ _ (d0_lt x0) (d1_lt x0 x1) (d2_lt x1 x2) (d3_lt x2) w).mono (fun _ _ h => (⟨h.1, h.2.symm⟩ : _ ∧ _)))
            have hsum := sum4 x0 x1 x2 (0 : UInt8).toNat rfl
            obtain ⟨V, hV⟩ : ∃ V, d0 x0 * 67108864 + d1 x0 x1 * 1048576 + d2 x1 x2 * 16384 + d3 x2 * 256 = V := ⟨_, rfl⟩
            rw [hV] at hsum HASM
            have HSUM := Lib.hid hsum; have HTK := Lib.hid htk
            clear hs hm hfl hR1 hF1 hcell k0 hat hsum hV htk
            generalize d0 x0 = n0 at *
            generalize d1 x0 x1 = n1 at *
            generalize d2 x1 x2 = n2 at *
            generalize d3 x2 = n3 at *
            generalize (sgn n0).toNat = m0 at *
            generalize (sgn n1).toNat = m1 at *
            generalize (sgn n2).toNat = m2 at *
            generalize (sgn n3).toNat = m3 at *
            go_wp2
            rw [Nat.add_sub_cancel_left]
            go_quiet ((go_at_call 137; exact Calls.quiet_of_same (HASM.out _)))
            clear k0' k1 k2 k3 g0 g1 g2 g3 a0 a1 a2 a3
            have hRq : Row g l1 (wr.drewN nq) := HR1.out.kept (by rw [heap_drewN])
            have hFq := HF1.out.drewN nq
            have HFQ := Lib.hid hFq
            clear hFq
            generalize wr.drewN nq = wq at *
            have hl1 : m + 4 ≤ l1.length := by have := HFL.out.1; have := HMJ.out; omega
            have hcm : (m : Int) + 4 ≤ (cap : Int) := by omega
            go_wp2_with fail
            refine (BEPutUint32_any g m (M - m) (cap - m) l1 x0 x1 x2 0 V HSUM.out wq hRq hl1 (by omega)).mono ?_
            rintro e w2 ⟨rfl, hR2, hF2⟩
            have HF2 := Lib.hid ((HFQ.out.trans (hF2.mono (fun k hk => hk.1)) : Fr (fun b => b ≠ g ∧ b < w.heap.size) w w2))
            clear hF2
            go_wp2
            go_roundw
            case rel =>
              refine ⟨rfl, j + 1, s + 4, m + 3, _, by have := HSJ.out; omega, by have := HMJ.out; omega, by go_num, by go_num, by omega, ⟨by simp; exact HFL.out.1, ?_⟩, hR2, HF2.out⟩
              rw [show 3 * (j + 1) = m + 3 by have := HMJ.out; omega, put3 l1 m _ _ _ _ hl1, HMJ.out, HFL.out.2, ← HTK.out]
              congr 1
            case measure => have e1 := HN.out; have e2 := HMJ.out; simp [intOf]; omega
          · have hjq : j + 1 = q := by omega
            have t0 : (4 : Int) ≤ (N : Int) - (s : Int) := by have := HN.out; omega
            have t1 : ¬ (4 : Int) ≤ (M : Int) - (m : Int) := by have := HM.out; omega
            have b1 : (s : Int) ≤ (N : Int) := by have := HN.out; omega
            have b2 : (m : Int) ≤ (M : Int) := by have := HM.out; omega
            have HJQ := Lib.hid hjq
            clear hjq hs hm hfl hR1 hF1
            go_wp2
            go_loopw [6, 7, 8] (fun n er si wr => er = .nilIface ∧ DecE g q N c w n si wr) (fun _ _ si _ => N - (intOf si).toNat)
            case atStart => exact ⟨rfl, .inl ⟨⟨j, s, m, l1, HSJ.out, HMJ.out, rfl, rfl, hj, HFL.out, HR1.out, HF1.out⟩, s, rfl, by have := HSJ.out; have := HJQ.out; have := HN.out; omega⟩⟩
            case round =>
              clear t0 t1 b1 b2 HSJ HMJ HFL HR1 HF1 HJQ hj h3
              obtain ⟨rfl, hrel⟩ := hrel
              rcases hrel with ⟨⟨j, s, m, l1, hs, hm, rfl, rfl, hj, hfl, hR1, hF1⟩, s', hs', hsN⟩ | ⟨rfl, rfl, l2, hR2, hl2, hF2⟩
              · obtain rfl : s = s' := by simp only [Value.int.injEq, true_and] at hs'; omega
                have hjq : j + 1 = q := by have := HN.out; omega
                have HSJ := Lib.hid hs; have HMJ := Lib.hid hm; have HFL := Lib.hid hfl; have HR1 := Lib.hid hR1; have HF1 := Lib.hid hF1; have HSN := Lib.hid hsN; have HJQ := Lib.hid hjq
                have t0 : (s : Int) < (N : Int) := by omega
                have t2 : (m : Int) + 3 ≤ (M : Int) := by have := HM.out; omega
                have t3 : (m : Int) + 3 ≤ (cap : Int) := by omega
                have hc3 : 3 * j < c.length ∧ c.length ≤ 3 * j + 3 := by have := HQ.out; omega
                clear hs hm hfl hR1 hF1 hsN hjq hs'
                rcases last c j hc3.1 hc3.2 with ⟨x0, x1, x2, hcl, hcc, hat⟩ | ⟨x0, x1, hcl, hcc, hat⟩ | ⟨x0, hcl, hcc, hat⟩
                · have hl1 : m + 3 ≤ l1.length := by have := HFL.out.1; have := HMJ.out; have := HJQ.out; omega
                  have SRC : ∀ i (x : UInt8), [sgn (d0 x0), sgn (d1 x0 x1), sgn (d2 x1 x2), sgn (d3 x2)][i]? = some x → wr.cell? ⟨sb, s + i, none⟩ = some (.int .u8 x.toNat) := by
                    intro i x hx
                    have hlt : sb < w.heap.size := by
                      rcases Nat.lt_or_ge sb w.heap.size with h' | h'
                      · exact h'
                      · have h := HS.out (4 * j + 0) _ (hat 0 _ rfl)
                        simp [World.cell?, Array.getElem?_eq_none h'] at h
                    rw [HF1.out.cell (p := ⟨sb, s + i, none⟩) ⟨hgs.symm, hlt⟩, HSJ.out]
                    have := HS.out (4 * j + i) x (hat i x hx)
                    rwa [Nat.zero_add] at this
                  have HSRC := Lib.hid SRC; have HCL := Lib.hid hcl; have HCC := Lib.hid hcc
                  have hEr : EncM 64 ea wr := HE.out.kept (HF1.out.block ea ⟨hga.symm, HE.out.lt⟩)
                  have HER := Lib.hid hEr
                  clear SRC hcl hcc hat hEr
                  go_wp2_with fail
                  refine (decodeQuantum_full ea g m (M - m) (cap - m) sb N scap s (d0 x0) (d1 x0 x1) (d2 x1 x2) (d3 x2) (d0_lt x0) (d1_lt x0 x1) (d2_lt x1 x2) (d3_lt x2) l1 wr HER.out HR1.out hl1 (by have := HM.out; have := HMJ.out; have := HJQ.out; omega) HSN.out hNl hscap HSRC.out hga hgs x0 x1 x2 (join3 x0 x1 x2)).mono ?_
                  rintro e w2 ⟨rfl, hR2, hF2⟩
                  have hF3 : Fr (fun b => b ≠ g ∧ b < w.heap.size) w w2 := HF1.out.trans (hF2.mono (fun k hk => ⟨hk.1, Nat.lt_of_lt_of_le hk.2 HF1.out.size⟩))
                  have HF3 := Lib.hid hF3
                  clear hF2 hF3
                  go_wp2
                  go_roundw
                  case rel =>
                    refine ⟨rfl, .inr ⟨?_, rfl, _, hR2, ?_, HF3.out⟩⟩
                    · rw [show c.length = m + 3 by rw [HCL.out, HMJ.out]]; go_num
                    · rw [show c.length = m + 3 by rw [HCL.out, HMJ.out], put3' l1 m _ _ _ hl1, HMJ.out, HFL.out.2]; exact HCC.out.symm
                  case measure => have e1 := HSN.out; simp [intOf]; omega
                · have hl1 : m + 3 ≤ l1.length := by have := HFL.out.1; have := HMJ.out; have := HJQ.out; omega
                  have SRC : ∀ i (x : UInt8), [sgn (d0 x0), sgn (d1 x0 x1), sgn (x1.toNat % 16 * 4), 61][i]? = some x → wr.cell? ⟨sb, s + i, none⟩ = some (.int .u8 x.toNat) := by
                    intro i x hx
                    have hlt : sb < w.heap.size := by
                      rcases Nat.lt_or_ge sb w.heap.size with h' | h'
                      · exact h'
                      · have h := HS.out (4 * j + 0) _ (hat 0 _ rfl)
                        simp [World.cell?, Array.getElem?_eq_none h'] at h
                    rw [HF1.out.cell (p := ⟨sb, s + i, none⟩) ⟨hgs.symm, hlt⟩, HSJ.out]
                    have := HS.out (4 * j + i) x (hat i x hx)
                    rwa [Nat.zero_add] at this
                  have HSRC := Lib.hid SRC; have HCL := Lib.hid hcl; have HCC := Lib.hid hcc
                  have hEr : EncM 64 ea wr := HE.out.kept (HF1.out.block ea ⟨hga.symm, HE.out.lt⟩)
                  have HER := Lib.hid hEr
                  clear SRC hcl hcc hat hEr
                  go_wp2_with fail
                  refine (decodeQuantum_two ea g m (M - m) (cap - m) sb N scap s (d0 x0) (d1 x0 x1) (x1.toNat % 16 * 4) (d0_lt x0) (d1_lt x0 x1) (by have := x1.toNat_lt; omega) l1 wr HER.out HR1.out hl1 (by have := HM.out; have := HMJ.out; have := HJQ.out; omega) HSN.out hNl hscap HSRC.out hga hgs x0 x1 (join2 x0 x1)).mono ?_
                  rintro e w2 ⟨rfl, hR2, hF2⟩
                  have hF3 : Fr (fun b => b ≠ g ∧ b < w.heap.size) w w2 := HF1.out.trans (hF2.mono (fun k hk => ⟨hk.1, Nat.lt_of_lt_of_le hk.2 HF1.out.size⟩))
                  have HF3 := Lib.hid hF3
                  clear hF2 hF3
                  go_wp2
                  go_roundw
                  case rel =>
                    refine ⟨rfl, .inr ⟨?_, rfl, _, hR2, ?_, HF3.out⟩⟩
                    · rw [show c.length = m + 2 by rw [HCL.out, HMJ.out]]; go_num
                    · rw [show c.length = m + 2 by rw [HCL.out, HMJ.out], put2' l1 m _ _ (by omega), HMJ.out, HFL.out.2]; exact HCC.out.symm
                  case measure => have e1 := HSN.out; simp [intOf]; omega
                · have hl1 : m + 3 ≤ l1.length := by have := HFL.out.1; have := HMJ.out; have := HJQ.out; omega
                  have SRC : ∀ i (x : UInt8), [sgn (d0 x0), sgn (x0.toNat % 4 * 16), 61, 61][i]? = some x → wr.cell? ⟨sb, s + i, none⟩ = some (.int .u8 x.toNat) := by
                    intro i x hx
                    have hlt : sb < w.heap.size := by
                      rcases Nat.lt_or_ge sb w.heap.size with h' | h'
                      · exact h'
                      · have h := HS.out (4 * j + 0) _ (hat 0 _ rfl)
                        simp [World.cell?, Array.getElem?_eq_none h'] at h
                    rw [HF1.out.cell (p := ⟨sb, s + i, none⟩) ⟨hgs.symm, hlt⟩, HSJ.out]
                    have := HS.out (4 * j + i) x (hat i x hx)
                    rwa [Nat.zero_add] at this
                  have HSRC := Lib.hid SRC; have HCL := Lib.hid hcl; have HCC := Lib.hid hcc
                  have hEr : EncM 64 ea wr := HE.out.kept (HF1.out.block ea ⟨hga.symm, HE.out.lt⟩)
                  have HER := Lib.hid hEr
                  clear SRC hcl hcc hat hEr
                  go_wp2_with fail
                  refine (decodeQuantum_one ea g m (M - m) (cap - m) sb N scap s (d0 x0) (x0.toNat % 4 * 16) (d0_lt x0) (by have := x0.toNat_lt; omega) l1 wr HER.out HR1.out hl1 (by have := HM.out; have := HMJ.out; have := HJQ.out; omega) HSN.out hNl hscap HSRC.out hga hgs x0 (join1 x0)).mono ?_
                  rintro e w2 ⟨rfl, hR2, hF2⟩
                  have hF3 : Fr (fun b => b ≠ g ∧ b < w.heap.size) w w2 := HF1.out.trans (hF2.mono (fun k hk => ⟨hk.1, Nat.lt_of_lt_of_le hk.2 HF1.out.size⟩))
                  have HF3 := Lib.hid hF3
                  clear hF2 hF3
                  go_wp2
                  go_roundw
                  case rel =>
                    refine ⟨rfl, .inr ⟨?_, rfl, _, hR2, ?_, HF3.out⟩⟩
                    · rw [show c.length = m + 1 by rw [HCL.out, HMJ.out]]; go_num
                    · rw [show c.length = m + 1 by rw [HCL.out, HMJ.out], take_set_same l1 m _ (by omega), HMJ.out, HFL.out.2]; exact HCC.out.symm
                  case measure => have e1 := HSN.out; simp [intOf]; omega
              · go_wp2
                go_ret2
                exact ⟨⟨l2, rfl, hR2, hl2⟩, hF2⟩
end Go.Proofs.YtpoglombagmhmaaGreatDoor
