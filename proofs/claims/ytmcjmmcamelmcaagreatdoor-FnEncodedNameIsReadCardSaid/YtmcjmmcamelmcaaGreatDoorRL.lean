/- spec.Encoded by Q; laws.blank: the walks. -/
import Derived.Test.YtmcjmmcamelmcaaGreatDoorS4
import Derived.Test.YtmcjmmcamelmcaaGreatDoorU1
import Derived.Test.YtmcjmmcamelmcaaGreatDoorRow
import Derived.Test.YtmcjmmcamelmcaaGreatDoorU4
import Derived.Test.YtmcjmmcamelmcaaGreatDoorOB
import Derived.Test.YtmcjmmcamelmcaaGreatDoorPH
import Derived.BigQuiet
namespace Go.Proofs.YtmcjmmcamelmcaaGreatDoor
open Go Go.RowKit

/-- A letter or a digit. -/
def alnB (c : UInt8) : Bool := decide ((48 ≤ c.toNat ∧ c.toNat ≤ 57) ∨ (97 ≤ c.toNat ∧ c.toNat ≤ 122) ∨ (65 ≤ c.toNat ∧ c.toNat ≤ 90))
def eqB (c : UInt8) : List UInt8 := if c = 32 then [95] else if alnB c then [c] else [61, hexU (c.toNat / 16), hexU (c.toNat % 16)]
def eqL (l : List UInt8) : List UInt8 := l.flatMap eqB
/-- An encoded word with the text x. -/
def wdC (cs : List UInt8) (e : UInt8) (x : List UInt8) : List UInt8 := 61 :: 63 :: (cs ++ 63 :: e :: 63 :: (x ++ [63, 61]))
theorem pre_e (cl : List UInt8) (e : UInt8) : (((⟨#[61, 63]⟩ : ByteArray) ++ bs cl) ++ ⟨#[63, e, 63]⟩) = bs (61 :: 63 :: (cl ++ [63, e, 63])) := by
  rw [show (⟨#[61, 63]⟩ : ByteArray) = bs [61, 63] from rfl, show (⟨#[63, e, 63]⟩ : ByteArray) = bs [63, e, 63] from rfl, bs_app, bs_app]
  rfl
theorem post_e (cl x : List UInt8) (e : UInt8) : bs ((61 :: 63 :: (cl ++ [63, e, 63])) ++ x) ++ (⟨#[63, 61]⟩ : ByteArray) = bs (wdC cl e x) := by
  rw [show (⟨#[63, 61]⟩ : ByteArray) = bs [63, 61] from rfl, bs_app]
  unfold wdC
  simp
theorem eqL_snoc (l : List UInt8) (c : UInt8) : eqL (l ++ [c]) = eqL l ++ eqB c := by simp [eqL]
theorem enc_one (c : UInt8) (h : c.toNat < 128) : Utf8.encode (c.toNat : Int) = bs [c] := by
  have : ∀ k : Fin 128, Utf8.encode ((UInt8.ofNat k.val).toNat : Int) = bs [UInt8.ofNat k.val] := by decide +kernel
  have := this ⟨c.toNat, h⟩
  simp only [UInt8.ofNat_toNat] at this
  exact this
theorem enc_rune (c : UInt8) (h : c.toNat < 128) (w : World) : (convert 21 9 (.int .i32 (c.toNat : Int))).run Tryz.prog w = .ok (.string (bs [c])) w := by
  rw [run_convert_int_string w _ _ _ _ (by kernel_rfl) Tryz.underlying9]
  have : ∀ k : Fin 128, Utf8.encode ((UInt8.ofNat k.val).toNat : Int) = bs [UInt8.ofNat k.val] := by decide +kernel
  have := this ⟨c.toNat, h⟩
  simp only [UInt8.ofNat_toNat] at this
  rw [this]
theorem hexS_ext (n : Nat) (h : n < 16) : (⟨#[48, 49, 50, 51, 52, 53, 54, 55, 56, 57, 65, 66, 67, 68, 69, 70]⟩ : ByteArray).extract n (n + 1) = bs [hexU n] := by
  have : ∀ k : Fin 16, (⟨#[48, 49, 50, 51, 52, 53, 54, 55, 56, 57, 65, 66, 67, 68, 69, 70]⟩ : ByteArray).extract k.val (k.val + 1) = bs [hexU k.val] := by decide +kernel
  exact this ⟨n, h⟩
theorem takeE_snoc {l : List UInt8} {k : Nat} {c : UInt8} (h : l[k]? = some c) : l.take (k + 1) = l.take k ++ [c] := by rw [List.take_add_one, h]; rfl
theorem eqL_len (l : List UInt8) : (eqL l).length ≤ 3 * l.length := by
  induction l with
  | nil => simp [eqL]
  | cons c t ih =>
    rw [show eqL (c :: t) = eqB c ++ eqL t from by simp [eqL], List.length_append, List.length_cons]
    have : (eqB c).length ≤ 3 := by unfold eqB; split <;> (try split) <;> simp
    omega

set_option maxHeartbeats 2000000 in
set_option maxRecDepth 100000 in
theorem encq_any (cl : List UInt8) (t : ByteArray) (w : World) (hc : cl.length ≤ 1024) (ht : t.size ≤ 2147483647) :
    Calls Tryz.prog 10 #[.bool false, .string (bs cl), .string t] w fun x w' => x = .returned (.string (bs (wdC cl 81 (eqL t.data.toList)))) ∧ Below w.heap.size w w' := by
  obtain ⟨tl, htl⟩ : ∃ tl, t.data.toList = tl := ⟨_, rfl⟩
  have htll : tl.length = t.size := by rw [← htl, Array.length_toList]; rfl
  obtain ⟨P, hP⟩ : ∃ P, 61 :: 63 :: (cl ++ [63, 81, 63]) = P := ⟨_, rfl⟩
  have hPl : P.length ≤ 1029 := by rw [← hP]; simp; omega
  have HTL := Lib.hid htl; have HLL := Lib.hid htll; have HPRE := Lib.hid (pre_e cl 81); have HPO := Lib.hid (post_e cl (eqL tl) 81)
  rw [hP] at HPRE HPO
  rw [htl]
  clear htl htll hP
  have hcs : (bs cl).size ≤ 1024 := by rw [bs_size]; exact hc
  go_enter Tryz.func10, Tryz.ntmps10
  go_wp2
  rw [HPRE.out]
  go_loopw [7, 24] (fun o i wr => Below w.heap.size w wr ∧ ∃ k : Nat, i = .int .i64 k ∧ k ≤ t.size ∧ o = .string (bs (P ++ eqL (tl.take k)))) (fun _ i _ => t.size - (intOf i).toNat)
  case atStart => exact ⟨Below.refl _ _, 0, rfl, Nat.zero_le _, by simp [eqL]⟩
  case round =>
    obtain ⟨hb, k, rfl, hk, rfl⟩ := hrel
    have HB := Lib.hid hb
    clear hb
    obtain ⟨O, hO⟩ : ∃ O, bs (P ++ eqL (tl.take k)) = O := ⟨_, rfl⟩
    have hOs : O.size ≤ 6442451970 := by
      rw [← hO, bs_size, List.length_append]
      have h1 := eqL_len (tl.take k)
      rw [List.length_take] at h1
      omega
    rw [hO]
    have HO := Lib.hid hO
    clear hO
    by_cases hlt : k < t.size
    · obtain ⟨c, hc⟩ : ∃ c, t[k] = c := ⟨_, rfl⟩
      have hcl : tl[k]? = some c := by
        rw [← HTL.out, ← hc]
        simp [ByteArray.getElem_eq_getElem_data]
      have HSN := Lib.hid (show ∀ x, O ++ bs x = bs (P ++ (eqL (tl.take k) ++ x)) from fun x => by rw [← HO.out, bs_app, List.append_assoc])
      have HTK := Lib.hid (show eqL (tl.take (k + 1)) = eqL (tl.take k) ++ eqB c by rw [takeE_snoc hcl, eqL_snoc])
      have hc8 := c.toNat_lt
      clear hcl
      by_cases h32 : c = 32
      · have t1 : ((c.toNat : Int) == 32) = true := ceq h32
        have he : eqB c = [95] := by unfold eqB; rw [if_pos h32]
        rw [he] at HTK
        clear h32 he
        go_wp2
        go_roundw
        case rel => exact ⟨HB.out, k + 1, by go_num, by omega, by rw [HTK.out, ← HSN.out]; rfl⟩
        case measure => simp [intOf]; omega
      · have t1 : ((c.toNat : Int) == 32) = false := cneq h32
        cases ha : alnB c with
        | true =>
          have he : eqB c = [c] := by unfold eqB; rw [if_neg h32, if_pos ha]
          rw [he] at HTK
          unfold alnB at ha
          replace ha := of_decide_eq_true ha
          have hw : (0 : Int) ≤ (c.toNat : Int) := by omega
          have hw2 : (c.toNat : Int) ≤ 255 := by omega
          clear h32 he
          have hes := enc_one c (by omega)
          obtain ⟨X, hX⟩ : ∃ X, bs [c] = X := ⟨_, rfl⟩
          have hXs : X.size = 1 := by rw [← hX, bs_size]; rfl
          rw [hX] at hes
          have HX := Lib.hid hX
          clear hX hc8
          have hway : ((48 : Int) ≤ (c.toNat : Int) ∧ (c.toNat : Int) ≤ 57) ∨ ((48 : Int) ≤ (c.toNat : Int) ∧ ¬ (c.toNat : Int) ≤ 57 ∧ (97 : Int) ≤ (c.toNat : Int) ∧ (c.toNat : Int) ≤ 122) ∨ ((48 : Int) ≤ (c.toNat : Int) ∧ ¬ (c.toNat : Int) ≤ 57 ∧ ¬ (97 : Int) ≤ (c.toNat : Int) ∧ (65 : Int) ≤ (c.toNat : Int) ∧ (c.toNat : Int) ≤ 90) := by omega
          clear ha
          rcases hway with ⟨a1, a2⟩ | ⟨a1, a2, a3, a4⟩ | ⟨a1, a2, a3, a4, a5⟩
          all_goals
            go_upto_region 12 with fail
            clear a1 a2 t1
            try clear a3 a4
            go_wp2
            go_roundw
            case rel => exact ⟨HB.out, k + 1, by go_num, by omega, by rw [HTK.out, ← HSN.out, HX.out]⟩
            case measure => simp [intOf]; omega
        | false =>
          have he : eqB c = [61, hexU (c.toNat / 16), hexU (c.toNat % 16)] := by unfold eqB; rw [if_neg h32, if_neg (by rw [ha]; simp)]
          rw [he] at HTK
          unfold alnB at ha
          replace ha := of_decide_eq_false ha
          have t2 : ((48 : Int) ≤ (c.toNat : Int) ∧ ¬ (c.toNat : Int) ≤ 57) ∨ ¬ (48 : Int) ≤ (c.toNat : Int) := by omega
          have t3 : ((97 : Int) ≤ (c.toNat : Int) ∧ ¬ (c.toNat : Int) ≤ 122) ∨ ¬ (97 : Int) ≤ (c.toNat : Int) := by omega
          have t4 : ((65 : Int) ≤ (c.toNat : Int) ∧ ¬ (c.toNat : Int) ≤ 90) ∨ ¬ (65 : Int) ≤ (c.toNat : Int) := by omega
          have hq : (c.toNat : Int) / 16 < 16 := by omega
          clear ha h32
          rcases t2 with ⟨a1, a2⟩ | a1 <;> rcases t3 with ⟨b1, b2⟩ | b1 <;> rcases t4 with ⟨c1, c2⟩ | c1 <;> try (exfalso; omega)
          all_goals
            go_upto_region 8 with fail
            clear a1 b1 c1 t1
            try clear a2
            try clear b2
            try clear c2
            go_quiet (fail)
            have HB2 := Lib.hid (below_drewN HB.out nq)
            rw [hexS_ext _ (show c.toNat / 16 < 16 by omega), hexS_ext _ (show c.toNat % 16 < 16 by omega)]
            generalize wr.drewN nq = wq at HB2 ⊢
            go_wp2
            go_roundw
            case rel => exact ⟨HB2.out, k + 1, by go_num, by omega, by rw [HTK.out, ← HSN.out]; rfl⟩
            case measure => simp [intOf]; omega
    · have hks : k = t.size := by omega
      have htk : tl.take k = tl := List.take_of_length_le (by rw [HLL.out]; omega)
      rw [htk] at HO
      have HKS := Lib.hid hks
      clear hks htk
      go_wp2
      go_ret
      refine ⟨?_, HB.out⟩
      rw [← HPO.out, HO.out]
      rfl

/-- What blank answers. -/
def blanksL : List (List UInt8) := [[], [32], [9], [32, 32], [32, 9, 32]]
theorem blanks_sp : ∀ b ∈ blanksL, (∀ c ∈ b, isSp c = true) ∧ b.length ≤ 3 := by decide
def blankC : Array Value := #[.string ⟨#[]⟩, .string ⟨#[32]⟩, .string ⟨#[9]⟩, .string ⟨#[32, 32]⟩, .string ⟨#[32, 9, 32]⟩]
def BlankRet (x : Ending) : Prop := ∃ b ∈ blanksL, x = .returned (.string (bs b))
theorem blank_pick (j : Nat) (h : j < [Value.string ⟨#[]⟩, .string ⟨#[32]⟩, .string ⟨#[9]⟩, .string ⟨#[32, 32]⟩, .string ⟨#[32, 9, 32]⟩].length) : BlankRet (.returned ([Value.string ⟨#[]⟩, .string ⟨#[32]⟩, .string ⟨#[9]⟩, .string ⟨#[32, 32]⟩, .string ⟨#[32, 9, 32]⟩][j])) := by
  simp only [List.length_cons, List.length_nil] at h
  have hj : j = 0 ∨ j = 1 ∨ j = 2 ∨ j = 3 ∨ j = 4 := by omega
  rcases hj with rfl | rfl | rfl | rfl | rfl
  · exact ⟨[], by decide, rfl⟩
  · exact ⟨[32], by decide, rfl⟩
  · exact ⟨[9], by decide, rfl⟩
  · exact ⟨[32, 32], by decide, rfl⟩
  · exact ⟨[32, 9, 32], by decide, rfl⟩
theorem blank_out (i n : Nat) (v : Value) (w : World) (hv : ∃ p cap, v = .slice p n cap) (_hi : i ≤ 9223372036854775807) (_hn : n ≤ 9223372036854775807) (hlt : ¬ i < n) :
    Calls Tryz.prog 11 #[v, .int .i64 i] w fun x w' => BlankRet x ∧ Below w.heap.size w w' := by
  obtain ⟨p, cap, rfl⟩ := hv
  have t : ¬ (i : Int) < (n : Int) := by omega
  have t2 : (n : Int) ≤ (i : Int) := by omega
  clear hlt
  go_enter Tryz.func11, Tryz.ntmps11
  go_wp2
  go_ret
  exact ⟨⟨[], by decide, rfl⟩, Below.refl _ _⟩
set_option maxHeartbeats 1000000 in
set_option maxRecDepth 100000 in
theorem blank_in (i n cap : Nat) (a : Addr) (z : Int) (w : World) (_hn : n ≤ cap) (_hcap : cap ≤ maxLen) (hlt : i < n) (hc : w.cell? (a.add i) = some (.int .i64 z)) (ha : (a.add i).block < w.heap.size) (_h1 : -9223372036854775808 ≤ z) (_h2 : z ≤ 9223372036854775807) :
    Calls Tryz.prog 11 #[.slice (some a) n cap, .int .i64 i] w fun x w' => BlankRet x ∧ Below w.heap.size w w' := by
  have t : (i : Int) < (n : Int) := by omega
  have t2 : ¬ (n : Int) ≤ (i : Int) := by omega
  have hb := (Below.refl w.heap.size w).alloc (Nat.le_refl _) (.cells blankC 9)
  have hc2 : (w.alloc (.cells blankC 9)).cell? (a.add i) = some (.int .i64 z) := by rw [hb.cell ha]; exact hc
  have hc3 : (w.alloc (.cells #[.string ⟨#[]⟩, .string ⟨#[32]⟩, .string ⟨#[9]⟩, .string ⟨#[32, 32]⟩, .string ⟨#[32, 9, 32]⟩] 9)).cell? (a.add i) = some (.int .i64 z) := hc2
  have HB := Lib.hid hb
  have m0 : 0 ≤ (IntKind.u64.wrap z).tmod 5 := Int.tmod_nonneg _ (by rw [IntKind.wrap_u64]; omega)
  have m1 : (IntKind.u64.wrap z).tmod 5 < 5 := Int.tmod_lt_of_pos _ (by omega)
  clear hc hc2 hb
  unfold maxLen at _hcap
  go_enter Tryz.func11, Tryz.ntmps11
  go_wp2
  go_ret
  exact ⟨blank_pick _ _, HB.out⟩
def FitRet (n : Nat) (f : Nat → ByteArray) (x : Ending) : Prop := ∃ b, x = .returned (.bool b) ∧ (b = true → n ≤ 2147483647 ∧ ∀ j, j < n → (f j).size ≤ 2147483647)
theorem fits_nil (f : Nat → ByteArray) (w : World) : Calls Tryz.prog 8 #[.slice none 0 0] w fun x w' => FitRet 0 f x ∧ w' = w := by
  go_enter Tryz.func8, Tryz.ntmps8
  go_wp2
  go_loop [2, 10] (fun r i => r = .bool false ∧ i = .int .i64 0) (fun _ i => 0)
  case atStart => exact ⟨rfl, rfl⟩
  case round =>
    obtain ⟨rfl, rfl⟩ := hrel
    go_wp2
    go_ret
    exact ⟨⟨true, rfl, fun _ => ⟨by omega, fun j hj => absurd hj (Nat.not_lt_zero j)⟩⟩, rfl⟩
set_option maxRecDepth 100000 in
theorem fits_any (n cap : Nat) (a : Addr) (f : Nat → ByteArray) (w : World) (_hn : n ≤ cap) (_hcap : cap ≤ maxLen) (h : ∀ j, j < n → w.cell? (a.add j) = some (.string (f j)) ∧ (f j).size ≤ maxLen) :
    Calls Tryz.prog 8 #[.slice (some a) n cap] w fun x w' => FitRet n f x ∧ w' = w := by
  have H := Lib.hid h
  clear h
  unfold maxLen at _hcap
  by_cases hN : n ≤ 2147483647
  · have t0 : ¬ (2147483647 : Int) < (n : Int) := by omega
    go_enter Tryz.func8, Tryz.ntmps8
    go_wp2
    go_loop [2, 10] (fun r i => r = .bool false ∧ ∃ k : Nat, i = .int .i64 k ∧ k ≤ n ∧ ∀ j, j < k → (f j).size ≤ 2147483647) (fun _ i => n - (intOf i).toNat)
    case atStart => exact ⟨rfl, 0, rfl, Nat.zero_le _, fun j h => absurd h (Nat.not_lt_zero j)⟩
    case round =>
      obtain ⟨rfl, k, rfl, hk, hall⟩ := hrel
      have HALL := Lib.hid hall
      clear hall
      by_cases hlt : k < n
      · obtain ⟨hc, hs⟩ := H.out k hlt
        obtain ⟨S, hS⟩ : ∃ S, f k = S := ⟨_, rfl⟩
        rw [hS] at hc hs
        unfold maxLen at hs
        have HS := Lib.hid hS
        clear hS
        have t1 : (k : Int) < (n : Int) := by omega
        by_cases hz : S.size ≤ 2147483647
        · have t2 : ¬ (2147483647 : Int) < (S.size : Int) := by omega
          go_wp2
          go_round
          case rel => exact ⟨rfl, k + 1, by go_num, by omega, fun j hj => by
            rcases Nat.lt_succ_iff_lt_or_eq.1 hj with h | rfl
            · exact HALL.out j h
            · rw [HS.out]; exact hz⟩
          case measure => simp [intOf]; omega
        · have t2 : (2147483647 : Int) < (S.size : Int) := by omega
          go_wp2
          go_ret
          exact ⟨⟨false, rfl, fun h => by cases h⟩, rfl⟩
      · have t1 : ¬ (k : Int) < (n : Int) := by omega
        go_wp2
        go_ret
        exact ⟨⟨true, rfl, fun _ => ⟨hN, fun j hj => HALL.out j (by omega)⟩⟩, rfl⟩
  · have t0 : (2147483647 : Int) < (n : Int) := by omega
    go_enter Tryz.func8, Tryz.ntmps8
    go_wp2
    go_ret
    exact ⟨⟨false, rfl, fun h => by cases h⟩, rfl⟩
end Go.Proofs.YtmcjmmcamelmcaaGreatDoor
/- spec.Encoded by B: the walk. -/
namespace Go.Proofs.YtmcjmmcamelmcaaGreatDoor
open Go Go.RowKit

theorem or_eight (X D : Nat) (hX : X ≤ 16777215) (hD : D < 256) : bits .or .i64 ((X : Int) * 256) (D : Int) = ((X * 256 + D : Nat) : Int) := by
  rw [show (X : Int) * 256 = ((X * 256 : Nat) : Int) by omega, i64_or_nat _ _ (by omega) (by omega)]
  rw [show X * 256 = X * 2 ^ 8 by rfl, or_shift X D 8 (by omega)]
theorem and_63 (X : Nat) (hX : X ≤ 16777215) : bits .and .i64 (X : Int) 63 = ((X % 64 : Nat) : Int) := by
  have h1 := i64_and_nat X 63 (by omega) (by omega)
  have h2 : X &&& 63 = X % 64 := Nat.and_two_pow_sub_one_eq_mod X 6
  rw [h2] at h1
  exact h1
/-- The first bytes of a chunk, as a number; a byte that is not there is 0. -/
def xsQ (q : List UInt8) : Nat → Nat
  | 0 => 0
  | m + 1 => xsQ q m * 256 + (q.getD m 0).toNat
theorem xsQ_lt (q : List UInt8) : ∀ m, xsQ q m < 256 ^ m
  | 0 => by simp [xsQ]
  | m + 1 => by
    have ih := xsQ_lt q m
    have := (q.getD m 0).toNat_lt
    rw [xsQ, Nat.pow_succ]
    omega
def sgQ (q : List UInt8) : List UInt8 := [sgn (xsQ q 3 / 262144 % 64), sgn (xsQ q 3 / 4096 % 64), if q.length < 2 then 61 else sgn (xsQ q 3 / 64 % 64), if q.length < 3 then 61 else sgn (xsQ q 3 % 64)]
theorem sgQ_b64 : ∀ (q : List UInt8), q ≠ [] → q.length ≤ 3 → sgQ q = b64 q
  | [], h, _ => absurd rfl h
  | [a], _, _ => by
    have := a.toNat_lt
    rw [b64]
    simp only [sgQ, xsQ, List.getD_eq_getElem?_getD, List.getElem?_cons_zero, List.getElem?_cons_succ, List.getElem?_nil, Option.getD_some, Option.getD_none, List.length_cons, List.length_nil]
    rw [if_pos (by omega), if_pos (by omega)]
    congr 2
    · simp; omega
    · congr 1
      congr 1
      simp; omega
  | [a, b], _, _ => by
    have := a.toNat_lt; have := b.toNat_lt
    rw [b64]
    simp only [sgQ, xsQ, List.getD_eq_getElem?_getD, List.getElem?_cons_zero, List.getElem?_cons_succ, List.getElem?_nil, Option.getD_some, Option.getD_none, List.length_cons, List.length_nil]
    rw [if_neg (by omega), if_pos (by omega)]
    refine List.cons_eq_cons.2 ⟨?_, List.cons_eq_cons.2 ⟨?_, List.cons_eq_cons.2 ⟨?_, rfl⟩⟩⟩ <;> (congr 1; simp; omega)
  | [a, b, c], _, _ => by
    have := a.toNat_lt; have := b.toNat_lt; have := c.toNat_lt
    rw [b64, b64]
    simp only [sgQ, xsQ, List.getD_eq_getElem?_getD, List.getElem?_cons_zero, List.getElem?_cons_succ, Option.getD_some, List.length_cons, List.length_nil]
    rw [if_neg (by omega), if_neg (by omega)]
    refine List.cons_eq_cons.2 ⟨?_, List.cons_eq_cons.2 ⟨?_, List.cons_eq_cons.2 ⟨?_, List.cons_eq_cons.2 ⟨?_, rfl⟩⟩⟩⟩ <;> (congr 1; omega)
  | _ :: _ :: _ :: _ :: _, _, h => by simp at h
theorem b64_app : ∀ (x y : List UInt8), x.length % 3 = 0 → b64 (x ++ y) = b64 x ++ b64 y
  | [], y, _ => by simp [b64]
  | [_], _, h => by simp at h
  | [_, _], _, h => by simp at h
  | a :: b :: c :: x, y, h => by
    rw [List.cons_append, List.cons_append, List.cons_append, b64, b64, b64_app x y (by simp at h; omega)]
    rfl
theorem dig_ext (n : Nat) (h : n < 64) : digS.extract n (n + 1) = bs [sgn n] := by
  have : ∀ k : Fin 64, digS.extract k.val (k.val + 1) = bs [sgn k.val] := by decide +kernel
  exact this ⟨n, h⟩

set_option maxHeartbeats 4000000 in
set_option maxRecDepth 100000 in
theorem encb_any (cl : List UInt8) (t : ByteArray) (w : World) (hc : cl.length ≤ 1024) (ht : t.size ≤ 2147483647) :
    Calls Tryz.prog 10 #[.bool true, .string (bs cl), .string t] w fun x w' => x = .returned (.string (bs (wdC cl 66 (b64 t.data.toList)))) ∧ Below w.heap.size w w' := by
  obtain ⟨tl, htl⟩ : ∃ tl, t.data.toList = tl := ⟨_, rfl⟩
  have htll : tl.length = t.size := by rw [← htl, Array.length_toList]; rfl
  obtain ⟨P, hP⟩ : ∃ P, 61 :: 63 :: (cl ++ [63, 66, 63]) = P := ⟨_, rfl⟩
  have hPl : P.length ≤ 1029 := by rw [← hP]; simp; omega
  have HTL := Lib.hid htl; have HLL := Lib.hid htll; have HPRE := Lib.hid (pre_e cl 66); have HPO := Lib.hid (post_e cl (b64 tl) 66)
  rw [hP] at HPRE HPO
  rw [htl]
  clear htl htll hP
  have hcs : (bs cl).size ≤ 1024 := by rw [bs_size]; exact hc
  go_enter Tryz.func10, Tryz.ntmps10
  go_wp2
  rw [HPRE.out]
  go_loopw [7, 10] (fun o i wr => wr = w ∧ ∃ k : Nat, i = .int .i64 (3 * k : Nat) ∧ 3 * k ≤ t.size + 2 ∧ o = .string (bs (P ++ b64 (tl.take (3 * k))))) (fun _ i _ => t.size + 3 - (intOf i).toNat)
  case atStart => exact ⟨rfl, 0, rfl, by omega, by simp [b64]⟩
  case round =>
    obtain ⟨rfl, k, rfl, hk, rfl⟩ := hrel
    obtain ⟨O, hO⟩ : ∃ O, P ++ b64 (tl.take (3 * k)) = O := ⟨_, rfl⟩
    have hOs : O.length ≤ 4294967296 := by
      rw [← hO, List.length_append, b64_length, List.length_take]
      omega
    rw [hO]
    have HO := Lib.hid hO
    clear hO
    obtain ⟨i0, hi0⟩ : ∃ i0, 3 * k = i0 := ⟨_, rfl⟩
    rw [hi0] at hk HO ⊢
    have HI := Lib.hid hi0
    clear hi0
    have hOb : (bs O).size ≤ 4294967296 := by rw [bs_size]; exact hOs
    by_cases hlt : i0 < t.size
    · obtain ⟨q, hq⟩ : ∃ q, (tl.drop i0).take 3 = q := ⟨_, rfl⟩
      obtain ⟨n, hn⟩ : ∃ n, q.length = n := ⟨_, rfl⟩
      have hnl : n = min 3 (t.size - i0) := by rw [← hn, ← hq, List.length_take, List.length_drop, HLL.out]
      have hn1 : 1 ≤ n := by omega
      have hn3 : n ≤ 3 := by omega
      have hmin : ((t.size : Int) - (i0 : Int) < 3 ∧ (n : Int) = (t.size : Int) - (i0 : Int)) ∨ (¬ (t.size : Int) - (i0 : Int) < 3 ∧ n = 3) := by omega
      have hat : ∀ m, m < n → ∃ h : i0 + m < t.size, (t[i0 + m]).toNat = (q.getD m 0).toNat := by
        intro m hm
        refine ⟨by omega, ?_⟩
        have h1 : q[m]? = some t[i0 + m] := by
          rw [← hq, List.getElem?_take_of_lt (by omega), List.getElem?_drop, ← HTL.out]
          simp [ByteArray.getElem_eq_getElem_data]
        rw [List.getD_eq_getElem?_getD, h1]; rfl
      have hpast : ∀ m, n ≤ m → (q.getD m 0).toNat = 0 := by
        intro m hm
        rw [List.getD_eq_getElem?_getD, List.getElem?_eq_none (by omega)]; rfl
      have HQ := Lib.hid hq; have HN := Lib.hid hn; have HAT := Lib.hid hat; have HPA := Lib.hid hpast
      clear hq hn hat hpast hnl
      go_upto_region 19 with fail
      go_cut [11] from 90 to 95 (fun r11 wx => wx = wr ∧ r11 = .int .i64 n)
      case first =>
        rcases hmin with ⟨m1, m2⟩ | ⟨m1, rfl⟩
        · go_wp2
          go_meet
          exact ⟨rfl, by rw [m2, Int.min_eq_right (by omega)]⟩
        · go_wp2
          go_meet
          exact ⟨rfl, by rw [Int.min_eq_left (by omega)]; rfl⟩
      case rest =>
        obtain ⟨hwc, rfl⟩ := hcut
        subst hwc
        clear hmin
        go_wp2
        go_loopw [12, 95] (fun x k2 wx => wx = wc ∧ ∃ m : Nat, m ≤ 3 ∧ k2 = .int .i64 m ∧ x = .int .i64 (xsQ q m : Nat)) (fun _ k2 _ => 3 - (intOf k2).toNat)
        case atStart => exact ⟨rfl, 0, by omega, rfl, rfl⟩
        case round =>
          obtain ⟨rfl, m, hm, rfl, rfl⟩ := hrel
          by_cases hm3 : m < 3
          · obtain ⟨X, hX⟩ : ∃ X, xsQ q m = X := ⟨_, rfl⟩
            obtain ⟨D, hD⟩ : ∃ D, (q.getD m 0).toNat = D := ⟨_, rfl⟩
            have hXl : X ≤ 65535 := by
              have h1 := xsQ_lt q m
              have h2 : 256 ^ m ≤ 256 ^ 2 := Nat.pow_le_pow_right (by omega) (by omega)
              have h3 : (256 : Nat) ^ 2 = 65536 := by decide
              omega
            have hDl : D < 256 := by rw [← hD]; exact (q.getD m 0).toNat_lt
            have HS := Lib.hid (show xsQ q (m + 1) = X * 256 + D by rw [xsQ, hX, hD])
            rw [hX]
            have hor := or_eight X D (by omega) hDl
            have tm : (m : Int) < 3 := by omega
            by_cases hmn : m < n
            · obtain ⟨h1, h2⟩ := HAT.out m hmn
              rw [hD] at h2
              obtain ⟨e, he⟩ : ∃ e, t[i0 + m] = e := ⟨_, rfl⟩
              rw [he] at h2
              have h3 : (e.toNat : Int) = (D : Int) := by rw [h2]
              have tn : (m : Int) < (n : Int) := by omega
              clear hX hD h2
              have HOR := Lib.hid hor
              clear hor
              go_wp2
              go_roundw
              case rel => exact ⟨by first | trivial | rfl, m + 1, by omega, by go_num, by rw [HS.out, HOR.out]⟩
              case measure => simp [intOf]; omega
            · have tn : ¬ (m : Int) < (n : Int) := by omega
              have h0 : D = 0 := by rw [← hD]; exact HPA.out m (by omega)
              clear hX hD hor
              go_wp2
              go_roundw
              case rel => exact ⟨by first | trivial | rfl, m + 1, by omega, by go_num, by rw [HS.out, h0]; simp⟩
              case measure => simp [intOf]; omega
          · have hm4 : m = 3 := by omega
            subst hm4
            obtain ⟨X, hX⟩ : ∃ X, xsQ q 3 = X := ⟨_, rfl⟩
            have hXl : X ≤ 16777215 := by
              have h1 := xsQ_lt q 3
              have h3 : (256 : Nat) ^ 3 = 16777216 := by decide
              omega
            obtain ⟨S, hS⟩ : ∃ S, sgQ q = S := ⟨_, rfl⟩
            have hSe : S = [sgn (X / 262144 % 64), sgn (X / 4096 % 64), if n < 2 then 61 else sgn (X / 64 % 64), if n < 3 then 61 else sgn (X % 64)] := by
              rw [← hS, ← hX, ← HN.out]; rfl
            rw [hX]
            have HX := Lib.hid hX; have HS := Lib.hid hS; have HSE := Lib.hid hSe
            clear hX hS hSe HAT HPA hm
            go_wp2
            go_loopw [7, 112] (fun o k2 wx => wx = wr ∧ ∃ m : Nat, m ≤ 4 ∧ k2 = .int .i64 m ∧ o = .string (bs (O ++ S.take m))) (fun _ k2 _ => 4 - (intOf k2).toNat)
            case atStart => exact ⟨rfl, 0, by omega, rfl, by simp⟩
            case round =>
              obtain ⟨rfl, m, hm, rfl, rfl⟩ := hrel
              have hm5 : m = 0 ∨ m = 1 ∨ m = 2 ∨ m = 3 ∨ m = 4 := by omega
              rcases hm5 with rfl | rfl | rfl | rfl | rfl
              · obtain ⟨o2, ho⟩ : ∃ o2, bs (O ++ S.take 0) = o2 := ⟨_, rfl⟩
                have hos : o2.size ≤ 4294967300 := by rw [← ho, bs_size, List.length_append, List.length_take]; omega
                rw [ho, show ((0 : Nat) : Int) = (0 : Int) from rfl]
                have HO2 := Lib.hid (show ∀ c, S[0]? = some c → o2 ++ bs [c] = bs (O ++ S.take 1) from fun c h => by rw [← ho, bs_app, List.append_assoc, takeE_snoc h])
                clear ho
                have n0 : ¬ (n : Int) < 0 := by omega
                have h1 := and_63 (X / 262144) (by omega)
                rw [show ((X / 262144 : Nat) : Int) = (X : Int) / 262144 by omega] at h1
                have hd : X / 262144 % 64 < 64 := by omega
                have hsx : S[0]? = some (sgn (X / 262144 % 64)) := by rw [HSE.out]; simp
                have HSX := Lib.hid (HO2.out _ hsx)
                clear hsx
                go_wp2
                rw [show (⟨#[65, 66, 67, 68, 69, 70, 71, 72, 73, 74, 75, 76, 77, 78, 79, 80, 81, 82, 83, 84, 85, 86, 87, 88, 89, 90, 97, 98, 99, 100, 101, 102, 103, 104, 105, 106, 107, 108, 109, 110, 111, 112, 113, 114, 115, 116, 117, 118, 119, 120, 121, 122, 48, 49, 50, 51, 52, 53, 54, 55, 56, 57, 43, 47]⟩ : ByteArray) = digS from rfl, dig_ext _ hd, HSX.out]
                go_roundw
                case rel => exact ⟨by first | trivial | rfl, 1, by omega, rfl, rfl⟩
                case measure => simp [intOf]
              · obtain ⟨o2, ho⟩ : ∃ o2, bs (O ++ S.take 1) = o2 := ⟨_, rfl⟩
                have hos : o2.size ≤ 4294967300 := by rw [← ho, bs_size, List.length_append, List.length_take]; omega
                rw [ho, show ((1 : Nat) : Int) = (1 : Int) from rfl]
                have HO2 := Lib.hid (show ∀ c, S[1]? = some c → o2 ++ bs [c] = bs (O ++ S.take 2) from fun c h => by rw [← ho, bs_app, List.append_assoc, takeE_snoc h])
                clear ho
                have n0 : ¬ (n : Int) < 1 := by omega
                have h1 := and_63 (X / 4096) (by omega)
                rw [show ((X / 4096 : Nat) : Int) = (X : Int) / 4096 by omega] at h1
                have hd : X / 4096 % 64 < 64 := by omega
                have hsx : S[1]? = some (sgn (X / 4096 % 64)) := by rw [HSE.out]; simp
                have HSX := Lib.hid (HO2.out _ hsx)
                clear hsx
                go_wp2
                rw [show (⟨#[65, 66, 67, 68, 69, 70, 71, 72, 73, 74, 75, 76, 77, 78, 79, 80, 81, 82, 83, 84, 85, 86, 87, 88, 89, 90, 97, 98, 99, 100, 101, 102, 103, 104, 105, 106, 107, 108, 109, 110, 111, 112, 113, 114, 115, 116, 117, 118, 119, 120, 121, 122, 48, 49, 50, 51, 52, 53, 54, 55, 56, 57, 43, 47]⟩ : ByteArray) = digS from rfl, dig_ext _ hd, HSX.out]
                go_roundw
                case rel => exact ⟨by first | trivial | rfl, 2, by omega, rfl, rfl⟩
                case measure => simp [intOf]
              · obtain ⟨o2, ho⟩ : ∃ o2, bs (O ++ S.take 2) = o2 := ⟨_, rfl⟩
                have hos : o2.size ≤ 4294967300 := by rw [← ho, bs_size, List.length_append, List.length_take]; omega
                rw [ho, show ((2 : Nat) : Int) = (2 : Int) from rfl]
                have HO2 := Lib.hid (show ∀ c, S[2]? = some c → o2 ++ bs [c] = bs (O ++ S.take 3) from fun c h => by rw [← ho, bs_app, List.append_assoc, takeE_snoc h])
                clear ho
                by_cases hc2 : n < 2
                · have n0 : (n : Int) < 2 := by omega
                  have hsx : S[2]? = some 61 := by rw [HSE.out]; simp; omega
                  have HSX := Lib.hid (HO2.out _ hsx)
                  clear hsx
                  go_wp2
                  rw [show (⟨#[61]⟩ : ByteArray) = bs [61] from rfl, HSX.out]
                  go_roundw
                  case rel => exact ⟨by first | trivial | rfl, 3, by omega, rfl, rfl⟩
                  case measure => simp [intOf]
                · have n0 : ¬ (n : Int) < 2 := by omega
                  have h1 := and_63 (X / 64) (by omega)
                  rw [show ((X / 64 : Nat) : Int) = (X : Int) / 64 by omega] at h1
                  have hd : X / 64 % 64 < 64 := by omega
                  have hsx : S[2]? = some (sgn (X / 64 % 64)) := by rw [HSE.out]; simp; omega
                  have HSX := Lib.hid (HO2.out _ hsx)
                  clear hsx
                  go_wp2
                  rw [show (⟨#[65, 66, 67, 68, 69, 70, 71, 72, 73, 74, 75, 76, 77, 78, 79, 80, 81, 82, 83, 84, 85, 86, 87, 88, 89, 90, 97, 98, 99, 100, 101, 102, 103, 104, 105, 106, 107, 108, 109, 110, 111, 112, 113, 114, 115, 116, 117, 118, 119, 120, 121, 122, 48, 49, 50, 51, 52, 53, 54, 55, 56, 57, 43, 47]⟩ : ByteArray) = digS from rfl, dig_ext _ hd, HSX.out]
                  go_roundw
                  case rel => exact ⟨by first | trivial | rfl, 3, by omega, rfl, rfl⟩
                  case measure => simp [intOf]
              · obtain ⟨o2, ho⟩ : ∃ o2, bs (O ++ S.take 3) = o2 := ⟨_, rfl⟩
                have hos : o2.size ≤ 4294967300 := by rw [← ho, bs_size, List.length_append, List.length_take]; omega
                rw [ho, show ((3 : Nat) : Int) = (3 : Int) from rfl]
                have HO2 := Lib.hid (show ∀ c, S[3]? = some c → o2 ++ bs [c] = bs (O ++ S.take 4) from fun c h => by rw [← ho, bs_app, List.append_assoc, takeE_snoc h])
                clear ho
                by_cases hc3 : n < 3
                · have n0 : (n : Int) < 3 := by omega
                  have hsx : S[3]? = some 61 := by rw [HSE.out]; simp; omega
                  have HSX := Lib.hid (HO2.out _ hsx)
                  clear hsx
                  go_wp2
                  rw [show (⟨#[61]⟩ : ByteArray) = bs [61] from rfl, HSX.out]
                  go_roundw
                  case rel => exact ⟨by first | trivial | rfl, 4, by omega, rfl, rfl⟩
                  case measure => simp [intOf]
                · have n0 : ¬ (n : Int) < 3 := by omega
                  have h1 := and_63 (X) (by omega)
                  have hd : X % 64 < 64 := by omega
                  have hsx : S[3]? = some (sgn (X % 64)) := by rw [HSE.out]; simp; omega
                  have HSX := Lib.hid (HO2.out _ hsx)
                  clear hsx
                  go_wp2
                  rw [show (⟨#[65, 66, 67, 68, 69, 70, 71, 72, 73, 74, 75, 76, 77, 78, 79, 80, 81, 82, 83, 84, 85, 86, 87, 88, 89, 90, 97, 98, 99, 100, 101, 102, 103, 104, 105, 106, 107, 108, 109, 110, 111, 112, 113, 114, 115, 116, 117, 118, 119, 120, 121, 122, 48, 49, 50, 51, 52, 53, 54, 55, 56, 57, 43, 47]⟩ : ByteArray) = digS from rfl, dig_ext _ hd, HSX.out]
                  go_roundw
                  case rel => exact ⟨by first | trivial | rfl, 4, by omega, rfl, rfl⟩
                  case measure => simp [intOf]
              · rw [show ((4 : Nat) : Int) = (4 : Int) from rfl]
                have hs4 : S.take 4 = S := by rw [HSE.out]; rfl
                have hqb : S = b64 q := by rw [← HS.out]; exact sgQ_b64 q (fun e => by have := HN.out; rw [e] at this; simp at this; omega) (by rw [HN.out]; omega)
                have happ : O ++ S = P ++ b64 (tl.take (i0 + 3)) := by
                  rw [hqb, ← HO.out, List.append_assoc, ← b64_app _ _ (by rw [List.length_take, HLL.out, Nat.min_eq_left (by omega), ← HI.out]; omega), ← HQ.out, ← List.take_add]
                rw [hs4]
                have HAPP := Lib.hid happ
                obtain ⟨o2, ho⟩ : ∃ o2, bs (O ++ S) = o2 := ⟨_, rfl⟩
                rw [ho]
                have HO2 := Lib.hid ho
                clear ho hs4 hqb happ
                go_wp2
                go_roundw
                case rel => exact ⟨by first | trivial | rfl, k + 1, by rw [show ((3 * (k + 1) : Nat) : Int) = (i0 : Int) + 3 by have := HI.out; omega], by have := HI.out; omega, by rw [← HO2.out, HAPP.out, show i0 + 3 = 3 * (k + 1) by have := HI.out; omega]⟩
                case measure => simp [intOf]; omega
    · have htk : tl.take i0 = tl := List.take_of_length_le (by rw [HLL.out]; omega)
      have he : O = P ++ b64 tl := by rw [← HO.out, htk]
      have HE := Lib.hid he
      have t1 : ¬ (i0 : Int) < (t.size : Int) := by omega
      clear htk he
      go_wp2
      go_ret
      refine ⟨?_, Below.refl _ _⟩
      rw [← HPO.out, ← HE.out]
      rfl
end Go.Proofs.YtmcjmmcamelmcaaGreatDoor
/- Plain Lean: encoded words of UTF-8 (by Q or B) with blanks behind them are the tokens of a name that means their texts. -/
namespace Go.Proofs.YtmcjmmcamelmcaaGreatDoor
open Go

/-- What may stand in an encoded word of a phrase: of an atom, not '?'. -/
def inB (c : UInt8) : Bool := atomB c && c != 63 && decide (c.toNat < 128)
def inW (x : List UInt8) : Prop := ∀ c ∈ x, inB c = true
theorem inB_atom {c : UInt8} (h : inB c = true) : atomB c = true := by unfold inB at h; rw [Bool.and_eq_true, Bool.and_eq_true] at h; exact h.1.1
theorem inB_ne {c : UInt8} (h : inB c = true) : c ≠ 63 := by unfold inB at h; rw [Bool.and_eq_true, Bool.and_eq_true, bne_iff_ne] at h; exact h.1.2
theorem inB_asc {c : UInt8} (h : inB c = true) : c.toNat < 128 := by unfold inB at h; rw [Bool.and_eq_true, Bool.and_eq_true] at h; exact of_decide_eq_true h.2

/-! Q -/
theorem hexV_hexU (n : Nat) (h : n < 16) : hexV (hexU n) = some n := by
  have : ∀ k : Fin 16, hexV (hexU k.val) = some k.val := by decide
  exact this ⟨n, h⟩
theorem hexU_atom (n : Nat) (h : n < 16) : inB (hexU n) = true := by
  have : ∀ k : Fin 16, inB (hexU k.val) = true := by decide
  exact this ⟨n, h⟩
theorem qOk_in {c : UInt8} (h : qOk true c = true) : inB c = true := by
  have h2 : c.toNat < 128 := by
    unfold qOk at h
    rw [Bool.not_true, Bool.false_and, Bool.or_false] at h
    have h := of_decide_eq_true h
    rcases h with h | h | h | rfl | rfl | rfl | rfl | rfl
    · omega
    · omega
    · omega
    all_goals decide
  have : ∀ k : Fin 128, qOk true (UInt8.ofNat k.val) = true → inB (UInt8.ofNat k.val) = true := by decide
  have := this ⟨c.toNat, h2⟩
  simp only [UInt8.ofNat_toNat] at this
  exact this h
theorem aln_q {c : UInt8} (h : alnB c = true) : qOk true c = true := by
  unfold alnB at h
  have h := of_decide_eq_true h
  unfold qOk
  rw [Bool.or_eq_true]
  refine .inl (decide_eq_true ?_)
  rcases h with h | h | h
  · exact .inl h
  · exact .inr (.inl h)
  · exact .inr (.inr (.inl h))
theorem eqL_in (l : List UInt8) : inW (eqL l) := by
  intro c hc
  obtain ⟨d, hd, hdc⟩ := List.mem_flatMap.1 hc
  unfold eqB at hdc
  have hlt := d.toNat_lt
  split at hdc
  · rw [List.mem_singleton.1 hdc]; decide
  · split at hdc
    · rename_i hr
      rw [List.mem_singleton.1 hdc]
      exact qOk_in (aln_q hr)
    · simp only [List.mem_cons, List.not_mem_nil, or_false] at hdc
      rcases hdc with rfl | rfl | rfl
      · decide
      · exact hexU_atom _ (by omega)
      · exact hexU_atom _ (by omega)
theorem unqL_eqL : ∀ (l : List UInt8), unqL true (eqL l) = some l
  | [] => unqL_nil true
  | d :: l => by
    have ih := unqL_eqL l
    have hlt := d.toNat_lt
    rw [show eqL (d :: l) = eqB d ++ eqL l from by simp [eqL]]
    unfold eqB
    split
    · rename_i h32
      rw [List.singleton_append, unqL_us, ih, h32]; rfl
    · split
      · rename_i hr
        rw [List.singleton_append, unqL_raw _ (fun e => by rw [e] at hr; exact absurd hr (by decide)) (fun e => by rw [e] at hr; exact absurd hr (by decide)) (aln_q hr), ih]; rfl
      · rw [List.cons_append, List.cons_append, List.singleton_append, unqL_eq, hexV_hexU _ (by omega), hexV_hexU _ (by omega), ih]
        have : UInt8.ofNat (16 * (d.toNat / 16) + d.toNat % 16) = d := by
          rw [show 16 * (d.toNat / 16) + d.toNat % 16 = d.toNat by omega]
          exact UInt8.ofNat_toNat
        simp only [this, Option.map_some]
theorem eqL_ne {l : List UInt8} (h : l ≠ []) : eqL l ≠ [] := by
  cases l with
  | nil => exact absurd rfl h
  | cons c t =>
    rw [show eqL (c :: t) = eqB c ++ eqL t from by simp [eqL]]
    unfold eqB
    split
    · simp
    · split <;> simp

/-! base64 -/
theorem sgn_in (i : Nat) (h : i < 64) : inB (sgn i) = true := by
  have : ∀ k : Fin 64, inB (sgn k.val) = true := by decide
  exact this ⟨i, h⟩
theorem b64_in : ∀ (l : List UInt8), inW (b64 l)
  | [], c, h => by cases h
  | [a], c, h => by
    have := a.toNat_lt
    simp only [b64, List.mem_cons, List.not_mem_nil, or_false] at h
    rcases h with rfl | rfl | rfl | rfl
    · exact sgn_in _ (by omega)
    · exact sgn_in _ (by omega)
    · decide
    · decide
  | [a, b], c, h => by
    have := a.toNat_lt; have := b.toNat_lt
    simp only [b64, List.mem_cons, List.not_mem_nil, or_false] at h
    rcases h with rfl | rfl | rfl | rfl
    · exact sgn_in _ (by omega)
    · exact sgn_in _ (by omega)
    · exact sgn_in _ (by omega)
    · decide
  | a :: b :: d :: t, c, h => by
    have := a.toNat_lt; have := b.toNat_lt; have := d.toNat_lt
    simp only [b64, List.mem_cons] at h
    rcases h with rfl | rfl | rfl | rfl | h
    · exact sgn_in _ (by omega)
    · exact sgn_in _ (by omega)
    · exact sgn_in _ (by omega)
    · exact sgn_in _ (by omega)
    · exact b64_in t c h
theorem sgn_idx (i : Nat) (h : i < 64) : aIdx (sgn i).toNat = i := by rw [sgn_toNat i h, aIdx_alpha i h]
theorem sgn_dig (i : Nat) (h : i < 64) : digZ (sgn i) = i := by unfold digZ; rw [sgn_idx i h, if_pos h]
theorem sgn_pad (i : Nat) (h : i < 64) : padB (sgn i) = false := by unfold padB; rw [sgn_idx i h, decide_eq_true h]; rfl
theorem sgn_sign (last e : Bool) (k i : Nat) (h : i < 64) : okSign last e k (sgn i) = true := by unfold okSign; rw [sgn_pad i h]; rfl
theorem ofNat_eq {n : Nat} {a : UInt8} (h : n % 256 = a.toNat) : UInt8.ofNat n = a := by
  apply UInt8.toNat_inj.1
  rw [UInt8.toNat_ofNat']
  exact h
theorem group_three (a b c : UInt8) (last : Bool) : groupL [sgn (a.toNat / 4), sgn (a.toNat % 4 * 16 + b.toNat / 16), sgn (b.toNat % 16 * 4 + c.toNat / 64), sgn (c.toNat % 64)] last = some [a, b, c] := by
  have ha := a.toNat_lt; have hb := b.toNat_lt; have hc := c.toNat_lt
  have h0 : a.toNat / 4 < 64 := by omega
  have h1 : a.toNat % 4 * 16 + b.toNat / 16 < 64 := by omega
  have h2 : b.toNat % 16 * 4 + c.toNat / 64 < 64 := by omega
  have h3 : c.toNat % 64 < 64 := by omega
  unfold groupL
  rw [if_pos (by simp only [okAll, sgn_sign _ _ _ _ h0, sgn_sign _ _ _ _ h1, sgn_sign _ _ _ _ h2, sgn_sign _ _ _ _ h3]; rfl)]
  have hp : pads [sgn (a.toNat / 4), sgn (a.toNat % 4 * 16 + b.toNat / 16), sgn (b.toNat % 16 * 4 + c.toNat / 64), sgn (c.toNat % 64)] = 0 := by
    unfold pads
    simp [sgn_pad _ h0, sgn_pad _ h1, sgn_pad _ h2, sgn_pad _ h3]
  have hX : foldX [sgn (a.toNat / 4), sgn (a.toNat % 4 * 16 + b.toNat / 16), sgn (b.toNat % 16 * 4 + c.toNat / 64), sgn (c.toNat % 64)] = a.toNat * 65536 + b.toNat * 256 + c.toNat := by
    simp only [foldX, List.foldl_cons, List.foldl_nil, sgn_dig _ h0, sgn_dig _ h1, sgn_dig _ h2, sgn_dig _ h3]
    omega
  rw [hp, hX, if_pos (by omega)]
  have e1 : UInt8.ofNat ((a.toNat * 65536 + b.toNat * 256 + c.toNat) / 2 ^ 16) = a := ofNat_eq (by omega)
  have e2 : UInt8.ofNat ((a.toNat * 65536 + b.toNat * 256 + c.toNat) / 2 ^ 8) = b := ofNat_eq (by omega)
  have e3 : UInt8.ofNat ((a.toNat * 65536 + b.toNat * 256 + c.toNat) / 2 ^ 0) = c := ofNat_eq (by omega)
  show some [UInt8.ofNat ((a.toNat * 65536 + b.toNat * 256 + c.toNat) / 2 ^ 16), UInt8.ofNat ((a.toNat * 65536 + b.toNat * 256 + c.toNat) / 2 ^ 8), UInt8.ofNat ((a.toNat * 65536 + b.toNat * 256 + c.toNat) / 2 ^ 0)] = _
  rw [e1, e2, e3]
theorem pad_61 : padB 61 = true ∧ digZ 61 = 0 := by decide
theorem group_two (a b : UInt8) : groupL [sgn (a.toNat / 4), sgn (a.toNat % 4 * 16 + b.toNat / 16), sgn (b.toNat % 16 * 4), 61] true = some [a, b] := by
  have ha := a.toNat_lt; have hb := b.toNat_lt
  have h0 : a.toNat / 4 < 64 := by omega
  have h1 : a.toNat % 4 * 16 + b.toNat / 16 < 64 := by omega
  have h2 : b.toNat % 16 * 4 < 64 := by omega
  unfold groupL
  rw [if_pos (by simp only [okAll, sgn_sign _ _ _ _ h0, sgn_sign _ _ _ _ h1, sgn_sign _ _ _ _ h2]; rfl)]
  have hp : pads [sgn (a.toNat / 4), sgn (a.toNat % 4 * 16 + b.toNat / 16), sgn (b.toNat % 16 * 4), 61] = 1 := by
    unfold pads
    simp [sgn_pad _ h0, sgn_pad _ h1, sgn_pad _ h2, pad_61.1]
  have hX : foldX [sgn (a.toNat / 4), sgn (a.toNat % 4 * 16 + b.toNat / 16), sgn (b.toNat % 16 * 4), 61] = a.toNat * 65536 + b.toNat * 256 := by
    simp only [foldX, List.foldl_cons, List.foldl_nil, sgn_dig _ h0, sgn_dig _ h1, sgn_dig _ h2, pad_61.2]
    omega
  rw [hp, hX, if_pos (by omega)]
  have e1 : UInt8.ofNat ((a.toNat * 65536 + b.toNat * 256) / 2 ^ 16) = a := ofNat_eq (by omega)
  have e2 : UInt8.ofNat ((a.toNat * 65536 + b.toNat * 256) / 2 ^ 8) = b := ofNat_eq (by omega)
  show some [UInt8.ofNat ((a.toNat * 65536 + b.toNat * 256) / 2 ^ 16), UInt8.ofNat ((a.toNat * 65536 + b.toNat * 256) / 2 ^ 8)] = _
  rw [e1, e2]
theorem group_one (a : UInt8) : groupL [sgn (a.toNat / 4), sgn (a.toNat % 4 * 16), 61, 61] true = some [a] := by
  have ha := a.toNat_lt
  have h0 : a.toNat / 4 < 64 := by omega
  have h1 : a.toNat % 4 * 16 < 64 := by omega
  unfold groupL
  rw [if_pos (by simp only [okAll, sgn_sign _ _ _ _ h0, sgn_sign _ _ _ _ h1]; rfl)]
  have hp : pads [sgn (a.toNat / 4), sgn (a.toNat % 4 * 16), 61, 61] = 2 := by
    unfold pads
    simp [sgn_pad _ h0, sgn_pad _ h1, pad_61.1]
  have hX : foldX [sgn (a.toNat / 4), sgn (a.toNat % 4 * 16), 61, 61] = a.toNat * 65536 := by
    simp only [foldX, List.foldl_cons, List.foldl_nil, sgn_dig _ h0, sgn_dig _ h1, pad_61.2]
    omega
  rw [hp, hX, if_pos (by omega)]
  have e1 : UInt8.ofNat ((a.toNat * 65536) / 2 ^ 16) = a := ofNat_eq (by omega)
  show some [UInt8.ofNat ((a.toNat * 65536) / 2 ^ 16)] = _
  rw [e1]
theorem unbG_b64 : ∀ l : List UInt8, unbG (b64 l) = some l
  | [] => by rw [b64, unbG]; simp
  | [a] => by rw [b64, unbG, List.isEmpty_nil, group_one, unbG] <;> simp
  | [a, b] => by rw [b64, unbG, List.isEmpty_nil, group_two, unbG] <;> simp
  | a :: b :: c :: t => by
    have ih := unbG_b64 t
    rw [b64, unbG, group_three, ih]; rfl
theorem unbL_b64 (l : List UInt8) : unbL (b64 l) = some l := by
  unfold unbL
  rw [if_pos (by rw [b64_length]; omega), unbG_b64]
theorem b64_ne {c : List UInt8} (h : c ≠ []) : b64 c ≠ [] := by
  intro e
  have := b64_length c
  rw [e] at this
  have h0 : c.length ≠ 0 := fun e => h (List.eq_nil_of_length_eq_zero e)
  simp only [List.length_nil] at this
  omega

/-! words -/
/-- UTF-8's name, as the law writes it. -/
def CS (cs : List UInt8) : Prop := cs = [85, 84, 70, 45, 56] ∨ cs = [117, 116, 102, 45, 56] ∨ cs = [85, 116, 102, 45, 56]
theorem CS.len {cs : List UInt8} (h : CS cs) : cs.length = 5 := by rcases h with rfl | rfl | rfl <;> rfl
theorem wdC_length {cs : List UInt8} (h : CS cs) (e : UInt8) (x : List UInt8) : (wdC cs e x).length = x.length + 12 := by
  have := h.len
  simp [wdC]; omega
theorem wdC_atom {cs : List UInt8} (h : CS cs) {e : UInt8} (he : e = 66 ∨ e = 81) {x : List UInt8} (hx : inW x) : ∀ c ∈ wdC cs e x, atomB c = true ∧ c.toNat < 128 := by
  have h0 : atomB e = true ∧ e.toNat < 128 := by rcases he with rfl | rfl <;> decide
  have h1 : ∀ c ∈ cs, atomB c = true ∧ c.toNat < 128 := by rcases h with rfl | rfl | rfl <;> decide
  intro c hc
  unfold wdC at hc
  simp only [List.mem_cons, List.mem_append, List.not_mem_nil, or_false] at hc
  rcases hc with rfl | rfl | hc | rfl | rfl | rfl | hc | rfl | rfl
  all_goals first | decide | exact h0 | exact h1 _ hc | exact ⟨inB_atom (hx c hc), inB_asc (hx c hc)⟩
/-- A word is decoded to its text. -/
theorem decoded_wdC {cs : List UInt8} (hcs : CS cs) {e : UInt8} {x c : List UInt8} (hx : inW x) (hne : x ≠ []) (hl : x.length ≤ 63) (hc : bytesC [e] x true = some c) (he : e ≠ 63) (hv : Lib.validD c = true) : decodedL (wdC cs e x) true = some c := by
  have hlen := wdC_length hcs e x
  have hx0 : x.length ≠ 0 := fun h => hne (List.eq_nil_of_length_eq_zero h)
  obtain ⟨y, hy⟩ : ∃ y, 61 :: 63 :: (cs ++ 63 :: e :: 63 :: x) = y := ⟨_, rfl⟩
  have hw : wdC cs e x = y ++ [63, 61] := by rw [← hy]; simp [wdC]
  have hyl : y.length + 2 = (wdC cs e x).length := by rw [hw]; simp
  unfold decodedL
  rw [if_neg]
  · have h1 : (wdC cs e x).take ((wdC cs e x).length - 2) = y := by
      rw [← hyl, Nat.add_sub_cancel, hw, List.take_left]
    rw [h1, ← hy, List.drop_succ_cons, List.drop_succ_cons, List.drop_zero]
    rw [splitQ_mid cs _ (by rcases hcs with rfl | rfl | rfl <;> decide)]
    rw [show e :: 63 :: x = [e] ++ 63 :: x from rfl, splitQ_mid [e] _ (fun d hd => by rw [List.mem_singleton.1 hd]; exact he), splitQ_end x (fun d hd => inB_ne (hx d hd))]
    unfold partsC
    simp only
    rw [if_neg hne, hc]
    show textC cs c = some c
    unfold textC
    rw [if_pos (by rcases hcs with rfl | rfl | rfl <;> decide), if_pos hv]
  · rintro (h | h | h | h)
    · omega
    · omega
    · exact h rfl
    · apply h
      rw [← hyl, Nat.add_sub_cancel, hw, List.drop_left]
/-- What Encoded makes of a text. -/
def encL (b : Bool) (cs t : List UInt8) : List UInt8 := if b then wdC cs 66 (b64 t) else wdC cs 81 (eqL t)
/-- A word that means t. -/
structure EW (w t : List UInt8) : Prop where
  atom : ∀ c ∈ w, atomB c = true ∧ c.toNat < 128
  ne : w ≠ []
  mark : markedL w = true
  dec : decodedL w true = some t
theorem enc_ew {b : Bool} {cs t : List UInt8} (hcs : CS cs) (ht : t ≠ []) (hv : Lib.validD t = true) (hl : (encL b cs t).length ≤ 75) : EW (encL b cs t) t := by
  unfold encL at hl ⊢
  cases b with
  | true =>
    rw [if_pos rfl] at hl ⊢
    rw [wdC_length hcs] at hl
    refine ⟨wdC_atom hcs (.inl rfl) (b64_in t), by simp [wdC], rfl, decoded_wdC hcs (b64_in t) (b64_ne ht) (by omega) ?_ (by decide) hv⟩
    unfold bytesC
    rw [if_neg (by decide), if_pos (by decide), unbL_b64]
  | false =>
    rw [if_neg (by simp)] at hl ⊢
    rw [wdC_length hcs] at hl
    refine ⟨wdC_atom hcs (.inr rfl) (eqL_in t), by simp [wdC], rfl, decoded_wdC hcs (eqL_in t) (eqL_ne ht) (by omega) ?_ (by decide) hv⟩
    unfold bytesC
    rw [if_pos (by decide), unqL_eqL]

/-! the name -/
theorem tk_sps : ∀ (bl r : List UInt8), (∀ c ∈ bl, isSp c = true) → toksL true (bl ++ r) = toksL true r
  | [], r, _ => rfl
  | c :: bl, r, h => by
    rw [List.cons_append, toksL, if_pos (h c (by simp))]
    exact tk_sps bl r (fun d hd => h d (by simp [hd]))
theorem TR.app_app (a b : List Tok) (r : TR) : TR.app (a ++ b) r = TR.app a (TR.app b r) := by
  cases r <;> simp [TR.app]
/-- Words that mean nm, each with a blank behind it. -/
structure NmW (s : List UInt8) (ts : List Tok) (nm : List UInt8) : Prop where
  toks : ∀ r, toksL false (s ++ r) = TR.app ts (toksL (!ts.isEmpty) r)
  word : ∀ t ∈ ts, wordK t = true
  name : ∀ us, nameG (ts ++ us) 0 true false [] = nameG us ts.length true (!ts.isEmpty) nm
  plain : ∀ c ∈ s, c.toNat < 128 ∧ ctlB c = false
theorem NmW.nil : NmW [] [] [] := ⟨fun r => by cases h : toksL false r <;> simp [TR.app, h], by simp, fun us => rfl, by simp⟩
theorem sp_plain {c : UInt8} (h : isSp c = true) : c.toNat < 128 ∧ ctlB c = false := by
  unfold isSp at h
  rw [Bool.or_eq_true, beq_iff_eq, beq_iff_eq] at h
  rcases h with rfl | rfl <;> decide
theorem atom_ctl {c : UInt8} (h : atomB c = true ∧ c.toNat < 128) : c.toNat < 128 ∧ ctlB c = false := by
  have : ∀ k : Fin 128, atomB (UInt8.ofNat k.val) = true → ctlB (UInt8.ofNat k.val) = false := by decide
  have := this ⟨c.toNat, h.2⟩
  simp only [UInt8.ofNat_toNat] at this
  exact ⟨h.2, this h.1⟩
theorem snoc_full (ts : List Tok) (u : Tok) : (!(ts ++ [u]).isEmpty) = true := by cases ts <;> rfl
theorem NmW.snoc {s nm w t bl : List UInt8} {ts : List Tok} (h : NmW s ts nm) (hw : EW w t) (hb : ∀ c ∈ bl, isSp c = true)   : NmW (s ++ (w ++ 32 :: bl)) (ts ++ [⟨97, w, !ts.isEmpty⟩]) (nm ++ t) := by
  refine ⟨fun r => ?_, fun u hu => ?_, fun us => ?_, fun c hc => ?_⟩
  · rw [List.append_assoc, h.toks, List.append_assoc, List.cons_append, tk_atom _ _ _ hw.ne (fun c hc => (hw.atom c hc).1) (fun c u e => by cases e; decide), tk_sp, tk_sps bl r hb, TR.app_app, snoc_full]
    cases hr : toksL true r <;> simp [TR.app, TR.cons]
  · rcases List.mem_append.1 hu with hu | hu
    · exact h.word u hu
    · rw [List.mem_singleton.1 hu]; rfl
  · rw [List.append_assoc, h.name, List.singleton_append, nameG]
    have hc : nCode ⟨97, w, !ts.isEmpty⟩ = true := by unfold nCode; simp [hw.mark]
    have hd : nDec ⟨97, w, !ts.isEmpty⟩ = true := by unfold nDec; rw [hc]; simp [hw.dec]
    have hx : nText ⟨97, w, !ts.isEmpty⟩ = t := by unfold nText; rw [hc]; simp [hw.dec]
    have hb : nBad ts.length ⟨97, w, !ts.isEmpty⟩ = false := by
      unfold nBad
      cases ts with
      | nil => simp
      | cons a b => simp
    rw [hc, hd, hx, hb]
    have h1 : (decide (0 < ts.length) && !((!ts.isEmpty) && true)) = false := by cases ts <;> simp
    rw [h1, snoc_full]
    simp
  · rcases List.mem_append.1 hc with hc | hc
    · exact h.plain c hc
    · rcases List.mem_append.1 hc with hc | hc
      · exact atom_ctl (hw.atom c hc)
      · rcases List.mem_cons.1 hc with rfl | hc
        · decide
        · exact sp_plain (hb c hc)
end Go.Proofs.YtmcjmmcamelmcaaGreatDoor
