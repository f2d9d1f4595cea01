/- qDecode, on whatever the reference decodes: the walk. -/
import Derived.Test.YtpoglombagmhmaaGreatDoorDec1
import Derived.Test.YtpoglombagmhmaaGreatDoorW5
import Derived.Test.YtpoglombagmhmaaGreatDoorDs
import Derived.Test.YtpoglombagmhmaaGreatDoorV4
import Derived.Test.YtpoglombagmhmaaGreatDoorRow
import Derived.Test.YtpoglombagmhmaaGreatDoorP4
import Derived.Test.YtpoglombagmhmaaGreatDoorZ2
import Derived.Test.YtpoglombagmhmaaGreatDoorN5
import Derived.Laws.EntriesVeiled
namespace Go.Proofs.YtpoglombagmhmaaGreatDoor
open Go Go.RowKit

theorem hexV_up {a : UInt8} {u : Nat} (h : hexV a = some u) : u < 16 ∧ a = hexU u := by
  have ha := a.toNat_lt
  unfold hexV at h
  split at h
  · cases h
    refine ⟨by omega, ?_⟩
    unfold hexU
    rw [if_pos (by omega)]
    apply UInt8.toNat_inj.1
    rw [UInt8.toNat_ofNat']
    omega
  · split at h
    · cases h
      refine ⟨by omega, ?_⟩
      unfold hexU
      rw [if_neg (by omega)]
      apply UInt8.toNat_inj.1
      rw [UInt8.toNat_ofNat']
      omega
    · cases h
theorem unqG_nil (p : Bool) : unqL p [] = some [] := by rw [unqL]
theorem unqG_us {p : Bool} {t c : List UInt8} (h : unqL p (95 :: t) = some c) : ∃ c', unqL p t = some c' ∧ c = 32 :: c' := by
  rw [unqL.eq_def] at h
  simp only [if_pos] at h
  cases hc : unqL p t with
  | none => rw [hc] at h; cases h
  | some c' => rw [hc] at h; exact ⟨c', rfl, by simpa using h.symm⟩
theorem unqG_eq {p : Bool} {t c : List UInt8} (h : unqL p (61 :: t) = some c) : ∃ a b r u v c', t = a :: b :: r ∧ hexV a = some u ∧ hexV b = some v ∧ unqL p r = some c' ∧ c = UInt8.ofNat (16 * u + v) :: c' := by
  rw [unqL.eq_def] at h
  simp only at h
  rw [if_neg (by decide)] at h
  simp only [if_true] at h
  match t, h with
  | [], h => cases h
  | [a], h => cases h
  | a :: b :: r, h =>
    simp only at h
    cases ha : hexV a with
    | none => rw [ha] at h; cases h
    | some u =>
      cases hb : hexV b with
      | none => rw [ha, hb] at h; cases h
      | some v =>
        rw [ha, hb] at h
        cases hc : unqL p r with
        | none => rw [hc] at h; cases h
        | some c' => rw [hc] at h; exact ⟨a, b, r, u, v, c', rfl, ha, hb, hc, by simpa using h.symm⟩
theorem unqG_raw {p : Bool} {x : UInt8} {t c : List UInt8} (h1 : x ≠ 95) (h2 : x ≠ 61) (h : unqL p (x :: t) = some c) : qOk p x = true ∧ ∃ c', unqL p t = some c' ∧ c = x :: c' := by
  rw [unqL.eq_def] at h
  simp only at h
  rw [if_neg h1, if_neg h2] at h
  cases hq : qOk p x with
  | false => rw [hq] at h; cases h
  | true =>
    rw [hq] at h
    simp only [if_true] at h
    cases hc : unqL p t with
    | none => rw [hc] at h; cases h
    | some c' => rw [hc] at h; exact ⟨rfl, c', rfl, by simpa using h.symm⟩
theorem qOk_range {p : Bool} {x : UInt8} (h : qOk p x = true) : 33 ≤ x.toNat ∧ x.toNat ≤ 126 := by
  have : ∀ q : Bool, ∀ k : Fin 256, qOk q (UInt8.ofNat k.val) = true → 33 ≤ (UInt8.ofNat k.val).toNat ∧ (UInt8.ofNat k.val).toNat ≤ 126 := by decide +kernel
  have := this p ⟨x.toNat, x.toNat_lt⟩
  simp only [UInt8.ofNat_toNat] at this
  exact this h
theorem unqG_len (p : Bool) : ∀ (n : Nat) (t c : List UInt8), t.length ≤ n → unqL p t = some c → c.length ≤ t.length
  | _, [], c, _, h => by rw [unqG_nil] at h; cases h; simp
  | 0, _ :: _, _, hn, _ => by simp at hn
  | n + 1, x :: t, c, hn, h => by
    by_cases h95 : x = 95
    · subst h95
      obtain ⟨c', h1, rfl⟩ := unqG_us h
      have := unqG_len p n t c' (by simp at hn; omega) h1
      simp; omega
    · by_cases h61 : x = 61
      · subst h61
        obtain ⟨a, b, r, u, v, c', rfl, _, _, h1, rfl⟩ := unqG_eq h
        have := unqG_len p n r c' (by simp at hn; omega) h1
        simp; omega
      · obtain ⟨_, c', h1, rfl⟩ := unqG_raw h95 h61 h
        have := unqG_len p n t c' (by simp at hn; omega) h1
        simp; omega

def QGRel (p : Bool) (t c : List UInt8) (N g : Nat) (w : World) (n i : Value) (wr : World) : Prop :=
  ∃ (m k : Nat) (c2 l : List UInt8), n = .int .i64 k ∧ i = .int .i64 m ∧ m ≤ N ∧ unqL p (t.drop m) = some c2 ∧ c.drop k = c2 ∧ k ≤ m ∧ l.length = N ∧ l.take k = c.take k ∧ Row g l wr ∧ Below w.heap.size w wr
theorem qg_step {p : Bool} {t c : List UInt8} {N g : Nat} {w wr : World} {k m' : Nat} {l c' : List UInt8} {x : UInt8} (hx : c.drop k = x :: c') (hu : unqL p (t.drop m') = some c') (hm : k < m') (hmN : m' ≤ N) (hl : l.length = N) (ht : l.take k = c.take k) (hr : Row g l wr) (hb : Below w.heap.size w wr) (hg : w.heap.size ≤ g)
    (n i : Value) (hn : n = .int .i64 ((k + 1 : Nat) : Int)) (hi : i = .int .i64 (m' : Int)) : QGRel p t c N g w n i (wr.setCell ⟨g, k, none⟩ (.int .u8 x.toNat)) := by
  have hk : c[k]? = some x := by rw [← List.head?_drop, hx]; rfl
  have hd : c.drop (k + 1) = c' := by rw [← List.drop_drop, hx]; rfl
  refine ⟨m', k + 1, c', l.set k x, hn, hi, hmN, hu, hd, hm, by rw [List.length_set]; exact hl, ?_, hr.set k _, hb.setCell (p := ⟨g, k, none⟩) hg _⟩
  have hkl : k < l.length := by omega
  rw [List.take_add_one, List.take_add_one, hk, List.getElem?_set, if_pos rfl, if_pos hkl, List.take_set_of_le (Nat.le_refl k), ht]

set_option maxHeartbeats 1000000 in
set_option maxRecDepth 100000 in
theorem qDecode_gen (p : Bool) (s : ByteArray) (c : List UInt8) (hs : unqL p s.data.toList = some c) (hlen : s.size ≤ 1048576) (w : World) :
    Calls Tryz.prog 108 #[.string s] w fun x w' => ∃ g cap l, x = .returned (.tuple #[.slice (some ⟨g, 0, none⟩) c.length cap, .nilIface]) ∧ w.heap.size ≤ g ∧ c.length ≤ cap ∧ Row g l w' ∧ l.take c.length = c ∧ Below w.heap.size w w' := by
  obtain ⟨N, hN⟩ : ∃ N, s.size = N := ⟨_, rfl⟩
  have hsl : s.data.toList.length = N := by rw [Array.length_toList]; exact hN
  have hcN : c.length ≤ N := by have := unqG_len p _ _ c (Nat.le_refl _) hs; omega
  have HS := Lib.hid hs; have HSL := Lib.hid hsl
  have hmkN := make_bytes N (by omega)
  clear hs hsl
  go_enter Tryz.func108, Tryz.ntmps108
  go_wp2
  have hr0 := Row.make w N
  have hb0 : Below w.heap.size w (w.alloc (.cells (madeCells #[Value.int .u8 0] N) 5)) := (Below.refl _ w).alloc (Nat.le_refl _) _
  obtain ⟨g, hg⟩ : ∃ g, w.heap.size = g := ⟨_, rfl⟩
  have HG := Lib.hid (show w.heap.size ≤ g by omega)
  rw [hg] at hr0
  rw [hg]
  generalize w.alloc (.cells (madeCells #[Value.int .u8 0] N) 5) = w1 at *
  have HR0 := Lib.hid hr0; have HB0 := Lib.hid hb0
  clear hr0 hb0 hg hmkN
  go_loopw [5, 6, 7, 8, 9] (fun n i x b e wr => QGRel p s.data.toList c N g w n i wr) (fun _ i _ _ _ _ => s.size - (intOf i).toNat)
  case atStart => exact ⟨0, 0, c, List.replicate N 0, rfl, rfl, Nat.zero_le _, HS.out, rfl, Nat.le_refl _, List.length_replicate, rfl, HR0.out, HB0.out⟩
  case round =>
    obtain ⟨m, k, c2, l, rfl, rfl, hm, hu, hc2, hkm, hl, ht, hr, hb⟩ := hrel
    by_cases hlt : m < N
    · have hlt' : m < s.size := by omega
      obtain ⟨x, hx⟩ : ∃ x, s[m] = x := ⟨_, rfl⟩
      have hdr : s.data.toList.drop m = x :: s.data.toList.drop (m + 1) := by
        rw [List.drop_eq_getElem_cons (by rw [HSL.out]; exact hlt), ← hx]; rfl
      rw [hdr] at hu
      have hfro := hr.frozen k
      obtain ⟨y, hy⟩ : ∃ y, l[k]? = some y := ⟨_, List.getElem?_eq_getElem (by omega)⟩
      have hcel := hr.cell hy
      have HL := Lib.hid hl; have HT := Lib.hid ht; have HR := Lib.hid hr; have HB := Lib.hid hb; have HU := Lib.hid hu; have HC2 := Lib.hid hc2; have HDR := Lib.hid hdr
      clear hl ht hr hb hu hc2 hdr hy
      by_cases h95 : x = 95
      · subst h95
        obtain ⟨c', h1, h2⟩ := unqG_us HU.out
        have HX := Lib.hid (HC2.out.trans h2); have HU1 := Lib.hid h1
        clear h1 h2
        go_wp2
        go_roundw
        case rel => exact qg_step HX.out HU1.out (by omega) (by omega) HL.out HT.out HR.out HB.out HG.out _ _ (by go_num) (by go_num)
        case measure => simp [intOf]; omega
      · by_cases h61 : x = 61
        · subst h61
          obtain ⟨a, b, r, u, v, c', hr0, ha, hb0, h1, h2⟩ := unqG_eq HU.out
          obtain ⟨hu16, ra⟩ := hexV_up ha
          obtain ⟨hv16, rb⟩ := hexV_up hb0
          subst ra rb
          have hlen2 : m + 3 ≤ N := by
            have := congrArg List.length hr0
            rw [List.length_drop, HSL.out] at this
            simp only [List.length_cons] at this
            omega
          have h1' : m + 1 < s.size := by omega
          have h2' : m + 2 < s.size := by omega
          have e1 : s[m + 1] = hexU u := by
            have : (s.data.toList.drop (m + 1))[0]? = some (hexU u) := by rw [hr0]; rfl
            rw [List.getElem?_drop] at this
            obtain ⟨_, e⟩ := at_byte s _ rfl _ _ this
            exact e
          have e2 : s[m + 2] = hexU v := by
            have : (s.data.toList.drop (m + 1))[1]? = some (hexU v) := by rw [hr0]; rfl
            rw [List.getElem?_drop] at this
            obtain ⟨_, e⟩ := at_byte s _ rfl _ _ this
            exact e
          have hdr3 : s.data.toList.drop (m + 3) = r := by
            rw [show m + 3 = m + 1 + 2 by omega, ← List.drop_drop, hr0]; rfl
          have HU1 := Lib.hid (show unqL p (s.data.toList.drop (m + 3)) = some c' by rw [hdr3]; exact h1)
          have HX := Lib.hid (HC2.out.trans h2)
          have i2 : ¬ (s.size : Int) ≤ (m : Int) + 2 := by omega
          have hread := readHexByte_up u v hu16 hv16
          have hsum1 : IntKind.i64.wrap ((m : Int) + 1) = (m : Int) + 1 := IntWalk.i64_in _ (by omega)
          have hsum2 : IntKind.i64.wrap ((m : Int) + 2) = (m : Int) + 2 := IntWalk.i64_in _ (by omega)
          have p1 : (0 : Int) ≤ (m : Int) + 1 := by omega
          have p2 : (0 : Int) ≤ (m : Int) + 2 := by omega
          have q1 : ((m : Int) + 1).toNat = m + 1 := by omega
          have q2 : ((m : Int) + 2).toNat = m + 2 := by omega
          have hub : (UInt8.ofNat (16 * u + v)).toNat = 16 * u + v := by rw [UInt8.toNat_ofNat_of_lt' (by show 16 * u + v < 256; omega)]
          have HUB := Lib.hid hub
          have HREAD := Lib.hid (fun w => (hread w).mono (fun _ _ h => (⟨h.1, h.2.symm⟩ : _ ∧ _)))
          clear hread hr0 ha hb0 h1 h2 hdr3 hub
          go_wp2_with fail
          go_quiet ((go_at_call 125; exact Calls.quiet_of_same (HREAD.out _)))
          have HR3 := Lib.hid (HR.out.kept (w' := wr.drewN nq) (by rw [heap_drewN]))
          have HB3 := Lib.hid ((HB.out.trans (below_drewN (Below.refl _ wr) nq)))
          have hfro3 : (wr.drewN nq).frozen? ⟨g, k, none⟩ = false := HR3.out.frozen k
          have hcel3 : (wr.drewN nq).cell? ⟨g, k, none⟩ = some (.int .u8 y.toNat) := by
            rw [← hcel]; exact World.cell?_of_block (by rw [heap_drewN])
          clear hfro hcel hsum1 hsum2 p1 p2 q1 q2 e1 e2
          generalize wr.drewN nq = w3 at *
          go_wp2
          go_roundw
          case rel =>
            rw [show (16 * (u : Int) + (v : Int)) = (((UInt8.ofNat (16 * u + v)).toNat : Nat) : Int) by rw [HUB.out]; push_cast; rfl]
            exact qg_step HX.out HU1.out (by omega) (by omega) HL.out HT.out HR3.out HB3.out HG.out _ _ (by go_num) (by go_num)
          case measure => simp [intOf]; omega
        · obtain ⟨hq, c', h1, h2⟩ := unqG_raw h95 h61 HU.out
          obtain ⟨r1, r2⟩ := qOk_range hq
          have HX := Lib.hid (HC2.out.trans h2); have HU1 := Lib.hid h1
          have t1 : ((x.toNat : Int) == 95) = false := by
            rw [beq_eq_false_iff_ne]; exact fun e => h95 (UInt8.toNat_inj.1 (Int.ofNat_inj.1 e))
          have t2 : ((x.toNat : Int) == 61) = false := by
            rw [beq_eq_false_iff_ne]; exact fun e => h61 (UInt8.toNat_inj.1 (Int.ofNat_inj.1 e))
          have t3 : (x.toNat : Int) ≤ 126 := by omega
          have t4 : (32 : Int) ≤ (x.toNat : Int) := by omega
          clear h1 h2 hq h95 h61 r1 r2
          go_wp2
          go_roundw
          case rel => exact qg_step HX.out HU1.out (by omega) (by omega) HL.out HT.out HR.out HB.out HG.out _ _ (by go_num) (by go_num)
          case measure => simp [intOf]; omega
    · have hmN : m = N := by omega
      subst hmN
      rw [List.drop_of_length_le (by rw [HSL.out]; omega), unqG_nil] at hu
      have hkc : c.drop k = [] := by rw [hc2]; cases hu; rfl
      have hck : c.length ≤ k := by
        have := congrArg List.length hkc
        rw [List.length_drop, List.length_nil] at this
        omega
      have hkk : k = c.length := by
        have h9 := congrArg List.length ht
        rw [List.length_take, List.length_take] at h9
        omega
      subst hkk
      have i1 : ¬ (m : Int) < (s.size : Int) := by omega
      have i2 : (c.length : Int) ≤ (m : Int) := by omega
      have HT := Lib.hid ht; have HR := Lib.hid hr; have HB := Lib.hid hb
      clear ht hr hb hu hc2 hkc hl
      go_wp2
      go_ret2
      refine ⟨g, m, rfl, HG.out, hcN, l, HR.out, ?_, HB.out⟩
      have := HT.out
      rwa [List.take_length] at this
end Go.Proofs.YtpoglombagmhmaaGreatDoor
/- utf8.AppendRune, strings.Builder.WriteRune, of a rune of two bytes below 256: the walks. -/
namespace Go.Proofs.YtpoglombagmhmaaGreatDoor
open Go Go.RowKit

/-- 'append(v, a, b)' of two bytes: for the walk. -/
theorem wpList_push_bytes2 {ops : Array Oper} {rest : List Oper} {o : Oper} {a : Act} {Q : Exit → Act → World → Prop} (hgd : o.guard = none) (s x : Operand)
    (ho : o.op = .call { callee := .builtin .append, args := #[s, x], argTypes := #[60, 60] })
    (B : Nat) (l : List UInt8) (v : Value) (c d : UInt8) (wr : World) (hown : OwnB B l v wr) (hB : B ≤ wr.heap.size) (hlen : l.length + 2 ≤ 140737488355328) (hs : a.eval s = v) (hx : a.eval x = .slice (some ⟨wr.heap.size, 0, none⟩) 2 2)
    (h : ∀ v' w', OwnB B (l ++ [c, d]) v' w' → (wr.alloc (.cells #[.int .u8 c.toNat, .int .u8 d.toNat] 5)).grownBy w' v.ownBlock → (v'.ownBlock = v.ownBlock ∨ v'.ownBlock = some (wr.heap.size + 1)) → wpList Tryz.prog ops Q rest (a.put o.dst v') w') : wpList Tryz.prog ops Q (o :: rest) a (wr.alloc (.cells #[.int .u8 c.toNat, .int .u8 d.toNat] 5)) := by
  obtain ⟨i0, hi, hz0, hz1, hz2⟩ := info_parts infoByte
  refine wpList_append_own_at _ hgd s x 60 ho B 5 i0 (.int .u8 0) 1 1 Tryz.underlying60 hi hz0 hz1 hz2 rfl (by decide) v l.length (Lib.byteCells l) hs (hown.alloc _) ⟨wr.heap.size, 0, none⟩ 2 2 [.int .u8 c.toNat, .int .u8 d.toNat] hx rfl ?_ (fun u hu => by simp at hu; rcases hu with rfl | rfl <;> rfl) (by unfold maxLen; omega) (by omega) (by simp; omega) (fun v' w' h1 h2 _ h4 => h v' w' ?_ h2 (h4.imp id (fun e => by rw [e]; simp)))
  · intro j u hj
    rw [addr_add, Nat.zero_add, Lib.cell_of_heap (heap_alloc_new wr _)]
    simpa using hj
  · unfold OwnB
    have e1 : (l ++ [c, d]).length = l.length + 2 := by simp
    have e2 : Lib.byteCells (l ++ [c, d]) = Lib.byteCells l ++ [.int .u8 c.toNat, .int .u8 d.toNat] := by simp [Lib.byteCells]
    rw [e1, e2]; exact h1

set_option maxHeartbeats 2000000 in
set_option maxRecDepth 100000 in
theorem appendRuneNon_two (l : List UInt8) (v : Value) (c : UInt8) (hc : 128 ≤ c.toNat) (w : World) (hown : OwnB 0 l v w) (hlen : l.length + 2 ≤ 140737488355328) :
    Calls Tryz.prog 142 #[v, .int .i32 c.toNat] w fun e w' => ∃ v', e = .returned v' ∧ OwnB 0 (l ++ [UInt8.ofNat (192 + c.toNat / 64), UInt8.ofNat (128 + c.toNat % 64)]) v' w' ∧ (∃ o, (w.alloc o).grownBy w' v.ownBlock) ∧ (v'.ownBlock = v.ownBlock ∨ v'.ownBlock = some (w.heap.size + 1)) := by
  have HOWN := Lib.hid hown
  have hct := c.toNat_lt
  have z : (c.toNat : Int) ≤ 2047 := by omega
  clear hown
  go_enter Tryz.func142, Tryz.ntmps142
  obtain ⟨x, hx⟩ : ∃ x, UInt8.ofNat (192 + c.toNat / 64) = x := ⟨_, rfl⟩
  obtain ⟨y, hy⟩ : ∃ y, UInt8.ofNat (128 + c.toNat % 64) = y := ⟨_, rfl⟩
  have e1 : (192 + (c.toNat : Int) / 64) = (x.toNat : Int) := by
    rw [← hx, UInt8.toNat_ofNat']
    omega
  have e2 : (128 + (c.toNat : Int) % 64) = (y.toNat : Int) := by
    rw [← hy, UInt8.toNat_ofNat']
    omega
  have E1 := Lib.hid e1; have E2 := Lib.hid e2
  rw [hx, hy]
  clear e1 e2 hx hy
  go_wp2_with (at_builtin; rw [E1.out, E2.out]; refine wpList_push_bytes2 rfl _ _ rfl 0 l _ x y w HOWN.out (Nat.zero_le _) ?c4 rfl rfl ?_)
  case c4 => omega
  intro v' w2 hown' hg hat
  have HO := Lib.hid hown'; have HG := Lib.hid hg; have HAT := Lib.hid hat
  clear hown' hg hat
  go_wp2
  go_ret
  exact ⟨v', rfl, HO.out, ⟨_, HG.out⟩, HAT.out⟩

set_option maxHeartbeats 2000000 in
set_option maxRecDepth 100000 in
theorem AppendRune_two (l : List UInt8) (v : Value) (c : UInt8) (hc : 128 ≤ c.toNat) (w : World) (hown : OwnB 0 l v w) (hlen : l.length + 2 ≤ 140737488355328) :
    Calls Tryz.prog 127 #[v, .int .i32 c.toNat] w fun e w' => ∃ v', e = .returned v' ∧ OwnB 0 (l ++ [UInt8.ofNat (192 + c.toNat / 64), UInt8.ofNat (128 + c.toNat % 64)]) v' w' ∧ (∃ o, (w.alloc o).grownBy w' v.ownBlock) ∧ (v'.ownBlock = v.ownBlock ∨ v'.ownBlock = some (w.heap.size + 1)) := by
  have HOWN := Lib.hid hown
  have hct := c.toNat_lt
  have z : ¬ (c.toNat : Int) ≤ 127 := by omega
  clear hown
  go_enter Tryz.func127, Tryz.ntmps127
  go_wp2_with fail
  refine (appendRuneNon_two l v c hc _ HOWN.out hlen).mono ?_
  rintro e w2 ⟨v', rfl, h1, h2, h3⟩
  have H1 := Lib.hid h1; have H2 := Lib.hid h2; have H3 := Lib.hid h3
  clear h1 h2 h3
  go_wp2
  go_ret
  exact ⟨v', rfl, H1.out, H2.out, H3.out⟩
end Go.Proofs.YtpoglombagmhmaaGreatDoor
/- strings.Builder.WriteRune (two bytes); convert, decode: on whatever the reference decodes: the walks. -/
namespace Go.Proofs.YtpoglombagmhmaaGreatDoor
open Go Go.RowKit

set_option maxHeartbeats 2000000 in
set_option maxRecDepth 100000 in
theorem WriteRune_two (b : Nat) (K : Nat → Prop) (l : List UInt8) (c : UInt8) (hc : 128 ≤ c.toNat) (w : World) (h : Bld b K l w) (hlen : l.length + 2 ≤ 140737488355328) :
    Calls Tryz.prog 111 #[.pointer (some ⟨b, 0, none⟩), .int .i32 c.toNat] w fun e w' => (∃ x, e = .returned x) ∧ Bld b K (l ++ [UInt8.ofNat (192 + c.toNat / 64), UInt8.ofNat (128 + c.toNat % 64)]) w' ∧ Fr K w w' := by
  have HBL := Lib.hid h
  clear h
  go_enter Tryz.func111, Tryz.ntmps111
  go_wp2_with fail
  refine (copyCheck_any b K l _ HBL.out).mono ?_
  rintro e w1 ⟨rfl, ⟨v, hbk, hown, hr, hne, hn, hs⟩, hf1⟩
  have c0 : w1.cell? ⟨b, 0, none⟩ = some (.pointer (some ⟨b, 0, none⟩)) := by rw [Lib.cell_of_heap hbk]; rfl
  have c1 : w1.cell? ⟨b, 1, none⟩ = some v := by rw [Lib.cell_of_heap hbk]; rfl
  have HK := Lib.hid hbk; have HO := Lib.hid hown; have HR := Lib.hid hr; have HNE := Lib.hid hne; have HNB := Lib.hid hn; have HS := Lib.hid hs; have HF1 := Lib.hid hf1
  obtain ⟨q, cc, rfl, _, _⟩ := OwnB.form (B := 0) (l := l) hown
  clear hbk hown hr hne hn hs hf1
  obtain ⟨X, hX⟩ : ∃ X, [UInt8.ofNat (192 + c.toNat / 64), UInt8.ofNat (128 + c.toNat % 64)] = X := ⟨_, rfl⟩
  have hXl : X.length = 2 := by rw [← hX]; rfl
  have HXX := Lib.hid hX
  clear hX
  go_wp2_with fail
  refine (AppendRune_two l _ c hc _ HO.out hlen).mono ?_
  rintro e w2 ⟨v', rfl, hown', ⟨o, hgrow⟩, hat⟩
  rw [HXX.out] at hown'
  have hlt : b < w1.heap.size := (Array.getElem?_eq_some_iff.1 HK.out).1
  have hbk' : (w1.alloc o).heap[b]? = some (.cells #[.pointer (some ⟨b, 0, none⟩), .slice q l.length cc] 110 (0, 0)) := by rw [Below.heap_alloc _ _ _ hlt]; exact HK.out
  have hb2 : w2.heap[b]? = some (.cells #[.pointer (some ⟨b, 0, none⟩), .slice q l.length cc] 110 (0, 0)) := by
    rw [hgrow.block b (by simp; omega) (fun e => HNE.out e.symm)]
    exact hbk'
  have hput := Used.put (K := K) (l' := l ++ X) hbk' HR.out HNE.out HNB.out (fun k hk => by have := HS.out k hk; simp; omega) hgrow hown' (by
    rcases hat with h | h
    · exact .inl h
    · exact .inr ⟨_, h, by simp⟩)
  have d0 : w2.cell? ⟨b, 0, none⟩ = some (.pointer (some ⟨b, 0, none⟩)) := by rw [Lib.cell_of_heap hb2]; rfl
  have d1 : w2.cell? ⟨b, 1, none⟩ = some (.slice q l.length cc) := by rw [Lib.cell_of_heap hb2]; rfl
  have f1 : w2.frozen? ⟨b, 1, none⟩ = false := Lib.frozen_of_heap hb2 1
  obtain ⟨q', cc', rfl, _, _⟩ := OwnB.form hown'
  have HPUT := Lib.hid hput
  have hb3 : (w2.setCell ⟨b, 1, none⟩ (.slice q' (l ++ X).length cc')).heap[b]? = some (.cells #[.pointer (some ⟨b, 0, none⟩), .slice q' (l ++ X).length cc'] 110 (0, 0)) := heap_setCell_row hb2
  have g1 : (w2.setCell ⟨b, 1, none⟩ (.slice q' (l ++ X).length cc')).cell? ⟨b, 1, none⟩ = some (.slice q' (l ++ X).length cc') := by rw [Lib.cell_of_heap hb3]; rfl
  clear hput hb3 hgrow hat hown' hb2 hbk'
  have hM : (l ++ X).length = l.length + 2 := by rw [List.length_append, hXl]
  rw [hM] at HPUT g1 ⊢
  clear hM hXl
  go_wp2
  go_ret2
  exact ⟨⟨_, rfl⟩, by rw [HXX.out]; exact HPUT.out.1, (HF1.out.alloc HS.out _).trans HPUT.out.2⟩

/-! convert -/
theorem eqFold_lower : ∀ (a cs : List UInt8), (∀ x ∈ a, ¬ (65 ≤ x.toNat ∧ x.toNat ≤ 90)) → Lib.equalFold a cs = decide (lowerL cs = a)
  | [], [], _ => rfl
  | [], y :: t, _ => by simp [Lib.equalFold, lowerL]
  | x :: s, [], _ => by simp [Lib.equalFold, lowerL]
  | x :: s, y :: t, h => by
    have ih := eqFold_lower s t (fun z hz => h z (by simp [hz]))
    have hx := h x (by simp)
    have hxl := x.toNat_lt; have hyl := y.toNat_lt
    have hf : Lib.foldEq x y = decide (lowB y = x) := by
      unfold Lib.foldEq
      rw [decide_eq_decide]
      unfold lowB
      split
      · rename_i hy
        constructor
        · intro hh
          apply UInt8.toNat_inj.1
          rw [UInt8.toNat_add]
          show (y.toNat + 32) % 256 = x.toNat
          omega
        · intro hh
          have : (y + 32).toNat = x.toNat := by rw [hh]
          rw [UInt8.toNat_add] at this
          have : (y.toNat + 32) % 256 = x.toNat := this
          omega
      · rename_i hy
        constructor
        · intro hh
          apply UInt8.toNat_inj.1
          omega
        · intro hh
          left; rw [hh]
    rw [Lib.equalFold, hf, ih]
    simp only [lowerL, List.map_cons, List.cons.injEq]
    by_cases h1 : lowB y = x <;> by_cases h2 : List.map lowB t = s <;> simp [h1, h2]
theorem lower_asc {cs a : List UInt8} (h : lowerL cs = a) (ha : ∀ x ∈ a, x.toNat < 128) : ∀ x ∈ cs, x.toNat < 128 := by
  intro x hx
  have h2 : lowB x ∈ a := by rw [← h]; exact List.mem_map_of_mem hx
  have h3 := ha _ h2
  unfold lowB at h3
  split at h3
  · omega
  · exact h3

theorem latin_le : ∀ c : List UInt8, (latin c).length ≤ 2 * c.length
  | [] => by simp [latin]
  | x :: t => by
    have := latin_le t
    have e : latin (x :: t) = (if x.toNat < 128 then [x] else [UInt8.ofNat (192 + x.toNat / 64), UInt8.ofNat (128 + x.toNat % 64)]) ++ latin t := by simp [latin]
    rw [e, List.length_append]
    split <;> simp <;> omega
theorem fold_call (a s : ByteArray) (ha : ∀ x ∈ a.data.toList, x.toNat < 128 ∧ ¬ (65 ≤ x.toNat ∧ x.toNat ≤ 90)) (hs : ∀ x ∈ s.data.toList, x.toNat < 128) (hz : a.size < 4294967281) (w : World) :
    Calls Tryz.prog 109 #[.string a, .string s] w fun e w' => e = .returned (.bool (decide (lowerL s.data.toList = a.data.toList))) ∧ w' = w := by
  refine (Tryz.strings_EqualFold a s w hz (fun j x h => (ha x (List.mem_of_getElem? h)).1) (fun j x h => hs x (List.mem_of_getElem? h))).mono ?_
  rintro e w' ⟨rfl, rfl⟩
  exact ⟨by rw [eqFold_lower _ _ (fun x hx => (ha x hx).2)], rfl⟩

def isoS : List UInt8 := [105, 115, 111, 45, 56, 56, 53, 57, 45, 49]
def ascS : List UInt8 := [117, 115, 45, 97, 115, 99, 105, 105]
set_option maxHeartbeats 2000000 in
set_option maxRecDepth 100000 in
theorem convert_gen (d : Value) (b : Nat) (K : Nat → Prop) (l c t : List UInt8) (cs : ByteArray) (g cap : Nat) (w : World) (h : Bld b K l w) (hg : K g) (hc : ∀ j x, c[j]? = some x → w.cell? ⟨g, 0 + j, none⟩ = some (.int .u8 x.toNat)) (ht : textC cs.data.toList c = some t) (hlen : l.length + 2 * c.length + 4 ≤ 140737488355328) :
    Calls Tryz.prog 98 #[d, .pointer (some ⟨b, 0, none⟩), .string cs, .slice (some ⟨g, 0, none⟩) c.length cap] w fun x w' => x = .returned .nilIface ∧ Bld b K (l ++ t) w' ∧ Fr K w w' := by
  have HC := Lib.hid hc
  have HB := Lib.hid h
  unfold textC at ht
  by_cases h1 : lowerL cs.data.toList = [117, 116, 102, 45, 56]
  · rw [if_pos h1] at ht
    split at ht
    · cases ht
      have hqb : ∀ j u, (Lib.byteCells c)[j]? = some u → w.cell? ((⟨g, 0, none⟩ : Addr).add j) = some u := by
        intro j u hu
        rw [addr_add]
        simp only [Lib.byteCells, List.getElem?_map] at hu
        cases hx : c[j]? with
        | none => rw [hx] at hu; cases hu
        | some x => rw [hx] at hu; simp only [Option.map_some, Option.some.injEq] at hu; subst hu; exact HC.out j x hx
      have HQ := Lib.hid hqb
      have hasc := lower_asc h1 (by decide)
      have hd : decide (lowerL cs.data.toList = (⟨#[117, 116, 102, 45, 56]⟩ : ByteArray).data.toList) = true := decide_eq_true h1
      have HD := Lib.hid hd
      have HA := Lib.hid hasc
      clear hqb hc h h1 hasc hd
      go_enter Tryz.func98, Tryz.ntmps98
      go_wp2_with fail
      refine (fold_call ⟨#[117, 116, 102, 45, 56]⟩ cs (by decide) HA.out (by decide) _).mono ?_
      rintro e w1 ⟨rfl, rfl⟩
      rw [HD.out]
      go_wp2_with fail
      refine (Write_any b K l c ⟨g, 0, none⟩ cap _ HB.out hg HQ.out (by omega)).mono ?_
      rintro x w2 ⟨rfl, hB2, hF2⟩
      go_wp2
      go_ret
      exact ⟨rfl, hB2, hF2⟩
    · cases ht
  · rw [if_neg h1] at ht
    have hd1 : decide (lowerL cs.data.toList = (⟨#[117, 116, 102, 45, 56]⟩ : ByteArray).data.toList) = false := decide_eq_false h1
    have HD1 := Lib.hid hd1
    by_cases h2 : lowerL cs.data.toList = isoS
    · have h2' : lowerL cs.data.toList = [105, 115, 111, 45, 56, 56, 53, 57, 45, 49] := h2
      rw [if_pos h2'] at ht
      cases ht
      have HA := Lib.hid (lower_asc h2 (by decide))
      have HD2 := Lib.hid (show decide (lowerL cs.data.toList = (⟨#[105, 115, 111, 45, 56, 56, 53, 57, 45, 49]⟩ : ByteArray).data.toList) = true from decide_eq_true h2)
      clear hc h h1 h2 h2' hd1
      go_enter Tryz.func98, Tryz.ntmps98
      go_wp2_with fail
      refine (fold_call ⟨#[117, 116, 102, 45, 56]⟩ cs (by decide) HA.out (by decide) _).mono ?_
      rintro e w1 ⟨rfl, rfl⟩
      rw [HD1.out]
      go_wp2_with fail
      refine (fold_call ⟨#[105, 115, 111, 45, 56, 56, 53, 57, 45, 49]⟩ cs (by decide) HA.out (by decide) _).mono ?_
      rintro e w1 ⟨rfl, rfl⟩
      rw [HD2.out]
      go_wp2
      go_loopw [58] (fun i wr => ∃ k : Nat, i = .int .i64 k ∧ k ≤ c.length ∧ Bld b K (l ++ latin (c.take k)) wr ∧ Fr K w1 wr) (fun i _ => c.length - (intOf i).toNat)
      case atStart => exact ⟨0, rfl, Nat.zero_le _, by simpa [latin] using HB.out, Fr.refl _ _⟩
      case round =>
        obtain ⟨k, rfl, hk, hb, hf⟩ := hrel
        have hll : (latin (c.take k)).length ≤ 2 * k := by
          have e1 := latin_le (c.take k)
          rw [List.length_take] at e1; omega
        have HBR := Lib.hid hb; have HFR := Lib.hid hf
        by_cases hlt : k < c.length
        · have z0 : (k : Int) < (c.length : Int) := by omega
          obtain ⟨x, hx⟩ : ∃ x, c[k]? = some x := ⟨_, List.getElem?_eq_getElem hlt⟩
          have hcel : wr.cell? ⟨g, k, none⟩ = some (.int .u8 x.toNat) := by
            have := HC.out k x hx
            rw [Nat.zero_add] at this
            rw [hf.cell (p := ⟨g, k, none⟩) hg]; exact this
          have hxl := x.toNat_lt
          have HSN := Lib.hid (latin_snoc c k x hx)
          clear hb hf hx
          by_cases ha : x.toNat < 128
          · have HL := Lib.hid (show latin (c.take (k + 1)) = latin (c.take k) ++ [x] by rw [HSN.out, if_pos ha])
            go_wp2_with fail
            refine (WriteRune_ascii b K _ x ha _ HBR.out (by rw [List.length_append]; omega)).mono ?_
            rintro y w2 ⟨⟨y, rfl⟩, hb2, hf2⟩
            have HB2 := Lib.hid hb2; have HF2 := Lib.hid (HFR.out.trans hf2)
            clear hb2 hf2
            go_wp2
            go_roundw
            case rel => exact ⟨k + 1, by go_num, by omega, by rw [HL.out, ← List.append_assoc]; exact HB2.out, HF2.out⟩
            case measure => simp [intOf]; omega
          · have HL := Lib.hid (show latin (c.take (k + 1)) = latin (c.take k) ++ [UInt8.ofNat (192 + x.toNat / 64), UInt8.ofNat (128 + x.toNat % 64)] by rw [HSN.out, if_neg ha])
            go_wp2_with fail
            refine (WriteRune_two b K _ x (by omega) _ HBR.out (by rw [List.length_append]; omega)).mono ?_
            rintro y w2 ⟨⟨y, rfl⟩, hb2, hf2⟩
            have HB2 := Lib.hid hb2; have HF2 := Lib.hid (HFR.out.trans hf2)
            clear hb2 hf2
            go_wp2
            go_roundw
            case rel => exact ⟨k + 1, by go_num, by omega, by rw [HL.out, ← List.append_assoc]; exact HB2.out, HF2.out⟩
            case measure => simp [intOf]; omega
        · have z0 : ¬ (k : Int) < (c.length : Int) := by omega
          have hall : c.take k = c := List.take_of_length_le (by omega)
          rw [hall] at HBR
          clear hb hf hall
          go_wp2
          go_ret
          exact ⟨rfl, HBR.out, HFR.out⟩
    · have h2' : ¬ lowerL cs.data.toList = [105, 115, 111, 45, 56, 56, 53, 57, 45, 49] := h2
      rw [if_neg h2'] at ht
      have HD2 := Lib.hid (show decide (lowerL cs.data.toList = (⟨#[105, 115, 111, 45, 56, 56, 53, 57, 45, 49]⟩ : ByteArray).data.toList) = false from decide_eq_false h2)
      by_cases h3 : lowerL cs.data.toList = ascS
      · have h3' : lowerL cs.data.toList = [117, 115, 45, 97, 115, 99, 105, 105] := h3
        rw [if_pos h3'] at ht
        split at ht
        · rename_i hall8
          cases ht
          have HALL := Lib.hid hall8
          have HA := Lib.hid (lower_asc h3 (by decide))
          have HD3 := Lib.hid (show decide (lowerL cs.data.toList = (⟨#[117, 115, 45, 97, 115, 99, 105, 105]⟩ : ByteArray).data.toList) = true from decide_eq_true h3)
          clear hc h h1 h2 h2' hd1 h3 h3' hall8
          go_enter Tryz.func98, Tryz.ntmps98
          go_wp2_with fail
          refine (fold_call ⟨#[117, 116, 102, 45, 56]⟩ cs (by decide) HA.out (by decide) _).mono ?_
          rintro e w1 ⟨rfl, rfl⟩
          rw [HD1.out]
          go_wp2_with fail
          refine (fold_call ⟨#[105, 115, 111, 45, 56, 56, 53, 57, 45, 49]⟩ cs (by decide) HA.out (by decide) _).mono ?_
          rintro e w1 ⟨rfl, rfl⟩
          rw [HD2.out]
          go_wp2_with fail
          refine (fold_call ⟨#[117, 115, 45, 97, 115, 99, 105, 105]⟩ cs (by decide) HA.out (by decide) _).mono ?_
          rintro e w1 ⟨rfl, rfl⟩
          rw [HD3.out]
          go_wp2
          go_loopw [72] (fun i wr => ∃ k : Nat, i = .int .i64 k ∧ k ≤ c.length ∧ Bld b K (l ++ c.take k) wr ∧ Fr K w1 wr) (fun i _ => c.length - (intOf i).toNat)
          case atStart => exact ⟨0, rfl, Nat.zero_le _, by simpa using HB.out, Fr.refl _ _⟩
          case round =>
            obtain ⟨k, rfl, hk, hb, hf⟩ := hrel
            have hll : (c.take k).length ≤ k := by rw [List.length_take]; omega
            have HBR := Lib.hid hb; have HFR := Lib.hid hf
            by_cases hlt : k < c.length
            · have z0 : (k : Int) < (c.length : Int) := by omega
              obtain ⟨x, hx⟩ : ∃ x, c[k]? = some x := ⟨_, List.getElem?_eq_getElem hlt⟩
              have hcel : wr.cell? ⟨g, k, none⟩ = some (.int .u8 x.toNat) := by
                have := HC.out k x hx
                rw [Nat.zero_add] at this
                rw [hf.cell (p := ⟨g, k, none⟩) hg]; exact this
              have hx8 : x.toNat < 128 := of_decide_eq_true (List.all_eq_true.1 HALL.out x (List.mem_of_getElem? hx))
              have z1 : ¬ (128 : Int) ≤ (x.toNat : Int) := by omega
              have HSN := Lib.hid (show c.take (k + 1) = c.take k ++ [x] by rw [List.take_add_one, hx]; rfl)
              clear hb hf hx
              go_wp2_with fail
              refine (WriteByte_any b K _ x _ HBR.out (by rw [List.length_append]; omega)).mono ?_
              rintro y w2 ⟨rfl, hb2, hf2⟩
              have HB2 := Lib.hid hb2; have HF2 := Lib.hid (HFR.out.trans hf2)
              clear hb2 hf2
              go_wp2
              go_roundw
              case rel => exact ⟨k + 1, by go_num, by omega, by rw [HSN.out, ← List.append_assoc]; exact HB2.out, HF2.out⟩
              case measure => simp [intOf]; omega
            · have z0 : ¬ (k : Int) < (c.length : Int) := by omega
              have hall : c.take k = c := List.take_of_length_le (by omega)
              rw [hall] at HBR
              clear hb hf hall
              go_wp2
              go_ret
              exact ⟨rfl, HBR.out, HFR.out⟩
        · cases ht
      · have h3' : ¬ lowerL cs.data.toList = [117, 115, 45, 97, 115, 99, 105, 105] := h3
        rw [if_neg h3'] at ht
        cases ht
end Go.Proofs.YtpoglombagmhmaaGreatDoor
/- base64 is canonical as the reference reads it; decode on whatever the reference decodes: the walk. -/
namespace Go.Proofs.YtpoglombagmhmaaGreatDoor
open Go Go.RowKit

theorem sgn_digZ {a : UInt8} (h : padB a = false) : sgn (digZ a) = a := by
  unfold padB at h
  have h1 : aIdx a.toNat < 64 := by
    rw [Bool.not_eq_false'] at h
    exact of_decide_eq_true h
  unfold digZ sgn
  rw [if_pos h1, alpha_aIdx _ h1, UInt8.ofNat_toNat]
theorem ofNat_toN {n : Nat} (h : n < 256) : (UInt8.ofNat n).toNat = n := by rw [UInt8.toNat_ofNat']; omega
theorem group_canon {a b c d : UInt8} {last : Bool} {g : List UInt8} (h : groupL [a, b, c, d] last = some g) : b64 g = [a, b, c, d] ∧ (last = false → g.length = 3) := by
  unfold groupL at h
  split at h
  · rename_i hok
    split at h
    · rename_i hz
      cases h
      simp only [okAll, Bool.and_true, Bool.and_eq_true] at hok
      obtain ⟨h0, h1, h2, h3⟩ := hok
      have pa : padB a = false := by
        cases hp : padB a with
        | false => rfl
        | true => unfold okSign at h0; rw [hp] at h0; simp at h0
      have pb : padB b = false := by
        cases hp : padB b with
        | false => rfl
        | true => unfold okSign at h1; rw [hp] at h1; simp at h1
      have la := digZ_lt a; have lb := digZ_lt b; have lc := digZ_lt c; have ld := digZ_lt d
      have sa := sgn_digZ pa; have sb := sgn_digZ pb
      have hX : foldX [a, b, c, d] = ((digZ a * 64 + digZ b) * 64 + digZ c) * 64 + digZ d := by simp [foldX]
      rw [hX] at hz ⊢
      cases pc : padB c with
      | false =>
        have sc := sgn_digZ pc
        cases pd : padB d with
        | false =>
          have sd := sgn_digZ pd
          have hp : pads [a, b, c, d] = 0 := by simp [pads, pa, pb, pc, pd]
          rw [hp]
          obtain ⟨X, hXX⟩ : ∃ X, ((digZ a * 64 + digZ b) * 64 + digZ c) * 64 + digZ d = X := ⟨_, rfl⟩
          rw [hXX]
          refine ⟨?_, fun _ => rfl⟩
          show b64 [UInt8.ofNat (X / 2 ^ 16), UInt8.ofNat (X / 2 ^ 8), UInt8.ofNat (X / 2 ^ 0)] = _
          have t1 : (UInt8.ofNat (X / 2 ^ 16)).toNat = X / 65536 := ofNat_toN (by omega)
          have t2 : (UInt8.ofNat (X / 2 ^ 8)).toNat = X / 256 % 256 := by rw [UInt8.toNat_ofNat']
          have t3 : (UInt8.ofNat (X / 2 ^ 0)).toNat = X % 256 := by rw [UInt8.toNat_ofNat']; omega
          simp only [b64, t1, t2, t3]
          rw [show X / 65536 / 4 = digZ a by omega, show X / 65536 % 4 * 16 + X / 256 % 256 / 16 = digZ b by omega, show X / 256 % 256 % 16 * 4 + X % 256 / 64 = digZ c by omega, show X % 256 % 64 = digZ d by omega, sa, sb, sc, sd]
        | true =>
          unfold okSign at h3
          rw [pd] at h3
          simp only [Bool.not_true, Bool.false_or, Bool.and_eq_true, beq_iff_eq] at h3
          obtain ⟨⟨⟨rfl, hl⟩, _⟩, _⟩ := h3
          have hp : pads [a, b, c, 61] = 1 := by simp [pads, pa, pb, pc, pd]
          have z61 : digZ 61 = 0 := by decide
          rw [hp] at hz ⊢
          rw [z61] at hz ⊢
          obtain ⟨X, hXX⟩ : ∃ X, ((digZ a * 64 + digZ b) * 64 + digZ c) * 64 + 0 = X := ⟨_, rfl⟩
          rw [hXX] at hz ⊢
          have hz' : X % 256 = 0 := hz
          refine ⟨?_, fun e => by rw [hl] at e; cases e⟩
          show b64 [UInt8.ofNat (X / 2 ^ 16), UInt8.ofNat (X / 2 ^ 8)] = _
          have t1 : (UInt8.ofNat (X / 2 ^ 16)).toNat = X / 65536 := ofNat_toN (by omega)
          have t2 : (UInt8.ofNat (X / 2 ^ 8)).toNat = X / 256 % 256 := by rw [UInt8.toNat_ofNat']
          simp only [b64, t1, t2]
          rw [show X / 65536 / 4 = digZ a by omega, show X / 65536 % 4 * 16 + X / 256 % 256 / 16 = digZ b by omega, show X / 256 % 256 % 16 * 4 = digZ c by omega, sa, sb, sc]
      | true =>
        unfold okSign at h2
        rw [pc] at h2
        simp only [Bool.not_true, Bool.false_or, Bool.and_eq_true, beq_iff_eq, ne_eq, not_true_eq_false, decide_false, List.getD_cons_succ, List.getD_cons_zero] at h2
        obtain ⟨⟨⟨rfl, hl⟩, _⟩, rfl⟩ := h2
        have pd : padB 61 = true := by decide
        have hp : pads [a, b, 61, 61] = 2 := by simp [pads, pa, pb, pd]
        have z61 : digZ 61 = 0 := by decide
        rw [hp] at hz ⊢
        rw [z61] at hz ⊢
        obtain ⟨X, hXX⟩ : ∃ X, ((digZ a * 64 + digZ b) * 64 + 0) * 64 + 0 = X := ⟨_, rfl⟩
        rw [hXX] at hz ⊢
        have hz' : X % 65536 = 0 := hz
        refine ⟨?_, fun e => by rw [hl] at e; cases e⟩
        show b64 [UInt8.ofNat (X / 2 ^ 16)] = _
        have t1 : (UInt8.ofNat (X / 2 ^ 16)).toNat = X / 65536 := ofNat_toN (by omega)
        simp only [b64, t1]
        rw [show X / 65536 / 4 = digZ a by omega, show X / 65536 % 4 * 16 = digZ b by omega, sa, sb]
    · cases h
  · cases h
theorem b64_three_app : ∀ (g r : List UInt8), g.length = 3 → b64 (g ++ r) = b64 g ++ b64 r
  | [x, y, z], r, _ => by simp [b64]
theorem unbG_canon : ∀ (n : Nat) (t c : List UInt8), t.length ≤ n → t.length % 4 = 0 → unbG t = some c → t = b64 c
  | _, [], c, _, _, h => by rw [unbG] at h; cases h; rfl; simp
  | _, [_], _, _, h, _ => by simp at h
  | _, [_, _], _, _, h, _ => by simp at h
  | _, [_, _, _], _, _, h, _ => by simp at h
  | 0, _ :: _ :: _ :: _ :: _, _, h, _, _ => by simp at h
  | n + 1, a :: b :: x :: d :: t, c, hn, h4, h => by
    rw [unbG] at h
    cases hg : groupL [a, b, x, d] t.isEmpty with
    | none => rw [hg] at h; cases h
    | some g =>
      rw [hg] at h
      simp only at h
      obtain ⟨h1, h2⟩ := group_canon hg
      cases hu : unbG t with
      | none => rw [hu] at h; cases h
      | some c' =>
        rw [hu] at h
        simp only [Option.map_some, Option.some.injEq] at h
        have ih := unbG_canon n t c' (by simp at hn; omega) (by simp at h4; omega) hu
        rw [← h]
        cases t with
        | nil =>
          have : c' = [] := by rw [unbG] at hu; cases hu; rfl; simp
          rw [this, List.append_nil, h1]
        | cons y r =>
          rw [b64_three_app g c' (h2 rfl), h1, ← ih]; rfl
theorem unb_canon {t c : List UInt8} (h : unbL t = some c) : t = b64 c := by
  unfold unbL at h
  split at h
  · rename_i h4
    exact unbG_canon _ t c (Nat.le_refl _) h4 h
  · cases h

/-- decode, by Q or B. -/
theorem decode_gen (m : UInt8) (s : ByteArray) (c : List UInt8) (hs : bytesC [m] s.data.toList true = some c) (h0 : s.data.toList ≠ []) (hlen : s.size ≤ 4096) (w : World) :
    Calls Tryz.prog 97 #[.int .u8 m.toNat, .string s] w fun x w' => ∃ g cap l, x = .returned (.tuple #[.slice (some ⟨g, 0, none⟩) c.length cap, .nilIface]) ∧ w.heap.size ≤ g ∧ c.length ≤ cap ∧ Row g l w' ∧ l.take c.length = c ∧ Below w.heap.size w w' := by
  have hsl : s.data.toList.length = s.size := Array.length_toList
  have HSL := Lib.hid hsl
  clear hsl
  unfold bytesC at hs
  split at hs
  · rename_i hm
    have HS := Lib.hid hs
    clear hs h0
    have : m = 81 ∨ m = 113 := by
      rcases hm with h | h
      · exact .inl (by injection h)
      · exact .inr (by injection h)
    rcases this with rfl | rfl
    all_goals
      go_enter Tryz.func97, Tryz.ntmps97
      go_wp2_with fail
      refine (qDecode_gen true s c HS.out (by omega) _).mono ?_
      rintro x w1 ⟨g, cap, l, rfl, h1, h2, h3, h4, h5⟩
      go_wp2
      go_ret2
      exact ⟨g, cap, l, rfl, h1, h2, h3, h4, h5⟩
  · split at hs
    · rename_i hm
      have hb := unb_canon hs
      have hc0 : c ≠ [] := fun e => h0 (by rw [hb, e]; rfl)
      have hcl : c.length ≤ 4096 := by
        have := b64_length c
        rw [← hb, HSL.out] at this
        omega
      have HB := Lib.hid hb; have HC0 := Lib.hid hc0
      clear hs h0 hb hc0
      have : m = 66 ∨ m = 98 := by
        rcases hm with h | h
        · exact .inl (by injection h)
        · exact .inr (by injection h)
      rcases this with rfl | rfl
      all_goals
        go_enter Tryz.func97, Tryz.ntmps97
        go_wp2_with fail
        refine (stdEncoding_any _).mono ?_
        rintro x w1 ⟨rfl, hE1, hb1⟩
        go_wp2_with fail
        refine (DecodeString_b64 _ s c HB.out HC0.out hcl _ hE1).mono ?_
        rintro x w2 ⟨g, cap, l, rfl, h1, h2, h3, h4, h5⟩
        have hz := hb1.size
        go_wp2
        go_ret2
        exact ⟨g, cap, l, rfl, Nat.le_trans hz h1, h2, h3, h4, hb1.trans (h5.mono hz)⟩
    · cases hs
end Go.Proofs.YtpoglombagmhmaaGreatDoor
/- gomime.zzCount, zzCut, at the sign '?': the walks. -/
namespace Go.Proofs.YtpoglombagmhmaaGreatDoor
open Go Go.RowKit

def cntQ (l : List UInt8) : Nat := (l.filter (fun c => c == 63)).length
theorem cntQ_snoc (l : List UInt8) (c : UInt8) : cntQ (l ++ [c]) = cntQ l + (if c = 63 then 1 else 0) := by
  unfold cntQ
  rw [List.filter_append, List.length_append]
  by_cases h : c = 63 <;> simp [h]
theorem cntQ_le (l : List UInt8) : cntQ l ≤ l.length := List.length_filter_le _ _

set_option maxHeartbeats 2000000 in
set_option maxRecDepth 100000 in
theorem zzCount_any (s : ByteArray) (w : World) (hs : s.size ≤ 140737488355328) :
    Calls Tryz.prog 95 #[.string s, .string ⟨#[63]⟩] w fun x w' => x = .returned (.int .i64 (cntQ s.data.toList)) ∧ w' = w := by
  have hsl : s.data.toList.length = s.size := Array.length_toList
  have HSL := Lib.hid hsl
  clear hsl
  go_enter Tryz.func95, Tryz.ntmps95
  go_wp2
  go_loopw [5, 6] (fun n i wr => wr = w ∧ ∃ k : Nat, i = .int .i64 k ∧ n = .int .i64 (cntQ (s.data.toList.take k)) ∧ k ≤ s.size) (fun _ i _ => s.size - (intOf i).toNat)
  case atStart => exact ⟨rfl, 0, rfl, rfl, Nat.zero_le _⟩
  case round =>
    obtain ⟨rfl, k, rfl, rfl, hk⟩ := hrel
    have hcl : cntQ (s.data.toList.take k) ≤ k := by
      have := cntQ_le (s.data.toList.take k)
      rw [List.length_take] at this; omega
    by_cases hlt : k < s.size
    · have z0 : (k : Int) + 1 ≤ (s.size : Int) := by omega
      obtain ⟨c, hc⟩ : ∃ c, s[k] = c := ⟨_, rfl⟩
      have hsn := take_snoc s k hlt
      have hex : (s.extract k (k + 1)).toList = [c] := by
        rw [ByteArray.toList_eq, extract_list, List.drop_eq_getElem_cons (by rw [HSL.out]; exact hlt), ← hc]; rfl
      rw [hc] at hsn
      have HSN := Lib.hid hsn; have HEX := Lib.hid hex
      clear hsn hex hc
      obtain ⟨X, hX⟩ : ∃ X, s.extract k (k + 1) = X := ⟨_, rfl⟩
      rw [hX] at HEX
      by_cases h63 : c = 63
      · have z1 : (X.toList == [63]) = true := by rw [HEX.out, h63]; decide
        have HC := Lib.hid (show cntQ (s.data.toList.take (k + 1)) = cntQ (s.data.toList.take k) + 1 by rw [HSN.out, cntQ_snoc, if_pos h63])
        clear h63
        go_wp2
        go_roundw
        case rel => exact ⟨by first | trivial | rfl, k + 1, by go_num, by rw [HC.out]; go_num, by omega⟩
        case measure => simp [intOf]; omega
      · have z1 : (X.toList == [63]) = false := by
          rw [HEX.out, beq_eq_false_iff_ne]
          intro e
          apply h63
          simpa using e
        have HC := Lib.hid (show cntQ (s.data.toList.take (k + 1)) = cntQ (s.data.toList.take k) by rw [HSN.out, cntQ_snoc, if_neg h63, Nat.add_zero])
        clear h63
        go_wp2
        go_roundw
        case rel => exact ⟨by first | trivial | rfl, k + 1, by go_num, by rw [HC.out], by omega⟩
        case measure => simp [intOf]; omega
    · have z0 : ¬ (k : Int) + 1 ≤ (s.size : Int) := by omega
      have hall : s.data.toList.take k = s.data.toList := List.take_of_length_le (by rw [HSL.out]; omega)
      rw [hall]
      clear hall
      go_wp2
      go_ret
      exact ⟨rfl, by first | trivial | rfl⟩
theorem bytes_eq6 {a b : ByteArray} (h : a.data.toList = b.data.toList) : a = b := by rw [← bs_of a, ← bs_of b, h]
theorem first_q {X Y : List UInt8} {r : Int} (h : FirstAt [63] (X ++ 63 :: Y) r) (hX : ∀ x ∈ X, x ≠ 63) : r = X.length := by
  rcases h with ⟨k, rfl, h1, h2, h3⟩ | ⟨_, h3⟩
  · have hk : k = X.length := by
      rcases Nat.lt_trichotomy k X.length with h | h | h
      · exfalso
        unfold Hit at h2
        rw [List.drop_append_of_le_length (by omega), List.drop_eq_getElem_cons h] at h2
        simp only [List.length_singleton, List.cons_append, List.take_succ_cons, List.take_zero, List.cons.injEq, and_true] at h2
        exact hX _ (List.getElem_mem h) h2
      · exact h
      · exact absurd (by unfold Hit; rw [List.drop_left]; rfl) (h3 X.length h)
    rw [hk]
  · exact absurd (by unfold Hit; rw [List.drop_left]; rfl) (h3 X.length (by simp))
theorem zzCut_q (s a b : ByteArray) (w : World) (hs : s.size ≤ 140737488355328) (hd : s.data.toList = a.data.toList ++ 63 :: b.data.toList) (ha : ∀ x ∈ a.data.toList, x ≠ 63) :
    Calls Tryz.prog 96 #[.string s, .string ⟨#[63]⟩] w fun x w' => x = .returned (.tuple #[.string a, .string b, .bool true]) ∧ ∃ q, w' = w.drewN q := by
  have hal : a.data.toList.length = a.size := Array.length_toList
  have hbl : b.data.toList.length = b.size := Array.length_toList
  have hsz : s.size = a.size + 1 + b.size := by
    have := congrArg List.length hd
    rw [Array.length_toList, List.length_append, List.length_cons, hal, hbl] at this
    show s.data.size = _
    omega
  have e1 : s.extract 0 a.size = a := bytes_eq6 (by
    have := extract_list s 0 a.size
    rw [Nat.zero_add] at this
    rw [this, hd, List.drop_zero, ← hal, List.take_left])
  have e2 : s.extract (a.size + 1) s.size = b := bytes_eq6 (by
    have h2 := extract_list s (a.size + 1) b.size
    rw [show a.size + 1 + b.size = s.size by omega] at h2
    rw [h2, hd, show a.size + 1 = (a.data.toList ++ [63]).length by simp [hal], show a.data.toList ++ 63 :: b.data.toList = (a.data.toList ++ [63]) ++ b.data.toList by simp, List.drop_left, ← hbl, List.take_length])
  have HFA := Lib.hid (fun r (h : FirstAt [63] s.data.toList r) => first_q (X := a.data.toList) (Y := b.data.toList) (r := r) (by rw [← hd]; exact h) ha)
  have HAL := Lib.hid hal; have HSZ := Lib.hid hsz
  clear hd ha hal hbl hsz
  go_enter Tryz.func96, Tryz.ntmps96
  go_wp2_with fail
  refine (zzIndex_any s ⟨#[63]⟩ _ hs (by decide)).mono ?_
  rintro x w1 ⟨⟨r, rfl, hf⟩, rfl⟩
  have hr := HFA.out r hf
  rw [HAL.out] at hr
  subst hr
  clear hf
  have z0 : (0 : Int) ≤ (a.size : Int) := by omega
  have z1 : (a.size : Int) ≤ (s.size : Int) := by have := HSZ.out; omega
  have z2 : (a.size : Int) + 1 ≤ (s.size : Int) := by have := HSZ.out; omega
  go_upto_region 3 with fail
  go_wp2_with fail
  go_big_quiet (fail)
  go_wp2
  go_ret3
  exact ⟨rfl, _, rfl⟩
end Go.Proofs.YtpoglombagmhmaaGreatDoor
/- gomime.WordDecoder.Decode: on a word that is no encoded word, and on one that the reference decodes: the walks. -/
namespace Go.Proofs.YtpoglombagmhmaaGreatDoor
open Go Go.RowKit

theorem splitQ_first : ∀ (l p : List UInt8) (ps : List (List UInt8)), splitQ l = p :: ps → (∀ c ∈ p, c ≠ 63) ∧ ((ps = [] ∧ l = p) ∨ ∃ r, l = p ++ 63 :: r ∧ splitQ r = ps)
  | [], p, ps, h => by
    rw [splitQ] at h
    cases h
    exact ⟨by simp, .inl ⟨rfl, rfl⟩⟩
  | c :: t, p, ps, h => by
    rw [splitQ] at h
    by_cases hc : c = 63
    · rw [if_pos hc] at h
      cases h
      exact ⟨by simp, .inr ⟨t, by rw [hc]; rfl, rfl⟩⟩
    · rw [if_neg hc] at h
      cases hs : splitQ t with
      | nil => exact absurd hs (splitQ_ne t)
      | cons q qs =>
        rw [hs] at h
        simp only [List.headD_cons, List.tail_cons, List.cons.injEq] at h
        obtain ⟨rfl, rfl⟩ := h
        obtain ⟨h1, h2⟩ := splitQ_first t q qs hs
        refine ⟨fun d hd => ?_, ?_⟩
        · rcases List.mem_cons.1 hd with rfl | hd
          · exact hc
          · exact h1 d hd
        · rcases h2 with ⟨h2, h3⟩ | ⟨r, h2, h3⟩
          · exact .inl ⟨h2, by rw [h3]⟩
          · exact .inr ⟨r, by rw [h2]; rfl, h3⟩
theorem splitQ_three {l a m b : List UInt8} (h : splitQ l = [a, m, b]) : l = a ++ 63 :: (m ++ 63 :: b) ∧ (∀ c ∈ a, c ≠ 63) ∧ (∀ c ∈ m, c ≠ 63) ∧ (∀ c ∈ b, c ≠ 63) := by
  obtain ⟨h1, h2⟩ := splitQ_first l a _ h
  rcases h2 with ⟨h2, _⟩ | ⟨r, h2, h3⟩
  · cases h2
  · obtain ⟨h4, h5⟩ := splitQ_first r m _ h3
    rcases h5 with ⟨h5, _⟩ | ⟨r2, h5, h6⟩
    · cases h5
    · obtain ⟨h7, h8⟩ := splitQ_first r2 b _ h6
      rcases h8 with ⟨_, h8⟩ | ⟨r3, _, h8⟩
      · exact ⟨by rw [h2, h5, h8], h1, h4, h7⟩
      · exact absurd h8 (splitQ_ne r3)
theorem cntQ_app (a b : List UInt8) : cntQ (a ++ b) = cntQ a + cntQ b := by unfold cntQ; rw [List.filter_append, List.length_append]
theorem cntQ_no {a : List UInt8} (h : ∀ c ∈ a, c ≠ 63) : cntQ a = 0 := by
  unfold cntQ
  rw [List.filter_eq_nil_iff.2 (fun c hc => by simp [h c hc])]; rfl
/-- What a word that the reference decodes is made of. -/
theorem decoded_parts {s t : List UInt8} (h : decodedL s true = some t) : ∃ (a b c : List UInt8) (m : UInt8), s = [61, 63] ++ (a ++ 63 :: ([m] ++ 63 :: b)) ++ [63, 61] ∧ (∀ x ∈ a, x ≠ 63) ∧ m ≠ 63 ∧ a ≠ [] ∧ b ≠ [] ∧ bytesC [m] b true = some c ∧ textC a c = some t ∧ cntQ s = 4 ∧ 8 ≤ s.length ∧ s.length ≤ 75 := by
  unfold decodedL at h
  split at h
  · cases h
  · rename_i hn
    have hl1 : 8 ≤ s.length := Nat.le_of_not_lt (fun e => hn (.inl e))
    have hl2 : s.length ≤ 75 := Nat.le_of_not_lt (fun e => hn (.inr (.inl e)))
    have ht : s.take 2 = [61, 63] := Classical.not_not.1 (fun e => hn (.inr (.inr (.inl e))))
    have hd : s.drop (s.length - 2) = [63, 61] := Classical.not_not.1 (fun e => hn (.inr (.inr (.inr e))))
    unfold partsC at h
    split at h
    · rename_i a m b hsp
      split at h
      · cases h
      · rename_i hb
        obtain ⟨c, hc, hcs⟩ := Option.bind_eq_some_iff.1 h
        obtain ⟨hmid, ha, hm, hbq⟩ := splitQ_three hsp
        have hm1 : ∃ x, m = [x] := by
          unfold bytesC at hc
          split at hc
          · rename_i h; rcases h with h | h <;> exact ⟨_, h⟩
          · split at hc
            · rename_i h; rcases h with h | h <;> exact ⟨_, h⟩
            · cases hc
        obtain ⟨x, rfl⟩ := hm1
        have hs : s = [61, 63] ++ (a ++ 63 :: ([x] ++ 63 :: b)) ++ [63, 61] := by
          have e1 : s.take (s.length - 2) ++ [63, 61] = s := by rw [← hd]; exact List.take_append_drop _ _
          have e2 : [61, 63] ++ (s.take (s.length - 2)).drop 2 = s.take (s.length - 2) := by
            have e3 : (s.take (s.length - 2)).take 2 = [61, 63] := by rw [List.take_take, Nat.min_eq_left (by omega)]; exact ht
            rw [← e3]; exact List.take_append_drop _ _
          rw [← hmid, e2, e1]
        refine ⟨a, b, c, x, hs, ha, hm x (by simp), ?_, hb, hc, hcs, ?_, hl1, hl2⟩
        · rintro rfl
          unfold textC at hcs
          rw [if_neg (by decide), if_neg (by decide), if_neg (by decide)] at hcs
          cases hcs
        · rw [hs]
          have k1 : cntQ [61, 63] = 1 := by decide
          have k2 : cntQ [63, 61] = 1 := by decide
          have k3 : ∀ l : List UInt8, cntQ (63 :: l) = 1 + cntQ l := fun l => by
            have := cntQ_app [63] l
            rw [show cntQ [63] = 1 by decide] at this
            exact this
          rw [cntQ_app, cntQ_app, k1, k2, cntQ_app, k3, cntQ_app, k3, cntQ_no ha, cntQ_no hm, cntQ_no hbq]
    · cases h
end Go.Proofs.YtpoglombagmhmaaGreatDoor
/- gomime.WordDecoder.Decode: the walks. -/
namespace Go.Proofs.YtpoglombagmhmaaGreatDoor
open Go Go.RowKit

set_option maxHeartbeats 2000000 in
set_option maxRecDepth 100000 in
theorem Decode_no (d : Value) (s : ByteArray) (ev : Value) (w : World) (hp : Lib.hasPrefix s.data.toList [61, 63] = false) (he : w.cell? ⟨2, 0, none⟩ = some ev) :
    Calls Tryz.prog 81 #[d, .string s] w fun x w' => x = .returned (.tuple #[.string ⟨#[]⟩, ev]) ∧ ∃ q, w' = w.drewN q := by
  by_cases hz : s.size < 8
  · have z0 : (s.size : Int) < 8 := by omega
    clear hz hp
    go_enter Tryz.func81, Tryz.ntmps81
    go_wp2
    go_big_quiet (fail)
    go_wp2
    go_ret2
    exact ⟨rfl, _, rfl⟩
  · have z0 : ¬ (s.size : Int) < 8 := by omega
    have HP := Lib.hid hp
    clear hz hp
    go_enter Tryz.func81, Tryz.ntmps81
    go_wp2_with fail
    refine (Tryz.strings_HasPrefix s ⟨#[61, 63]⟩ _).mono ?_
    rintro x w1 ⟨rfl, rfl⟩
    rw [show Lib.hasPrefix s.data.toList (⟨#[61, 63]⟩ : ByteArray).data.toList = false from HP.out]
    go_wp2
    go_big_quiet (fail)
    go_wp2
    go_ret2
    exact ⟨rfl, _, rfl⟩

set_option maxHeartbeats 4000000 in
set_option maxRecDepth 100000 in
theorem Decode_yes (d : Value) (s : ByteArray) (t : List UInt8) (w : World) (h : decodedL s.data.toList true = some t) :
    Calls Tryz.prog 81 #[d, .string s] w fun x w' => x = .returned (.tuple #[.string ⟨t.toArray⟩, .nilIface]) ∧ Below w.heap.size w w' := by
  obtain ⟨a, b, c, m, hs, ha, hm, ha0, hb0, hc, ht, hq, hl1, hl2⟩ := decoded_parts h
  have hsl : s.data.toList.length = s.size := Array.length_toList
  rw [hsl] at hl1 hl2
  obtain ⟨A, hA⟩ : ∃ A, bs a = A := ⟨_, rfl⟩
  obtain ⟨B, hB⟩ : ∃ B, bs b = B := ⟨_, rfl⟩
  obtain ⟨M, hM⟩ : ∃ M, bs [m] = M := ⟨_, rfl⟩
  obtain ⟨R, hR⟩ : ∃ R, bs ([m] ++ 63 :: b) = R := ⟨_, rfl⟩
  obtain ⟨W, hW⟩ : ∃ W, bs (a ++ 63 :: ([m] ++ 63 :: b)) = W := ⟨_, rfl⟩
  have aL : A.data.toList = a := by rw [← hA, bs_list]
  have bL : B.data.toList = b := by rw [← hB, bs_list]
  have mL : M.data.toList = [m] := by rw [← hM, bs_list]
  have rL : R.data.toList = M.data.toList ++ 63 :: B.data.toList := by rw [← hR, bs_list, mL, bL]
  have wL : W.data.toList = A.data.toList ++ 63 :: R.data.toList := by rw [← hW, bs_list, aL, rL, mL, bL]
  have hal : a.length + b.length ≤ 75 := by
    have := congrArg List.length hs
    rw [hsl] at this
    simp only [List.length_append, List.length_cons, List.length_nil] at this
    omega
  have hws : W.size + 4 = s.size := by
    have := congrArg List.length hs
    rw [hsl] at this
    rw [← hW, bs_size]
    simp only [List.length_append, List.length_cons, List.length_nil] at this ⊢
    omega
  have hrs : R.size ≤ 100 := by rw [← hR, bs_size]; simp; omega
  have hbsz : B.size ≤ 4096 := by rw [← hB, bs_size]; omega
  have hmz : M.size = 1 := by rw [← hM, bs_size]; rfl
  have z9 : 0 < M.size := by omega
  have hm0 : M[0]'z9 = m := by
    have : M.data.toList[0]? = some m := by rw [mL]; rfl
    rw [Array.getElem?_toList] at this
    obtain ⟨_, e⟩ := Array.getElem?_eq_some_iff.1 this
    exact e
  have hex : s.extract 2 (s.size - 2) = W := bytes_eq6 (by
    have := extract_list s 2 (s.size - 4)
    rw [show 2 + (s.size - 4) = s.size - 2 by omega] at this
    rw [this, hs, ← hW, bs_list]
    rw [List.append_assoc, List.drop_left' (by rfl), List.take_left' (by
      have := bs_size (a ++ 63 :: ([m] ++ 63 :: b))
      rw [hW] at this; omega)])
  have hpre : Lib.hasPrefix s.data.toList [61, 63] = true := by
    unfold Lib.hasPrefix
    rw [List.isPrefixOf_iff_prefix, hs, List.append_assoc]
    exact ⟨_, rfl⟩
  have hsuf : Lib.hasSuffix s.data.toList [63, 61] = true := by
    unfold Lib.hasSuffix
    rw [List.isSuffixOf_iff_suffix, hs]
    exact ⟨_, rfl⟩
  have z0 : ¬ (s.size : Int) < 8 := by omega
  have hae : A.toList.isEmpty = false := by
    rw [ByteArray.toList_eq, aL]
    cases a with
    | nil => exact absurd rfl ha0
    | cons => rfl
  have HPRE := Lib.hid hpre; have HSUF := Lib.hid hsuf; have HQ := Lib.hid hq; have HWL := Lib.hid wL; have HRL := Lib.hid rL
  have HAQ := Lib.hid (show ∀ x ∈ A.data.toList, x ≠ 63 by rw [aL]; exact ha)
  have HMQ := Lib.hid (show ∀ x ∈ M.data.toList, x ≠ 63 by rw [mL]; intro x hx; rw [List.mem_singleton.1 hx]; exact hm)
  have HCC := Lib.hid (show bytesC [m] B.data.toList true = some c by rw [bL]; exact hc)
  have HB0 := Lib.hid (show B.data.toList ≠ [] by rw [bL]; exact hb0)
  have HTT := Lib.hid (show textC A.data.toList c = some t by rw [aL]; exact ht)
  have HMZ := Lib.hid hmz
  have z8 : ((M.size : Int) != 1) = false := by rw [hmz]; rfl
  have hcl : c.length ≤ 100 := by
    unfold bytesC at hc
    split at hc
    · have := unqG_len true _ b c (Nat.le_refl _) hc; omega
    · split at hc
      · have h9 := unb_canon hc
        have := b64_length c
        rw [← h9] at this; omega
      · cases hc
  clear h hs ha hm ha0 hb0 hc ht hq hA hB hM hR hW aL bL mL rL wL hpre hsuf hmz hsl hl1 hal
  go_enter Tryz.func81, Tryz.ntmps81
  go_wp2_with fail
  refine (Tryz.strings_HasPrefix s ⟨#[61, 63]⟩ _).mono ?_
  rintro x w1 ⟨rfl, rfl⟩
  rw [show Lib.hasPrefix s.data.toList (⟨#[61, 63]⟩ : ByteArray).data.toList = true from HPRE.out]
  go_wp2_with fail
  refine (Tryz.strings_HasSuffix s ⟨#[63, 61]⟩ _ (by omega)).mono ?_
  rintro x w1 ⟨rfl, rfl⟩
  rw [show Lib.hasSuffix s.data.toList (⟨#[63, 61]⟩ : ByteArray).data.toList = true from HSUF.out]
  go_wp2_with fail
  refine (zzCount_any s _ (by omega)).mono ?_
  rintro x w1 ⟨rfl, rfl⟩
  rw [HQ.out]
  have i1 : (2 : Int) ≤ (s.size : Int) - 2 := by omega
  have i2 : (s.size : Int) - 2 ≤ (s.size : Int) := by omega
  go_wp2_with fail
  refine (zzCut_q W A R _ (by omega) HWL.out HAQ.out).mono ?_
  rintro x w2 ⟨rfl, q2, rfl⟩
  have HB2 := Lib.hid (below_drewN (Below.refl w1.heap.size w1) q2)
  generalize w1.drewN q2 = w2 at HB2 ⊢
  go_wp2_with fail
  refine (zzCut_q R M B _ (by omega) HRL.out HMQ.out).mono ?_
  rintro x w3 ⟨rfl, q3, rfl⟩
  have HB3 := Lib.hid (below_drewN HB2.out q3)
  generalize w2.drewN q3 = w3 at HB3 ⊢
  clear HB2
  go_wp2_with fail
  refine (decode_gen m B c HCC.out HB0.out hbsz _).mono ?_
  rintro x w4 ⟨g, cap, l, rfl, hg1, hg2, hrow, hlt, hb4⟩
  have HB4 := Lib.hid (HB3.out.trans (hb4.mono HB3.out.size))
  have HROW := Lib.hid hrow; have HLT := Lib.hid hlt
  have hgw := hrow.lt
  clear HB3 hb4 hrow hlt
  have HBL := Lib.hid (Bld.fresh w4 (· < w4.heap.size) (fun k h => h))
  have HF4 := Lib.hid ((Fr.refl (· < w4.heap.size) w4).alloc (fun k h => h) (.cells #[.pointer none, .slice none 0 0] 110))
  have HCEL := Lib.hid (show ∀ j x, c[j]? = some x → (w4.alloc (.cells #[.pointer none, .slice none 0 0] 110)).cell? ⟨g, 0 + j, none⟩ = some (.int .u8 x.toNat) from fun j x hx => by
    rw [HF4.out.cell (p := ⟨g, 0 + j, none⟩) hgw, Nat.zero_add]
    refine HROW.out.cell ?_
    have hjc := (List.getElem?_eq_some_iff.1 hx).1
    rw [← HLT.out, List.getElem?_take] at hx
    rw [if_pos hjc] at hx
    exact hx)
  go_wp2_with fail
  obtain ⟨bb, hbb⟩ : ∃ bb, w4.heap.size = bb := ⟨_, rfl⟩
  have HBB := Lib.hid hbb
  rw [hbb] at HBL ⊢
  clear hbb
  refine (convert_gen d bb (· < bb) [] c t A g cap _ HBL.out (by rw [← HBB.out]; exact hgw) HCEL.out HTT.out (by simp; omega)).mono ?_
  rintro x w5 ⟨rfl, hb5, hf5⟩
  have HB5 := Lib.hid hb5; have HF5 := Lib.hid (HF4.out.trans (hf5.mono (fun k (hk : k < w4.heap.size) => by have := HBB.out; omega)))
  clear hb5 hf5 HF4 HBL HCEL
  go_wp2_with fail
  refine (String_any bb _ _ _ HB5.out).mono ?_
  rintro x w6 ⟨rfl, _, hf6⟩
  have HF6 := Lib.hid (HF5.out.trans (hf6.mono (fun k (hk : k < w4.heap.size) => by have := HBB.out; omega)))
  clear hf6 HF5 HB5
  go_wp2
  go_ret2
  exact ⟨rfl, HB4.out.trans (HF6.out.below.mono HB4.out.size)⟩
end Go.Proofs.YtpoglombagmhmaaGreatDoor
/- netmail.decodeRFC2047Word: the walks. -/
namespace Go.Proofs.YtpoglombagmhmaaGreatDoor
open Go Go.RowKit

theorem rfcDec_any (w : World) : Calls Tryz.prog 79 #[] w fun x w' => (x = .returned (.pointer (some ⟨w.heap.size, 0, none⟩)) ∧ w'.heap[w.heap.size]? = some (.cells #[.func (.func 94) #[] #[]] 128 (0, 0))) ∧ Below w.heap.size w w' := by
  go_enter Tryz.func79, Tryz.ntmps79
  go_wp2
  go_ret
  exact ⟨⟨rfl, heap_alloc_new w _⟩, (Below.refl _ w).alloc (Nat.le_refl _) _⟩

set_option maxHeartbeats 2000000 in
set_option maxRecDepth 100000 in
theorem dword_no (pb : Nat) (s x : ByteArray) (t : TypeId) (v : Value) (w : World) (h : PS pb (.pointer none) s w) (hp : Lib.hasPrefix x.data.toList [61, 63] = false) (he : w.cell? ⟨2, 0, none⟩ = some (.iface t v)) :
    Calls Tryz.prog 59 #[.pointer (some ⟨pb, 0, none⟩), .string x] w fun r w' => r = .returned (.tuple #[.string x, .bool false, .nilIface]) ∧ Below w.heap.size w w' := by
  obtain ⟨c0, c1, f0, hlt⟩ := h.cells
  have HP := Lib.hid hp; have HE := Lib.hid he
  clear h hp he
  go_enter Tryz.func59, Tryz.ntmps59
  go_wp2_with fail
  have hb0 := (Below.refl w.heap.size w).alloc (Nat.le_refl _) (.cells #[.pointer none] 62)
  have ha0 := heap_alloc_new w (.cells #[.pointer none] 62)
  have hsz : (w.alloc (.cells #[.pointer none] 62)).heap.size = w.heap.size + 1 := by simp
  refine (rfcDec_any _).mono ?_
  rintro y w2 ⟨⟨rfl, hd⟩, hb⟩
  rw [hsz] at hd hb ⊢
  obtain ⟨N, hN⟩ : ∃ N, w.heap.size = N := ⟨_, rfl⟩
  have HB2 := Lib.hid (hb0.trans (hb.mono (by omega)))
  have HA2 := Lib.hid ((hb.block w.heap.size (by omega)).trans ha0)
  have HD2 := Lib.hid hd
  rw [hN] at HB2 HA2 HD2 ⊢
  have HN := Lib.hid hN
  clear hb0 ha0 hsz hb hd hN
  have e0 : w2.cell? ⟨N, 0, none⟩ = some (.pointer none) := by rw [Lib.cell_of_heap HA2.out]; rfl
  have g0 : w2.frozen? ⟨N, 0, none⟩ = false := Lib.frozen_of_heap HA2.out 0
  go_upto_region 4 with fail
  have HB3 := Lib.hid (show Below N w (w2.setCell ⟨N, 0, none⟩ (.pointer (some ⟨N + 1, 0, none⟩))) from ((Fr.of_below HB2.out).setCell (p := ⟨N, 0, none⟩) (Nat.lt_irrefl _) _).below)
  have HA3 := Lib.hid (show (w2.setCell ⟨N, 0, none⟩ (.pointer (some ⟨N + 1, 0, none⟩))).heap[N]? = some (.cells #[.pointer (some ⟨N + 1, 0, none⟩)] 62 (0, 0)) from heap_setCell_row HA2.out)
  have HD3 := Lib.hid (show (w2.setCell ⟨N, 0, none⟩ (.pointer (some ⟨N + 1, 0, none⟩))).heap[N + 1]? = some (.cells #[.func (.func 94) #[] #[]] 128 (0, 0)) from (Below.heap_setCell w2 ⟨N, 0, none⟩ _ (N + 1) (fun e => by simp at e)).trans HD2.out)
  clear e0 g0 HB2 HA2 HD2
  generalize w2.setCell ⟨N, 0, none⟩ (.pointer (some ⟨N + 1, 0, none⟩)) = w3 at HB3 HA3 HD3 ⊢
  have k0 : w3.cell? ⟨N, 0, none⟩ = some (.pointer (some ⟨N + 1, 0, none⟩)) := by rw [Lib.cell_of_heap HA3.out]; rfl
  have k1 : w3.cell? ⟨N + 1, 0, none⟩ = some (.func (.func 94) #[] #[]) := by rw [Lib.cell_of_heap HD3.out]; rfl
  go_wp2_with fail
  generalize hX : (Obj.cells #[Value.func (Fn.func 80) #[] #[Value.pointer (some { block := N, off := 0 }), Value.pointer (some { block := w3.heap.size + 1, off := 0 })]] 128) = O
  have hsz4 : (w3.alloc O).heap.size = w3.heap.size + 1 := by simp
  have HB5 := Lib.hid ((HB3.out.alloc (by have := HB3.out.size; have := HN.out; omega) O).alloc (by rw [hsz4]; have := HB3.out.size; have := HN.out; omega) (.cells #[.bool false] 4))
  have HC5 := Lib.hid (show ((w3.alloc O).alloc (.cells #[.bool false] 4)).heap[w3.heap.size + 1]? = some (.cells #[.bool false] 4 (0, 0)) by rw [← hsz4]; exact heap_alloc_new _ _)
  have hsz5 : ((w3.alloc O).alloc (.cells #[.bool false] 4)).heap.size = w3.heap.size + 2 := by simp
  have HS5 := Lib.hid hsz5
  clear hX hsz4 hsz5 k0 k1
  generalize (w3.alloc O).alloc (.cells #[.bool false] 4) = w5 at HB5 HC5 HS5 ⊢
  have he5 : w5.cell? ⟨2, 0, none⟩ = some (.iface t v) := by
    have he := HE.out
    have hlt2 : 2 < N := by
      rw [← HN.out]
      rcases Nat.lt_or_ge 2 w.heap.size with h' | h'
      · exact h'
      · simp [World.cell?, Array.getElem?_eq_none h'] at he
    rw [← he]
    exact World.cell?_of_block (w := w) (w' := w5) (HB5.out.block _ hlt2)
  refine (Decode_no _ x (.iface t v) _ HP.out he5).mono ?_
  rintro y w6 ⟨rfl, q, rfl⟩
  have HB6 := Lib.hid (below_drewN HB5.out q)
  have cb : (w5.drewN q).cell? ⟨w3.heap.size + 1, 0, none⟩ = some (.bool false) := by
    have : (w5.drewN q).heap[w3.heap.size + 1]? = some (.cells #[.bool false] 4 (0, 0)) := by rw [heap_drewN]; exact HC5.out
    rw [Lib.cell_of_heap this]; rfl
  clear he5
  generalize w5.drewN q = w6 at HB6 cb ⊢
  go_wp2
  go_ret3
  exact ⟨rfl, by rw [HN.out]; exact HB6.out⟩
set_option maxHeartbeats 2000000 in
set_option maxRecDepth 100000 in
theorem dword_yes (pb : Nat) (s x : ByteArray) (t : List UInt8) (w : World) (h : PS pb (.pointer none) s w) (hp : decodedL x.data.toList true = some t) :
    Calls Tryz.prog 59 #[.pointer (some ⟨pb, 0, none⟩), .string x] w fun r w' => r = .returned (.tuple #[.string ⟨t.toArray⟩, .bool true, .nilIface]) ∧ Below w.heap.size w w' := by
  obtain ⟨c0, c1, f0, hlt⟩ := h.cells
  have HP := Lib.hid hp
  clear h hp
  go_enter Tryz.func59, Tryz.ntmps59
  go_wp2_with fail
  have hb0 := (Below.refl w.heap.size w).alloc (Nat.le_refl _) (.cells #[.pointer none] 62)
  have ha0 := heap_alloc_new w (.cells #[.pointer none] 62)
  have hsz : (w.alloc (.cells #[.pointer none] 62)).heap.size = w.heap.size + 1 := by simp
  refine (rfcDec_any _).mono ?_
  rintro y w2 ⟨⟨rfl, hd⟩, hb⟩
  rw [hsz] at hd hb ⊢
  obtain ⟨N, hN⟩ : ∃ N, w.heap.size = N := ⟨_, rfl⟩
  have HB2 := Lib.hid (hb0.trans (hb.mono (by omega)))
  have HA2 := Lib.hid ((hb.block w.heap.size (by omega)).trans ha0)
  have HD2 := Lib.hid hd
  rw [hN] at HB2 HA2 HD2 ⊢
  have HN := Lib.hid hN
  clear hb0 ha0 hsz hb hd hN
  have e0 : w2.cell? ⟨N, 0, none⟩ = some (.pointer none) := by rw [Lib.cell_of_heap HA2.out]; rfl
  have g0 : w2.frozen? ⟨N, 0, none⟩ = false := Lib.frozen_of_heap HA2.out 0
  go_upto_region 4 with fail
  have HB3 := Lib.hid (show Below N w (w2.setCell ⟨N, 0, none⟩ (.pointer (some ⟨N + 1, 0, none⟩))) from ((Fr.of_below HB2.out).setCell (p := ⟨N, 0, none⟩) (Nat.lt_irrefl _) _).below)
  have HA3 := Lib.hid (show (w2.setCell ⟨N, 0, none⟩ (.pointer (some ⟨N + 1, 0, none⟩))).heap[N]? = some (.cells #[.pointer (some ⟨N + 1, 0, none⟩)] 62 (0, 0)) from heap_setCell_row HA2.out)
  have HD3 := Lib.hid (show (w2.setCell ⟨N, 0, none⟩ (.pointer (some ⟨N + 1, 0, none⟩))).heap[N + 1]? = some (.cells #[.func (.func 94) #[] #[]] 128 (0, 0)) from (Below.heap_setCell w2 ⟨N, 0, none⟩ _ (N + 1) (fun e => by simp at e)).trans HD2.out)
  clear e0 g0 HB2 HA2 HD2
  generalize w2.setCell ⟨N, 0, none⟩ (.pointer (some ⟨N + 1, 0, none⟩)) = w3 at HB3 HA3 HD3 ⊢
  have k0 : w3.cell? ⟨N, 0, none⟩ = some (.pointer (some ⟨N + 1, 0, none⟩)) := by rw [Lib.cell_of_heap HA3.out]; rfl
  have k1 : w3.cell? ⟨N + 1, 0, none⟩ = some (.func (.func 94) #[] #[]) := by rw [Lib.cell_of_heap HD3.out]; rfl
  go_wp2_with fail
  generalize hX : (Obj.cells #[Value.func (Fn.func 80) #[] #[Value.pointer (some { block := N, off := 0 }), Value.pointer (some { block := w3.heap.size + 1, off := 0 })]] 128) = O
  have hsz4 : (w3.alloc O).heap.size = w3.heap.size + 1 := by simp
  have HB5 := Lib.hid ((HB3.out.alloc (by have := HB3.out.size; have := HN.out; omega) O).alloc (by rw [hsz4]; have := HB3.out.size; have := HN.out; omega) (.cells #[.bool false] 4))
  have HC5 := Lib.hid (show ((w3.alloc O).alloc (.cells #[.bool false] 4)).heap[w3.heap.size + 1]? = some (.cells #[.bool false] 4 (0, 0)) by rw [← hsz4]; exact heap_alloc_new _ _)
  have hsz5 : ((w3.alloc O).alloc (.cells #[.bool false] 4)).heap.size = w3.heap.size + 2 := by simp
  have HS5 := Lib.hid hsz5
  clear hX hsz4 hsz5 k0 k1
  generalize (w3.alloc O).alloc (.cells #[.bool false] 4) = w5 at HB5 HC5 HS5 ⊢
  refine (Decode_yes _ x t _ HP.out).mono ?_
  rintro y w6 ⟨rfl, hb6⟩
  have HB6 := Lib.hid (HB5.out.trans (hb6.mono (by have := HB5.out.size; have := HN.out; omega)))
  clear hb6
  go_wp2
  go_ret3
  exact ⟨rfl, by rw [HN.out]; exact HB6.out⟩
end Go.Proofs.YtpoglombagmhmaaGreatDoor
