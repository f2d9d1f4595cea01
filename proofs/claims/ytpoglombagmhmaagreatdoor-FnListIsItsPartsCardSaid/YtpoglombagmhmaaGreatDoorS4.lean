/- spec.IsAtom, spec.quoted: the walks. -/
import Derived.Test.YtpoglombagmhmaaGreatDoorUtf
import Derived.Test.YtpoglombagmhmaaGreatDoorRow
import Derived.Test.YtpoglombagmhmaaGreatDoorBld
import Derived.Test.YtpoglombagmhmaaGreatDoorShelf
import Derived.Test.YtpoglombagmhmaaGreatDoorA1
import Derived.Lib.SlBytesConst
import Derived.Laws.NewBlocks
import Derived.Laws.IdiomStrings
import Derived.Laws.BytesArg
import Derived.Deep.AppendLies
namespace Go.Proofs.YtpoglombagmhmaaGreatDoor
open Go Go.RowKit

def atomS : List UInt8 := [33, 35, 36, 37, 38, 39, 42, 43, 45, 47, 61, 63, 94, 95, 96, 123, 124, 125, 126]
def inAtomS (c : UInt8) : Bool := atomS.contains c
def atomC : Array Value := (atomS.map fun x => Value.int .u8 x.toNat).toArray
theorem atomC_eq : #[Value.int .u8 33, .int .u8 35, .int .u8 36, .int .u8 37, .int .u8 38, .int .u8 39, .int .u8 42, .int .u8 43, .int .u8 45, .int .u8 47, .int .u8 61, .int .u8 63, .int .u8 94, .int .u8 95, .int .u8 96, .int .u8 123, .int .u8 124, .int .u8 125, .int .u8 126] = atomC := rfl
theorem atomC_at (w : World) (j : Nat) (x : UInt8) (h : atomS[j]? = some x) : (w.alloc (.cells atomC 5 (19, 20))).cell? ⟨w.heap.size, j, none⟩ = some (.int .u8 x.toNat) := by
  rw [World.cell?_alloc_mark]
  simp [atomC, h]
theorem atomB_in {c : UInt8} (h : (48 ≤ c.toNat ∧ c.toNat ≤ 57) ∨ (97 ≤ c.toNat ∧ c.toNat ≤ 122) ∨ (65 ≤ c.toNat ∧ c.toNat ≤ 90) ∨ 128 ≤ c.toNat) : atomB c = true := by
  unfold atomB; rw [decide_eq_true h]; rfl
theorem atomB_out {c : UInt8} (h : ¬ ((48 ≤ c.toNat ∧ c.toNat ≤ 57) ∨ (97 ≤ c.toNat ∧ c.toNat ≤ 122) ∨ (65 ≤ c.toNat ∧ c.toNat ≤ 90) ∨ 128 ≤ c.toNat)) : atomB c = inAtomS c := by
  unfold atomB; rw [decide_eq_false h]; rfl

set_option maxHeartbeats 1000000 in
set_option maxRecDepth 100000 in
theorem IsAtom_out (c : UInt8) (w : World) (h : ¬ ((48 ≤ c.toNat ∧ c.toNat ≤ 57) ∨ (97 ≤ c.toNat ∧ c.toNat ≤ 122) ∨ (65 ≤ c.toNat ∧ c.toNat ≤ 90) ∨ 128 ≤ c.toNat)) :
    Calls Tryz.prog 14 #[.int .u8 c.toNat] w fun x w' => x = .returned (.bool (inAtomS c)) ∧ Below w.heap.size w w' := by
  have hlt := c.toNat_lt
  have t1 : ((48 : Int) ≤ (c.toNat : Int) ∧ ¬ (c.toNat : Int) ≤ 57) ∨ ¬ (48 : Int) ≤ (c.toNat : Int) := by omega
  have t2 : ((97 : Int) ≤ (c.toNat : Int) ∧ ¬ (c.toNat : Int) ≤ 122) ∨ ¬ (97 : Int) ≤ (c.toNat : Int) := by omega
  have t3 : ((65 : Int) ≤ (c.toNat : Int) ∧ ¬ (c.toNat : Int) ≤ 90) ∨ ¬ (65 : Int) ≤ (c.toNat : Int) := by omega
  have t4 : ¬ (128 : Int) ≤ (c.toNat : Int) := by omega
  have hconv := Lib.run_convert_bytes_const (P := Tryz.prog) w 60 5 atomC 19 19 Tryz.underlying60 Tryz.underlying5
  have hr := fun (j : Nat) (x : UInt8) (h : atomS[j]? = some x) => atomC_at w j x h
  have hb : Below w.heap.size w (w.alloc (.cells atomC 5 (19, 20))) := (Below.refl _ w).alloc (Nat.le_refl _) _
  have HR := Lib.hid hr; have HB := Lib.hid hb; have HC := Lib.hid hconv
  clear hr hb h hlt hconv
  rcases t1 with ⟨a1, a2⟩ | a1 <;> rcases t2 with ⟨b1, b2⟩ | b1 <;> rcases t3 with ⟨c1, c2⟩ | c1 <;> try (exfalso; omega)
  all_goals
    go_enter Tryz.func14, Tryz.ntmps14
    go_wp2
    rw [atomC_eq, HC.out]; simp only [Result.andThen]; rw [Oper.upon_value]
    rw [show atomC.size = 19 from rfl]
    rw [show atomC.size = 19 from rfl] at HC
    clear HC
    generalize w.alloc (.cells atomC 5 (19, 20)) = w1 at *
    go_wp2
    clear a1 b1 c1 t4
    try clear a2
    try clear b2
    try clear c2
    go_loop [34] (fun i => ∃ k : Nat, k ≤ 19 ∧ i = .int .i64 k ∧ (atomS.take k).contains c = false) (fun i => 19 - (intOf i).toNat)
    case atStart => exact ⟨0, by omega, rfl, rfl⟩
    case round =>
      obtain ⟨k, hk, rfl, hno⟩ := hrel
      by_cases hlt : k < 19
      · obtain ⟨x, hx⟩ : ∃ x, atomS[k]? = some x := ⟨_, List.getElem?_eq_getElem (by simpa [atomS] using hlt)⟩
        have hc := HR.out k x hx
        have htk : atomS.take (k + 1) = atomS.take k ++ [x] := by rw [List.take_add_one, hx]; rfl
        have HX := Lib.hid hx; have HNO := Lib.hid hno; have HTK := Lib.hid htk
        clear hx hno htk
        by_cases he : c = x
        · have t : ((c.toNat : Int) == (x.toNat : Int)) = true := by rw [he]; simp
          have HE := Lib.hid he
          clear he
          go_wp2
          go_ret
          refine ⟨ret_bool ?_, HB.out⟩
          rw [HE.out]
          exact (List.contains_iff_mem.2 (List.mem_of_getElem? HX.out)).symm
        · have t : ((c.toNat : Int) == (x.toNat : Int)) = false := by
            rw [beq_eq_false_iff_ne]; intro h; exact he (UInt8.toNat.inj (by omega))
          have HE := Lib.hid he
          clear he
          go_wp2
          go_round
          case rel =>
            refine ⟨k + 1, by omega, by go_num, ?_⟩
            rw [HTK.out, List.contains_append, HNO.out]
            simp [HE.out]
          case measure => simp [intOf]; omega
      · have hk19 : k = 19 := by omega
        subst hk19
        have HNO := Lib.hid hno
        clear hno
        go_wp2
        go_ret
        exact ⟨ret_bool (Eq.symm HNO.out), HB.out⟩

theorem IsAtom_in (c : UInt8) (w : World) (h : (48 ≤ c.toNat ∧ c.toNat ≤ 57) ∨ (97 ≤ c.toNat ∧ c.toNat ≤ 122) ∨ (65 ≤ c.toNat ∧ c.toNat ≤ 90) ∨ 128 ≤ c.toNat) :
    Calls Tryz.prog 14 #[.int .u8 c.toNat] w fun x w' => x = .returned (.bool true) ∧ Below w.heap.size w w' := by
  have hlt := c.toNat_lt
  by_cases h0 : (48 : Int) ≤ (c.toNat : Int) ∧ (c.toNat : Int) ≤ 57
  · obtain ⟨a1, a2⟩ := h0
    clear h
    go_enter Tryz.func14, Tryz.ntmps14
    go_wp2
    go_ret
    exact ⟨rfl, Below.refl _ _⟩
  · have t1 : ((48 : Int) ≤ (c.toNat : Int) ∧ ¬ (c.toNat : Int) ≤ 57) ∨ ¬ (48 : Int) ≤ (c.toNat : Int) := by omega
    have t2 : ((97 : Int) ≤ (c.toNat : Int) ∧ (c.toNat : Int) ≤ 122) ∨ ((97 : Int) ≤ (c.toNat : Int) ∧ ¬ (c.toNat : Int) ≤ 122) ∨ ¬ (97 : Int) ≤ (c.toNat : Int) := by omega
    have t3 : ((65 : Int) ≤ (c.toNat : Int) ∧ (c.toNat : Int) ≤ 90) ∨ ((65 : Int) ≤ (c.toNat : Int) ∧ ¬ (c.toNat : Int) ≤ 90) ∨ ¬ (65 : Int) ≤ (c.toNat : Int) := by omega
    have t4 : (128 : Int) ≤ (c.toNat : Int) ∨ ¬ (128 : Int) ≤ (c.toNat : Int) := by omega
    clear h0
    rcases t1 with ⟨a1, a2⟩ | a1 <;> rcases t2 with ⟨b1, b2⟩ | ⟨b1, b2⟩ | b1 <;> rcases t3 with ⟨c1, c2⟩ | ⟨c1, c2⟩ | c1 <;> rcases t4 with d | d <;> try (exfalso; omega)
    all_goals
      clear h hlt
      go_enter Tryz.func14, Tryz.ntmps14
      go_wp2
      go_ret
      exact ⟨rfl, Below.refl _ _⟩
theorem IsAtom_any (c : UInt8) (w : World) :
    Calls Tryz.prog 14 #[.int .u8 c.toNat] w fun x w' => x = .returned (.bool (atomB c)) ∧ Below w.heap.size w w' := by
  by_cases h : (48 ≤ c.toNat ∧ c.toNat ≤ 57) ∨ (97 ≤ c.toNat ∧ c.toNat ≤ 122) ∨ (65 ≤ c.toNat ∧ c.toNat ≤ 90) ∨ 128 ≤ c.toNat
  · rw [atomB_in h]; exact IsAtom_in c w h
  · rw [atomB_out h]; exact IsAtom_out c w h
end Go.Proofs.YtpoglombagmhmaaGreatDoor
/- Rows that a call owns and appends to: small laws. -/
namespace Go.Proofs.YtpoglombagmhmaaGreatDoor
open Go Go.RowKit

theorem cneq {c x : UInt8} (h : c ≠ x) : ((c.toNat : Int) == (x.toNat : Int)) = false := by
  rw [beq_eq_false_iff_ne]; intro e; exact h (UInt8.toNat.inj (by omega))
theorem own_fr {w w' : World} {B : Nat} {e : TypeId} {sz n : Nat} {v : Value} {xs : List Value} (h : w.ownsRow B e sz v n xs) (hk : ∀ k, v.ownBlock = some k → k < w.heap.size → w'.heap[k]? = w.heap[k]?) : w'.ownsRow B e sz v n xs := by
  refine ⟨h.1, ?_⟩
  rcases h.2 with h0 | ⟨g, cap, cur, rfl, hB, hg, rest⟩
  · exact .inl h0
  · exact .inr ⟨g, cap, cur, rfl, hB, (hk g rfl (Array.getElem?_eq_some_iff.1 hg).1).trans hg, rest⟩
/-- A row of bytes. -/
def OwnB (B : Nat) (l : List UInt8) (v : Value) (w : World) : Prop := w.ownsRow B 5 1 v l.length (Lib.byteCells l)
theorem OwnB.nil (B : Nat) (w : World) : OwnB B [] (.slice none 0 0) w := World.ownsRow_nil _ _ _ _
theorem OwnB.fr {B : Nat} {l : List UInt8} {v : Value} {w w' : World} (h : OwnB B l v w) (hk : ∀ k, v.ownBlock = some k → k < w.heap.size → w'.heap[k]? = w.heap[k]?) : OwnB B l v w' := own_fr h hk
theorem own_lt {w : World} {B : Nat} {e : TypeId} {sz n : Nat} {v : Value} {xs : List Value} (h : w.ownsRow B e sz v n xs) : ∀ k, v.ownBlock = some k → B ≤ k ∧ k < w.heap.size := h.lt
theorem OwnB.alloc {B : Nat} {l : List UInt8} {v : Value} {w : World} (h : OwnB B l v w) (o : Obj) : OwnB B l v (w.alloc o) := World.ownsRow.alloc h o
theorem OwnB.push {B : Nat} {l : List UInt8} {v' : Value} {w' : World} {c : UInt8} (h : w'.ownsRow B 5 1 v' (l.length + 1) (Lib.byteCells l ++ [.int .u8 c.toNat])) : OwnB B (l ++ [c]) v' w' := by
  unfold OwnB
  rw [List.length_append]
  simpa [Lib.byteCells] using h

/-- 'string(v)' of a row of bytes. -/
theorem OwnB.text {B : Nat} {l : List UInt8} {v : Value} {w : World} (h : OwnB B l v w) : (convert 60 9 v).run Tryz.prog w = .ok (.string ⟨l.toArray⟩) w := by
  rcases h.2 with ⟨rfl, h0⟩ | ⟨g, cap, cur, rfl, hB, hg, rest⟩
  · have hl : l = [] := List.eq_nil_of_length_eq_zero h0
    subst hl
    exact run_convert_bytes_nil (P := Tryz.prog) w 60 5 Tryz.underlying60 Tryz.underlying5 0 0 9 Tryz.underlying9
  · refine run_convert_bytes_back (P := Tryz.prog) w 60 9 5 ⟨g, 0, none⟩ cap l Tryz.underlying60 Tryz.underlying5 Tryz.underlying9 (fun j hj => ?_)
    have hc := h.cells (g := g) rfl j (.int .u8 l[j].toNat) (by simp [Lib.byteCells, hj])
    exact hc

/-- 'append(v, c)' of one byte to a row of the call's own: for the walk. -/
theorem wpList_push_byte {ops : Array Oper} {rest : List Oper} {o : Oper} {a : Act} {Q : Exit → Act → World → Prop} (hgd : o.guard = none) (s x : Operand)
    (ho : o.op = .call { callee := .builtin .append, args := #[s, x], argTypes := #[60, 60] })
    (B : Nat) (l : List UInt8) (v : Value) (c : UInt8) (wr : World) (hown : OwnB B l v wr) (hB : B ≤ wr.heap.size) (hlen : l.length + 1 ≤ 140737488355328) (hs : a.eval s = v) (hx : a.eval x = .slice (some ⟨wr.heap.size, 0, none⟩) 1 1)
    (h : ∀ v' w', OwnB B (l ++ [c]) v' w' → (wr.alloc (.cells #[.int .u8 c.toNat] 5)).grownBy w' v.ownBlock → (v'.ownBlock = v.ownBlock ∨ v'.ownBlock = some (wr.heap.size + 1)) → wpList Tryz.prog ops Q rest (a.put o.dst v') w') : wpList Tryz.prog ops Q (o :: rest) a (wr.alloc (.cells #[.int .u8 c.toNat] 5)) := by
  obtain ⟨i0, hi, hz0, hz1, hz2⟩ := info_parts infoByte
  refine wpList_append_own_at _ hgd s x 60 ho B 5 i0 (.int .u8 0) 1 1 Tryz.underlying60 hi hz0 hz1 hz2 rfl (by decide) v l.length (Lib.byteCells l) hs (hown.alloc _) ⟨wr.heap.size, 0, none⟩ 1 1 [.int .u8 c.toNat] hx rfl (cell_one_new _ _ _) (fun u hu => by simp at hu; subst hu; rfl) (by unfold maxLen; omega) (by omega) (by simp; omega) (fun v' w' h1 h2 _ h4 => h v' w' (OwnB.push h1) h2 (h4.imp id (fun e => by rw [e]; simp)))

/-- The same at a step of a region that draws its order. -/
theorem step_push_byte {ops : Array Oper} {o : Oper} {a : Act} {K : Act → World → Prop} {Q : Exit → Act → World → Prop} {E : Prop} (hgd : o.guard = none) (s x : Operand)
    (ho : o.op = .call { callee := .builtin .append, args := #[s, x], argTypes := #[60, 60] })
    (B : Nat) (l : List UInt8) (v : Value) (c : UInt8) (wr : World) (hown : OwnB B l v wr) (hB : B ≤ wr.heap.size) (hlen : l.length + 1 ≤ 140737488355328) (hs : a.eval s = v) (hx : a.eval x = .slice (some ⟨wr.heap.size, 0, none⟩) 1 1)
    (h : ∀ v' w', OwnB B (l ++ [c]) v' w' → (wr.alloc (.cells #[.int .u8 c.toNat] 5)).grownBy w' v.ownBlock → K (a.put o.dst v') w') :
    if Region.wanted o (yielded ops a.tmps) = true then Oper.wp Tryz.prog o a (wr.alloc (.cells #[.int .u8 c.toNat] 5)) K Q else E := by
  have hw : Region.wanted o (yielded ops a.tmps) = true := by simp [Region.wanted, hgd]
  rw [if_pos hw]
  obtain ⟨i0, hi, hz0, hz1, hz2⟩ := info_parts infoByte
  obtain ⟨v', w', hr, h2, h3, h4, h5⟩ := run_append_own_at (P := Tryz.prog) (wr.alloc (.cells #[.int .u8 c.toNat] 5)) B 60 o.type 5 i0 (.int .u8 0) 1 1 Tryz.underlying60 hi hz0 hz1 hz2 rfl (by decide) v l.length (Lib.byteCells l) (hown.alloc _) ⟨wr.heap.size, 0, none⟩ 1 1 [.int .u8 c.toNat] rfl (cell_one_new _ _ _) (fun u hu => by simp at hu; subst hu; rfl) (by unfold maxLen; omega) (by omega) (by simp; omega)
  unfold Oper.wp execOp
  simp only [ho, resolve, invoke, builtin, Sem.run_bind, Sem.run_pure, Result.andThen_ok, List.map_toArray, List.map_cons, List.map_nil, hs, hx, hr]
  exact h v' w' (OwnB.push h2) h3
end Go.Proofs.YtpoglombagmhmaaGreatDoor
/- spec.quoted: the walk. -/
namespace Go.Proofs.YtpoglombagmhmaaGreatDoor
open Go Go.RowKit

theorem quotedL_cons (c : UInt8) (t : List UInt8) : quotedL (c :: t) = if c = 34 then some ([], 1) else if c = 92 then (match t with | [] => none | d :: t' => (quotedL t').map fun r => (d :: r.1, r.2 + 2)) else (quotedL t).map fun r => (c :: r.1, r.2 + 1) := by
  cases t with
  | nil =>
    unfold quotedL
    by_cases h : c = 34
    · rw [if_pos h, if_pos h]
    · rw [if_neg h, if_neg h]
      by_cases h2 : c = 92
      · rw [if_pos h2]
      · rw [if_neg h2]; rfl
  | cons d t => rw [quotedL]
def qapp (out : List UInt8) (k : Nat) (r : Option (List UInt8 × Nat)) : Option (List UInt8 × Nat) := r.map fun p => (out ++ p.1, k + p.2)
theorem qapp_one (out : List UInt8) (k : Nat) (c : UInt8) (m : Nat) (r : Option (List UInt8 × Nat)) : qapp out k (r.map fun p => (c :: p.1, p.2 + m)) = qapp (out ++ [c]) (k + m) r := by
  cases r with
  | none => rfl
  | some p => simp [qapp]; omega
def qRet : Option (List UInt8 × Nat) → Ending
  | none => .returned (.tuple #[.string ⟨#[]⟩, .int .i64 0])
  | some p => .returned (.tuple #[.string ⟨p.1.toArray⟩, .int .i64 ((p.2 + 1 : Nat) : Int)])
theorem drop_at (s : ByteArray) (k : Nat) (h : k < s.size) : s.data.toList.drop k = s[k] :: s.data.toList.drop (k + 1) := by
  rw [List.drop_eq_getElem_cons (by simpa using h)]
  congr 1

/-- k signs behind the quote are read. -/
def QuRel (s : ByteArray) (w : World) (r2 r3 v i : Value) (wr : World) : Prop :=
  ∃ (k : Nat) (out : List UInt8), r2 = .string ⟨#[]⟩ ∧ r3 = .int .i64 0 ∧ i = .int .i64 ((k + 1 : Nat) : Int) ∧ out.length ≤ k ∧ k ≤ s.size ∧ quotedL (s.data.toList.drop 1) = qapp out k (quotedL (s.data.toList.drop (k + 1))) ∧ OwnB w.heap.size out v wr ∧ Fr (· < w.heap.size) w wr

/-- An append of one byte, and what it leaves. -/
theorem push_fr {w wr w2 : World} {v : Value} {o : Obj} {l : List UInt8} (hF : Fr (· < w.heap.size) w wr) (ho : OwnB w.heap.size l v wr) (hg : (wr.alloc o).grownBy w2 v.ownBlock) : Fr (· < w.heap.size) w w2 :=
  (hF.alloc (fun k hk => Nat.lt_of_lt_of_le hk hF.size) o).grown hg (fun k hk => by have := hF.size; simp; omega) (fun k e hk => by have := (own_lt ho k e).1; omega)

set_option maxHeartbeats 2000000 in
set_option maxRecDepth 100000 in
theorem quoted_any (s : ByteArray) (w : World) (hs : s.size ≤ 70368744177664) :
    Calls Tryz.prog 23 #[.string s] w fun x w' => x = qRet (quotedL (s.data.toList.drop 1)) ∧ Below w.heap.size w w' := by
  go_enter Tryz.func23, Tryz.ntmps23
  go_wp2
  go_loopw [2, 3, 4, 5] (fun r2 r3 v i wr => QuRel s w r2 r3 v i wr) (fun _ _ _ i _ => s.size + 1 - (intOf i).toNat)
  case atStart => exact ⟨0, [], rfl, rfl, rfl, Nat.le_refl _, Nat.zero_le _, by cases quotedL (s.data.toList.drop (0 + 1)) <;> simp [qapp], OwnB.nil _ _, Fr.refl _ _⟩
  case round =>
    obtain ⟨k, out, rfl, rfl, rfl, hol, hk, hq, hown, hF⟩ := hrel
    have HOWN := Lib.hid hown; have HF := Lib.hid hF
    by_cases hlt : k + 1 < s.size
    · rw [drop_at s (k + 1) hlt, quotedL_cons] at hq
      by_cases h34 : s[k + 1] = 34
      · rw [if_pos h34] at hq
        have HQ := Lib.hid hq
        have t : ((s[k + 1].toNat : Int) == 34) = true := by rw [h34]; rfl
        clear hq hown hF h34
        go_wp2
        rw [HOWN.out.text]; simp only [Result.andThen]; rw [Oper.upon_value]
        go_wp2
        go_ret2
        refine ⟨?_, HF.out.below⟩
        rw [HQ.out]
        simp [qapp, qRet]
      · rw [if_neg h34] at hq
        by_cases h92 : s[k + 1] = 92
        · rw [if_pos h92] at hq
          have t0 : ((s[k + 1].toNat : Int) == 34) = false := by rw [h92]; rfl
          have t : ((s[k + 1].toNat : Int) == 92) = true := by rw [h92]; rfl
          by_cases hend : k + 2 < s.size
          · rw [drop_at s (k + 2) hend] at hq
            simp only at hq
            rw [qapp_one] at hq
            have HQ := Lib.hid hq
            have t2 : ((k : Int) + 1 + 1 == (s.size : Int)) = false := by rw [beq_eq_false_iff_ne]; omega
            have i2 : (k : Int) + 1 + 1 < (s.size : Int) := by omega
            clear hq hown hF h34 h92
            have hB : w.heap.size ≤ wr.heap.size := HF.out.size
            go_wp2_with (at_builtin; refine wpList_push_byte rfl _ _ rfl w.heap.size out _ (s[k + 2]) wr HOWN.out hB ?c4 rfl rfl ?_)
            case c4 => omega
            intro v' w2 hown' hg _
            have HO2 := Lib.hid hown'; have HF2 := Lib.hid (push_fr HF.out HOWN.out hg)
            clear hown' hg
            go_wp2
            go_roundw
            case rel => exact ⟨k + 2, out ++ [s[k + 2]], rfl, rfl, by go_num, by simp; omega, by omega, HQ.out, HO2.out, HF2.out⟩
            case measure => simp [intOf]; omega
          · have hd : s.data.toList.drop (k + 1 + 1) = [] := List.drop_eq_nil_of_le (by simp; omega)
            rw [hd] at hq
            clear hd
            have HQ := Lib.hid hq
            have t2 : ((k : Int) + 1 + 1 == (s.size : Int)) = true := by rw [beq_iff_eq]; omega
            clear hq hown hF h34 h92
            go_wp2
            go_ret2
            exact ⟨by rw [HQ.out]; rfl, HF.out.below⟩
        · rw [if_neg h92, qapp_one] at hq
          have HQ := Lib.hid hq
          have t0 : ((s[k + 1].toNat : Int) == 34) = false := cneq h34
          have t : ((s[k + 1].toNat : Int) == 92) = false := cneq h92
          have hB : w.heap.size ≤ wr.heap.size := HF.out.size
          clear hq hown hF h34 h92
          go_wp2_with (at_builtin; refine wpList_push_byte rfl _ _ rfl w.heap.size out _ (s[k + 1]) wr HOWN.out hB ?c4 rfl rfl ?_)
          case c4 => omega
          intro v' w2 hown' hg _
          have HO2 := Lib.hid hown'; have HF2 := Lib.hid (push_fr HF.out HOWN.out hg)
          clear hown' hg
          go_wp2
          go_roundw
          case rel => exact ⟨k + 1, out ++ [s[k + 1]], rfl, rfl, by go_num, by simp; omega, by omega, HQ.out, HO2.out, HF2.out⟩
          case measure => simp [intOf]; omega
    · have hd : s.data.toList.drop (k + 1) = [] := List.drop_eq_nil_of_le (by simp; omega)
      rw [hd] at hq
      clear hd
      have HQ := Lib.hid hq
      clear hq hown hF
      go_wp2
      go_ret2
      exact ⟨by rw [HQ.out]; rfl, HF.out.below⟩
end Go.Proofs.YtpoglombagmhmaaGreatDoor
/- spec.tokens: the walk. -/
namespace Go.Proofs.YtpoglombagmhmaaGreatDoor
open Go Go.RowKit

theorem infoTok : (Tryz.prog.info? 68).map (fun i => (i.zero, i.size, i.bytes)) = some (some (.agg #[.int .u8 0, .string ⟨#[]⟩, .bool false]), 3, 32) := by kernel_rfl
theorem info_parts3 {P : Program} {e : TypeId} {z : Value} {n b : Nat} (h : (P.info? e).map (fun i => (i.zero, i.size, i.bytes)) = some (some z, n, b)) : ∃ i, P.info? e = some i ∧ i.zero = some z ∧ i.size = n ∧ i.bytes = b := by
  obtain ⟨i, hi, he⟩ := Option.map_eq_some_iff.1 h
  simp only [Prod.mk.injEq] at he
  exact ⟨i, hi, he.1, he.2.1, he.2.2⟩

def tokC (t : Tok) : List Value := [.int .u8 t.kind.toNat, .string ⟨t.text.toArray⟩, .bool t.space]
def tokCells (ts : List Tok) : List Value := ts.flatMap tokC
theorem tokCells_length (ts : List Tok) : (tokCells ts).length = ts.length * 3 := by
  induction ts with
  | nil => rfl
  | cons t ts ih => simp only [tokCells, List.flatMap_cons, List.length_append, List.length_cons] at ih ⊢; rw [ih]; simp [tokC]; omega
/-- A row of tokens. -/
def OwnT (B : Nat) (ts : List Tok) (v : Value) (w : World) : Prop := w.ownsRow B 68 3 v ts.length (tokCells ts)
theorem OwnT.nil (B : Nat) (w : World) : OwnT B [] (.slice none 0 0) w := World.ownsRow_nil _ _ _ _
theorem ba_list (y : ByteArray) : (⟨y.data.toList.toArray⟩ : ByteArray) = y := by cases y; rfl

/-- 'append(v, token{..})': for the walk. -/
theorem wpList_push_tok {ops : Array Oper} {rest : List Oper} {o : Oper} {a : Act} {Q : Exit → Act → World → Prop} (hgd : o.guard = none) (s x : Operand)
    (ho : o.op = .call { callee := .builtin .append, args := #[s, x], argTypes := #[52, 52] })
    (B : Nat) (ts : List Tok) (v : Value) (c : UInt8) (y : ByteArray) (q : Bool) (wr : World) (hown : OwnT B ts v wr) (hB : B ≤ wr.heap.size) (hlen : ts.length + 1 ≤ 4398046511104) (hs : a.eval s = v) (hx : a.eval x = .slice (some ⟨wr.heap.size, 0, none⟩) 1 1)
    (h : ∀ v' w', OwnT B (ts ++ [⟨c, y.data.toList, q⟩]) v' w' → (wr.alloc (.cells #[.int .u8 c.toNat, .string y, .bool q] 68)).grownBy w' v.ownBlock → (v'.ownBlock = v.ownBlock ∨ v'.ownBlock = some (wr.heap.size + 1)) → wpList Tryz.prog ops Q rest (a.put o.dst v') w') :
    wpList Tryz.prog ops Q (o :: rest) a (wr.alloc (.cells #[.int .u8 c.toNat, .string y, .bool q] 68)) := by
  obtain ⟨i0, hi, hz0, hz1, hz2⟩ := info_parts3 infoTok
  refine wpList_append_own_at _ hgd s x 52 ho B 68 i0 _ 3 32 Tryz.underlying52 hi hz0 hz1 hz2 rfl (by decide) v ts.length (tokCells ts) hs (World.ownsRow.alloc hown _) ⟨wr.heap.size, 0, none⟩ 1 1 [.int .u8 c.toNat, .string y, .bool q] hx rfl ?_ (fun u hu => ?_) (by unfold maxLen; omega) (by omega) (by simp; omega) (fun v' w' h1 h2 _ h4 => h v' w' ?_ h2 (h4.imp id (fun e => by rw [e]; simp)))
  · intro j u hj
    have hadd : (⟨wr.heap.size, 0, none⟩ : Addr).add j = ⟨wr.heap.size, j, none⟩ := by unfold Addr.add; split <;> simp_all
    rw [hadd]
    rw [Lib.cell_of_heap (heap_alloc_new wr _)]
    simpa using hj
  · simp at hu; rcases hu with rfl | rfl | rfl <;> rfl
  · unfold OwnT
    rw [List.length_append]
    have : tokCells (ts ++ [⟨c, y.data.toList, q⟩]) = tokCells ts ++ [.int .u8 c.toNat, .string y, .bool q] := by simp [tokCells, tokC]
    rw [this]
    exact h1

theorem span_at (p : UInt8 → Bool) (L : List UInt8) : ∀ j, j ≤ L.length → (L.take j).all p = true → (∀ x, L[j]? = some x → p x = false) → L.takeWhile p = L.take j ∧ L.dropWhile p = L.drop j := by
  induction L with
  | nil => intro j _ _ _; simp
  | cons a t ih =>
    intro j hj ha hx
    cases j with
    | zero =>
      have := hx a rfl
      simp [this]
    | succ j =>
      rw [List.take_succ_cons, List.all_cons, Bool.and_eq_true] at ha
      obtain ⟨h1, h2⟩ := ih j (by simpa using hj) ha.2 (fun x h => hx x (by simpa using h))
      simp [ha.1, h1, h2]

def TRet (r : TR) (B : Nat) (x : Ending) (w' : World) : Prop :=
  match r with
  | .bad => x = .returned (.tuple #[.slice none 0 0, .bool false, .int .i64 1])
  | .open_ => x = .returned (.tuple #[.slice none 0 0, .bool false, .int .i64 2])
  | .good ts last => ∃ v, x = .returned (.tuple #[v, .bool last, .int .i64 0]) ∧ OwnT B ts v w'

/-- k signs are read. -/
def TkRel (s : ByteArray) (w : World) (r2 r3 r4 i : Value) (wr : World) : Prop :=
  ∃ (k : Nat) (ts : List Tok) (last : Bool), OwnT w.heap.size ts r2 wr ∧ r3 = .bool last ∧ r4 = .int .i64 0 ∧ i = .int .i64 k ∧ ts.length ≤ k ∧ k ≤ s.size ∧ toksL false s.data.toList = TR.app ts (toksL last (s.data.toList.drop k)) ∧ Fr (· < w.heap.size) w wr

theorem pushT_fr {w wr w2 : World} {v : Value} {o : Obj} {ts : List Tok} (hF : Fr (· < w.heap.size) w wr) (ho : OwnT w.heap.size ts v wr) (hg : (wr.alloc o).grownBy w2 v.ownBlock) : Fr (· < w.heap.size) w w2 :=
  (hF.alloc (fun k hk => Nat.lt_of_lt_of_le hk hF.size) o).grown hg (fun k hk => by have := hF.size; simp; omega) (fun k e hk => by have := (own_lt ho k e).1; omega)
theorem OwnT.below {B : Nat} {ts : List Tok} {v : Value} {w w' : World} (h : OwnT B ts v w) (hb : Below w.heap.size w w') : OwnT B ts v w' := own_fr h (fun k _ hk => (Fr.of_below hb).block k hk)

theorem toks_sp {last : Bool} {c : UInt8} {t : List UInt8} (h : isSp c = true) : toksL last (c :: t) = toksL true t := by rw [toksL, if_pos h]
theorem toks_atom {last : Bool} {c : UInt8} {t : List UInt8} (h : isSp c = false) (ha : atomB c = true) : toksL last (c :: t) = TR.cons ⟨97, (c :: t).takeWhile atomB, last⟩ (toksL false ((c :: t).dropWhile atomB)) := by
  rw [toksL, if_neg (by simp [h]), if_pos ha]
  simp [ha]
theorem toks_quote {last : Bool} {t : List UInt8} : toksL last (34 :: t) = match quotedL t with | none => .bad | some r => TR.cons ⟨113, r.1, last⟩ (toksL false (t.drop r.2)) := by
  rw [toksL, if_neg (by decide), if_neg (by decide), if_pos rfl]
  rfl
theorem toks_back {last : Bool} {t : List UInt8} : toksL last (92 :: t) = .bad := by
  rw [toksL, if_neg (by decide), if_neg (by decide), if_neg (by decide), if_pos rfl]
theorem toks_open {last : Bool} {c : UInt8} {t : List UInt8} (h : isSp c = false) (ha : atomB c = false) (h3 : c ≠ 34) (h4 : c ≠ 92) (ho : isOpen c = true) : toksL last (c :: t) = .open_ := by
  rw [toksL, if_neg (by simp [h]), if_neg (by simp [ha]), if_neg h3, if_neg h4, if_pos ho]
theorem toks_else {last : Bool} {c : UInt8} {t : List UInt8} (h : isSp c = false) (ha : atomB c = false) (h3 : c ≠ 34) (h4 : c ≠ 92) (ho : isOpen c = false) : toksL last (c :: t) = TR.cons ⟨c, [], last⟩ (toksL false t) := by
  rw [toksL, if_neg (by simp [h]), if_neg (by simp [ha]), if_neg h3, if_neg h4, if_neg (by simp [ho])]
end Go.Proofs.YtpoglombagmhmaaGreatDoor
/- spec.tokens: the walk (its loops). -/
namespace Go.Proofs.YtpoglombagmhmaaGreatDoor
open Go Go.RowKit

theorem tr_push {s : ByteArray} {ts : List Tok} {last : Bool} {k : Nat} {t : Tok} {r : TR} (h : toksL false s.data.toList = TR.app ts (toksL last (s.data.toList.drop k))) (hr : toksL last (s.data.toList.drop k) = TR.cons t r) : toksL false s.data.toList = TR.app (ts ++ [t]) r := by
  rw [h, hr, TR.app_cons]
theorem ext_toList (s : ByteArray) (a b : Nat) : (s.extract a b).data.toList = (s.data.toList.drop a).take (b - a) := by
  rw [ByteArray.data_extract, Array.toList_extract, List.extract_eq_take_drop]

theorem quotedL_le : ∀ (l : List UInt8) (r : Option (List UInt8 × Nat)), quotedL l = r → ∀ p, r = some p → p.2 ≤ l.length := by
  intro l
  induction hn : l.length using Nat.strongRecOn generalizing l with
  | _ n ih =>
    intro r hr p hp
    subst hn
    subst hp
    cases l with
    | nil => simp [quotedL] at hr
    | cons c t =>
      rw [quotedL_cons] at hr
      by_cases h34 : c = 34
      · rw [if_pos h34] at hr
        cases hr
        simp
      · rw [if_neg h34] at hr
        by_cases h92 : c = 92
        · rw [if_pos h92] at hr
          cases t with
          | nil => simp at hr
          | cons d t' =>
            simp only [Option.map_eq_some_iff] at hr
            obtain ⟨q, hq, rfl⟩ := hr
            have := ih t'.length (by simp; omega) t' rfl _ hq q rfl
            simp only [List.length_cons]; omega
        · rw [if_neg h92] at hr
          simp only [Option.map_eq_some_iff] at hr
          obtain ⟨q, hq, rfl⟩ := hr
          have := ih t.length (by simp) t rfl _ hq q rfl
          simp only [List.length_cons]; omega

set_option maxHeartbeats 4000000 in
set_option maxRecDepth 100000 in
theorem tokens_any (s : ByteArray) (w : World) (hs : s.size ≤ 1099511627776) (hT : Lib.Utf8Tabs 0 1 w) :
    Calls Tryz.prog 18 #[.string s] w fun x w' => TRet (tokensL s.data.toList) w.heap.size x w' ∧ Below w.heap.size w w' := by
  have HT := Lib.hid hT
  clear hT
  cases hv : Lib.validD s.data.toList with
  | false =>
    have HV := Lib.hid hv
    clear hv
    go_enter Tryz.func18, Tryz.ntmps18
    go_wp2_with fail
    refine (Tryz.utf8_ValidString s _ (by omega) HT.out).mono ?_
    rintro x w1 ⟨rfl, hb1⟩
    rw [HV.out]
    go_wp2
    refine bodyPost_ret (v := .tuple #[.slice none 0 0, .bool false, .int .i64 2]) (by simp [results, Tryz.results18, go_sem]) rfl ⟨?_, hb1⟩
    unfold tokensL
    rw [if_pos HV.out]
    rfl
  | true =>
    have HV := Lib.hid hv
    clear hv
    go_enter Tryz.func18, Tryz.ntmps18
    go_wp2_with fail
    refine (Tryz.utf8_ValidString s _ (by omega) HT.out).mono ?_
    rintro x w1 ⟨rfl, hb1⟩
    rw [HV.out]
    have HB1 := Lib.hid hb1
    clear hb1
    go_wp2_with fail
    go_loopw [2, 3, 4, 17] (fun r2 r3 r4 i wr => r2 = .slice none 0 0 ∧ r3 = .bool false ∧ r4 = .int .i64 0 ∧ wr = w1 ∧ ∃ k : Nat, k ≤ s.size ∧ i = .int .i64 k ∧ (s.data.toList.take k).any ctlB = false) (fun _ _ _ i _ => s.size - (intOf i).toNat)
    case atStart => exact ⟨rfl, rfl, rfl, rfl, 0, Nat.zero_le _, rfl, rfl⟩
    case round =>
      obtain ⟨rfl, rfl, rfl, rfl, k, hk, rfl, hno⟩ := hrel
      have HNO := Lib.hid hno
      clear hno
      by_cases hlt : k < s.size
      · have hsn := take_snoc s k hlt
        have HSN := Lib.hid hsn
        clear hsn
        by_cases hc : s[k].toNat < 32 ∧ s[k].toNat ≠ 9 ∨ s[k].toNat = 127
        · have hany : s.data.toList.any ctlB = true := by
            rw [List.any_eq_true]
            exact ⟨s[k], by rw [ByteArray.getElem_eq_getElem_data]; simp, decide_eq_true hc⟩
          have HANY := Lib.hid hany
          clear hany
          rcases hc with ⟨c1, c2⟩ | c1
          · have t1 : (s[k].toNat : Int) < 32 := by omega
            have t2 : ((s[k].toNat : Int) != 9) = true := by rw [bne_iff_ne]; omega
            clear c1 c2
            go_wp2
            refine bodyPost_ret (v := .tuple #[.slice none 0 0, .bool false, .int .i64 2]) (by simp [results, Tryz.results18, go_sem]) rfl ⟨?_, HB1.out⟩
            unfold tokensL
            rw [if_neg (by rw [HV.out]; decide), if_pos HANY.out]
            rfl
          · have t1 : ¬ (s[k].toNat : Int) < 32 := by omega
            have t2 : ((s[k].toNat : Int) == 127) = true := by rw [beq_iff_eq]; omega
            clear c1
            go_wp2
            refine bodyPost_ret (v := .tuple #[.slice none 0 0, .bool false, .int .i64 2]) (by simp [results, Tryz.results18, go_sem]) rfl ⟨?_, HB1.out⟩
            unfold tokensL
            rw [if_neg (by rw [HV.out]; decide), if_pos HANY.out]
            rfl
        · have hb : ctlB s[k] = false := decide_eq_false hc
          have HB := Lib.hid hb
          clear hb
          have t2 : ((s[k].toNat : Int) == 127) = false := by rw [beq_eq_false_iff_ne]; omega
          have hor : (¬ (s[k].toNat : Int) < 32) ∨ ((s[k].toNat : Int) < 32 ∧ ((s[k].toNat : Int) != 9) = false) := by
            by_cases h : (s[k].toNat : Int) < 32
            · exact .inr ⟨h, by rw [bne_eq_false_iff_eq]; omega⟩
            · exact .inl h
          clear hc
          rcases hor with t1 | ⟨t1, t3⟩
          all_goals
            go_wp2
            go_roundw
            case rel => exact ⟨by first | rfl | trivial, by first | rfl | trivial, by first | rfl | trivial, by first | rfl | trivial, k + 1, by omega, by go_num, by rw [HSN.out, List.any_append, HNO.out]; simp [HB.out]⟩
            case measure => simp [intOf]; omega
      · have hno : s.data.toList.any ctlB = false := by
          have := HNO.out
          rwa [List.take_of_length_le (by simp; omega)] at this
        have htl : tokensL s.data.toList = toksL false s.data.toList := by
          unfold tokensL
          rw [if_neg (by rw [HV.out]; decide), if_neg (by rw [hno]; decide)]
        have HTL := Lib.hid htl
        clear hno htl HNO
        go_wp2
        go_loopw [2, 3, 4, 6] (fun r2 r3 r4 i wr => TkRel s w r2 r3 r4 i wr) (fun _ _ _ i _ => s.size - (intOf i).toNat)
        case atStart => exact ⟨0, [], false, OwnT.nil _ _, rfl, rfl, rfl, Nat.le_refl _, Nat.zero_le _, by rw [TR.app_nil]; rfl, Fr.of_below HB1.out⟩
        case round =>
          obtain ⟨k2, ts, last, hown, rfl, rfl, rfl, htl, hk2, heq, hF⟩ := hrel
          have HOWN := Lib.hid hown; have HF := Lib.hid hF
          have hB : w.heap.size ≤ wr.heap.size := hF.size
          by_cases hlt2 : k2 < s.size
          · rw [drop_at s k2 hlt2] at heq
            obtain ⟨c, hc⟩ : ∃ c, s[k2] = c := ⟨_, rfl⟩
            rw [hc] at heq
            have hct := c.toNat_lt
            cases hsp : isSp c with
            | true =>
              rw [toks_sp hsp] at heq
              have HEQ := Lib.hid heq
              have hcs : c = 32 ∨ c = 9 := by
                unfold isSp at hsp
                simpa using hsp
              clear heq hown hF hsp
              rcases hcs with rfl | rfl
              all_goals
                go_wp2
                go_roundw
                case rel => exact ⟨k2 + 1, ts, true, HOWN.out, rfl, rfl, by go_num, by omega, by omega, HEQ.out, HF.out⟩
                case measure => simp [intOf]; omega
            | false =>
              have n32 : c ≠ 32 := fun e => by rw [e] at hsp; exact absurd hsp (by decide)
              have n9 : c ≠ 9 := fun e => by rw [e] at hsp; exact absurd hsp (by decide)
              have t32 : ((c.toNat : Int) == 32) = false := cneq n32
              have t9 : ((c.toNat : Int) == 9) = false := cneq n9
              have HSP := Lib.hid hsp
              have HC := Lib.hid hc
              cases ha : atomB c with
              | true =>
                rw [toks_atom hsp ha, ← hc, ← drop_at s k2 hlt2] at heq
                have HEQ := Lib.hid heq; have HA := Lib.hid ha
                clear heq hown hF hsp n32 n9 ha
                go_wp2_with fail
                refine (IsAtom_any c _).mono ?_
                rintro x w2 ⟨rfl, hb2⟩
                rw [HA.out]
                have HB2 := Lib.hid hb2
                clear hb2
                go_wp2
                clear hc
                go_loopw [9] (fun n w3 => ∃ m : Nat, n = .int .i64 m ∧ k2 ≤ m ∧ m ≤ s.size ∧ ((s.data.toList.drop k2).take (m - k2)).all atomB = true ∧ Below wr.heap.size wr w3) (fun n _ => s.size - (intOf n).toNat)
                case atStart => exact ⟨k2, rfl, Nat.le_refl _, hk2, by simp, HB2.out⟩
                case round =>
                  obtain ⟨m, rfl, hm1, hm2, hall, hb3⟩ := hrel
                  have HALL := Lib.hid hall; have HB3 := Lib.hid hb3
                  clear hall hb3
                  have HDR := Lib.hid (drop_at s k2 hlt2)
                  by_cases hlt3 : m < s.size
                  · cases had : atomB s[m] with
                    | true =>
                      have HAD := Lib.hid had
                      clear had
                      go_wp2_with fail
                      refine (IsAtom_any (s[m]) _).mono ?_
                      rintro x w4 ⟨rfl, hb4⟩
                      rw [HAD.out]
                      have HB4 := Lib.hid (HB3.out.trans (hb4.mono HB3.out.size))
                      clear hb4
                      go_wp2
                      go_roundw
                      case rel =>
                        refine ⟨m + 1, by go_num, by omega, by omega, ?_, HB4.out⟩
                        rw [show m + 1 - k2 = (m - k2) + 1 by omega, List.take_add_one, List.all_append, HALL.out, List.getElem?_drop, show k2 + (m - k2) = m by omega]
                        have : s.data.toList[m]? = some s[m] := by rw [List.getElem?_eq_getElem (by simpa using hlt3)]; congr 1
                        rw [this]
                        simp [HAD.out]
                      case measure => simp [intOf]; omega
                    | false =>
                      have hspan := span_at atomB (s.data.toList.drop k2) (m - k2) (by simp; omega) HALL.out (fun x hx => by
                        rw [List.getElem?_drop, show k2 + (m - k2) = m by omega] at hx
                        have h2 : s.data.toList[m]? = some s[m] := by rw [List.getElem?_eq_getElem (by simpa using hlt3)]; congr 1
                        rw [h2] at hx
                        cases hx
                        exact had)
                      have hmk : k2 < m := by
                        rcases Nat.eq_or_lt_of_le hm1 with e | h
                        · subst e
                          rw [HC.out, HA.out] at had
                          cases had
                        · exact h
                      rw [List.drop_drop, show k2 + (m - k2) = m by omega] at hspan
                      have HSPAN := Lib.hid hspan; have HAD := Lib.hid had
                      clear hspan had
                      go_wp2_with fail
                      refine (IsAtom_any (s[m]) _).mono ?_
                      rintro x w4 ⟨rfl, hb4⟩
                      rw [HAD.out]
                      have HBW := Lib.hid (HB3.out.trans (hb4.mono HB3.out.size))
                      clear hb4
                      have hFW : Fr (· < w.heap.size) w w4 := HF.out.trans ((Fr.of_below HBW.out).mono (fun k hk => Nat.lt_of_lt_of_le hk hB))
                      have hOW : OwnT w.heap.size ts u2 w4 := HOWN.out.below HBW.out
                      have HFW := Lib.hid hFW; have HOW := Lib.hid hOW
                      have hBW : w.heap.size ≤ w4.heap.size := hFW.size
                      clear hFW hOW
                      go_wp2_with (at_builtin; refine wpList_push_tok rfl _ _ rfl w.heap.size ts _ 97 (s.extract k2 m) last w4 HOW.out hBW ?c4 rfl rfl ?_)
                      case c4 => omega
                      intro v' w5 hown' hg _
                      have HO2 := Lib.hid hown'; have HF2 := Lib.hid (pushT_fr HFW.out HOW.out hg)
                      clear hown' hg
                      go_wp2
                      go_roundw
                      case rel =>
                        refine ⟨m, _, false, HO2.out, rfl, rfl, by go_num, by simp; omega, hm2, ?_, HF2.out⟩
                        rw [HEQ.out, TR.app_cons, HSPAN.out.1, HSPAN.out.2]
                      case measure => simp [intOf]; omega

                  · have hm3 : m = s.size := by omega
                    have hspan := span_at atomB (s.data.toList.drop k2) (m - k2) (by simp; omega) HALL.out (fun x hx => by
                      rw [List.getElem?_drop, show k2 + (m - k2) = m by omega, List.getElem?_eq_none (by simp; omega)] at hx
                      cases hx)
                    have hmk : k2 < m := by omega
                    rw [List.drop_drop, show k2 + (m - k2) = m by omega] at hspan
                    have HSPAN := Lib.hid hspan; have HBW := HB3; have HM3 := Lib.hid hm3
                    clear hspan hm3
                    have hFW : Fr (· < w.heap.size) w wr := HF.out.trans ((Fr.of_below HBW.out).mono (fun k hk => Nat.lt_of_lt_of_le hk hB))
                    have hOW : OwnT w.heap.size ts u2 wr := HOWN.out.below HBW.out
                    have HFW := Lib.hid hFW; have HOW := Lib.hid hOW
                    have hBW : w.heap.size ≤ wr.heap.size := hFW.size
                    clear hFW hOW
                    go_wp2_with (at_builtin; refine wpList_push_tok rfl _ _ rfl w.heap.size ts _ 97 (s.extract k2 m) last wr HOW.out hBW ?c4 rfl rfl ?_)
                    case c4 => omega
                    intro v' w5 hown' hg _
                    have HO2 := Lib.hid hown'; have HF2 := Lib.hid (pushT_fr HFW.out HOW.out hg)
                    clear hown' hg
                    go_wp2
                    go_roundw
                    case rel =>
                      refine ⟨m, _, false, HO2.out, rfl, rfl, by go_num, by simp; omega, hm2, ?_, HF2.out⟩
                      rw [HEQ.out, TR.app_cons, HSPAN.out.1, HSPAN.out.2]
                    case measure => simp [intOf]; omega

              | false =>
                have HA := Lib.hid ha
                by_cases h34 : c = 34
                · subst h34
                  rw [toks_quote] at heq
                  have HEQ := Lib.hid heq
                  obtain ⟨r, hr⟩ : ∃ r, quotedL (s.data.toList.drop (k2 + 1)) = r := ⟨_, rfl⟩
                  have hqd : (s.extract k2 s.size).data.toList.drop 1 = s.data.toList.drop (k2 + 1) := by
                    rw [ext_toList, List.take_of_length_le (by simp), List.drop_drop]
                  have hqa := fun W => quoted_any (s.extract k2 s.size) W (by rw [ByteArray.size_extract]; omega)
                  rw [hqd, hr] at hqa
                  rw [hr] at HEQ
                  have HQA := Lib.hid hqa
                  have hrl := quotedL_le _ _ hr
                  clear heq hown hF hsp n32 n9 ha hqd hqa hr
                  go_wp2_with fail
                  refine (IsAtom_any 34 _).mono ?_
                  rintro x w2 ⟨rfl, hb2⟩
                  rw [HA.out]
                  have HB2 := Lib.hid hb2
                  clear hb2
                  go_wp2_with fail
                  refine (HQA.out _).mono ?_
                  rintro x w3 ⟨rfl, hb3⟩
                  have HB2 := Lib.hid (HB2.out.trans (hb3.mono HB2.out.size))
                  clear hb3
                  cases r with
                  | none =>
                    unfold qRet
                    go_wp2
                    refine bodyPost_ret (v := .tuple #[.slice none 0 0, .bool false, .int .i64 1]) (by simp [results, Tryz.results18, go_sem]) rfl ⟨?_, (HF.out.trans ((Fr.of_below HB2.out).mono (fun k hk => Nat.lt_of_lt_of_le hk hB))).below⟩
                    rw [HTL.out, HEQ.out]
                    rfl
                  | some r =>
                    obtain ⟨y, n⟩ := r
                    have hle := hrl (y, n) rfl
                    simp only [List.length_drop, Array.length_toList] at hle
                    have hle' : n ≤ s.size - (k2 + 1) := hle
                    clear hle hrl
                    unfold qRet
                    have t0 : ((((y, n).2 + 1 : Nat) : Int) == 0) = false := by rw [beq_eq_false_iff_ne]; omega
                    have hyt : (⟨y.toArray⟩ : ByteArray).data.toList = y := by simp
                    have HYT := Lib.hid hyt
                    clear hyt
                    have hFW : Fr (· < w.heap.size) w w3 := HF.out.trans ((Fr.of_below HB2.out).mono (fun k hk => Nat.lt_of_lt_of_le hk hB))
                    have hOW : OwnT w.heap.size ts u2 w3 := HOWN.out.below HB2.out
                    have HFW := Lib.hid hFW; have HOW := Lib.hid hOW
                    have hBW : w.heap.size ≤ w3.heap.size := hFW.size
                    clear hFW hOW
                    go_wp2_with (at_builtin; refine wpList_push_tok rfl _ _ rfl w.heap.size ts _ 113 ⟨y.toArray⟩ last w3 HOW.out hBW ?c4 rfl rfl ?_)
                    case c4 => omega
                    intro v' w5 hown' hg _
                    have HO2 := Lib.hid hown'; have HF2 := Lib.hid (pushT_fr HFW.out HOW.out hg)
                    clear hown' hg
                    go_wp2
                    go_roundw
                    case rel =>
                      refine ⟨k2 + (n + 1), _, false, HO2.out, rfl, rfl, by go_num, by simp; omega, by omega, ?_, HF2.out⟩
                      rw [HEQ.out]
                      simp only [TR.app_cons, List.drop_drop]
                      rw [show k2 + 1 + n = k2 + (n + 1) by omega]
                    case measure => simp [intOf]; omega

                · by_cases h92 : c = 92
                  · subst h92
                    rw [toks_back] at heq
                    have HEQ := Lib.hid heq
                    clear heq hown hF hsp n32 n9 ha h34
                    go_wp2_with fail
                    refine (IsAtom_any 92 _).mono ?_
                    rintro x w2 ⟨rfl, hb2⟩
                    rw [HA.out]
                    have HB2 := Lib.hid hb2
                    clear hb2
                    go_wp2
                    refine bodyPost_ret (v := .tuple #[.slice none 0 0, .bool false, .int .i64 1]) (by simp [results, Tryz.results18, go_sem]) rfl ⟨?_, (HF.out.trans ((Fr.of_below HB2.out).mono (fun k hk => Nat.lt_of_lt_of_le hk hB))).below⟩
                    rw [HTL.out, HEQ.out]
                    rfl
                  · have t34 : ((c.toNat : Int) == 34) = false := cneq h34
                    have t92 : ((c.toNat : Int) == 92) = false := cneq h92
                    cases ho : isOpen c with
                    | true =>
                      rw [toks_open hsp ha h34 h92 ho] at heq
                      have HEQ := Lib.hid heq
                      have hcs : c = 40 ∨ c = 41 ∨ c = 91 ∨ c = 93 := by
                        unfold isOpen at ho
                        simp only [Bool.or_eq_true, beq_iff_eq] at ho
                        rcases ho with ((h | h) | h) | h
                        · exact .inl h
                        · exact .inr (.inl h)
                        · exact .inr (.inr (.inl h))
                        · exact .inr (.inr (.inr h))
                      clear heq hown hF hsp n32 n9 ha h34 h92 ho t34 t92 t32 t9 hct
                      rcases hcs with rfl | rfl | rfl | rfl
                      · go_wp2_with fail
                        refine (IsAtom_any 40 _).mono ?_
                        rintro x w2 ⟨rfl, hb2⟩
                        rw [HA.out]
                        have HB2 := Lib.hid hb2
                        clear hb2
                        go_wp2
                        refine bodyPost_ret (v := .tuple #[.slice none 0 0, .bool false, .int .i64 2]) (by simp [results, Tryz.results18, go_sem]) rfl ⟨?_, (HF.out.trans ((Fr.of_below HB2.out).mono (fun k hk => Nat.lt_of_lt_of_le hk hB))).below⟩
                        rw [HTL.out, HEQ.out]
                        rfl
                      · go_wp2_with fail
                        refine (IsAtom_any 41 _).mono ?_
                        rintro x w2 ⟨rfl, hb2⟩
                        rw [HA.out]
                        have HB2 := Lib.hid hb2
                        clear hb2
                        go_wp2
                        refine bodyPost_ret (v := .tuple #[.slice none 0 0, .bool false, .int .i64 2]) (by simp [results, Tryz.results18, go_sem]) rfl ⟨?_, (HF.out.trans ((Fr.of_below HB2.out).mono (fun k hk => Nat.lt_of_lt_of_le hk hB))).below⟩
                        rw [HTL.out, HEQ.out]
                        rfl
                      · go_wp2_with fail
                        refine (IsAtom_any 91 _).mono ?_
                        rintro x w2 ⟨rfl, hb2⟩
                        rw [HA.out]
                        have HB2 := Lib.hid hb2
                        clear hb2
                        go_wp2
                        refine bodyPost_ret (v := .tuple #[.slice none 0 0, .bool false, .int .i64 2]) (by simp [results, Tryz.results18, go_sem]) rfl ⟨?_, (HF.out.trans ((Fr.of_below HB2.out).mono (fun k hk => Nat.lt_of_lt_of_le hk hB))).below⟩
                        rw [HTL.out, HEQ.out]
                        rfl
                      · go_wp2_with fail
                        refine (IsAtom_any 93 _).mono ?_
                        rintro x w2 ⟨rfl, hb2⟩
                        rw [HA.out]
                        have HB2 := Lib.hid hb2
                        clear hb2
                        go_wp2
                        refine bodyPost_ret (v := .tuple #[.slice none 0 0, .bool false, .int .i64 2]) (by simp [results, Tryz.results18, go_sem]) rfl ⟨?_, (HF.out.trans ((Fr.of_below HB2.out).mono (fun k hk => Nat.lt_of_lt_of_le hk hB))).below⟩
                        rw [HTL.out, HEQ.out]
                        rfl
                    | false =>
                      rw [toks_else hsp ha h34 h92 ho] at heq
                      have HEQ := Lib.hid heq
                      have hcs : c ≠ 40 ∧ c ≠ 41 ∧ c ≠ 91 ∧ c ≠ 93 := by
                        refine ⟨?_, ?_, ?_, ?_⟩ <;> (rintro rfl; exact absurd ho (by decide))
                      have t40 : ((c.toNat : Int) == 40) = false := cneq hcs.1
                      have t41 : ((c.toNat : Int) == 41) = false := cneq hcs.2.1
                      have t91 : ((c.toNat : Int) == 91) = false := cneq hcs.2.2.1
                      have t93 : ((c.toNat : Int) == 93) = false := cneq hcs.2.2.2
                      clear heq hown hF hsp n32 n9 ha h34 h92 ho hcs
                      go_wp2_with fail
                      refine (IsAtom_any c _).mono ?_
                      rintro x w2 ⟨rfl, hb2⟩
                      rw [HA.out]
                      have HB2 := Lib.hid hb2
                      clear hb2
                      have hFW : Fr (· < w.heap.size) w w2 := HF.out.trans ((Fr.of_below HB2.out).mono (fun k hk => Nat.lt_of_lt_of_le hk hB))
                      have hOW : OwnT w.heap.size ts u2 w2 := HOWN.out.below HB2.out
                      have HFW := Lib.hid hFW; have HOW := Lib.hid hOW
                      have hBW : w.heap.size ≤ w2.heap.size := hFW.size
                      clear hFW hOW
                      go_wp2_with (at_builtin; refine wpList_push_tok rfl _ _ rfl w.heap.size ts _ c ⟨#[]⟩ last w2 HOW.out hBW ?c4 rfl rfl ?_)
                      case c4 => omega
                      intro v' w5 hown' hg _
                      have HO2 := Lib.hid hown'; have HF2 := Lib.hid (pushT_fr HFW.out HOW.out hg)
                      clear hown' hg
                      go_wp2
                      go_roundw
                      case rel =>
                        refine ⟨k2 + 1, _, false, HO2.out, rfl, rfl, by go_num, by simp; omega, by omega, ?_, HF2.out⟩
                        rw [HEQ.out, TR.app_cons]
                      case measure => simp [intOf]; omega

          · have hd : s.data.toList.drop k2 = [] := List.drop_eq_nil_of_le (by simp; omega)
            rw [hd] at heq
            clear hd
            rw [toksL] at heq
            have HEQ := Lib.hid heq
            clear heq hown hF
            go_wp2
            refine bodyPost_ret (v := .tuple #[u2, .bool last, .int .i64 0]) (by simp [results, Tryz.results18, go_sem]) rfl ⟨?_, HF.out.below⟩
            rw [HTL.out, HEQ.out]
            exact ⟨_, rfl, by simpa using HOWN.out⟩
end Go.Proofs.YtpoglombagmhmaaGreatDoor
