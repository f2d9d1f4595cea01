/- The reference's lower: the walk. -/
import Derived.Test.YtpoglombagmhmaaGreatDoorV2
import Derived.Test.YtpoglombagmhmaaGreatDoorU4
import Derived.Test.YtpoglombagmhmaaGreatDoorS4
namespace Go.Proofs.YtpoglombagmhmaaGreatDoor
open Go Go.RowKit

/-- A row of bytes of a conversion: its cells up to the length may be written. -/
def RowZ (g : Nat) (l : List UInt8) (w : World) : Prop :=
  ∃ (cs : Array Value) (lo hi : Nat), w.heap[g]? = some (.cells cs 5 (lo, hi)) ∧ l.length ≤ lo ∧ ∀ (j : Nat) (x : UInt8), l[j]? = some x → cs[j]? = some (Value.int .u8 x.toNat)
theorem RowZ.cell {g : Nat} {l : List UInt8} {w : World} (h : RowZ g l w) {j : Nat} {x : UInt8} (hx : l[j]? = some x) : w.cell? ⟨g, j, none⟩ = some (.int .u8 x.toNat) := by
  obtain ⟨cs, lo, hi, hb, _, hc⟩ := h
  rw [Lib.cell_of_heap hb]; exact hc j x hx
theorem RowZ.frozen {g : Nat} {l : List UInt8} {w : World} (h : RowZ g l w) {j : Nat} (hj : j < l.length) : w.frozen? ⟨g, j, none⟩ = false := by
  obtain ⟨cs, lo, hi, hb, hlo, _⟩ := h
  simp only [World.frozen?, hb]
  rw [Bool.and_eq_false_iff]
  exact .inl (decide_eq_false (by omega))
theorem RowZ.set {g : Nat} {l : List UInt8} {w : World} (h : RowZ g l w) (j : Nat) (x : UInt8) : RowZ g (l.set j x) (w.setCell ⟨g, j, none⟩ (.int .u8 x.toNat)) := by
  obtain ⟨cs, lo, hi, hb, hs, hc⟩ := h
  refine ⟨cs.setIfInBounds j (.int .u8 x.toNat), lo, hi, heap_setCell_row hb, by simpa using hs, fun i y hy => ?_⟩
  rw [List.getElem?_set] at hy
  rw [Array.getElem?_setIfInBounds]
  by_cases hij : j = i
  · subst hij
    rw [if_pos rfl] at hy ⊢
    split at hy
    · rename_i hlt
      simp only [Option.some.injEq] at hy
      subst hy
      rw [if_pos ((Array.getElem?_eq_some_iff.1 (hc j _ (List.getElem?_eq_getElem hlt))).1)]
    · cases hy
  · rw [if_neg hij] at hy ⊢
    exact hc i y hy

/-- '[]byte(s)': a new row that may be written. -/
theorem conv_rowz (w : World) (s : ByteArray) (hs : s.size ≤ maxLen) : ∃ c w', (convert 9 60 (.string s)).run Tryz.prog w = .ok (.slice (some ⟨w.heap.size, 0, none⟩) s.size c) w' ∧ s.size ≤ c ∧ c ≤ 9223372036854775807 ∧ Fr (· < w.heap.size) w w' ∧ RowZ w.heap.size s.data.toList w' := by
  have hcs : s.size ≤ (Lib.bytesCells w 5 s).size := by
    unfold Lib.bytesCells
    rw [Array.size_append, Array.size_map]
    exact Nat.le_add_right _ _
  refine ⟨_, _, Lib.run_convert_string_bytes w 9 60 5 s (u := .string) (by kernel_rfl) (by kernel_rfl) (by kernel_rfl), grownCap_ge _ _ _ _, grownCap_le_maxLen _ _ _ _ hs, ?_, _, _, _, Lib.bytesWorld_at_new _ _ _, by rw [Array.length_toList]; exact hcs, ?_⟩
  · unfold Lib.bytesWorld
    exact (((Fr.refl _ w).drew.alloc (fun k hk => hk) _).freeze (Nat.lt_irrefl _) _)
  · intro j x hx
    have hj : j < s.size := (List.getElem?_eq_some_iff.1 hx).1
    have h1 := Lib.bytesWorld_cell w 5 s j hj
    rw [Lib.cell_of_heap (Lib.bytesWorld_at_new _ _ _), List.getD_eq_getElem?_getD, hx] at h1
    exact h1

def lowB (c : UInt8) : UInt8 := if 65 ≤ c.toNat ∧ c.toNat ≤ 90 then c + 32 else c
def lowerL (l : List UInt8) : List UInt8 := l.map lowB
theorem lowB_up {c : UInt8} (h1 : 65 ≤ c.toNat) (h2 : c.toNat ≤ 90) : ((lowB c).toNat : Int) = (c.toNat : Int) + 32 := by
  unfold lowB
  rw [if_pos ⟨h1, h2⟩, UInt8.toNat_add]
  have : (32 : UInt8).toNat = 32 := rfl
  omega
theorem lowB_id {c : UInt8} (h : ¬ (65 ≤ c.toNat ∧ c.toNat ≤ 90)) : lowB c = c := by unfold lowB; rw [if_neg h]

/-- The first k bytes are small. -/
def lowTo (l : List UInt8) (k : Nat) : List UInt8 := (l.take k).map lowB ++ l.drop k
theorem lowTo_zero (l : List UInt8) : lowTo l 0 = l := by simp [lowTo]
theorem lowTo_all (l : List UInt8) : lowTo l l.length = lowerL l := by simp [lowTo, lowerL]
theorem lowTo_length (l : List UInt8) (k : Nat) : (lowTo l k).length = l.length := by simp [lowTo]; omega
theorem lowTo_at {l : List UInt8} {k : Nat} {c : UInt8} (h : l[k]? = some c) : (lowTo l k)[k]? = some c := by
  have hk := (List.getElem?_eq_some_iff.1 h).1
  unfold lowTo
  rw [List.getElem?_append_right (by simp; omega)]
  simp only [List.length_map, List.length_take]
  rw [Nat.min_eq_left (by omega), Nat.sub_self, List.getElem?_drop, Nat.add_zero, h]
theorem lowTo_step {l : List UInt8} {k : Nat} {c : UInt8} (h : l[k]? = some c) : (lowTo l k).set k (lowB c) = lowTo l (k + 1) := by
  have hk := (List.getElem?_eq_some_iff.1 h).1
  unfold lowTo
  rw [List.set_append_right _ _ (by rw [List.length_map, List.length_take]; exact Nat.min_le_left _ _), List.length_map, List.length_take, Nat.min_eq_left (by omega), Nat.sub_self, List.drop_eq_getElem_cons hk, List.set_cons_zero, List.take_add_one, h]
  simp
theorem lowTo_same {l : List UInt8} {k : Nat} {c : UInt8} (h : l[k]? = some c) (hc : lowB c = c) : lowTo l (k + 1) = lowTo l k := by
  rw [← lowTo_step h, hc]
  have h1 := lowTo_at h
  exact List.ext_getElem? (fun i => by
    rw [List.getElem?_set]
    by_cases hi : k = i
    · subst hi; rw [if_pos rfl, if_pos (List.getElem?_eq_some_iff.1 h1).1, h1]
    · rw [if_neg hi])

def LoRel (g n : Nat) (l : List UInt8) (w : World) (i : Value) (wr : World) : Prop :=
  ∃ k : Nat, i = .int .i64 k ∧ k ≤ n ∧ RowZ g (lowTo l k) wr ∧ Fr (· < w.heap.size) w wr

set_option maxHeartbeats 4000000 in
set_option maxRecDepth 100000 in
theorem lower_any (s : ByteArray) (w : World) (hs : s.size ≤ maxLen) :
    Calls Tryz.prog 50 #[.string s] w fun x w' => x = .returned (.string ⟨(lowerL s.data.toList).toArray⟩) ∧ Below w.heap.size w w' := by
  obtain ⟨c, w2, hrun, hc1, hc2, hf, hr⟩ := conv_rowz w s hs
  obtain ⟨n, hn⟩ : ∃ n, s.size = n := ⟨_, rfl⟩
  have hl : s.data.toList.length = n := by rw [Array.length_toList]; exact hn
  rw [hn] at hrun hc1
  have hmx : n ≤ 9223372036854775807 := by omega
  have HRUN := Lib.hid hrun; have HF := Lib.hid hf
  have HR := Lib.hid (show RowZ w.heap.size (lowTo s.data.toList 0) w2 by rw [lowTo_zero]; exact hr)
  clear hrun hf hr hn
  obtain ⟨l, hll⟩ : ∃ l, s.data.toList = l := ⟨_, rfl⟩
  rw [hll] at hl HR ⊢
  clear hll
  obtain ⟨g, hg⟩ : ∃ g, w.heap.size = g := ⟨_, rfl⟩
  have HG := Lib.hid hg
  rw [hg] at HRUN HR
  clear hg
  go_enter Tryz.func50, Tryz.ntmps50
  go_wp2_with fail
  rw [HRUN.out]; simp only [Result.andThen]; rw [Oper.upon_value]
  go_wp2
  go_loopw [10] (fun i wr => LoRel g n l w i wr) (fun i _ => n - (intOf i).toNat)
  case atStart => exact ⟨0, rfl, Nat.zero_le _, HR.out, HF.out⟩
  case round =>
    obtain ⟨k, rfl, hk, hr, hf⟩ := hrel
    have HR2 := Lib.hid hr; have HF2 := Lib.hid hf
    clear hr hf HR HF
    by_cases hlt : k < n
    · obtain ⟨c0, hc0⟩ : ∃ c0, l[k]? = some c0 := ⟨_, List.getElem?_eq_getElem (by omega)⟩
      have hcl := HR2.out.cell (lowTo_at hc0)
      have hfz := HR2.out.frozen (j := k) (by rw [lowTo_length]; omega)
      have hct := c0.toNat_lt
      have i1 : (k : Int) < (n : Int) := by omega
      by_cases h1 : 65 ≤ c0.toNat
      · have d1 : decide ((65 : Int) ≤ (c0.toNat : Int)) = true := decide_eq_true (by omega)
        have z1 : (65 : Int) ≤ (c0.toNat : Int) := by omega
        by_cases h2 : c0.toNat ≤ 90
        · have d2 : decide ((c0.toNat : Int) ≤ 90) = true := decide_eq_true (by omega)
          have z2 : (c0.toNat : Int) ≤ 90 := by omega
          have h5 := HR2.out.set k (lowB c0)
          rw [lowTo_step hc0, lowB_up h1 h2] at h5
          have HR5 := Lib.hid h5
          have HF5 := Lib.hid (HF2.out.setCell (p := ⟨g, k, none⟩) (fun h => Nat.lt_irrefl g (HG.out ▸ h)) (.int .u8 ((c0.toNat : Int) + 32)))
          clear h5 HR2
          go_wp2
          go_roundw
          case rel => exact ⟨k + 1, by go_num, by omega, HR5.out, HF5.out⟩
          case measure => simp [intOf]; omega
        · have d2 : decide ((c0.toNat : Int) ≤ 90) = false := decide_eq_false (by omega)
          have z2 : ¬ (c0.toNat : Int) ≤ 90 := by omega
          have HR5 := Lib.hid (show RowZ g (lowTo l (k + 1)) wr by rw [lowTo_same hc0 (lowB_id (by omega))]; exact HR2.out)
          go_wp2
          go_roundw
          case rel => exact ⟨k + 1, by go_num, by omega, HR5.out, HF2.out⟩
          case measure => simp [intOf]; omega
      · have d1 : decide ((65 : Int) ≤ (c0.toNat : Int)) = false := decide_eq_false (by omega)
        have z1 : ¬ (65 : Int) ≤ (c0.toNat : Int) := by omega
        have HR5 := Lib.hid (show RowZ g (lowTo l (k + 1)) wr by rw [lowTo_same hc0 (lowB_id (by omega))]; exact HR2.out)
        go_wp2
        go_roundw
        case rel => exact ⟨k + 1, by go_num, by omega, HR5.out, HF2.out⟩
        case measure => simp [intOf]; omega
    · obtain rfl : k = l.length := by omega
      have i1 : ¬ (l.length : Int) < (n : Int) := by omega
      have hback := run_convert_bytes_back (P := Tryz.prog) wr 60 9 5 ⟨g, 0, none⟩ c (lowerL l) Tryz.underlying60 Tryz.underlying5 Tryz.underlying9 (fun j hj => by
        have h6 := HR2.out.cell (j := j) (x := (lowerL l)[j]) (by rw [lowTo_all]; exact List.getElem?_eq_getElem hj)
        rw [addr_add, Nat.zero_add]; exact h6)
      rw [show (lowerL l).length = n by unfold lowerL; rw [List.length_map]; exact hl] at hback
      have HBACK := Lib.hid hback
      clear hback
      go_wp2_with fail
      rw [HBACK.out]; simp only [Result.andThen]; rw [Oper.upon_value]
      go_wp2
      go_ret
      exact ⟨rfl, HF2.out.below⟩
end Go.Proofs.YtpoglombagmhmaaGreatDoor
/- Rows of texts; a text parted at '?'; what an encoded word means. -/
namespace Go.Proofs.YtpoglombagmhmaaGreatDoor
open Go Go.RowKit

theorem splitQ_q (t : List UInt8) : splitQ (63 :: t) = [] :: splitQ t := by rw [splitQ]; rfl
theorem splitQ_ne (l : List UInt8) : splitQ l ≠ [] := by
  cases l with
  | nil => simp [splitQ]
  | cons c t => rw [splitQ]; split <;> simp
theorem splitQ_app (x t : List UInt8) (h : ∀ c ∈ x, c ≠ 63) : splitQ (x ++ t) = (x ++ (splitQ t).headD []) :: (splitQ t).tail := by
  induction x with
  | nil =>
    have := splitQ_ne t
    cases hs : splitQ t with
    | nil => exact absurd hs this
    | cons a r => rw [List.nil_append, hs]; rfl
  | cons c x ih =>
    rw [List.cons_append, splitQ, if_neg (h c (by simp)), ih (fun d hd => h d (by simp [hd]))]
    rfl
theorem splitQ_end (x : List UInt8) (h : ∀ c ∈ x, c ≠ 63) : splitQ x = [x] := by
  have := splitQ_app x [] h
  rw [List.append_nil] at this
  rw [this]; simp [splitQ]
theorem splitQ_mid (x t : List UInt8) (h : ∀ c ∈ x, c ≠ 63) : splitQ (x ++ 63 :: t) = x :: splitQ t := by
  rw [splitQ_app x _ h, splitQ_q]; simp
theorem splitQ_length : ∀ l : List UInt8, (splitQ l).length ≤ l.length + 1
  | [] => by simp [splitQ]
  | c :: t => by
    have := splitQ_length t
    rw [splitQ]
    split
    · simp; omega
    · simp; omega

theorem splitQ_mem : ∀ (l x : List UInt8), x ∈ splitQ l → x.length ≤ l.length
  | [], x, h => by simp [splitQ] at h; simp [h]
  | c :: t, x, h => by
    have ih := splitQ_mem t
    rw [splitQ] at h
    have hne := splitQ_ne t
    cases hs : splitQ t with
    | nil => exact absurd hs hne
    | cons y r =>
      rw [hs] at h ih
      split at h
      · rcases List.mem_cons.1 h with h | h
        · simp [h]
        · have := ih x h; simp; omega
      · rcases List.mem_cons.1 h with h | h
        · have := ih y (by simp); rw [h]; simp; omega
        · have := ih x (by simp at h ⊢; exact .inr h); simp; omega

/-- Of ISO 8859-1 in UTF-8. -/
def latin (l : List UInt8) : List UInt8 := l.flatMap fun c => if c.toNat < 128 then [c] else [UInt8.ofNat (192 + c.toNat / 64), UInt8.ofNat (128 + c.toNat % 64)]
/-- What an encoded word means: none: it is open. -/
def textC (cs b : List UInt8) : Option (List UInt8) :=
  if lowerL cs = [117, 116, 102, 45, 56] then (if Lib.validD b then some b else none)
  else if lowerL cs = [105, 115, 111, 45, 56, 56, 53, 57, 45, 49] then some (latin b)
  else if lowerL cs = [117, 115, 45, 97, 115, 99, 105, 105] then (if b.all (fun c => decide (c.toNat < 128)) then some b else none)
  else none
def bytesC (m t : List UInt8) (p : Bool) : Option (List UInt8) :=
  if m = [81] ∨ m = [113] then unqL p t else if m = [66] ∨ m = [98] then unbL t else none
def partsC (ps : List (List UInt8)) (p : Bool) : Option (List UInt8) :=
  match ps with
  | [a, m, t] => if t = [] then none else (bytesC m t p).bind (textC a)
  | _ => none
def decodedL (l : List UInt8) (p : Bool) : Option (List UInt8) :=
  if l.length < 8 ∨ 75 < l.length ∨ l.take 2 ≠ [61, 63] ∨ l.drop (l.length - 2) ≠ [63, 61] then none
  else partsC (splitQ ((l.take (l.length - 2)).drop 2)) p
def DcRet : Option (List UInt8) → Ending
  | none => .returned (.tuple #[.string ⟨#[]⟩, .int .i64 2])
  | some t => .returned (.tuple #[.string ⟨t.toArray⟩, .int .i64 0])

/-! rows of texts -/
theorem infoStr : (Tryz.prog.info? 9).map (fun i => (i.zero, i.size, i.bytes)) = some (some (.string ⟨#[]⟩), 1, 16) := by kernel_rfl
def strCells (ls : List (List UInt8)) : List Value := ls.map fun l => .string ⟨l.toArray⟩
def OwnS (B : Nat) (ls : List (List UInt8)) (v : Value) (w : World) : Prop := w.ownsRow B 9 1 v ls.length (strCells ls)
theorem OwnS.nil (B : Nat) (w : World) : OwnS B [] (.slice none 0 0) w := World.ownsRow_nil _ _ _ _
theorem OwnS.fr {B : Nat} {l : List (List UInt8)} {v : Value} {w w' : World} (h : OwnS B l v w) (hk : ∀ k, v.ownBlock = some k → k < w.heap.size → w'.heap[k]? = w.heap[k]?) : OwnS B l v w' := own_fr h hk
theorem OwnS.push {B : Nat} {ls : List (List UInt8)} {v' : Value} {w' : World} {y : ByteArray} (h : w'.ownsRow B 9 1 v' (ls.length + 1) (strCells ls ++ [.string y])) : OwnS B (ls ++ [y.data.toList]) v' w' := by
  unfold OwnS
  rw [List.length_append]
  simpa [strCells, ba_list] using h
/-- 'append(v, s)' of one text to a row of the call's own: for the walk. -/
theorem wpList_push_str {ops : Array Oper} {rest : List Oper} {o : Oper} {a : Act} {Q : Exit → Act → World → Prop} (hgd : o.guard = none) (s x : Operand)
    (ho : o.op = .call { callee := .builtin .append, args := #[s, x], argTypes := #[22, 22] })
    (B : Nat) (ls : List (List UInt8)) (v : Value) (y : ByteArray) (wr : World) (hown : OwnS B ls v wr) (hB : B ≤ wr.heap.size) (hlen : ls.length + 1 ≤ 4398046511104) (hs : a.eval s = v) (hx : a.eval x = .slice (some ⟨wr.heap.size, 0, none⟩) 1 1)
    (h : ∀ v' w', OwnS B (ls ++ [y.data.toList]) v' w' → (wr.alloc (.cells #[.string y] 9)).grownBy w' v.ownBlock → (v'.ownBlock = v.ownBlock ∨ v'.ownBlock = some (wr.heap.size + 1)) → wpList Tryz.prog ops Q rest (a.put o.dst v') w') : wpList Tryz.prog ops Q (o :: rest) a (wr.alloc (.cells #[.string y] 9)) := by
  obtain ⟨i0, hi, hz0, hz1, hz2⟩ := info_parts3 infoStr
  refine wpList_append_own_at _ hgd s x 22 ho B 9 i0 _ 1 16 Tryz.underlying22 hi hz0 hz1 hz2 rfl (by decide) v ls.length (strCells ls) hs (World.ownsRow.alloc hown _) ⟨wr.heap.size, 0, none⟩ 1 1 [.string y] hx rfl (cell_one_new _ _ _) (fun u hu => by simp at hu; subst hu; rfl) (by unfold maxLen; omega) (by omega) (by simp; omega) (fun v' w' h1 h2 _ h4 => h v' w' (OwnS.push h1) h2 (h4.imp id (fun e => by rw [e]; simp)))

/-- 'append(v, c, d)' of two bytes to a row of the call's own: for the walk. -/
theorem wpList_push_two {ops : Array Oper} {rest : List Oper} {o : Oper} {a : Act} {Q : Exit → Act → World → Prop} (hgd : o.guard = none) (s x : Operand)
    (ho : o.op = .call { callee := .builtin .append, args := #[s, x], argTypes := #[60, 60] })
    (B : Nat) (l : List UInt8) (v : Value) (c d : UInt8) (wr : World) (hown : OwnB B l v wr) (hB : B ≤ wr.heap.size) (hlen : l.length + 2 ≤ 140737488355328) (hs : a.eval s = v) (hx : a.eval x = .slice (some ⟨wr.heap.size, 0, none⟩) 2 2)
    (h : ∀ v' w', OwnB B (l ++ [c, d]) v' w' → (wr.alloc (.cells #[.int .u8 c.toNat, .int .u8 d.toNat] 5)).grownBy w' v.ownBlock → (v'.ownBlock = v.ownBlock ∨ v'.ownBlock = some (wr.heap.size + 1)) → wpList Tryz.prog ops Q rest (a.put o.dst v') w') : wpList Tryz.prog ops Q (o :: rest) a (wr.alloc (.cells #[.int .u8 c.toNat, .int .u8 d.toNat] 5)) := by
  obtain ⟨i0, hi, hz0, hz1, hz2⟩ := info_parts infoByte
  refine wpList_append_own_at _ hgd s x 60 ho B 5 i0 (.int .u8 0) 1 1 Tryz.underlying60 hi hz0 hz1 hz2 rfl (by decide) v l.length (Lib.byteCells l) hs (hown.alloc _) ⟨wr.heap.size, 0, none⟩ 2 2 [.int .u8 c.toNat, .int .u8 d.toNat] hx rfl ?_ (fun u hu => ?_) (by unfold maxLen; omega) (by omega) (by simp; omega) (fun v' w' h1 h2 _ h4 => h v' w' ?_ h2 (h4.imp id (fun e => by rw [e]; simp)))
  · intro j u hj
    have hb := heap_alloc_new wr (.cells #[.int .u8 c.toNat, .int .u8 d.toNat] 5)
    rw [addr_add, Nat.zero_add, Lib.cell_of_heap hb]
    simpa using hj
  · simp at hu; rcases hu with rfl | rfl <;> rfl
  · unfold OwnB
    rw [List.length_append]
    simpa [Lib.byteCells] using h1

/-! utf8.Valid of a row -/
set_option maxHeartbeats 4000000 in
set_option maxRecDepth 100000 in
theorem valid_nil (p : Option Addr) (c : Nat) (hc : c ≤ 9223372036854775807) (w : World) :
    Calls Tryz.prog 51 #[.slice p 0 c] w fun e w' => e = .returned (.bool (Lib.validD [])) ∧ Below w.heap.size w w' := by
  have i0 : (0 : Int) ≤ (c : Int) := by omega
  go_enter Tryz.func51, Tryz.ntmps51
  cases p with
  | none =>
    go_wp2
    go_loopw [0, 2] (fun s0 s2 wr => wr = w ∧ s2 = .bool false ∧ ∃ q c', s0 = .slice q 0 c') (fun _ _ _ => 0)
    case atStart => exact ⟨rfl, rfl, _, _, rfl⟩
    case round =>
      obtain ⟨rfl, rfl, q, c', rfl⟩ := hrel
      go_wp2
      go_ret
      exact ⟨rfl, Below.refl _ _⟩
  | some a =>
    go_wp2
    go_loopw [0, 2] (fun s0 s2 wr => wr = w ∧ s2 = .bool false ∧ ∃ q c', s0 = .slice q 0 c') (fun _ _ _ => 0)
    case atStart => exact ⟨rfl, rfl, _, _, rfl⟩
    case round =>
      obtain ⟨rfl, rfl, q, c', rfl⟩ := hrel
      go_wp2
      go_ret
      exact ⟨rfl, Below.refl _ _⟩
theorem valid_own (B : Nat) (l : List UInt8) (v : Value) (w : World) (h : OwnB B l v w) (hl : l.length ≤ 9223372036854775807) (hT : Lib.Utf8Tabs 0 1 w) :
    Calls Tryz.prog 51 #[v] w fun e w' => e = .returned (.bool (Lib.validD l)) ∧ Below w.heap.size w w' := by
  by_cases h0 : l = []
  · subst h0
    rcases h.2 with ⟨rfl, h1⟩ | ⟨g, cap, cur, rfl, hB, hg, rest⟩
    · exact valid_nil none 0 (by omega) w
    · exact valid_nil _ cap (by have := rest.2.1; unfold maxLen at this; omega) w
  · rcases h.2 with ⟨rfl, h1⟩ | ⟨g, cap, cur, rfl, hB, hg, rest⟩
    · exact absurd (List.eq_nil_of_length_eq_zero h1) h0
    · have hlt := (Array.getElem?_eq_some_iff.1 hg).1
      refine valid_cells g l.length cap l w (fun j x hx => ?_) rfl hlt (by have := List.length_pos_iff.2 h0; omega) ?_ hl hT
      · have hc := h.cells (g := g) rfl j (.int .u8 x.toNat) (by simp [Lib.byteCells, hx])
        rw [addr_add] at hc; exact hc
      · exact rest.1
theorem OwnB.form {B : Nat} {l : List UInt8} {v : Value} {w : World} (h : OwnB B l v w) : ∃ q c, v = .slice q l.length c ∧ (∀ j x, l[j]? = some x → ∃ g, q = some ⟨g, 0, none⟩ ∧ g < w.heap.size ∧ w.cell? ⟨g, j, none⟩ = some (.int .u8 x.toNat)) ∧ l.length ≤ 9223372036854775807 := by
  rcases h.2 with ⟨rfl, h0⟩ | ⟨g, cap, cur, rfl, hB, hg, rest⟩
  · exact ⟨none, 0, by rw [h0], fun j x hx => (by rw [List.eq_nil_of_length_eq_zero h0] at hx; simp at hx), by omega⟩
  · refine ⟨_, cap, rfl, fun j x hx => ⟨g, rfl, (Array.getElem?_eq_some_iff.1 hg).1, ?_⟩, ?_⟩
    · have hc := h.cells (g := g) rfl j (.int .u8 x.toNat) (by simp [Lib.byteCells, hx])
      rw [addr_add, Nat.zero_add] at hc; exact hc
    · have h1 := rest.1; have h2 := rest.2.1; unfold maxLen at h2; omega
end Go.Proofs.YtpoglombagmhmaaGreatDoor
