/- Rows of texts; a text parted at '?'; what an encoded word means. -/
import Derived.Test.YtmcjmmcamelmcaaGreatDoorV3
import Derived.Test.YtmcjmmcamelmcaaGreatDoorS4
namespace Go.Proofs.YtmcjmmcamelmcaaGreatDoor
open Go Go.RowKit

theorem splitQ_q (t : List UInt8) : splitQ (63 :: t) = [] :: splitQ t := by rw [splitQ]; rfl
theorem splitQ_ne (l : List UInt8) : splitQ l ≠ [] := by
  cases l with
  | nil => simp [splitQ]
  | cons c t => rw [splitQ]; split <;> simp
theorem splitQ_app (x t : List UInt8) (h : ∀ c ∈ x, c ≠ 63) : splitQ (x ++ t) = (x ++ (splitQ t).headD []) :: (splitQ t).tail := by
  induction x with
  | nil =>
    have := splitQ_ne t
    cases hs : splitQ t with
    | nil => exact absurd hs this
    | cons a r => rw [List.nil_append, hs]; rfl
  | cons c x ih =>
    rw [List.cons_append, splitQ, if_neg (h c (by simp)), ih (fun d hd => h d (by simp [hd]))]
    rfl
theorem splitQ_end (x : List UInt8) (h : ∀ c ∈ x, c ≠ 63) : splitQ x = [x] := by
  have := splitQ_app x [] h
  rw [List.append_nil] at this
  rw [this]; simp [splitQ]
theorem splitQ_mid (x t : List UInt8) (h : ∀ c ∈ x, c ≠ 63) : splitQ (x ++ 63 :: t) = x :: splitQ t := by
  rw [splitQ_app x _ h, splitQ_q]; simp
theorem splitQ_length : ∀ l : List UInt8, (splitQ l).length ≤ l.length + 1
  | [] => by simp [splitQ]
  | c :: t => by
    have := splitQ_length t
    rw [splitQ]
    split
    · simp; omega
    · simp; omega

theorem splitQ_mem : ∀ (l x : List UInt8), x ∈ splitQ l → x.length ≤ l.length
  | [], x, h => by simp [splitQ] at h; simp [h]
  | c :: t, x, h => by
    have ih := splitQ_mem t
    rw [splitQ] at h
    have hne := splitQ_ne t
    cases hs : splitQ t with
    | nil => exact absurd hs hne
    | cons y r =>
      rw [hs] at h ih
      split at h
      · rcases List.mem_cons.1 h with h | h
        · simp [h]
        · have := ih x h; simp; omega
      · rcases List.mem_cons.1 h with h | h
        · have := ih y (by simp); rw [h]; simp; omega
        · have := ih x (by simp at h ⊢; exact .inr h); simp; omega

/-- Of ISO 8859-1 in UTF-8. -/
def latin (l : List UInt8) : List UInt8 := l.flatMap fun c => if c.toNat < 128 then [c] else [UInt8.ofNat (192 + c.toNat / 64), UInt8.ofNat (128 + c.toNat % 64)]
/-- What an encoded word means: none: it is open. -/
def textC (cs b : List UInt8) : Option (List UInt8) :=
  if lowerL cs = [117, 116, 102, 45, 56] then (if Lib.validD b then some b else none)
  else if lowerL cs = [105, 115, 111, 45, 56, 56, 53, 57, 45, 49] then some (latin b)
  else if lowerL cs = [117, 115, 45, 97, 115, 99, 105, 105] then (if b.all (fun c => decide (c.toNat < 128)) then some b else none)
  else none
def bytesC (m t : List UInt8) (p : Bool) : Option (List UInt8) :=
  if m = [81] ∨ m = [113] then unqL p t else if m = [66] ∨ m = [98] then unbL t else none
def partsC (ps : List (List UInt8)) (p : Bool) : Option (List UInt8) :=
  match ps with
  | [a, m, t] => if t = [] then none else (bytesC m t p).bind (textC a)
  | _ => none
def decodedL (l : List UInt8) (p : Bool) : Option (List UInt8) :=
  if l.length < 8 ∨ 75 < l.length ∨ l.take 2 ≠ [61, 63] ∨ l.drop (l.length - 2) ≠ [63, 61] then none
  else partsC (splitQ ((l.take (l.length - 2)).drop 2)) p
def DcRet : Option (List UInt8) → Ending
  | none => .returned (.tuple #[.string ⟨#[]⟩, .int .i64 2])
  | some t => .returned (.tuple #[.string ⟨t.toArray⟩, .int .i64 0])

/-! rows of texts -/
theorem infoStr : (Tryz.prog.info? 9).map (fun i => (i.zero, i.size, i.bytes)) = some (some (.string ⟨#[]⟩), 1, 16) := by kernel_rfl
def strCells (ls : List (List UInt8)) : List Value := ls.map fun l => .string ⟨l.toArray⟩
def OwnS (B : Nat) (ls : List (List UInt8)) (v : Value) (w : World) : Prop := w.ownsRow B 9 1 v ls.length (strCells ls)
theorem OwnS.nil (B : Nat) (w : World) : OwnS B [] (.slice none 0 0) w := World.ownsRow_nil _ _ _ _
theorem OwnS.fr {B : Nat} {l : List (List UInt8)} {v : Value} {w w' : World} (h : OwnS B l v w) (hk : ∀ k, v.ownBlock = some k → k < w.heap.size → w'.heap[k]? = w.heap[k]?) : OwnS B l v w' := own_fr h hk
theorem OwnS.push {B : Nat} {ls : List (List UInt8)} {v' : Value} {w' : World} {y : ByteArray} (h : w'.ownsRow B 9 1 v' (ls.length + 1) (strCells ls ++ [.string y])) : OwnS B (ls ++ [y.data.toList]) v' w' := by
  unfold OwnS
  rw [List.length_append]
  simpa [strCells, ba_list] using h
/-- 'append(v, s)' of one text to a row of the call's own: for the walk. -/
theorem wpList_push_str {ops : Array Oper} {rest : List Oper} {o : Oper} {a : Act} {Q : Exit → Act → World → Prop} (hgd : o.guard = none) (s x : Operand)
    (ho : o.op = .call { callee := .builtin .append, args := #[s, x], argTypes := #[30, 30] })
    (B : Nat) (ls : List (List UInt8)) (v : Value) (y : ByteArray) (wr : World) (hown : OwnS B ls v wr) (hB : B ≤ wr.heap.size) (hlen : ls.length + 1 ≤ 4398046511104) (hs : a.eval s = v) (hx : a.eval x = .slice (some ⟨wr.heap.size, 0, none⟩) 1 1)
    (h : ∀ v' w', OwnS B (ls ++ [y.data.toList]) v' w' → (wr.alloc (.cells #[.string y] 9)).grownBy w' v.ownBlock → (v'.ownBlock = v.ownBlock ∨ v'.ownBlock = some (wr.heap.size + 1)) → wpList Tryz.prog ops Q rest (a.put o.dst v') w') : wpList Tryz.prog ops Q (o :: rest) a (wr.alloc (.cells #[.string y] 9)) := by
  obtain ⟨i0, hi, hz0, hz1, hz2⟩ := info_parts3 infoStr
  refine wpList_append_own_at _ hgd s x 30 ho B 9 i0 _ 1 16 Tryz.underlying30 hi hz0 hz1 hz2 rfl (by decide) v ls.length (strCells ls) hs (World.ownsRow.alloc hown _) ⟨wr.heap.size, 0, none⟩ 1 1 [.string y] hx rfl (cell_one_new _ _ _) (fun u hu => by simp at hu; subst hu; rfl) (by unfold maxLen; omega) (by omega) (by simp; omega) (fun v' w' h1 h2 _ h4 => h v' w' (OwnS.push h1) h2 (h4.imp id (fun e => by rw [e]; simp)))

/-- 'append(v, c, d)' of two bytes to a row of the call's own: for the walk. -/
theorem wpList_push_two {ops : Array Oper} {rest : List Oper} {o : Oper} {a : Act} {Q : Exit → Act → World → Prop} (hgd : o.guard = none) (s x : Operand)
    (ho : o.op = .call { callee := .builtin .append, args := #[s, x], argTypes := #[79, 79] })
    (B : Nat) (l : List UInt8) (v : Value) (c d : UInt8) (wr : World) (hown : OwnB B l v wr) (hB : B ≤ wr.heap.size) (hlen : l.length + 2 ≤ 140737488355328) (hs : a.eval s = v) (hx : a.eval x = .slice (some ⟨wr.heap.size, 0, none⟩) 2 2)
    (h : ∀ v' w', OwnB B (l ++ [c, d]) v' w' → (wr.alloc (.cells #[.int .u8 c.toNat, .int .u8 d.toNat] 5)).grownBy w' v.ownBlock → (v'.ownBlock = v.ownBlock ∨ v'.ownBlock = some (wr.heap.size + 1)) → wpList Tryz.prog ops Q rest (a.put o.dst v') w') : wpList Tryz.prog ops Q (o :: rest) a (wr.alloc (.cells #[.int .u8 c.toNat, .int .u8 d.toNat] 5)) := by
  obtain ⟨i0, hi, hz0, hz1, hz2⟩ := info_parts infoByte
  refine wpList_append_own_at _ hgd s x 79 ho B 5 i0 (.int .u8 0) 1 1 Tryz.underlying79 hi hz0 hz1 hz2 rfl (by decide) v l.length (Lib.byteCells l) hs (hown.alloc _) ⟨wr.heap.size, 0, none⟩ 2 2 [.int .u8 c.toNat, .int .u8 d.toNat] hx rfl ?_ (fun u hu => ?_) (by unfold maxLen; omega) (by omega) (by simp; omega) (fun v' w' h1 h2 _ h4 => h v' w' ?_ h2 (h4.imp id (fun e => by rw [e]; simp)))
  · intro j u hj
    have hb := heap_alloc_new wr (.cells #[.int .u8 c.toNat, .int .u8 d.toNat] 5)
    rw [addr_add, Nat.zero_add, Lib.cell_of_heap hb]
    simpa using hj
  · simp at hu; rcases hu with rfl | rfl <;> rfl
  · unfold OwnB
    rw [List.length_append]
    simpa [Lib.byteCells] using h1

/-! utf8.Valid of a row -/
set_option maxHeartbeats 4000000 in
set_option maxRecDepth 100000 in
theorem valid_nil (p : Option Addr) (c : Nat) (hc : c ≤ 9223372036854775807) (w : World) :
    Calls Tryz.prog 51 #[.slice p 0 c] w fun e w' => e = .returned (.bool (Lib.validD [])) ∧ Below w.heap.size w w' := by
  have i0 : (0 : Int) ≤ (c : Int) := by omega
  go_enter Tryz.func51, Tryz.ntmps51
  cases p with
  | none =>
    go_wp2
    go_loopw [0, 2] (fun s0 s2 wr => wr = w ∧ s2 = .bool false ∧ ∃ q c', s0 = .slice q 0 c') (fun _ _ _ => 0)
    case atStart => exact ⟨rfl, rfl, _, _, rfl⟩
    case round =>
      obtain ⟨rfl, rfl, q, c', rfl⟩ := hrel
      go_wp2
      go_ret
      exact ⟨rfl, Below.refl _ _⟩
  | some a =>
    go_wp2
    go_loopw [0, 2] (fun s0 s2 wr => wr = w ∧ s2 = .bool false ∧ ∃ q c', s0 = .slice q 0 c') (fun _ _ _ => 0)
    case atStart => exact ⟨rfl, rfl, _, _, rfl⟩
    case round =>
      obtain ⟨rfl, rfl, q, c', rfl⟩ := hrel
      go_wp2
      go_ret
      exact ⟨rfl, Below.refl _ _⟩
theorem valid_own (B : Nat) (l : List UInt8) (v : Value) (w : World) (h : OwnB B l v w) (hl : l.length ≤ 9223372036854775807) (hT : Lib.Utf8Tabs 0 1 w) :
    Calls Tryz.prog 51 #[v] w fun e w' => e = .returned (.bool (Lib.validD l)) ∧ Below w.heap.size w w' := by
  by_cases h0 : l = []
  · subst h0
    rcases h.2 with ⟨rfl, h1⟩ | ⟨g, cap, cur, rfl, hB, hg, rest⟩
    · exact valid_nil none 0 (by omega) w
    · exact valid_nil _ cap (by have := rest.2.1; unfold maxLen at this; omega) w
  · rcases h.2 with ⟨rfl, h1⟩ | ⟨g, cap, cur, rfl, hB, hg, rest⟩
    · exact absurd (List.eq_nil_of_length_eq_zero h1) h0
    · have hlt := (Array.getElem?_eq_some_iff.1 hg).1
      refine valid_cells g l.length cap l w (fun j x hx => ?_) rfl hlt (by have := List.length_pos_iff.2 h0; omega) ?_ hl hT
      · have hc := h.cells (g := g) rfl j (.int .u8 x.toNat) (by simp [Lib.byteCells, hx])
        rw [addr_add] at hc; exact hc
      · exact rest.1
theorem OwnB.form {B : Nat} {l : List UInt8} {v : Value} {w : World} (h : OwnB B l v w) : ∃ q c, v = .slice q l.length c ∧ (∀ j x, l[j]? = some x → ∃ g, q = some ⟨g, 0, none⟩ ∧ g < w.heap.size ∧ w.cell? ⟨g, j, none⟩ = some (.int .u8 x.toNat)) ∧ l.length ≤ 9223372036854775807 := by
  rcases h.2 with ⟨rfl, h0⟩ | ⟨g, cap, cur, rfl, hB, hg, rest⟩
  · exact ⟨none, 0, by rw [h0], fun j x hx => (by rw [List.eq_nil_of_length_eq_zero h0] at hx; simp at hx), by omega⟩
  · refine ⟨_, cap, rfl, fun j x hx => ⟨g, rfl, (Array.getElem?_eq_some_iff.1 hg).1, ?_⟩, ?_⟩
    · have hc := h.cells (g := g) rfl j (.int .u8 x.toNat) (by simp [Lib.byteCells, hx])
      rw [addr_add, Nat.zero_add] at hc; exact hc
    · have h1 := rest.1; have h2 := rest.2.1; unfold maxLen at h2; omega
end Go.Proofs.YtmcjmmcamelmcaaGreatDoor
