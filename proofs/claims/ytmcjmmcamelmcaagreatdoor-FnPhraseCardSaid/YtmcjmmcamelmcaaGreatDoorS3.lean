/- spec.tokens: the walk. -/
import Derived.Test.YtmcjmmcamelmcaaGreatDoorS2
import Derived.Test.YtmcjmmcamelmcaaGreatDoorShelf
import Derived.Test.YtmcjmmcamelmcaaGreatDoorA1
namespace Go.Proofs.YtmcjmmcamelmcaaGreatDoor
open Go Go.RowKit

theorem infoTok : (Tryz.prog.info? 63).map (fun i => (i.zero, i.size, i.bytes)) = some (some (.agg #[.int .u8 0, .string ⟨#[]⟩, .bool false]), 3, 32) := by kernel_rfl
theorem info_parts3 {P : Program} {e : TypeId} {z : Value} {n b : Nat} (h : (P.info? e).map (fun i => (i.zero, i.size, i.bytes)) = some (some z, n, b)) : ∃ i, P.info? e = some i ∧ i.zero = some z ∧ i.size = n ∧ i.bytes = b := by
  obtain ⟨i, hi, he⟩ := Option.map_eq_some_iff.1 h
  simp only [Prod.mk.injEq] at he
  exact ⟨i, hi, he.1, he.2.1, he.2.2⟩

def tokC (t : Tok) : List Value := [.int .u8 t.kind.toNat, .string ⟨t.text.toArray⟩, .bool t.space]
def tokCells (ts : List Tok) : List Value := ts.flatMap tokC
theorem tokCells_length (ts : List Tok) : (tokCells ts).length = ts.length * 3 := by
  induction ts with
  | nil => rfl
  | cons t ts ih => simp only [tokCells, List.flatMap_cons, List.length_append, List.length_cons] at ih ⊢; rw [ih]; simp [tokC]; omega
/-- A row of tokens. -/
def OwnT (B : Nat) (ts : List Tok) (v : Value) (w : World) : Prop := w.ownsRow B 63 3 v ts.length (tokCells ts)
theorem OwnT.nil (B : Nat) (w : World) : OwnT B [] (.slice none 0 0) w := World.ownsRow_nil _ _ _ _
theorem ba_list (y : ByteArray) : (⟨y.data.toList.toArray⟩ : ByteArray) = y := by cases y; rfl

/-- 'append(v, token{..})': for the walk. -/
theorem wpList_push_tok {ops : Array Oper} {rest : List Oper} {o : Oper} {a : Act} {Q : Exit → Act → World → Prop} (hgd : o.guard = none) (s x : Operand)
    (ho : o.op = .call { callee := .builtin .append, args := #[s, x], argTypes := #[40, 40] })
    (B : Nat) (ts : List Tok) (v : Value) (c : UInt8) (y : ByteArray) (q : Bool) (wr : World) (hown : OwnT B ts v wr) (hB : B ≤ wr.heap.size) (hlen : ts.length + 1 ≤ 4398046511104) (hs : a.eval s = v) (hx : a.eval x = .slice (some ⟨wr.heap.size, 0, none⟩) 1 1)
    (h : ∀ v' w', OwnT B (ts ++ [⟨c, y.data.toList, q⟩]) v' w' → (wr.alloc (.cells #[.int .u8 c.toNat, .string y, .bool q] 63)).grownBy w' v.ownBlock → (v'.ownBlock = v.ownBlock ∨ v'.ownBlock = some (wr.heap.size + 1)) → wpList Tryz.prog ops Q rest (a.put o.dst v') w') :
    wpList Tryz.prog ops Q (o :: rest) a (wr.alloc (.cells #[.int .u8 c.toNat, .string y, .bool q] 63)) := by
  obtain ⟨i0, hi, hz0, hz1, hz2⟩ := info_parts3 infoTok
  refine wpList_append_own_at _ hgd s x 40 ho B 63 i0 _ 3 32 Tryz.underlying40 hi hz0 hz1 hz2 rfl (by decide) v ts.length (tokCells ts) hs (World.ownsRow.alloc hown _) ⟨wr.heap.size, 0, none⟩ 1 1 [.int .u8 c.toNat, .string y, .bool q] hx rfl ?_ (fun u hu => ?_) (by unfold maxLen; omega) (by omega) (by simp; omega) (fun v' w' h1 h2 _ h4 => h v' w' ?_ h2 (h4.imp id (fun e => by rw [e]; simp)))
  · intro j u hj
    have hadd : (⟨wr.heap.size, 0, none⟩ : Addr).add j = ⟨wr.heap.size, j, none⟩ := by unfold Addr.add; split <;> simp_all
    rw [hadd]
    rw [Lib.cell_of_heap (heap_alloc_new wr _)]
    simpa using hj
  · simp at hu; rcases hu with rfl | rfl | rfl <;> rfl
  · unfold OwnT
    rw [List.length_append]
    have : tokCells (ts ++ [⟨c, y.data.toList, q⟩]) = tokCells ts ++ [.int .u8 c.toNat, .string y, .bool q] := by simp [tokCells, tokC]
    rw [this]
    exact h1

theorem span_at (p : UInt8 → Bool) (L : List UInt8) : ∀ j, j ≤ L.length → (L.take j).all p = true → (∀ x, L[j]? = some x → p x = false) → L.takeWhile p = L.take j ∧ L.dropWhile p = L.drop j := by
  induction L with
  | nil => intro j _ _ _; simp
  | cons a t ih =>
    intro j hj ha hx
    cases j with
    | zero =>
      have := hx a rfl
      simp [this]
    | succ j =>
      rw [List.take_succ_cons, List.all_cons, Bool.and_eq_true] at ha
      obtain ⟨h1, h2⟩ := ih j (by simpa using hj) ha.2 (fun x h => hx x (by simpa using h))
      simp [ha.1, h1, h2]

def TRet (r : TR) (B : Nat) (x : Ending) (w' : World) : Prop :=
  match r with
  | .bad => x = .returned (.tuple #[.slice none 0 0, .bool false, .int .i64 1])
  | .open_ => x = .returned (.tuple #[.slice none 0 0, .bool false, .int .i64 2])
  | .good ts last => ∃ v, x = .returned (.tuple #[v, .bool last, .int .i64 0]) ∧ OwnT B ts v w'

/-- k signs are read. -/
def TkRel (s : ByteArray) (w : World) (r2 r3 r4 i : Value) (wr : World) : Prop :=
  ∃ (k : Nat) (ts : List Tok) (last : Bool), OwnT w.heap.size ts r2 wr ∧ r3 = .bool last ∧ r4 = .int .i64 0 ∧ i = .int .i64 k ∧ ts.length ≤ k ∧ k ≤ s.size ∧ toksL false s.data.toList = TR.app ts (toksL last (s.data.toList.drop k)) ∧ Fr (· < w.heap.size) w wr

theorem pushT_fr {w wr w2 : World} {v : Value} {o : Obj} {ts : List Tok} (hF : Fr (· < w.heap.size) w wr) (ho : OwnT w.heap.size ts v wr) (hg : (wr.alloc o).grownBy w2 v.ownBlock) : Fr (· < w.heap.size) w w2 :=
  (hF.alloc (fun k hk => Nat.lt_of_lt_of_le hk hF.size) o).grown hg (fun k hk => by have := hF.size; simp; omega) (fun k e hk => by have := (own_lt ho k e).1; omega)
theorem OwnT.below {B : Nat} {ts : List Tok} {v : Value} {w w' : World} (h : OwnT B ts v w) (hb : Below w.heap.size w w') : OwnT B ts v w' := own_fr h (fun k _ hk => (Fr.of_below hb).block k hk)

theorem toks_sp {last : Bool} {c : UInt8} {t : List UInt8} (h : isSp c = true) : toksL last (c :: t) = toksL true t := by rw [toksL, if_pos h]
theorem toks_atom {last : Bool} {c : UInt8} {t : List UInt8} (h : isSp c = false) (ha : atomB c = true) : toksL last (c :: t) = TR.cons ⟨97, (c :: t).takeWhile atomB, last⟩ (toksL false ((c :: t).dropWhile atomB)) := by
  rw [toksL, if_neg (by simp [h]), if_pos ha]
  simp [ha]
theorem toks_quote {last : Bool} {t : List UInt8} : toksL last (34 :: t) = match quotedL t with | none => .bad | some r => TR.cons ⟨113, r.1, last⟩ (toksL false (t.drop r.2)) := by
  rw [toksL, if_neg (by decide), if_neg (by decide), if_pos rfl]
  rfl
theorem toks_back {last : Bool} {t : List UInt8} : toksL last (92 :: t) = .bad := by
  rw [toksL, if_neg (by decide), if_neg (by decide), if_neg (by decide), if_pos rfl]
theorem toks_open {last : Bool} {c : UInt8} {t : List UInt8} (h : isSp c = false) (ha : atomB c = false) (h3 : c ≠ 34) (h4 : c ≠ 92) (ho : isOpen c = true) : toksL last (c :: t) = .open_ := by
  rw [toksL, if_neg (by simp [h]), if_neg (by simp [ha]), if_neg h3, if_neg h4, if_pos ho]
theorem toks_else {last : Bool} {c : UInt8} {t : List UInt8} (h : isSp c = false) (ha : atomB c = false) (h3 : c ≠ 34) (h4 : c ≠ 92) (ho : isOpen c = false) : toksL last (c :: t) = TR.cons ⟨c, [], last⟩ (toksL false t) := by
  rw [toksL, if_neg (by simp [h]), if_neg (by simp [ha]), if_neg h3, if_neg h4, if_neg (by simp [ho])]
end Go.Proofs.YtmcjmmcamelmcaaGreatDoor
