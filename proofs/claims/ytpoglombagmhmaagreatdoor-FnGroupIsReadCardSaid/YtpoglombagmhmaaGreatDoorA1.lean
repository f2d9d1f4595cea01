/- A frame relation: which blocks of memory stay as they were; its small laws. -/
import Derived.Test.YtpoglombagmhmaaGreatDoorProg
import Derived.Below
import Derived.Lib.FrozenHead2
import Derived.Lib.OthersKept
import Derived.Lib.Hide
import Derived.Deep.QuietTactic
import Derived.Lib.AppendStr
import Derived.Laws.Rows
import Derived.WalkKit
import Derived.Laws.BitsAllLaws
import Derived.IntWalk
import Derived.BigCall
import Derived.BigQuiet
import Derived.LoopTactic
import Derived.Outline
import Derived.WalkLawsBesides
namespace Go.Proofs.YtpoglombagmhmaaGreatDoor
open Go Go.RowKit

/-- The blocks in K are as they were; the streams are as they were; no block has gone. -/
structure Fr (K : Nat → Prop) (w w' : World) : Prop where
  os : w'.os = w.os
  tape : w'.tape = w.tape
  output : w'.output = w.output
  size : w.heap.size ≤ w'.heap.size
  block : ∀ k, K k → w'.heap[k]? = w.heap[k]?

namespace Fr
theorem refl (K : Nat → Prop) (w : World) : Fr K w w := ⟨rfl, rfl, rfl, Nat.le_refl _, fun _ _ => rfl⟩
theorem trans {K : Nat → Prop} {a b c : World} (h : Fr K a b) (k : Fr K b c) : Fr K a c :=
  ⟨k.os.trans h.os, k.tape.trans h.tape, k.output.trans h.output, Nat.le_trans h.size k.size, fun i hi => (k.block i hi).trans (h.block i hi)⟩
theorem mono {K K' : Nat → Prop} {w w' : World} (h : Fr K w w') (hk : ∀ k, K' k → K k) : Fr K' w w' :=
  ⟨h.os, h.tape, h.output, h.size, fun i hi => h.block i (hk i hi)⟩
theorem drew {K : Nat → Prop} {a w : World} (h : Fr K a w) : Fr K a w.drew := ⟨h.os, h.tape, h.output, h.size, h.block⟩
theorem drewN {K : Nat → Prop} {a w : World} (h : Fr K a w) : ∀ n, Fr K a (w.drewN n)
  | 0 => h
  | n + 1 => (drewN h n).drew
theorem alloc {K : Nat → Prop} {a w : World} (h : Fr K a w) (hK : ∀ k, K k → k < w.heap.size) (o : Obj) : Fr K a (w.alloc o) :=
  h.trans ⟨rfl, rfl, rfl, by simp, fun k hk => Below.heap_alloc _ _ _ (hK k hk)⟩
theorem setCell {K : Nat → Prop} {a w : World} (h : Fr K a w) {p : Addr} (hp : ¬ K p.block) (u : Value) : Fr K a (w.setCell p u) :=
  h.trans ⟨rfl, rfl, rfl, by simp [World.setCell], fun k hk => Below.heap_setCell _ _ _ _ (fun e => hp (e ▸ hk))⟩
theorem grown {K : Nat → Prop} {a w w' : World} {row : Option Nat} (h : Fr K a w) (hg : w.grownBy w' row) (hK : ∀ k, K k → k < w.heap.size) (hr : ∀ k, row = some k → ¬ K k) : Fr K a w' :=
  h.trans ⟨hg.os, hg.tape, hg.output, hg.size, fun k hk => hg.block k (hK k hk) (fun e => hr k e.symm hk)⟩
theorem iterAt {K : Nat → Prop} {a w : World} (h : Fr K a w) {k : Nat} (hk : ¬ K k) (s : ByteArray) (pos : Nat) : Fr K a (w.iterAt k s pos) :=
  h.trans ⟨rfl, rfl, rfl, by rw [Lib.iterAt_size]; exact Nat.le_refl _, fun i hi => Lib.iterAt_other w k i s pos (fun e => hk (e ▸ hi))⟩
theorem freeze {K : Nat → Prop} {a w : World} (h : Fr K a w) {p : Addr} (hp : ¬ K p.block) (n : Nat) : Fr K a (w.freeze p n) := by
  refine h.trans ?_
  unfold World.freeze
  split
  · exact refl _ _
  · refine ⟨rfl, rfl, rfl, by simp, fun k hk => ?_⟩
    simp only [Array.getElem?_modify]
    rw [if_neg (fun e => hp (by rw [e]; exact hk))]
theorem below {B : Nat} {w w' : World} (h : Fr (· < B) w w') : Below B w w' := ⟨h.os, h.tape, h.output, h.size, h.block⟩
theorem of_below {B : Nat} {w w' : World} (h : Below B w w') : Fr (· < B) w w' := ⟨h.os, h.tape, h.output, h.size, h.block⟩
theorem by_below {K : Nat → Prop} {B : Nat} {w w' : World} (h : Below B w w') (hK : ∀ k, K k → k < B) : Fr K w w' := (of_below h).mono hK
theorem cell {K : Nat → Prop} {w w' : World} (h : Fr K w w') {p : Addr} (hp : K p.block) : w'.cell? p = w.cell? p := World.cell?_of_block (w := w) (h.block p.block hp)
theorem frozen {K : Nat → Prop} {w w' : World} (h : Fr K w w') {p : Addr} (hp : K p.block) : w'.frozen? p = w.frozen? p := World.frozen?_of_block (w := w) (h.block p.block hp)
theorem lt {K : Nat → Prop} {w w' : World} (h : Fr K w w') (hK : ∀ k, K k → k < w.heap.size) : ∀ k, K k → k < w'.heap.size := fun k hk => Nat.lt_of_lt_of_le (hK k hk) h.size
end Fr

theorem below_drewN {B : Nat} {a w : World} (h : Below B a w) (n : Nat) : Below B a (w.drewN n) := ((Fr.of_below h).drewN n).below
theorem hsize_drewN (w : World) : ∀ n, (w.drewN n).heap.size = w.heap.size
  | 0 => rfl
  | n + 1 => hsize_drewN w n
theorem heap_drewN (w : World) : ∀ n, (w.drewN n).heap = w.heap
  | 0 => rfl
  | n + 1 => heap_drewN w n
/-- Draws and allocations alone: every block that was there stays. -/
theorem Fr.self_size {K : Nat → Prop} {w w' : World} (h : Fr (· < w.heap.size) w w') (hK : ∀ k, K k → k < w.heap.size) : Fr K w w' := h.mono hK
end Go.Proofs.YtpoglombagmhmaaGreatDoor
/- 'append(buf, s...)' of a string's bytes onto a row that the call owns, with the place of the new row (the library's own law with one limb more). -/
namespace Go.Proofs.YtpoglombagmhmaaGreatDoor
open Go Go.Lib
section
variable {P : Program} (w : World)
theorem run_append_own_string_at (base : Nat) (t u ty e : TypeId) (i : TypeInfo) (ht : P.underlying t = some (.slice e)) (hu : P.underlying u = some .string) (hi : P.info? e = some i) (hz : i.zero = some (.int .u8 0))
    (hsize : i.size = 1) (hby : i.bytes = 1)
    (v : Value) (n : Nat) (xs : List Value) (hown : w.ownsRow base e 1 v n xs) (s : ByteArray)
    (h63 : n + s.size ≤ maxLen) (hbytes : n + s.size ≤ 140737488355328) (hbase : base ≤ w.heap.size) :
    ∃ v' w', (Builtin.append_ #[t, u] ty #[v, .string s]).run P w = .ok v' w' ∧ w'.ownsRow base e 1 v' (n + s.size) (xs ++ strCells s) ∧ w.grownBy w' v.ownBlock ∧
      (v' = .slice none 0 0 ↔ v = .slice none 0 0 ∧ s.size = 0) ∧ (v'.ownBlock = v.ownBlock ∨ v'.ownBlock = some w.heap.size) := by
  have hsmall : n + s.size ≤ 9223372036854775807 := by simp only [maxLen] at h63; omega
  have hxl : xs.length = n := by simpa using hown.1
  have hlen : (xs ++ strCells s).length = (n + s.size) * 1 := by rw [List.length_append, hxl, strCells_length, Nat.mul_one]
  have grown : ∀ (old : Nat), old < n + s.size → ∀ (row : Option Nat),
      (w.drew.alloc (.cells (xs.toArray ++ (strCells s).toArray ++ Builtin.zeroCells (Value.int .u8 0).cells (grownCap w (n + s.size) old e - (n + s.size))) e)).ownsRow base e 1
        (.slice (some ⟨w.heap.size, 0, none⟩) (n + s.size) (grownCap w (n + s.size) old e)) (n + s.size) (xs ++ strCells s) ∧
      w.grownBy (w.drew.alloc (.cells (xs.toArray ++ (strCells s).toArray ++ Builtin.zeroCells (Value.int .u8 0).cells (grownCap w (n + s.size) old e - (n + s.size))) e)) row := by
    intro old ho row
    have hge := grownCap_ge w (n + s.size) old e
    have hcm : grownCap w (n + s.size) old e ≤ maxLen := grownCap_le_maxLen w (n + s.size) old e h63
    refine ⟨⟨hlen, .inr ⟨w.heap.size, _, _, rfl, hbase, heap_alloc_new w.drew _, hge, hcm, ?_, ?_⟩⟩, ⟨rfl, rfl, rfl, by simp, fun k hk _ => by first | exact heap_alloc_old w.drew _ hk | exact heap_alloc_old w.drew _ k hk⟩⟩
    · have hz1 : (Value.int IntKind.u8 0).cells.size = 1 := rfl
      simp only [Array.size_append, List.size_toArray, size_zeroCells, hz1, hxl, strCells_length]
      omega
    · simp only [Array.toList_append, List.append_assoc]
      rw [← List.append_assoc, ← hlen]
      exact List.take_left
  rcases hown.2 with ⟨rfl, rfl⟩ | ⟨g, cap, cur, rfl, hbg, hg, hnc, hcm, hcs, htake⟩
  · have hx : xs = [] := List.eq_nil_of_length_eq_zero hxl
    subst hx
    by_cases hm : s.size = 0
    · have hn : strCells s = [] := List.eq_nil_of_length_eq_zero (by rw [strCells_length]; exact hm)
      refine ⟨.slice none 0 0, w, ?_, by rw [hm, hn]; exact World.ownsRow_nil w base e 1, ⟨rfl, rfl, rfl, Nat.le_refl _, fun _ _ _ => rfl⟩, by simp [hm], Or.inl rfl⟩
      have hf := run_firstCells_string (P := P) w 1 s
      rw [hm] at hf
      simp [Builtin.append_, run_underlying ht, run_underlying hu, sizeOf, typeInfo, hi, hsize, Builtin.lenOf, hm, hf]
    · have hr := run_append_nil_string (P := P) w t u ty e i (.int .u8 0) ht hu hi hz s (by omega) (by omega) (by rw [hby]; omega)
      have hgr := grown 0 (by omega) (Value.ownBlock (.slice none 0 0))
      simp only [Nat.zero_add, List.nil_append, Array.empty_append] at hgr ⊢
      have e1 : (s.data.map fun b => Value.int .u8 b.toNat) = (strCells s).toArray := by
        apply Array.ext'
        simp [strCells]
      rw [e1] at hr
      exact ⟨_, _, hr, hgr.1, hgr.2, by simp [hm], Or.inr rfl⟩
  · by_cases hroom : n + s.size ≤ cap
    · have hcs' : cur.size = cap := by simpa using hcs
      have hr := run_append_room_string (P := P) w t u ty e i ht hu hi hsize g n cap cur hg s hroom (by omega)
      refine ⟨_, _, hr, ⟨hlen, .inr ⟨g, cap, _, rfl, hbg, setRow_heap w g cur _ e _ hg, hroom, hcm, ?_, ?_⟩⟩, ⟨rfl, rfl, rfl, by simp, fun k _ hk => setRow_other w g k _ (fun e => hk (by simp [Value.ownBlock, e]))⟩, by simp, Or.inl rfl⟩
      · simp only [List.size_toArray, List.length_append, List.length_take, List.length_drop, Array.length_toList, strCells_length]
        omega
      · have ht' : cur.toList.take n = xs := by simpa using htake
        rw [ht', ← hlen]
        exact List.take_left
    · have holds : ∀ j u, xs[j]? = some u → w.cell? ((⟨g, 0, none⟩ : Addr).add j) = some u := hown.cells (g := g) rfl
      have hr := run_append_grow_string (P := P) w t u ty e i (.int .u8 0) ht hu hi hz ⟨g, 0, none⟩ n cap xs (by rw [hsize]; simpa using hxl) holds s (by omega) (by omega) (by rw [hby]; exact growslice_fits (by omega) (by omega))
      have hgr := grown cap (by omega) (Value.ownBlock (.slice (some ⟨g, 0, none⟩) n cap))
      exact ⟨_, _, hr, hgr.1, hgr.2, by simp, Or.inr rfl⟩

theorem wpList_append_own_string_at {ops : Array Oper} {rest : List Oper} {o : Oper} {a : Act} {Q : Exit → Act → World → Prop} (hgd : o.guard = none) (sl x : Operand) (t u : TypeId)
    (ho : o.op = .call { callee := .builtin .append, args := #[sl, x], argTypes := #[t, u] })
    (base : Nat) (e : TypeId) (i : TypeInfo) (ht : P.underlying t = some (.slice e)) (hu : P.underlying u = some .string) (hi : P.info? e = some i) (hz : i.zero = some (.int .u8 0))
    (hsize : i.size = 1) (hby : i.bytes = 1)
    (v : Value) (n : Nat) (xs : List Value) (hs : a.eval sl = v) (hown : w.ownsRow base e 1 v n xs) (s : ByteArray) (hx : a.eval x = .string s)
    (h63 : n + s.size ≤ maxLen) (hbytes : n + s.size ≤ 140737488355328) (hbase : base ≤ w.heap.size)
    (h : ∀ v' w', w'.ownsRow base e 1 v' (n + s.size) (xs ++ strCells s) → w.grownBy w' v.ownBlock → (v' = .slice none 0 0 ↔ v = .slice none 0 0 ∧ s.size = 0) → (v'.ownBlock = v.ownBlock ∨ v'.ownBlock = some w.heap.size) → wpList P ops Q rest (a.put o.dst v') w') : wpList P ops Q (o :: rest) a w := by
  refine wpList_plain hgd fun K hK => ?_
  obtain ⟨v', w', hr, h2, h3, h4, h5⟩ := run_append_own_string_at (P := P) w base t u o.type e i ht hu hi hz hsize hby v n xs hown s h63 hbytes hbase
  unfold Oper.wp execOp
  simp only [ho, resolve, invoke, builtin, Sem.run_bind, Sem.run_pure, Result.andThen_ok, List.map_toArray, List.map_cons, List.map_nil, hs, hx, hr]
  exact hK _ _ (h v' w' h2 h3 h4 h5)

end
end Go.Proofs.YtpoglombagmhmaaGreatDoor
/- A load of an array out of the middle of a row of cells (the library's own law at any place). -/
namespace Go.Proofs.YtpoglombagmhmaaGreatDoor
open Go
section
variable {P : Program}
theorem run_loadVar_at (w : World) (ad : Addr) (ty : TypeId) (cs : List Value) (d : TypeDesc) (hc : ∀ j v, cs[j]? = some v → w.cell? (ad.add j) = some v)
    (hu : P.underlying ty = some d) (hd : (match d with | .struct _ | .array _ _ => true | _ => false) = true) (hi : (P.info? ty).map (·.size) = some cs.length) :
    (loadVar ty ad).run P w = .ok (.agg cs.toArray) w := by
  have hl : (loadCells ad cs.length).run P w = .ok cs.toArray w := run_loadCells_list (P := P) w ad cs hc
  cases hq : P.info? ty with
  | none => simp [hq] at hi
  | some i =>
    have hs : i.size = cs.length := by simpa [hq] using hi
    have hagg : (isAgg ty).run P w = .ok true w := by
      unfold isAgg
      rw [Sem.run_bind, run_underlying hu w]
      cases d <;> simp_all
    simp [loadVar, Sem.run_bind, hagg, sizeOf, typeInfo, hq, hs, hl]
theorem wp_load_at {o : Oper} {a : Act} {w : World} {K : Act → World → Prop} {Q : Exit → Act → World → Prop} (ty : TypeId) (x : Operand) (ho : o.op = .load ty x)
    (ad : Addr) (hx : a.eval x = .pointer (some ad)) (cs : List Value) (d : TypeDesc) (hc : ∀ j v, cs[j]? = some v → w.cell? (ad.add j) = some v)
    (hu : P.underlying ty = some d) (hd : (match d with | .struct _ | .array _ _ => true | _ => false) = true) (hi : (P.info? ty).map (·.size) = some cs.length)
    (h : K (a.put o.dst (.agg cs.toArray)) w) : o.wp P a w K Q := by
  unfold Oper.wp execOp
  simp only [ho, hx, Instr.loadAt, Instr.sureAddr, Sem.run_bind, Sem.run_pure, Result.andThen_ok, run_loadVar_at w ad ty cs d hc hu hd hi]
  exact h
theorem wpList_load_at {ops : Array Oper} {rest : List Oper} {o : Oper} {a : Act} {w : World} {Q : Exit → Act → World → Prop} (hgd : o.guard = none) (ty : TypeId) (x : Operand) (ho : o.op = .load ty x)
    (ad : Addr) (hx : a.eval x = .pointer (some ad)) (cs : List Value) (d : TypeDesc) (hc : ∀ j v, cs[j]? = some v → w.cell? (ad.add j) = some v)
    (hu : P.underlying ty = some d) (hd : (match d with | .struct _ | .array _ _ => true | _ => false) = true) (hi : (P.info? ty).map (·.size) = some cs.length)
    (h : wpList P ops Q rest (a.put o.dst (.agg cs.toArray)) w) : wpList P ops Q (o :: rest) a w :=
  wpList_plain hgd fun _ hK => wp_load_at ty x ho ad hx cs d hc hu hd hi (hK _ _ h)
end
end Go.Proofs.YtpoglombagmhmaaGreatDoor
/- A return without results. -/
namespace Go.Proofs.YtpoglombagmhmaaGreatDoor
open Go
theorem end_ret {P : Program} {fn : Func} {R : Ending → World → Prop} {a : Act} {w : World} (h : fn.results = #[]) (hd : a.defers = []) (hR : R (.returned (.tuple #[])) w) : bodyPost P fn R .ret a w :=
  ⟨hd, _, results_none h _ _ _, hR⟩
end Go.Proofs.YtpoglombagmhmaaGreatDoor
/- Sums that Go builds of shifted bytes, and the six bits that it takes of them. -/
namespace Go.Proofs.YtpoglombagmhmaaGreatDoor
open Go

theorem wrapu64 (n : Nat) (h : n < 18446744073709551616) : IntKind.u64.wrap (n : Int) = n := IntWalk.u64_in _ ⟨by omega, by omega⟩
theorem or_shift (a b k : Nat) (h : b < 2 ^ k) : a * 2 ^ k ||| b = a * 2 ^ k + b := by
  rw [← Nat.shiftLeft_eq, Nat.shiftLeft_add_eq_or_of_lt h]
theorem and63 (n : Nat) (h : n < 18446744073709551616) : bits .and .u64 (n : Int) 63 = ((n % 64 : Nat) : Int) := by
  have h1 := u64_and_nat n 63 h (by omega)
  have h2 : n &&& 63 = n % 64 := Nat.and_two_pow_sub_one_eq_mod n 6
  rw [h2] at h1
  exact h1
theorem val3 (x y z : UInt8) : bits .or .u64 (bits .or .u64 (IntKind.u64.wrap (IntKind.u64.wrap (x.toNat : Int) * 65536)) (IntKind.u64.wrap (IntKind.u64.wrap (y.toNat : Int) * 256))) (IntKind.u64.wrap (z.toNat : Int)) =
    ((x.toNat * 65536 + y.toNat * 256 + z.toNat : Nat) : Int) := by
  have hx := x.toNat_lt; have hy := y.toNat_lt; have hz := z.toNat_lt
  rw [wrapu64 x.toNat (by omega), wrapu64 y.toNat (by omega), wrapu64 z.toNat (by omega)]
  rw [show (x.toNat : Int) * 65536 = ((x.toNat * 65536 : Nat) : Int) by omega, show (y.toNat : Int) * 256 = ((y.toNat * 256 : Nat) : Int) by omega, wrapu64 _ (by omega), wrapu64 _ (by omega)]
  rw [u64_or_nat _ _ (by omega) (by omega)]
  have e1 : x.toNat * 65536 ||| y.toNat * 256 = x.toNat * 65536 + y.toNat * 256 := or_shift x.toNat (y.toNat * 256) 16 (by omega)
  rw [e1, u64_or_nat _ _ (by omega) (by omega)]
  have e2 : (x.toNat * 65536 + y.toNat * 256) ||| z.toNat = x.toNat * 65536 + y.toNat * 256 + z.toNat := by
    have := or_shift (x.toNat * 256 + y.toNat) z.toNat 8 (by omega)
    have e3 : (x.toNat * 256 + y.toNat) * 2 ^ 8 = x.toNat * 65536 + y.toNat * 256 := by omega
    rwa [e3] at this
  rw [e2]
theorem val2 (x y : UInt8) : bits .or .u64 (IntKind.u64.wrap (IntKind.u64.wrap (x.toNat : Int) * 65536)) (IntKind.u64.wrap (IntKind.u64.wrap (y.toNat : Int) * 256)) = ((x.toNat * 65536 + y.toNat * 256 : Nat) : Int) := by
  have hx := x.toNat_lt; have hy := y.toNat_lt
  rw [wrapu64 x.toNat (by omega), wrapu64 y.toNat (by omega)]
  rw [show (x.toNat : Int) * 65536 = ((x.toNat * 65536 : Nat) : Int) by omega, show (y.toNat : Int) * 256 = ((y.toNat * 256 : Nat) : Int) by omega, wrapu64 _ (by omega), wrapu64 _ (by omega)]
  rw [u64_or_nat _ _ (by omega) (by omega)]
  have e1 : x.toNat * 65536 ||| y.toNat * 256 = x.toNat * 65536 + y.toNat * 256 := or_shift x.toNat (y.toNat * 256) 16 (by omega)
  rw [e1]
theorem val1 (x : UInt8) : IntKind.u64.wrap (IntKind.u64.wrap (x.toNat : Int) * 65536) = ((x.toNat * 65536 : Nat) : Int) := by
  have hx := x.toNat_lt
  rw [wrapu64 x.toNat (by omega), show (x.toNat : Int) * 65536 = ((x.toNat * 65536 : Nat) : Int) by omega, wrapu64 _ (by omega)]
/-- The six bits of a sum behind a shift. -/
theorem six (V q d r : Nat) (hV : V < 18446744073709551616) (hq : V / d = q) (hr : q % 64 = r) : bits .and .u64 ((V : Int) / (d : Int)) 63 = (r : Int) := by
  rw [show (V : Int) / (d : Int) = ((V / d : Nat) : Int) by norm_cast, and63 _ (by have := Nat.div_le_self V d; omega), hq, hr]
end Go.Proofs.YtpoglombagmhmaaGreatDoor
/- Walks of small functions over strings: laws.plain, spec.IsAtom. -/
namespace Go.Proofs.YtpoglombagmhmaaGreatDoor
open Go Go.RowKit

/-- A byte as the walk tests it. -/
def plainB (c : UInt8) : Bool := decide ((32 ≤ c.toNat ∧ c.toNat ≤ 126) ∨ c.toNat = 9)
def plainL (l : List UInt8) : Bool := l.all plainB

theorem take_snoc (s : ByteArray) (k : Nat) (h : k < s.size) : s.data.toList.take (k + 1) = s.data.toList.take k ++ [s[k]] := by
  rw [List.take_succ_eq_append_getElem (by simpa using h)]; rfl
theorem all_take_succ (p : UInt8 → Bool) (s : ByteArray) (k : Nat) (h : k < s.size) (hp : (s.data.toList.take k).all p = true) (hc : p s[k] = true) : (s.data.toList.take (k + 1)).all p = true := by
  rw [take_snoc s k h, List.all_append, hp]; simp [hc]
theorem all_not (p : UInt8 → Bool) (s : ByteArray) (k : Nat) (h : k < s.size) (hc : p s[k] = false) : s.data.toList.all p = false := by
  rw [List.all_eq_false]; exact ⟨s[k], by simp [ByteArray.getElem_eq_getElem_data], by simp [hc]⟩
theorem all_whole (p : UInt8 → Bool) (s : ByteArray) (k : Nat) (h : ¬ k < s.size) (hp : (s.data.toList.take k).all p = true) : s.data.toList.all p = true := by
  rwa [List.take_of_length_le (by simpa using h)] at hp
theorem ret_bool {a b : Bool} (h : a = b) : Ending.returned (.bool a) = .returned (.bool b) := by rw [h]
theorem ret_int {k : IntKind} {a b : Int} (h : a = b) : Ending.returned (.int k a) = .returned (.int k b) := by rw [h]

end Go.Proofs.YtpoglombagmhmaaGreatDoor
/- Plain Lean: the alphabet of base64 (RFC 2045, 6.8). -/
namespace Go.Proofs.YtpoglombagmhmaaGreatDoor
open Go

/-- A digit of base64: its sign. -/
def alphaN (i : Nat) : Nat := if i < 26 then 65 + i else if i < 52 then 71 + i else if i < 62 then i - 4 else if i = 62 then 43 else 47
/-- A sign: the digit that it is; 64: none. -/
def aIdx (c : Nat) : Nat := if 65 ≤ c ∧ c ≤ 90 then c - 65 else if 97 ≤ c ∧ c ≤ 122 then c - 71 else if 48 ≤ c ∧ c ≤ 57 then c + 4 else if c = 43 then 62 else if c = 47 then 63 else 64
/-- The decoding map when m signs are entered. -/
def dm (m c : Nat) : Nat := if aIdx c < m then aIdx c else 255

theorem alphaN_lt (i : Nat) (h : i < 64) : alphaN i < 128 := by
  have : ∀ k : Fin 64, alphaN k.val < 128 := by decide
  exact this ⟨i, h⟩
theorem aIdx_alpha (i : Nat) (h : i < 64) : aIdx (alphaN i) = i := by
  have : ∀ k : Fin 64, aIdx (alphaN k.val) = k.val := by decide
  exact this ⟨i, h⟩
theorem aIdx_big (c : Nat) (h : 128 ≤ c) : aIdx c = 64 := by
  unfold aIdx
  rw [if_neg (by omega), if_neg (by omega), if_neg (by omega), if_neg (by omega), if_neg (by omega)]
theorem aIdx_le (c : Nat) : aIdx c ≤ 64 := by
  unfold aIdx
  (repeat' split) <;> omega
set_option maxRecDepth 10000 in
theorem alpha_aIdx (c : Nat) (h : aIdx c < 64) : alphaN (aIdx c) = c := by
  have : ∀ k : Fin 128, aIdx k.val < 64 → alphaN (aIdx k.val) = k.val := by decide
  by_cases hc : c < 128
  · exact this ⟨c, hc⟩ h
  · rw [aIdx_big c (by omega)] at h; omega
theorem dm_zero (c : Nat) : dm 0 c = 255 := by simp [dm]
theorem dm_lt (m c : Nat) (hm : m ≤ 64) : dm m c < 256 := by unfold dm; split <;> omega
theorem dm_step (m c : Nat) : dm (m + 1) c = if aIdx c = m then m else dm m c := by
  unfold dm; (repeat' split) <;> omega
end Go.Proofs.YtpoglombagmhmaaGreatDoor
