/- spec.parser: is, near, take, words: the walks. -/
import Derived.Test.YtmcjmmcamelmcaaGreatDoorS4
import Derived.BigQuiet
namespace Go.Proofs.YtmcjmmcamelmcaaGreatDoor
open Go Go.RowKit

theorem tokCells_at {ts : List Tok} {n : Nat} {t : Tok} (h : ts[n]? = some t) : (tokCells ts)[n * 3]? = some (.int .u8 t.kind.toNat) ∧ (tokCells ts)[n * 3 + 1]? = some (.string ⟨t.text.toArray⟩) ∧ (tokCells ts)[n * 3 + 2]? = some (.bool t.space) := by
  induction ts generalizing n with
  | nil => simp at h
  | cons a ts ih =>
    cases n with
    | zero =>
      simp only [List.getElem?_cons_zero, Option.some.injEq] at h
      subst h
      exact ⟨rfl, rfl, rfl⟩
    | succ n =>
      have h2 := ih (n := n) (by simpa using h)
      have e : ∀ j, (tokCells (a :: ts))[(n + 1) * 3 + j]? = (tokCells ts)[n * 3 + j]? := fun j => by
        have : tokCells (a :: ts) = tokC a ++ tokCells ts := by simp [tokCells]
        rw [this, List.getElem?_append_right (by simp [tokC]; omega)]
        congr 1; simp [tokC]; omega
      exact ⟨(e 0).trans h2.1, (e 1).trans h2.2.1, (e 2).trans h2.2.2⟩

/-- How long the tokens' texts are, each with one sign more. -/
def tlen (ts : List Tok) : Nat := (ts.map fun t => t.text.length + 1).sum
theorem tlen_len (ts : List Tok) : ts.length ≤ tlen ts := by
  induction ts with
  | nil => simp
  | cons t ts ih => simp only [tlen, List.map_cons, List.sum_cons, List.length_cons] at ih ⊢; omega
theorem tlen_app (a b : List Tok) : tlen (a ++ b) = tlen a + tlen b := by simp [tlen]
theorem tlen_take (ts : List Tok) (n : Nat) : tlen (ts.take n) ≤ tlen ts := by
  have h := tlen_app (ts.take n) (ts.drop n)
  rw [List.take_append_drop] at h
  omega
theorem tlen_snoc {ts : List Tok} {n : Nat} {t : Tok} (h : ts[n]? = some t) : tlen (ts.take (n + 1)) = tlen (ts.take n) + t.text.length + 1 := by
  rw [List.take_add_one, h, tlen_app]
  simp [tlen]; omega
/-- The parser in block pb: its tokens ts, n of them taken; ok: no obsolete form so far. -/
structure Par (pb : Nat) (tv : Value) (ts : List Tok) (n : Nat) (ok : Bool) (w : World) : Prop where
  blk : w.heap[pb]? = some (.cells #[tv, .int .i64 n, .bool ok] 45 (0, 0))
  own : OwnT 0 ts tv w
  ne : tv.ownBlock ≠ some pb
  le : n ≤ ts.length
  tl : tlen ts ≤ 4398046511104
theorem Par.len {pb : Nat} {tv : Value} {ts : List Tok} {n : Nat} {ok : Bool} {w : World} (h : Par pb tv ts n ok w) : ts.length ≤ 4398046511104 := Nat.le_trans (tlen_len ts) h.tl
theorem Par.fr {pb : Nat} {tv : Value} {ts : List Tok} {n : Nat} {ok : Bool} {w w' : World} (h : Par pb tv ts n ok w) (hf : ∀ k, k < w.heap.size → w'.heap[k]? = w.heap[k]?) : Par pb tv ts n ok w' :=
  ⟨(hf pb (Array.getElem?_eq_some_iff.1 h.blk).1).trans h.blk, own_fr h.own (fun k _ hk => hf k hk), h.ne, h.le, h.tl⟩
theorem Par.cells {pb : Nat} {tv : Value} {ts : List Tok} {n : Nat} {ok : Bool} {w : World} (h : Par pb tv ts n ok w) : w.cell? ⟨pb, 0, none⟩ = some tv ∧ w.cell? ⟨pb, 1, none⟩ = some (.int .i64 n) ∧ w.cell? ⟨pb, 2, none⟩ = some (.bool ok) := by
  refine ⟨?_, ?_, ?_⟩ <;> (rw [Lib.cell_of_heap h.blk]; rfl)
theorem Par.val {pb : Nat} {tv : Value} {ts : List Tok} {n : Nat} {ok : Bool} {w : World} (h : Par pb tv ts n ok w) : (tv = .slice none 0 0 ∧ ts = []) ∨ ∃ g cap, tv = .slice (some ⟨g, 0, none⟩) ts.length cap ∧ ts.length ≤ cap ∧ cap ≤ 9223372036854775807 ∧ (∀ i t, ts[i]? = some t → w.cell? ⟨g, i * 3, none⟩ = some (.int .u8 t.kind.toNat) ∧ w.cell? ⟨g, i * 3 + 1, none⟩ = some (.string ⟨t.text.toArray⟩) ∧ w.cell? ⟨g, i * 3 + 2, none⟩ = some (.bool t.space)) := by
  have hown := h.own
  rcases hown.2 with ⟨rfl, h0⟩ | ⟨g, cap, cur, rfl, hB, hg, hnc, hcm, hcs, htake⟩
  · exact .inl ⟨rfl, List.eq_nil_of_length_eq_zero h0⟩
  · refine .inr ⟨g, cap, rfl, hnc, by simpa [maxLen] using hcm, fun i t ht => ?_⟩
    have hc := hown.cells (g := g) rfl
    have ha : ∀ j, (⟨g, 0, none⟩ : Addr).add j = ⟨g, j, none⟩ := fun j => by unfold Addr.add; split <;> simp_all
    obtain ⟨h1, h2, h3⟩ := tokCells_at ht
    exact ⟨ha _ ▸ hc _ _ h1, ha _ ▸ hc _ _ h2, ha _ ▸ hc _ _ h3⟩
theorem drop_head {ts : List Tok} {n : Nat} {t : Tok} (h : ts[n]? = some t) : ts.drop n = t :: ts.drop (n + 1) := by
  obtain ⟨hn, rfl⟩ := List.getElem?_eq_some_iff.1 h
  exact List.drop_eq_getElem_cons hn

set_option maxHeartbeats 1000000 in
set_option maxRecDepth 100000 in
theorem is_any (pb : Nat) (tv : Value) (ts : List Tok) (n : Nat) (ok : Bool) (k : UInt8) (w : World) (h : Par pb tv ts n ok w) :
    Calls Tryz.prog 24 #[.pointer (some ⟨pb, 0, none⟩), .int .u8 k.toNat] w fun x w' => x = .returned (.bool (isH k (ts.drop n))) ∧ ∃ m, w' = w.drewN m := by
  obtain ⟨c0, c1, c2⟩ := h.cells
  have hle := h.le; have hlen := h.len
  rcases h.val with ⟨rfl, rfl⟩ | ⟨g, cap, rfl, hc1, hc2, hcell⟩
  · obtain rfl : n = 0 := by simpa using hle
    clear h hle hlen
    go_enter Tryz.func24, Tryz.ntmps24
    go_wp2
    go_quiet (fail)
    go_wp2
    go_ret
    exact ⟨rfl, _, rfl⟩
  · obtain ⟨m, hm⟩ : ∃ m, ts.length = m := ⟨_, rfl⟩
    have HM := Lib.hid hm
    rw [hm] at c0 hc1 hle hlen
    clear hm
    by_cases hlt : n < m
    · obtain ⟨t, ht⟩ : ∃ t, ts[n]? = some t := ⟨_, List.getElem?_eq_getElem (by rw [HM.out]; exact hlt)⟩
      obtain ⟨d0, d1, d2⟩ := hcell n t ht
      have HT := Lib.hid (drop_head ht)
      have hnm : (n : Int) < (m : Int) := by omega
      by_cases he : t.kind = k
      · have t0 : ((t.kind.toNat : Int) == (k.toNat : Int)) = true := by rw [he]; simp
        have HE := Lib.hid he
        clear h hcell ht hle he
        go_enter Tryz.func24, Tryz.ntmps24
        go_wp2
        go_quiet (fail)
        go_wp2
        go_ret
        refine ⟨ret_bool ?_, _, rfl⟩
        rw [HT.out]
        simp [isH, HE.out]
      · have t0 : ((t.kind.toNat : Int) == (k.toNat : Int)) = false := cneq he
        have HE := Lib.hid he
        clear h hcell ht hle he
        go_enter Tryz.func24, Tryz.ntmps24
        go_wp2
        go_quiet (fail)
        go_wp2
        go_ret
        refine ⟨ret_bool ?_, _, rfl⟩
        rw [HT.out]
        simp [isH, HE.out]
    · have hnm : ¬ (n : Int) < (m : Int) := by omega
      have HD := Lib.hid (show ts.drop n = [] from List.drop_eq_nil_of_le (by rw [HM.out]; omega))
      clear h hcell hle
      go_enter Tryz.func24, Tryz.ntmps24
      go_wp2
      go_quiet (fail)
      go_wp2
      go_ret
      refine ⟨ret_bool ?_, _, rfl⟩
      rw [HD.out]; rfl

theorem Par.drewN {pb : Nat} {tv : Value} {ts : List Tok} {n : Nat} {ok : Bool} {w : World} (h : Par pb tv ts n ok w) (m : Nat) : Par pb tv ts n ok (w.drewN m) := h.fr (fun k _ => by rw [heap_drewN])
theorem Par.setOk {pb : Nat} {tv : Value} {ts : List Tok} {n : Nat} {ok : Bool} {w : World} (h : Par pb tv ts n ok w) (b : Bool) : Par pb tv ts n b (w.setCell ⟨pb, 2, none⟩ (.bool b)) :=
  ⟨heap_setCell_row h.blk, own_fr h.own (fun k e _ => Below.heap_setCell w ⟨pb, 2, none⟩ _ k (fun e2 => h.ne (by rw [e, e2]))), h.ne, h.le, h.tl⟩
theorem Par.setAt {pb : Nat} {tv : Value} {ts : List Tok} {n : Nat} {ok : Bool} {w : World} (h : Par pb tv ts n ok w) (m : Nat) (hm : m ≤ ts.length) : Par pb tv ts m ok (w.setCell ⟨pb, 1, none⟩ (.int .i64 m)) :=
  ⟨heap_setCell_row h.blk, own_fr h.own (fun k e _ => Below.heap_setCell w ⟨pb, 1, none⟩ _ k (fun e2 => h.ne (by rw [e, e2]))), h.ne, hm, h.tl⟩
theorem Par.frozen {pb : Nat} {tv : Value} {ts : List Tok} {n : Nat} {ok : Bool} {w : World} (h : Par pb tv ts n ok w) (j : Nat) : w.frozen? ⟨pb, j, none⟩ = false := Lib.frozen_of_heap h.blk j
theorem isH_some {k : UInt8} {ts : List Tok} {n : Nat} (h : isH k (ts.drop n) = true) : ∃ t, ts[n]? = some t ∧ t.kind = k := by
  cases hd : ts.drop n with
  | nil => rw [hd] at h; cases h
  | cons t r =>
    rw [hd] at h
    have h1 : ts[n]? = some t := by
      have := List.getElem?_drop (xs := ts) (i := n) (j := 0)
      rw [hd] at this
      simpa using this.symm
    exact ⟨t, h1, by simpa [isH] using h⟩

set_option maxHeartbeats 1000000 in
set_option maxRecDepth 100000 in
theorem near_any (pb : Nat) (tv : Value) (ts : List Tok) (n : Nat) (ok : Bool) (w : World) (h : Par pb tv ts n ok w) :
    Calls Tryz.prog 28 #[.pointer (some ⟨pb, 0, none⟩)] w fun x w' => x = .returned (.tuple #[]) ∧ Par pb tv ts n (ok && !spaceH (ts.drop n)) w' ∧ Fr (· ≠ pb) w w' := by
  obtain ⟨c0, c1, c2⟩ := h.cells
  have hle := h.le; have hlen := h.len
  have HP := Lib.hid h
  rcases h.val with ⟨rfl, rfl⟩ | ⟨g, cap, rfl, hc1, hc2, hcell⟩
  · obtain rfl : n = 0 := by simpa using hle
    clear h hle hlen
    go_enter Tryz.func28, Tryz.ntmps28
    go_wp2
    go_quiet (fail)
    go_wp2
    go_end0
    refine ⟨rfl, ?_, (Fr.refl _ w).drewN _⟩
    have := HP.out.drewN nq
    simpa [spaceH] using this
  · obtain ⟨m, hm⟩ : ∃ m, ts.length = m := ⟨_, rfl⟩
    have HM := Lib.hid hm
    rw [hm] at c0 hc1 hle hlen
    rw [hm] at HP ⊢
    clear hm
    by_cases hlt : n < m
    · obtain ⟨t, ht⟩ : ∃ t, ts[n]? = some t := ⟨_, List.getElem?_eq_getElem (by rw [HM.out]; exact hlt)⟩
      obtain ⟨d0, d1, d2⟩ := hcell n t ht
      have HT := Lib.hid (drop_head ht)
      have hnm : (n : Int) < (m : Int) := by omega
      cases hsp : t.space with
      | true =>
        rw [hsp] at d2
        have HS := Lib.hid hsp
        clear h hcell ht hle hsp
        go_enter Tryz.func28, Tryz.ntmps28
        go_wp2
        go_quiet (fail)
        have hpq := HP.out.drewN nq
        have hfz := hpq.frozen 2
        have e2 := hpq.cells.2.2
        have HPQ := Lib.hid (hpq.setOk false)
        have HFQ := Lib.hid (((Fr.refl (· ≠ pb) w).drewN nq).setCell (p := ⟨pb, 2, none⟩) (fun h => h rfl) (.bool false))
        clear hpq c0 c1 c2 d0 d1 d2
        generalize w.drewN nq = wq at *
        go_wp2
        go_end0
        refine ⟨rfl, ?_, HFQ.out⟩
        rw [HT.out]
        simpa [spaceH, HS.out] using HPQ.out
      | false =>
        rw [hsp] at d2
        have HS := Lib.hid hsp
        clear h hcell ht hle hsp
        go_enter Tryz.func28, Tryz.ntmps28
        go_wp2
        go_quiet (fail)
        go_wp2
        go_end0
        refine ⟨rfl, ?_, (Fr.refl _ w).drewN _⟩
        rw [HT.out]
        simpa [spaceH, HS.out] using HP.out.drewN nq
    · have hnm : ¬ (n : Int) < (m : Int) := by omega
      have HD := Lib.hid (show ts.drop n = [] from List.drop_eq_nil_of_le (by rw [HM.out]; omega))
      clear h hcell hle
      go_enter Tryz.func28, Tryz.ntmps28
      go_wp2
      go_quiet (fail)
      go_wp2
      go_end0
      refine ⟨rfl, ?_, (Fr.refl _ w).drewN _⟩
      rw [HD.out]
      simpa [spaceH] using HP.out.drewN nq

set_option maxRecDepth 100000 in
theorem take_yes (pb : Nat) (tv : Value) (ts : List Tok) (n : Nat) (ok : Bool) (k : UInt8) (w : World) (h : Par pb tv ts n ok w) (hk : isH k (ts.drop n) = true) :
    Calls Tryz.prog 26 #[.pointer (some ⟨pb, 0, none⟩), .int .u8 k.toNat] w fun x w' => x = .returned (.bool true) ∧ Par pb tv ts (n + 1) ok w' ∧ Fr (· ≠ pb) w w' := by
  obtain ⟨t, ht, -⟩ := isH_some hk
  have hlt := (List.getElem?_eq_some_iff.1 ht).1
  have hlen := h.len
  have HP := Lib.hid h; have HK := Lib.hid hk
  have hn : n ≤ 4398046511104 := by omega
  have HLT := Lib.hid hlt
  clear h hk ht hlt hlen
  go_enter Tryz.func26, Tryz.ntmps26
  go_wp2_with fail
  refine (is_any pb tv ts n ok k w HP.out).mono ?_
  rintro x w1 ⟨rfl, q, rfl⟩
  rw [HK.out]
  have hpq := HP.out.drewN q
  have hfz := hpq.frozen 1
  have e1 := hpq.cells.2.1
  have HPQ := Lib.hid (hpq.setAt (n + 1) (by have := HLT.out; omega))
  have HFQ := Lib.hid (((Fr.refl (· ≠ pb) w).drewN q).setCell (p := ⟨pb, 1, none⟩) (fun h => h rfl) (.int .i64 ((n + 1 : Nat) : Int)))
  clear hpq
  generalize w.drewN q = wq at *
  push_cast at HPQ HFQ
  go_wp2
  go_ret
  exact ⟨rfl, HPQ.out, HFQ.out⟩
set_option maxRecDepth 100000 in
theorem take_no (pb : Nat) (tv : Value) (ts : List Tok) (n : Nat) (ok : Bool) (k : UInt8) (w : World) (h : Par pb tv ts n ok w) (hk : isH k (ts.drop n) = false) :
    Calls Tryz.prog 26 #[.pointer (some ⟨pb, 0, none⟩), .int .u8 k.toNat] w fun x w' => x = .returned (.bool false) ∧ ∃ m, w' = w.drewN m := by
  have HP := Lib.hid h; have HK := Lib.hid hk
  clear h hk
  go_enter Tryz.func26, Tryz.ntmps26
  go_wp2_with fail
  refine (is_any pb tv ts n ok k w HP.out).mono ?_
  rintro x w1 ⟨rfl, q, rfl⟩
  rw [HK.out]
  go_wp2
  go_ret
  exact ⟨rfl, _, rfl⟩
end Go.Proofs.YtmcjmmcamelmcaaGreatDoor
