/- spec.parser: is, near, take, words: the walks. -/
import Derived.Test.YtpoglombagmhmaaGreatDoorS4
import Derived.BigQuiet
namespace Go.Proofs.YtpoglombagmhmaaGreatDoor
open Go Go.RowKit

theorem tokCells_at {ts : List Tok} {n : Nat} {t : Tok} (h : ts[n]? = some t) : (tokCells ts)[n * 3]? = some (.int .u8 t.kind.toNat) ∧ (tokCells ts)[n * 3 + 1]? = some (.string ⟨t.text.toArray⟩) ∧ (tokCells ts)[n * 3 + 2]? = some (.bool t.space) := by
  induction ts generalizing n with
  | nil => simp at h
  | cons a ts ih =>
    cases n with
    | zero =>
      simp only [List.getElem?_cons_zero, Option.some.injEq] at h
      subst h
      exact ⟨rfl, rfl, rfl⟩
    | succ n =>
      have h2 := ih (n := n) (by simpa using h)
      have e : ∀ j, (tokCells (a :: ts))[(n + 1) * 3 + j]? = (tokCells ts)[n * 3 + j]? := fun j => by
        have : tokCells (a :: ts) = tokC a ++ tokCells ts := by simp [tokCells]
        rw [this, List.getElem?_append_right (by simp [tokC]; omega)]
        congr 1; simp [tokC]; omega
      exact ⟨(e 0).trans h2.1, (e 1).trans h2.2.1, (e 2).trans h2.2.2⟩

/-- How long the tokens' texts are, each with one sign more. -/
def tlen (ts : List Tok) : Nat := (ts.map fun t => t.text.length + 1).sum
theorem tlen_len (ts : List Tok) : ts.length ≤ tlen ts := by
  induction ts with
  | nil => simp
  | cons t ts ih => simp only [tlen, List.map_cons, List.sum_cons, List.length_cons] at ih ⊢; omega
theorem tlen_app (a b : List Tok) : tlen (a ++ b) = tlen a + tlen b := by simp [tlen]
theorem tlen_take (ts : List Tok) (n : Nat) : tlen (ts.take n) ≤ tlen ts := by
  have h := tlen_app (ts.take n) (ts.drop n)
  rw [List.take_append_drop] at h
  omega
theorem tlen_snoc {ts : List Tok} {n : Nat} {t : Tok} (h : ts[n]? = some t) : tlen (ts.take (n + 1)) = tlen (ts.take n) + t.text.length + 1 := by
  rw [List.take_add_one, h, tlen_app]
  simp [tlen]; omega
/-- The parser in block pb: its tokens ts, n of them taken; ok: no obsolete form so far. -/
structure Par (pb : Nat) (tv : Value) (ts : List Tok) (n : Nat) (ok : Bool) (w : World) : Prop where
  blk : w.heap[pb]? = some (.cells #[tv, .int .i64 n, .bool ok] 57 (0, 0))
  own : OwnT 0 ts tv w
  ne : tv.ownBlock ≠ some pb
  le : n ≤ ts.length
  tl : tlen ts ≤ 4398046511104
theorem Par.len {pb : Nat} {tv : Value} {ts : List Tok} {n : Nat} {ok : Bool} {w : World} (h : Par pb tv ts n ok w) : ts.length ≤ 4398046511104 := Nat.le_trans (tlen_len ts) h.tl
theorem Par.fr {pb : Nat} {tv : Value} {ts : List Tok} {n : Nat} {ok : Bool} {w w' : World} (h : Par pb tv ts n ok w) (hf : ∀ k, k < w.heap.size → w'.heap[k]? = w.heap[k]?) : Par pb tv ts n ok w' :=
  ⟨(hf pb (Array.getElem?_eq_some_iff.1 h.blk).1).trans h.blk, own_fr h.own (fun k _ hk => hf k hk), h.ne, h.le, h.tl⟩
theorem Par.cells {pb : Nat} {tv : Value} {ts : List Tok} {n : Nat} {ok : Bool} {w : World} (h : Par pb tv ts n ok w) : w.cell? ⟨pb, 0, none⟩ = some tv ∧ w.cell? ⟨pb, 1, none⟩ = some (.int .i64 n) ∧ w.cell? ⟨pb, 2, none⟩ = some (.bool ok) := by
  refine ⟨?_, ?_, ?_⟩ <;> (rw [Lib.cell_of_heap h.blk]; rfl)
theorem Par.val {pb : Nat} {tv : Value} {ts : List Tok} {n : Nat} {ok : Bool} {w : World} (h : Par pb tv ts n ok w) : (tv = .slice none 0 0 ∧ ts = []) ∨ ∃ g cap, tv = .slice (some ⟨g, 0, none⟩) ts.length cap ∧ ts.length ≤ cap ∧ cap ≤ 9223372036854775807 ∧ (∀ i t, ts[i]? = some t → w.cell? ⟨g, i * 3, none⟩ = some (.int .u8 t.kind.toNat) ∧ w.cell? ⟨g, i * 3 + 1, none⟩ = some (.string ⟨t.text.toArray⟩) ∧ w.cell? ⟨g, i * 3 + 2, none⟩ = some (.bool t.space)) := by
  have hown := h.own
  rcases hown.2 with ⟨rfl, h0⟩ | ⟨g, cap, cur, rfl, hB, hg, hnc, hcm, hcs, htake⟩
  · exact .inl ⟨rfl, List.eq_nil_of_length_eq_zero h0⟩
  · refine .inr ⟨g, cap, rfl, hnc, by simpa [maxLen] using hcm, fun i t ht => ?_⟩
    have hc := hown.cells (g := g) rfl
    have ha : ∀ j, (⟨g, 0, none⟩ : Addr).add j = ⟨g, j, none⟩ := fun j => by unfold Addr.add; split <;> simp_all
    obtain ⟨h1, h2, h3⟩ := tokCells_at ht
    exact ⟨ha _ ▸ hc _ _ h1, ha _ ▸ hc _ _ h2, ha _ ▸ hc _ _ h3⟩
theorem drop_head {ts : List Tok} {n : Nat} {t : Tok} (h : ts[n]? = some t) : ts.drop n = t :: ts.drop (n + 1) := by
  obtain ⟨hn, rfl⟩ := List.getElem?_eq_some_iff.1 h
  exact List.drop_eq_getElem_cons hn

set_option maxHeartbeats 1000000 in
set_option maxRecDepth 100000 in
theorem is_any (pb : Nat) (tv : Value) (ts : List Tok) (n : Nat) (ok : Bool) (k : UInt8) (w : World) (h : Par pb tv ts n ok w) :
    Calls Tryz.prog 25 #[.pointer (some ⟨pb, 0, none⟩), .int .u8 k.toNat] w fun x w' => x = .returned (.bool (isH k (ts.drop n))) ∧ ∃ m, w' = w.drewN m := by
  obtain ⟨c0, c1, c2⟩ := h.cells
  have hle := h.le; have hlen := h.len
  rcases h.val with ⟨rfl, rfl⟩ | ⟨g, cap, rfl, hc1, hc2, hcell⟩
  · obtain rfl : n = 0 := by simpa using hle
    clear h hle hlen
    go_enter Tryz.func25, Tryz.ntmps25
    go_wp2
    go_quiet (fail)
    go_wp2
    go_ret
    exact ⟨rfl, _, rfl⟩
  · obtain ⟨m, hm⟩ : ∃ m, ts.length = m := ⟨_, rfl⟩
    have HM := Lib.hid hm
    rw [hm] at c0 hc1 hle hlen
    clear hm
    by_cases hlt : n < m
    · obtain ⟨t, ht⟩ : ∃ t, ts[n]? = some t := ⟨_, List.getElem?_eq_getElem (by rw [HM.out]; exact hlt)⟩
      obtain ⟨d0, d1, d2⟩ := hcell n t ht
      have HT := Lib.hid (drop_head ht)
      have hnm : (n : Int) < (m : Int) := by omega
      by_cases he : t.kind = k
      · have t0 : ((t.kind.toNat : Int) == (k.toNat : Int)) = true := by rw [he]; simp
        have HE := Lib.hid he
        clear h hcell ht hle he
        go_enter Tryz.func25, Tryz.ntmps25
        go_wp2
        go_quiet (fail)
        go_wp2
        go_ret
        refine ⟨ret_bool ?_, _, rfl⟩
        rw [HT.out]
        simp [isH, HE.out]
      · have t0 : ((t.kind.toNat : Int) == (k.toNat : Int)) = false := cneq he
        have HE := Lib.hid he
        clear h hcell ht hle he
        go_enter Tryz.func25, Tryz.ntmps25
        go_wp2
        go_quiet (fail)
        go_wp2
        go_ret
        refine ⟨ret_bool ?_, _, rfl⟩
        rw [HT.out]
        simp [isH, HE.out]
    · have hnm : ¬ (n : Int) < (m : Int) := by omega
      have HD := Lib.hid (show ts.drop n = [] from List.drop_eq_nil_of_le (by rw [HM.out]; omega))
      clear h hcell hle
      go_enter Tryz.func25, Tryz.ntmps25
      go_wp2
      go_quiet (fail)
      go_wp2
      go_ret
      refine ⟨ret_bool ?_, _, rfl⟩
      rw [HD.out]; rfl

theorem Par.drewN {pb : Nat} {tv : Value} {ts : List Tok} {n : Nat} {ok : Bool} {w : World} (h : Par pb tv ts n ok w) (m : Nat) : Par pb tv ts n ok (w.drewN m) := h.fr (fun k _ => by rw [heap_drewN])
theorem Par.setOk {pb : Nat} {tv : Value} {ts : List Tok} {n : Nat} {ok : Bool} {w : World} (h : Par pb tv ts n ok w) (b : Bool) : Par pb tv ts n b (w.setCell ⟨pb, 2, none⟩ (.bool b)) :=
  ⟨heap_setCell_row h.blk, own_fr h.own (fun k e _ => Below.heap_setCell w ⟨pb, 2, none⟩ _ k (fun e2 => h.ne (by rw [e, e2]))), h.ne, h.le, h.tl⟩
theorem Par.setAt {pb : Nat} {tv : Value} {ts : List Tok} {n : Nat} {ok : Bool} {w : World} (h : Par pb tv ts n ok w) (m : Nat) (hm : m ≤ ts.length) : Par pb tv ts m ok (w.setCell ⟨pb, 1, none⟩ (.int .i64 m)) :=
  ⟨heap_setCell_row h.blk, own_fr h.own (fun k e _ => Below.heap_setCell w ⟨pb, 1, none⟩ _ k (fun e2 => h.ne (by rw [e, e2]))), h.ne, hm, h.tl⟩
theorem Par.frozen {pb : Nat} {tv : Value} {ts : List Tok} {n : Nat} {ok : Bool} {w : World} (h : Par pb tv ts n ok w) (j : Nat) : w.frozen? ⟨pb, j, none⟩ = false := Lib.frozen_of_heap h.blk j
theorem isH_some {k : UInt8} {ts : List Tok} {n : Nat} (h : isH k (ts.drop n) = true) : ∃ t, ts[n]? = some t ∧ t.kind = k := by
  cases hd : ts.drop n with
  | nil => rw [hd] at h; cases h
  | cons t r =>
    rw [hd] at h
    have h1 : ts[n]? = some t := by
      have := List.getElem?_drop (xs := ts) (i := n) (j := 0)
      rw [hd] at this
      simpa using this.symm
    exact ⟨t, h1, by simpa [isH] using h⟩

set_option maxHeartbeats 1000000 in
set_option maxRecDepth 100000 in
theorem near_any (pb : Nat) (tv : Value) (ts : List Tok) (n : Nat) (ok : Bool) (w : World) (h : Par pb tv ts n ok w) :
    Calls Tryz.prog 29 #[.pointer (some ⟨pb, 0, none⟩)] w fun x w' => x = .returned (.tuple #[]) ∧ Par pb tv ts n (ok && !spaceH (ts.drop n)) w' ∧ Fr (· ≠ pb) w w' := by
  obtain ⟨c0, c1, c2⟩ := h.cells
  have hle := h.le; have hlen := h.len
  have HP := Lib.hid h
  rcases h.val with ⟨rfl, rfl⟩ | ⟨g, cap, rfl, hc1, hc2, hcell⟩
  · obtain rfl : n = 0 := by simpa using hle
    clear h hle hlen
    go_enter Tryz.func29, Tryz.ntmps29
    go_wp2
    go_quiet (fail)
    go_wp2
    go_end0
    refine ⟨rfl, ?_, (Fr.refl _ w).drewN _⟩
    have := HP.out.drewN nq
    simpa [spaceH] using this
  · obtain ⟨m, hm⟩ : ∃ m, ts.length = m := ⟨_, rfl⟩
    have HM := Lib.hid hm
    rw [hm] at c0 hc1 hle hlen
    rw [hm] at HP ⊢
    clear hm
    by_cases hlt : n < m
    · obtain ⟨t, ht⟩ : ∃ t, ts[n]? = some t := ⟨_, List.getElem?_eq_getElem (by rw [HM.out]; exact hlt)⟩
      obtain ⟨d0, d1, d2⟩ := hcell n t ht
      have HT := Lib.hid (drop_head ht)
      have hnm : (n : Int) < (m : Int) := by omega
      cases hsp : t.space with
      | true =>
        rw [hsp] at d2
        have HS := Lib.hid hsp
        clear h hcell ht hle hsp
        go_enter Tryz.func29, Tryz.ntmps29
        go_wp2
        go_quiet (fail)
        have hpq := HP.out.drewN nq
        have hfz := hpq.frozen 2
        have e2 := hpq.cells.2.2
        have HPQ := Lib.hid (hpq.setOk false)
        have HFQ := Lib.hid (((Fr.refl (· ≠ pb) w).drewN nq).setCell (p := ⟨pb, 2, none⟩) (fun h => h rfl) (.bool false))
        clear hpq c0 c1 c2 d0 d1 d2
        generalize w.drewN nq = wq at *
        go_wp2
        go_end0
        refine ⟨rfl, ?_, HFQ.out⟩
        rw [HT.out]
        simpa [spaceH, HS.out] using HPQ.out
      | false =>
        rw [hsp] at d2
        have HS := Lib.hid hsp
        clear h hcell ht hle hsp
        go_enter Tryz.func29, Tryz.ntmps29
        go_wp2
        go_quiet (fail)
        go_wp2
        go_end0
        refine ⟨rfl, ?_, (Fr.refl _ w).drewN _⟩
        rw [HT.out]
        simpa [spaceH, HS.out] using HP.out.drewN nq
    · have hnm : ¬ (n : Int) < (m : Int) := by omega
      have HD := Lib.hid (show ts.drop n = [] from List.drop_eq_nil_of_le (by rw [HM.out]; omega))
      clear h hcell hle
      go_enter Tryz.func29, Tryz.ntmps29
      go_wp2
      go_quiet (fail)
      go_wp2
      go_end0
      refine ⟨rfl, ?_, (Fr.refl _ w).drewN _⟩
      rw [HD.out]
      simpa [spaceH] using HP.out.drewN nq

set_option maxRecDepth 100000 in
theorem take_yes (pb : Nat) (tv : Value) (ts : List Tok) (n : Nat) (ok : Bool) (k : UInt8) (w : World) (h : Par pb tv ts n ok w) (hk : isH k (ts.drop n) = true) :
    Calls Tryz.prog 27 #[.pointer (some ⟨pb, 0, none⟩), .int .u8 k.toNat] w fun x w' => x = .returned (.bool true) ∧ Par pb tv ts (n + 1) ok w' ∧ Fr (· ≠ pb) w w' := by
  obtain ⟨t, ht, -⟩ := isH_some hk
  have hlt := (List.getElem?_eq_some_iff.1 ht).1
  have hlen := h.len
  have HP := Lib.hid h; have HK := Lib.hid hk
  have hn : n ≤ 4398046511104 := by omega
  have HLT := Lib.hid hlt
  clear h hk ht hlt hlen
  go_enter Tryz.func27, Tryz.ntmps27
  go_wp2_with fail
  refine (is_any pb tv ts n ok k w HP.out).mono ?_
  rintro x w1 ⟨rfl, q, rfl⟩
  rw [HK.out]
  have hpq := HP.out.drewN q
  have hfz := hpq.frozen 1
  have e1 := hpq.cells.2.1
  have HPQ := Lib.hid (hpq.setAt (n + 1) (by have := HLT.out; omega))
  have HFQ := Lib.hid (((Fr.refl (· ≠ pb) w).drewN q).setCell (p := ⟨pb, 1, none⟩) (fun h => h rfl) (.int .i64 ((n + 1 : Nat) : Int)))
  clear hpq
  generalize w.drewN q = wq at *
  push_cast at HPQ HFQ
  go_wp2
  go_ret
  exact ⟨rfl, HPQ.out, HFQ.out⟩
set_option maxRecDepth 100000 in
theorem take_no (pb : Nat) (tv : Value) (ts : List Tok) (n : Nat) (ok : Bool) (k : UInt8) (w : World) (h : Par pb tv ts n ok w) (hk : isH k (ts.drop n) = false) :
    Calls Tryz.prog 27 #[.pointer (some ⟨pb, 0, none⟩), .int .u8 k.toNat] w fun x w' => x = .returned (.bool false) ∧ ∃ m, w' = w.drewN m := by
  have HP := Lib.hid h; have HK := Lib.hid hk
  clear h hk
  go_enter Tryz.func27, Tryz.ntmps27
  go_wp2_with fail
  refine (is_any pb tv ts n ok k w HP.out).mono ?_
  rintro x w1 ⟨rfl, q, rfl⟩
  rw [HK.out]
  go_wp2
  go_ret
  exact ⟨rfl, _, rfl⟩
end Go.Proofs.YtpoglombagmhmaaGreatDoor
/- spec.parser: words: the walk. -/
namespace Go.Proofs.YtpoglombagmhmaaGreatDoor
open Go Go.RowKit

def wordsN (ts : List Tok) (n : Nat) : Nat := ((ts.drop n).takeWhile wordK).length
def atOf (pb : Nat) (w : World) : Nat := match w.cell? ⟨pb, 1, none⟩ with | some (.int _ n) => n.toNat | _ => 0
theorem Par.at {pb : Nat} {tv : Value} {ts : List Tok} {n : Nat} {ok : Bool} {w : World} (h : Par pb tv ts n ok w) : atOf pb w = n := by
  unfold atOf; rw [h.cells.2.1]; simp
theorem isH_none {k : UInt8} {ts : List Tok} {n : Nat} (h : ts.length ≤ n) : isH k (ts.drop n) = false := by
  rw [List.drop_eq_nil_of_le h]; rfl
theorem isH_at {k : UInt8} {ts : List Tok} {n : Nat} {t : Tok} (h : ts[n]? = some t) : isH k (ts.drop n) = (t.kind == k) := by
  rw [drop_head h]; rfl
theorem span_tok (p : Tok → Bool) (L : List Tok) : ∀ j, j ≤ L.length → (L.take j).all p = true → (∀ x, L[j]? = some x → p x = false) → L.takeWhile p = L.take j ∧ L.dropWhile p = L.drop j := by
  induction L with
  | nil => intro j _ _ _; simp
  | cons a t ih =>
    intro j hj ha hx
    cases j with
    | zero =>
      have := hx a rfl
      simp [this]
    | succ j =>
      rw [List.take_succ_cons, List.all_cons, Bool.and_eq_true] at ha
      obtain ⟨h1, h2⟩ := ih j (by simpa using hj) ha.2 (fun x h => hx x (by simpa using h))
      simp [ha.1, h1, h2]
/-- A slice of tokens, to be read. -/
def TView (pb : Nat) (us : List Tok) (v : Value) (w : World) : Prop :=
  ∃ (a : Option Addr) (cap : Nat), v = .slice a us.length cap ∧ us.length ≤ cap ∧ us.length ≤ 4398046511104 ∧ (us ≠ [] → ∃ g o, a = some ⟨g, o, none⟩ ∧ g < w.heap.size ∧ g ≠ pb ∧ ∀ i t, us[i]? = some t → w.cell? ⟨g, o + i * 3, none⟩ = some (.int .u8 t.kind.toNat) ∧ w.cell? ⟨g, o + i * 3 + 1, none⟩ = some (.string ⟨t.text.toArray⟩) ∧ w.cell? ⟨g, o + i * 3 + 2, none⟩ = some (.bool t.space))

theorem words_step {ts : List Tok} {n m : Nat} {t : Tok} (h : ((ts.drop n).take (m - n)).all wordK = true) (hm : n ≤ m) (ht : ts[m]? = some t) (hw : wordK t = true) : ((ts.drop n).take (m + 1 - n)).all wordK = true := by
  rw [show m + 1 - n = (m - n) + 1 by omega, List.take_add_one, List.all_append, h, List.getElem?_drop, show n + (m - n) = m by omega, ht]
  simp [hw]

theorem TView.fr {pb : Nat} {us : List Tok} {v : Value} {w w' : World} (h : TView pb us v w) (hs : w.heap.size ≤ w'.heap.size) (hf : ∀ k, k ≠ pb → k < w.heap.size → w'.heap[k]? = w.heap[k]?) : TView pb us v w' := by
  obtain ⟨a, cap, hv, h1, h2, h3⟩ := h
  refine ⟨a, cap, hv, h1, h2, fun hne => ?_⟩
  obtain ⟨g, o, ha, hg, hgp, hc⟩ := h3 hne
  refine ⟨g, o, ha, Nat.lt_of_lt_of_le hg hs, hgp, fun i t ht => ?_⟩
  have e := hf g hgp hg
  obtain ⟨c1, c2, c3⟩ := hc i t ht
  exact ⟨(World.cell?_of_block (w := w) (a := ⟨g, o + i * 3, none⟩) e).trans c1, (World.cell?_of_block (w := w) (a := ⟨g, o + i * 3 + 1, none⟩) e).trans c2, (World.cell?_of_block (w := w) (a := ⟨g, o + i * 3 + 2, none⟩) e).trans c3⟩

def WRel (pb : Nat) (tv : Value) (ts : List Tok) (n : Nat) (ok : Bool) (w wr : World) : Prop :=
  ∃ m, n ≤ m ∧ m ≤ ts.length ∧ ((ts.drop n).take (m - n)).all wordK = true ∧ Par pb tv ts m ok wr ∧ Fr (· ≠ pb) w wr

set_option maxHeartbeats 2000000 in
set_option maxRecDepth 100000 in
theorem words_any (pb : Nat) (tv : Value) (ts : List Tok) (n : Nat) (ok : Bool) (w : World) (h : Par pb tv ts n ok w) :
    Calls Tryz.prog 24 #[.pointer (some ⟨pb, 0, none⟩)] w fun x w' => (∃ v, x = .returned v ∧ TView pb ((ts.drop n).takeWhile wordK) v w') ∧ Par pb tv ts (n + wordsN ts n) ok w' ∧ Fr (· ≠ pb) w w' := by
  obtain ⟨c0, c1, c2⟩ := h.cells
  have hlen := h.len
  have HP := Lib.hid h
  clear h
  go_enter Tryz.func24, Tryz.ntmps24
  go_wp2
  clear c0 c1 c2
  go_loopw [] (fun wr => WRel pb tv ts n ok w wr) (fun wr => ts.length - atOf pb wr)
  case atStart => exact ⟨n, Nat.le_refl _, HP.out.le, by simp, HP.out, Fr.refl _ _⟩
  case round =>
    obtain ⟨m, hm1, hm2, hall, hp, hF⟩ := hrel
    have HALL := Lib.hid hall; have HPM := Lib.hid hp; have HF := Lib.hid hF
    clear hall hp hF
    have hkind : (∃ t, ts[m]? = some t ∧ t.kind = 97) ∨ (∃ t, ts[m]? = some t ∧ t.kind = 113) ∨ (∃ t, ts[m]? = some t ∧ t.kind = 46) ∨ (isH 97 (ts.drop m) = false ∧ isH 113 (ts.drop m) = false ∧ isH 46 (ts.drop m) = false ∧ ∀ x, ts[m]? = some x → wordK x = false) := by
      rcases Nat.lt_or_ge m ts.length with hlt | hge
      · obtain ⟨t, ht⟩ : ∃ t, ts[m]? = some t := ⟨_, List.getElem?_eq_getElem hlt⟩
        by_cases h1 : t.kind = 97
        · exact .inl ⟨t, ht, h1⟩
        · by_cases h2 : t.kind = 113
          · exact .inr (.inl ⟨t, ht, h2⟩)
          · by_cases h3 : t.kind = 46
            · exact .inr (.inr (.inl ⟨t, ht, h3⟩))
            · refine .inr (.inr (.inr ⟨?_, ?_, ?_, fun x hx => ?_⟩))
              · rw [isH_at ht]; simpa using h1
              · rw [isH_at ht]; simpa using h2
              · rw [isH_at ht]; simpa using h3
              · rw [ht] at hx; cases hx; simp [wordK, h1, h2, h3]
      · exact .inr (.inr (.inr ⟨isH_none hge, isH_none hge, isH_none hge, fun x hx => by rw [List.getElem?_eq_none hge] at hx; cases hx⟩))
    rcases hkind with ⟨t, ht, hkd⟩ | ⟨t, ht, hkd⟩ | ⟨t, ht, hkd⟩ | ⟨h97, h113, h46, hstop⟩
    · have HPQ0 := HPM; have HFQ0 := HF
      have hlt : m < ts.length := (List.getElem?_eq_some_iff.1 ht).1
      have hw : wordK t = true := by simp [wordK, hkd]
      have H97 : Hid (isH 97 (ts.drop m) = true) := Lib.hid (by rw [isH_at ht, hkd]; rfl)
      have HT := Lib.hid ht; have HW := Lib.hid hw
      clear ht hkd hw
      go_wp2_with fail
      refine (is_any pb tv ts m ok 97 _ HPQ0.out).mono ?_
      rintro x w0 ⟨rfl, q0, rfl⟩
      rw [H97.out]
      have HPQ1 := Lib.hid (HPQ0.out.drewN q0); have HFQ1 := Lib.hid (HFQ0.out.drewN q0)
      generalize wr.drewN q0 = v0 at *
      have e1 := HPQ1.out.cells.2.1
      have hfz := HPQ1.out.frozen 1
      have HPS := Lib.hid (HPQ1.out.setAt (m + 1) (by omega))
      have HFS := Lib.hid (HFQ1.out.setCell (p := ⟨pb, 1, none⟩) (fun h => h rfl) (.int .i64 ((m + 1 : Nat) : Int)))
      have HME := Lib.hid (HPS.out.at)
      push_cast at HPS HFS HME
      go_wp2
      go_roundw
      case rel => exact ⟨m + 1, by omega, by omega, words_step HALL.out hm1 HT.out HW.out, HPS.out, HFS.out⟩
      case measure => rw [HME.out, HPM.out.at]; omega
    · have HPQ0 := HPM; have HFQ0 := HF
      have hlt : m < ts.length := (List.getElem?_eq_some_iff.1 ht).1
      have hw : wordK t = true := by simp [wordK, hkd]
      have H97 : Hid (isH 97 (ts.drop m) = false) := Lib.hid (by rw [isH_at ht, hkd]; rfl)
      have H113 : Hid (isH 113 (ts.drop m) = true) := Lib.hid (by rw [isH_at ht, hkd]; rfl)
      have HT := Lib.hid ht; have HW := Lib.hid hw
      clear ht hkd hw
      go_wp2_with fail
      refine (is_any pb tv ts m ok 97 _ HPQ0.out).mono ?_
      rintro x w0 ⟨rfl, q0, rfl⟩
      rw [H97.out]
      have HPQ1 := Lib.hid (HPQ0.out.drewN q0); have HFQ1 := Lib.hid (HFQ0.out.drewN q0)
      generalize wr.drewN q0 = v0 at *
      go_wp2_with fail
      refine (is_any pb tv ts m ok 113 _ HPQ1.out).mono ?_
      rintro x w1 ⟨rfl, q1, rfl⟩
      rw [H113.out]
      have HPQ2 := Lib.hid (HPQ1.out.drewN q1); have HFQ2 := Lib.hid (HFQ1.out.drewN q1)
      generalize v0.drewN q1 = v1 at *
      have e1 := HPQ2.out.cells.2.1
      have hfz := HPQ2.out.frozen 1
      have HPS := Lib.hid (HPQ2.out.setAt (m + 1) (by omega))
      have HFS := Lib.hid (HFQ2.out.setCell (p := ⟨pb, 1, none⟩) (fun h => h rfl) (.int .i64 ((m + 1 : Nat) : Int)))
      have HME := Lib.hid (HPS.out.at)
      push_cast at HPS HFS HME
      go_wp2
      go_roundw
      case rel => exact ⟨m + 1, by omega, by omega, words_step HALL.out hm1 HT.out HW.out, HPS.out, HFS.out⟩
      case measure => rw [HME.out, HPM.out.at]; omega
    · have HPQ0 := HPM; have HFQ0 := HF
      have hlt : m < ts.length := (List.getElem?_eq_some_iff.1 ht).1
      have hw : wordK t = true := by simp [wordK, hkd]
      have H97 : Hid (isH 97 (ts.drop m) = false) := Lib.hid (by rw [isH_at ht, hkd]; rfl)
      have H113 : Hid (isH 113 (ts.drop m) = false) := Lib.hid (by rw [isH_at ht, hkd]; rfl)
      have H46 : Hid (isH 46 (ts.drop m) = true) := Lib.hid (by rw [isH_at ht, hkd]; rfl)
      have HT := Lib.hid ht; have HW := Lib.hid hw
      clear ht hkd hw
      go_wp2_with fail
      refine (is_any pb tv ts m ok 97 _ HPQ0.out).mono ?_
      rintro x w0 ⟨rfl, q0, rfl⟩
      rw [H97.out]
      have HPQ1 := Lib.hid (HPQ0.out.drewN q0); have HFQ1 := Lib.hid (HFQ0.out.drewN q0)
      generalize wr.drewN q0 = v0 at *
      go_wp2_with fail
      refine (is_any pb tv ts m ok 113 _ HPQ1.out).mono ?_
      rintro x w1 ⟨rfl, q1, rfl⟩
      rw [H113.out]
      have HPQ2 := Lib.hid (HPQ1.out.drewN q1); have HFQ2 := Lib.hid (HFQ1.out.drewN q1)
      generalize v0.drewN q1 = v1 at *
      go_wp2_with fail
      refine (is_any pb tv ts m ok 46 _ HPQ2.out).mono ?_
      rintro x w2 ⟨rfl, q2, rfl⟩
      rw [H46.out]
      have HPQ3 := Lib.hid (HPQ2.out.drewN q2); have HFQ3 := Lib.hid (HFQ2.out.drewN q2)
      generalize v1.drewN q2 = v2 at *
      have e1 := HPQ3.out.cells.2.1
      have hfz := HPQ3.out.frozen 1
      have HPS := Lib.hid (HPQ3.out.setAt (m + 1) (by omega))
      have HFS := Lib.hid (HFQ3.out.setCell (p := ⟨pb, 1, none⟩) (fun h => h rfl) (.int .i64 ((m + 1 : Nat) : Int)))
      have HME := Lib.hid (HPS.out.at)
      push_cast at HPS HFS HME
      go_wp2
      go_roundw
      case rel => exact ⟨m + 1, by omega, by omega, words_step HALL.out hm1 HT.out HW.out, HPS.out, HFS.out⟩
      case measure => rw [HME.out, HPM.out.at]; omega
    · have hspan := span_tok wordK (ts.drop n) (m - n) (by simp; omega) HALL.out (fun x hx => hstop x (by rw [List.getElem?_drop, show n + (m - n) = m by omega] at hx; exact hx))
      have hwn : n + wordsN ts n = m := by
        unfold wordsN
        rw [hspan.1, List.length_take, List.length_drop]; omega
      have HPQ0 := HPM; have HFQ0 := HF
      have H97 := Lib.hid h97; have H113 := Lib.hid h113; have H46 := Lib.hid h46; have HSP := Lib.hid hspan; have HWN := Lib.hid hwn
      clear h97 h113 h46 hstop hspan hwn
      go_wp2_with fail
      refine (is_any pb tv ts m ok 97 _ HPQ0.out).mono ?_
      rintro x w0 ⟨rfl, q0, rfl⟩
      rw [H97.out]
      have HPQ1 := Lib.hid (HPQ0.out.drewN q0); have HFQ1 := Lib.hid (HFQ0.out.drewN q0)
      generalize wr.drewN q0 = v0 at *
      go_wp2_with fail
      refine (is_any pb tv ts m ok 113 _ HPQ1.out).mono ?_
      rintro x w1 ⟨rfl, q1, rfl⟩
      rw [H113.out]
      have HPQ2 := Lib.hid (HPQ1.out.drewN q1); have HFQ2 := Lib.hid (HFQ1.out.drewN q1)
      generalize v0.drewN q1 = v1 at *
      go_wp2_with fail
      refine (is_any pb tv ts m ok 46 _ HPQ2.out).mono ?_
      rintro x w2 ⟨rfl, q2, rfl⟩
      rw [H46.out]
      have HPQ3 := Lib.hid (HPQ2.out.drewN q2); have HFQ3 := Lib.hid (HFQ2.out.drewN q2)
      generalize v1.drewN q2 = v2 at *
      obtain ⟨e0, e1, -⟩ := HPQ3.out.cells
      have hfin : Fr (· ≠ pb) w v2 := HFQ3.out
      have HFIN := Lib.hid hfin
      clear hfin
      rcases HPQ3.out.val with ⟨rfl, rfl⟩ | ⟨g, cap, rfl, hc1, hc2, hcell⟩
      · obtain rfl : m = 0 := by simpa using hm2
        obtain rfl : n = 0 := by omega
        clear hm1 hm2
        go_wp2
        go_quiet (fail)
        go_wp2
        go_ret
        exact ⟨⟨_, rfl, none, 0, rfl, Nat.le_refl _, by simp, fun h => absurd rfl h⟩, by rw [HWN.out]; exact HPQ3.out.drewN _, HFIN.out.drewN _⟩
      · obtain ⟨N, hN⟩ : ∃ N, ts.length = N := ⟨_, rfl⟩
        have HNN := Lib.hid hN; have HCELL := Lib.hid hcell
        rw [hN] at e0 hm2 hc1 hlen
        clear hN hcell
        have i1 : (n : Int) ≤ (m : Int) := by omega
        have i2 : (m : Int) ≤ (cap : Int) := by omega
        by_cases hcn : cap = n
        · have hmn : m = n := by omega
          subst hmn
          have hcm := Lib.hid hcn
          have i3 : ((cap : Int) == (m : Int)) = true := by rw [beq_iff_eq]; omega
          go_wp2
          go_quiet (fail)
          go_wp2
          go_ret
          refine ⟨⟨_, rfl, ?_⟩, by rw [HWN.out]; exact HPQ3.out.drewN _, HFIN.out.drewN _⟩
          rw [HSP.out.1, Nat.sub_self, List.take_zero]
          exact ⟨some ⟨g, 0, none⟩, 0, by simp, Nat.le_refl _, by simp, fun h => absurd rfl h⟩
        · go_wp2
          go_quiet (fail)
          go_wp2
          go_ret
          refine ⟨⟨_, rfl, ?_⟩, by rw [HWN.out]; exact HPQ3.out.drewN _, HFIN.out.drewN _⟩
          rw [HSP.out.1]
          have hl : ((ts.drop n).take (m - n)).length = m - n := by rw [List.length_take, List.length_drop, HNN.out]; omega
          refine ⟨some ⟨g, n * 3, none⟩, cap - n, by rw [hl]; rfl, by rw [hl]; omega, by rw [hl]; omega, fun h => ⟨g, n * 3, rfl, ?_, fun e => HPQ3.out.ne (by rw [e]; rfl), fun i t ht => ?_⟩⟩
          · rw [hsize_drewN]
            rcases HPQ3.out.own.2 with ⟨h, _⟩ | ⟨g', cap', cur, h, _, hg, _⟩
            · cases h
            · cases h; exact (Array.getElem?_eq_some_iff.1 hg).1
          · have ht2 : ts[n + i]? = some t := by
              rw [List.getElem?_take] at ht
              split at ht
              · rwa [List.getElem?_drop] at ht
              · cases ht
            have h1 := HCELL.out (n + i) t ht2
            rw [show (n + i) * 3 = n * 3 + i * 3 by omega] at h1
            simpa using h1
end Go.Proofs.YtpoglombagmhmaaGreatDoor
/- spec.parser: domain: the walk. -/
namespace Go.Proofs.YtpoglombagmhmaaGreatDoor
open Go Go.RowKit

def bs (l : List UInt8) : ByteArray := ⟨l.toArray⟩
theorem bs_app (a b : List UInt8) : bs a ++ bs b = bs (a ++ b) := by
  apply ByteArray.ext
  simp [bs]
theorem bs_size (a : List UInt8) : (bs a).size = a.length := by simp [bs, ByteArray.size]
theorem bs_list (a : List UInt8) : (bs a).data.toList = a := by simp [bs]
theorem bs_of (s : ByteArray) : bs s.data.toList = s := by cases s; rfl

theorem domainG_nil (ok : Bool) (out : List UInt8) : domainG [] ok out = ([], ok, [], false) := by rw [domainG]
theorem domainG_no {ts : List Tok} {m : Nat} (ok : Bool) (out : List UInt8) (h : isH 97 (ts.drop m) = false) : domainG (ts.drop m) ok out = (ts.drop m, ok && !spaceH (ts.drop m), [], false) := by
  cases hd : ts.drop m with
  | nil => simp [domainG, spaceH]
  | cons t r =>
    rw [hd] at h
    have hk : ¬ t.kind = 97 := by simpa [isH] using h
    cases r with
    | nil => rw [domainG, if_neg hk]; rfl
    | cons d r => rw [domainG, if_neg hk]; rfl
theorem domainG_end {ts : List Tok} {m : Nat} {t : Tok} (ok : Bool) (out : List UInt8) (ht : ts[m]? = some t) (hk : t.kind = 97) (h : isH 46 (ts.drop (m + 1)) = false) : domainG (ts.drop m) ok out = (ts.drop (m + 1), ok && !t.space, out ++ t.text, true) := by
  rw [drop_head ht]
  cases hd : ts.drop (m + 1) with
  | nil => rw [domainG, if_pos hk]
  | cons d r =>
    rw [hd] at h
    have hk2 : ¬ d.kind = 46 := by simpa [isH] using h
    rw [domainG, if_pos hk, if_neg hk2]
theorem domainG_dot {ts : List Tok} {m : Nat} {t d : Tok} (ok : Bool) (out : List UInt8) (ht : ts[m]? = some t) (hk : t.kind = 97) (hd : ts[m + 1]? = some d) (hk2 : d.kind = 46) : domainG (ts.drop m) ok out = domainG (ts.drop (m + 2)) (ok && !t.space && !d.space) (out ++ t.text ++ [46]) := by
  rw [drop_head ht, drop_head hd, domainG, if_pos hk, if_pos hk2]

/-- What domain answers. -/
def DRet (r : List Tok × Bool × List UInt8 × Bool) : Ending := .returned (.tuple #[.string (bs r.2.2.1), .bool r.2.2.2])
def DRel (pb : Nat) (tv : Value) (ts : List Tok) (n : Nat) (ok : Bool) (w : World) (r2 r3 o : Value) (wr : World) : Prop :=
  ∃ m ok' out, r2 = .string ⟨#[]⟩ ∧ r3 = .bool false ∧ o = .string (bs out) ∧ domainG (ts.drop n) ok [] = domainG (ts.drop m) ok' out ∧ out.length ≤ tlen (ts.take m) ∧ Par pb tv ts m ok' wr ∧ Fr (· ≠ pb) w wr

set_option maxHeartbeats 2000000 in
set_option maxRecDepth 100000 in
theorem domain_any (pb : Nat) (tv : Value) (ts : List Tok) (n : Nat) (ok : Bool) (w : World) (h : Par pb tv ts n ok w) :
    Calls Tryz.prog 28 #[.pointer (some ⟨pb, 0, none⟩)] w fun x w' => x = DRet (domainG (ts.drop n) ok []) ∧ (∃ m, domainG (ts.drop n) ok [] = (ts.drop m, (domainG (ts.drop n) ok []).2) ∧ Par pb tv ts m (domainG (ts.drop n) ok []).2.1 w') ∧ Fr (· ≠ pb) w w' := by
  have hlen := h.len
  have HP := Lib.hid h
  clear h
  go_enter Tryz.func28, Tryz.ntmps28
  go_wp2
  go_loopw [2, 3, 4] (fun r2 r3 o wr => DRel pb tv ts n ok w r2 r3 o wr) (fun _ _ _ wr => ts.length - atOf pb wr)
  case atStart => exact ⟨n, ok, [], rfl, rfl, rfl, rfl, Nat.zero_le _, HP.out, Fr.refl _ _⟩
  case round =>
    obtain ⟨m, ok', out, rfl, rfl, rfl, heq, hol, hp, hF⟩ := hrel
    have HEQ := Lib.hid heq; have HPM := Lib.hid hp; have HF := Lib.hid hF
    clear heq hp hF
    go_wp2_with fail
    refine (near_any pb tv ts m ok' _ HPM.out).mono ?_
    rintro x w1 ⟨rfl, hp1, hF1⟩
    have HP1 := Lib.hid hp1; have HF1 := Lib.hid (HF.out.trans hF1)
    clear hp1 hF1
    cases h97 : isH 97 (ts.drop m) with
    | false =>
      have H97 := Lib.hid h97
      clear h97
      go_wp2_with fail
      refine (is_any pb tv ts m _ 97 _ HP1.out).mono ?_
      rintro x w2 ⟨rfl, q, rfl⟩
      rw [H97.out]
      go_wp2
      go_ret2
      refine ⟨?_, ⟨m, ?_, ?_⟩, HF1.out.drewN _⟩
      · rw [HEQ.out, domainG_no _ _ H97.out]; rfl
      · rw [HEQ.out, domainG_no _ _ H97.out]
      · rw [HEQ.out, domainG_no _ _ H97.out]; exact HP1.out.drewN _
    | true =>
      obtain ⟨t, ht, hk⟩ := isH_some h97
      have H97 := Lib.hid h97; have HT := Lib.hid ht; have HK := Lib.hid hk
      have hlt : m < ts.length := (List.getElem?_eq_some_iff.1 ht).1
      clear h97 ht hk
      go_wp2_with fail
      refine (is_any pb tv ts m _ 97 _ HP1.out).mono ?_
      rintro x w2 ⟨rfl, q, rfl⟩
      rw [H97.out]
      have HP2 := Lib.hid (HP1.out.drewN q); have HF2 := Lib.hid (HF1.out.drewN q)
      generalize w1.drewN q = w2 at *
      obtain ⟨g, cap, htv, hc1, hc2, hcell⟩ : ∃ g cap, tv = .slice (some ⟨g, 0, none⟩) ts.length cap ∧ ts.length ≤ cap ∧ cap ≤ 9223372036854775807 ∧ w2.cell? ⟨g, m * 3 + 1, none⟩ = some (.string (bs t.text)) := by
        rcases HP2.out.val with ⟨_, h⟩ | ⟨g, cap, h, h1, h2, h3⟩
        · rw [h] at hlt; exact absurd hlt (Nat.not_lt_zero _)
        · exact ⟨g, cap, h, h1, h2, (h3 m t HT.out).2.1⟩
      obtain ⟨e0, e1, -⟩ := HP2.out.cells
      obtain ⟨N, hN⟩ : ∃ N, ts.length = N := ⟨_, rfl⟩
      have HNN := Lib.hid hN
      rw [htv, hN] at e0
      rw [hN] at hlt hc1 hlen
      have i1 : (m : Int) < (N : Int) := by omega
      have HTV := Lib.hid htv
      have hsn := tlen_snoc HT.out
      have htk := tlen_take ts (m + 1)
      have htl := HPM.out.tl
      have hsz : (bs out).size + (bs t.text).size ≤ 9223372036854775807 := by rw [bs_size, bs_size]; omega
      have HSN := Lib.hid hsn
      clear hsn
      clear hN htv
      go_wp2
      go_quiet (fail)
      have hpq := HP2.out.drewN nq
      have f1 := hpq.cells.2.1
      have hfz := hpq.frozen 1
      have HPS := Lib.hid (hpq.setAt (m + 1) (by rw [HNN.out]; omega))
      have HFS := Lib.hid ((HF2.out.drewN nq).setCell (p := ⟨pb, 1, none⟩) (fun h => h rfl) (.int .i64 ((m + 1 : Nat) : Int)))
      push_cast at HPS HFS
      clear hpq e0 e1 hcell
      generalize w2.drewN nq = wq at *
      rw [bs_app]
      go_wp2_with fail
      generalize wq.setCell ⟨pb, 1, none⟩ (.int .i64 ((m : Int) + 1)) = w3 at *
      clear f1 hfz
      cases h46 : isH 46 (ts.drop (m + 1)) with
      | false =>
        have H46 := Lib.hid h46
        clear h46
        refine (is_any pb tv ts (m + 1) _ 46 _ HPS.out).mono ?_
        rintro x w4 ⟨rfl, q4, rfl⟩
        rw [H46.out]
        go_wp2
        go_ret2
        have he := domainG_end ok' out HT.out HK.out H46.out
        refine ⟨?_, ⟨m + 1, ?_, ?_⟩, HFS.out.drewN _⟩
        · rw [HEQ.out, he]; rfl
        · rw [HEQ.out, he]
        · rw [HEQ.out, he]
          have := HPS.out.drewN q4
          rw [drop_head HT.out] at this
          exact this
      | true =>
        obtain ⟨d, hd, hk2⟩ := isH_some h46
        have H46 := Lib.hid h46; have HD := Lib.hid hd; have HK2 := Lib.hid hk2
        have hlt2 : m + 1 < N := by rw [← HNN.out]; exact (List.getElem?_eq_some_iff.1 hd).1
        clear h46 hd hk2
        refine (is_any pb tv ts (m + 1) _ 46 _ HPS.out).mono ?_
        rintro x w4 ⟨rfl, q4, rfl⟩
        rw [H46.out]
        have HP4 := Lib.hid (HPS.out.drewN q4); have HF4 := Lib.hid (HFS.out.drewN q4)
        generalize w3.drewN q4 = w4 at *
        go_wp2_with fail
        refine (near_any pb tv ts (m + 1) _ _ HP4.out).mono ?_
        rintro x w5 ⟨rfl, hp5, hF5⟩
        have g1 := hp5.cells.2.1
        have gz := hp5.frozen 1
        have HP6 := Lib.hid (hp5.setAt (m + 2) (by rw [HNN.out]; omega))
        have HF6 := Lib.hid ((HF4.out.trans hF5).setCell (p := ⟨pb, 1, none⟩) (fun h => h rfl) (.int .i64 ((m + 2 : Nat) : Int)))
        have HAT := Lib.hid HP6.out.at
        have hs2 : (bs (out ++ t.text)).size + (bs [46]).size ≤ 9223372036854775807 := by
          rw [bs_size, bs_size, List.length_append]
          have := HSN.out
          simp; omega
        have hsn2 := tlen_snoc HD.out
        have hol2 : (out ++ t.text ++ [46]).length ≤ tlen (ts.take (m + 2)) := by
          have := HSN.out
          rw [show m + 2 = m + 1 + 1 by omega, hsn2]
          simp; omega
        have hmm : ((m + 2 : Nat) : Int) = (m : Int) + 1 + 1 := by omega
        rw [hmm] at HP6 HF6 HAT
        clear hp5 hF5 hsn2
        have hs3 : (bs (out ++ t.text)).size + 1 ≤ 9223372036854775807 := hs2
        have HOL := Lib.hid hol2
        clear hs2 hol2 hmm
        go_wp2
        go_roundw
        case rel =>
          refine ⟨m + 2, _, out ++ t.text ++ [46], rfl, rfl, by rw [← bs_app]; rfl, ?_, HOL.out, HP6.out, HF6.out⟩
          rw [HEQ.out, domainG_dot _ _ HT.out HK.out HD.out HK2.out]
          rw [show spaceH (ts.drop m) = t.space by rw [drop_head HT.out]; rfl, show spaceH (ts.drop (m + 1)) = d.space by rw [drop_head HD.out]; rfl]
        case measure => rw [HAT.out, HPM.out.at, HNN.out]; omega
end Go.Proofs.YtpoglombagmhmaaGreatDoor
/- spec.parser: local: the walk. -/
namespace Go.Proofs.YtpoglombagmhmaaGreatDoor
open Go Go.RowKit

theorem Par.frk {pb : Nat} {tv : Value} {ts : List Tok} {n : Nat} {ok : Bool} {w w' : World} (h : Par pb tv ts n ok w) (hf : Fr (· < w.heap.size) w w') : Par pb tv ts n ok w' := h.fr hf.block
theorem Par.lt {pb : Nat} {tv : Value} {ts : List Tok} {n : Nat} {ok : Bool} {w : World} (h : Par pb tv ts n ok w) : pb < w.heap.size := (Array.getElem?_eq_some_iff.1 h.blk).1

theorem localG_no {us : List Tok} {k : Nat} {t : Tok} {ok : Bool} {out : List UInt8} (h : us[k]? = some t) (hk : ((t.kind == 46) != decide (k % 2 = 1)) = true) : localG (us.drop k) k ok out = (ok && !(decide (0 < k) && t.space), [], false) := by
  rw [drop_head h, localG, if_pos hk]
theorem localG_go {us : List Tok} {k : Nat} {t : Tok} {ok : Bool} {out : List UInt8} (h : us[k]? = some t) (hk : ((t.kind == 46) != decide (k % 2 = 1)) = false) : localG (us.drop k) k ok out = localG (us.drop (k + 1)) (k + 1) (ok && !(decide (0 < k) && t.space) && !(t.kind == 113)) (out ++ (if t.kind = 46 then [46] else []) ++ t.text) := by
  rw [drop_head h, localG, if_neg (by rw [hk]; decide)]

def LRel (pb : Nat) (tv : Value) (ts us : List Tok) (n : Nat) (ok : Bool) (v : Value) (w : World) (r4 r5 o i : Value) (wr : World) : Prop :=
  ∃ k ok' out, r4 = .string ⟨#[]⟩ ∧ r5 = .bool false ∧ o = .string (bs out) ∧ i = .int .i64 (k : Nat) ∧ k ≤ us.length ∧ localG us 0 ok [] = localG (us.drop k) k ok' out ∧ out.length ≤ 2 * tlen (us.take k) ∧ Par pb tv ts n ok' wr ∧ TView pb us v wr ∧ Fr (fun b => b ≠ pb ∧ b < w.heap.size) w wr

set_option maxHeartbeats 2000000 in
set_option maxRecDepth 100000 in
theorem local_any (pb : Nat) (tv : Value) (ts us : List Tok) (n : Nat) (ok : Bool) (v : Value) (w : World) (h : Par pb tv ts n ok w) (hv : TView pb us v w) (hus : tlen us ≤ 4398046511104) :
    Calls Tryz.prog 30 #[.pointer (some ⟨pb, 0, none⟩), v] w fun x w' => x = .returned (.tuple #[.string (bs (localG us 0 ok []).2.1), .bool (localG us 0 ok []).2.2]) ∧ Par pb tv ts n (localG us 0 ok []).1 w' ∧ Fr (fun b => b ≠ pb ∧ b < w.heap.size) w w' := by
  have hv0 := hv
  obtain ⟨a, cap, rfl, hc1, hc2, hc3⟩ := hv
  have HP := Lib.hid h; have HV := Lib.hid hv0
  clear h hv0 hc3
  obtain ⟨N, hN⟩ : ∃ N, us.length = N := ⟨_, rfl⟩
  have HN := Lib.hid hN
  rw [hN] at hc1 hc2 ⊢
  rw [hN] at HV
  clear hN
  go_enter Tryz.func30, Tryz.ntmps30
  go_wp2
  go_loopw [4, 5, 6, 11] (fun r4 r5 o i wr => LRel pb tv ts us n ok (.slice a N cap) w r4 r5 o i wr) (fun _ _ _ i _ => N - (intOf i).toNat)
  case atStart => exact ⟨0, ok, [], rfl, rfl, rfl, rfl, Nat.zero_le _, rfl, Nat.zero_le _, HP.out, HV.out, Fr.refl _ _⟩
  case round =>
    obtain ⟨k, ok', out, rfl, rfl, rfl, rfl, hk, heq, hol, hp, hvw, hF⟩ := hrel
    rw [HN.out] at hk
    by_cases hlt : k < N
    · obtain ⟨t, ht⟩ : ∃ t, us[k]? = some t := ⟨_, List.getElem?_eq_getElem (by rw [HN.out]; exact hlt)⟩
      obtain ⟨g, o, rfl, hg, hgp, hc⟩ : ∃ g o, a = some ⟨g, o, none⟩ ∧ g < wr.heap.size ∧ g ≠ pb ∧ (wr.cell? ⟨g, o + k * 3, none⟩ = some (.int .u8 t.kind.toNat) ∧ wr.cell? ⟨g, o + k * 3 + 1, none⟩ = some (.string (bs t.text)) ∧ wr.cell? ⟨g, o + k * 3 + 2, none⟩ = some (.bool t.space)) := by
        obtain ⟨a', cap', hv, _, _, h3⟩ := hvw
        cases hv
        obtain ⟨g, o, ha, hg, hgp, hc⟩ := h3 (fun e => by rw [e] at ht; simp at ht)
        exact ⟨g, o, ha, hg, hgp, hc k t ht⟩
      obtain ⟨d0, d1, d2⟩ := hc
      have HEQ := Lib.hid heq; have HPM := Lib.hid hp; have HVW := Lib.hid hvw; have HF := Lib.hid hF; have HT := Lib.hid ht
      clear heq hp hvw hF ht
      have hkN : (k : Int) < (N : Int) := by omega
      obtain ⟨kd, tx, sp⟩ := t
      simp only at d0 d1 d2
      have hsn := tlen_snoc HT.out
      simp only at hsn
      have htk := tlen_take us (k + 1)
      have hsz : (bs out).size + (bs tx).size ≤ 9223372036854775807 := by rw [bs_size, bs_size]; omega
      have hsz1 : (bs out).size + 1 ≤ 9223372036854775807 := by rw [bs_size]; omega
      have hsz2' : (bs (out ++ [46])).size + (bs tx).size ≤ 9223372036854775807 := by rw [bs_size, bs_size, List.length_append]; simp; omega
      have hsz2 : (bs out ++ (⟨#[46]⟩ : ByteArray)).size + (bs tx).size ≤ 9223372036854775807 := by rw [← bs_app] at hsz2'; exact hsz2'
      clear hsz2'
      have HSN := Lib.hid hsn
      have hpb : pb ≠ wr.heap.size := fun e => by have := HPM.out.lt; omega
      have hp1 := HPM.out.frk ((Fr.refl _ wr).alloc (fun k hk => hk) (.cells #[.int .u8 kd.toNat, .string (bs tx), .bool sp] 68))
      have hF1 := HF.out.alloc (fun k hk => Nat.lt_of_lt_of_le hk.2 HF.out.size) (.cells #[.int .u8 kd.toNat, .string (bs tx), .bool sp] 68)
      have hV1 := HVW.out.fr (w' := wr.alloc (.cells #[.int .u8 kd.toNat, .string (bs tx), .bool sp] 68)) (by simp) (fun k _ hk => Below.heap_alloc _ _ _ hk)
      have HP1 := Lib.hid hp1; have HF1 := Lib.hid hF1; have HV1 := Lib.hid hV1
      clear hsn hp1 hF1 hV1
      have hsp : (k = 0) ∨ (0 < k ∧ sp = false) ∨ (0 < k ∧ sp = true) := by
        rcases Nat.eq_zero_or_pos k with h | h
        · exact .inl h
        · cases sp
          · exact .inr (.inl ⟨h, rfl⟩)
          · exact .inr (.inr ⟨h, rfl⟩)
      have hkind : (kd = 46) ∨ (kd = 113) ∨ (kd ≠ 46 ∧ kd ≠ 113) := by
        by_cases h1 : kd = 46
        · exact .inl h1
        · by_cases h2 : kd = 113
          · exact .inr (.inl h2)
          · exact .inr (.inr ⟨h1, h2⟩)
      have hpar : (k % 2 = 1 ∧ ((k : Int) % 2 == 1) = true) ∨ (k % 2 = 0 ∧ ((k : Int) % 2 == 1) = false) := by
        rcases Nat.mod_two_eq_zero_or_one k with h | h
        · exact .inr ⟨h, by rw [beq_eq_false_iff_ne]; omega⟩
        · exact .inl ⟨h, by rw [beq_iff_eq]; omega⟩
      have hk46 : (kd = 46 ∧ ((kd.toNat : Int) == 46) = true) ∨ (kd ≠ 46 ∧ ((kd.toNat : Int) == 46) = false) := by
        by_cases h1 : kd = 46
        · exact .inl ⟨h1, by rw [h1]; rfl⟩
        · exact .inr ⟨h1, cneq h1⟩
      have hk113 : (kd = 113 ∧ ((kd.toNat : Int) == 113) = true) ∨ (kd ≠ 113 ∧ ((kd.toNat : Int) == 113) = false) := by
        by_cases h1 : kd = 113
        · exact .inl ⟨h1, by rw [h1]; rfl⟩
        · exact .inr ⟨h1, cneq h1⟩
      clear hkind
      rcases hpar with ⟨hm, tm⟩ | ⟨hm, tm⟩ <;> rcases hk46 with ⟨h46, t46⟩ | ⟨h46, t46⟩
      · -- a point at its place
        have HM := Lib.hid hm; have H46 := Lib.hid h46
        have H113 : Hid (kd ≠ 113) := Lib.hid (by rw [h46]; decide)
        have t113 : ((kd.toNat : Int) == 113) = false := cneq H113.out
        clear hm h46 hk113
        rcases hsp with h0 | ⟨h0, rfl⟩ | ⟨h0, rfl⟩
        · exact absurd HM.out (by rw [h0]; decide)
        · have h0' : (0 : Int) < (k : Int) := by omega
          go_wp2
          go_roundw
          case rel =>
            refine ⟨k + 1, ok', (out ++ [46] ++ tx), rfl, rfl, by rw [← bs_app, ← bs_app]; rfl, by go_num, by rw [HN.out]; omega, ?_, ?_, HP1.out, HV1.out, HF1.out⟩
            · rw [HEQ.out, localG_go HT.out (by simp [HM.out, H46.out])]
              simp [H46.out]
            · have := HSN.out
              simp; omega
          case measure => simp [intOf]; omega
        · have h0' : (0 : Int) < (k : Int) := by omega
          have e2 := HP1.out.cells.2.2
          have hfz := HP1.out.frozen 2
          go_wp2
          go_roundw
          case rel =>
            refine ⟨k + 1, false, (out ++ [46] ++ tx), rfl, rfl, by rw [← bs_app, ← bs_app]; rfl, by go_num, by rw [HN.out]; omega, ?_, ?_, (HP1.out.setOk false), (HV1.out.fr (by simp [World.setCell]) (fun b hb _ => Below.heap_setCell _ ⟨pb, 2, none⟩ _ b hb)), (HF1.out.setCell (p := ⟨pb, 2, none⟩) (fun h => h.1 rfl) _)⟩
            · rw [HEQ.out, localG_go HT.out (by simp [HM.out, H46.out])]
              simp [H46.out, h0]
            · have := HSN.out
              simp; omega
          case measure => simp [intOf]; omega
      · -- odd place, no point: no local part
        have HM := Lib.hid hm; have H46 := Lib.hid h46
        clear hm h46 hk113
        rcases hsp with h0 | ⟨h0, rfl⟩ | ⟨h0, rfl⟩
        · exact absurd HM.out (by rw [h0]; decide)
        · have h0' : (0 : Int) < (k : Int) := by omega
          go_wp2
          go_ret2
          rw [HEQ.out, localG_no HT.out (by simp [HM.out, H46.out])]
          refine ⟨rfl, ?_, HF1.out⟩
          have hb : (ok' && !(decide (0 < k) && false)) = ok' := by simp
          simp only
          rw [hb]
          exact HP1.out
        · have h0' : (0 : Int) < (k : Int) := by omega
          have e2 := HP1.out.cells.2.2
          have hfz := HP1.out.frozen 2
          go_wp2
          go_ret2
          rw [HEQ.out, localG_no HT.out (by simp [HM.out, H46.out])]
          refine ⟨rfl, ?_, HF1.out.setCell (p := ⟨pb, 2, none⟩) (fun h => h.1 rfl) _⟩
          have hb : (ok' && !(decide (0 < k) && true)) = false := by simp [h0]
          simp only
          rw [hb]
          exact HP1.out.setOk false
      · -- even place, a point: no local part
        have HM := Lib.hid hm; have H46 := Lib.hid h46
        clear hm h46 hk113
        rcases hsp with h0 | ⟨h0, rfl⟩ | ⟨h0, rfl⟩
        · have h0' : ¬ (0 : Int) < (k : Int) := by omega
          have H0 := Lib.hid h0
          clear h0
          go_wp2
          go_ret2
          rw [HEQ.out, localG_no HT.out (by simp [HM.out, H46.out])]
          refine ⟨rfl, ?_, HF1.out⟩
          have hb : (ok' && !(decide (0 < k) && sp)) = ok' := by simp [H0.out]
          simp only
          rw [hb]
          exact HP1.out
        · have h0' : (0 : Int) < (k : Int) := by omega
          go_wp2
          go_ret2
          rw [HEQ.out, localG_no HT.out (by simp [HM.out, H46.out])]
          refine ⟨rfl, ?_, HF1.out⟩
          have hb : (ok' && !(decide (0 < k) && false)) = ok' := by simp
          simp only
          rw [hb]
          exact HP1.out
        · have h0' : (0 : Int) < (k : Int) := by omega
          have e2 := HP1.out.cells.2.2
          have hfz := HP1.out.frozen 2
          go_wp2
          go_ret2
          rw [HEQ.out, localG_no HT.out (by simp [HM.out, H46.out])]
          refine ⟨rfl, ?_, HF1.out.setCell (p := ⟨pb, 2, none⟩) (fun h => h.1 rfl) _⟩
          have hb : (ok' && !(decide (0 < k) && true)) = false := by simp [h0]
          simp only
          rw [hb]
          exact HP1.out.setOk false
      · -- even place, a word
        have HM := Lib.hid hm; have H46 := Lib.hid h46
        clear hm h46
        rcases hk113 with ⟨h113, t113⟩ | ⟨h113, t113⟩
        · have H113 := Lib.hid h113
          clear h113
          rcases hsp with h0 | ⟨h0, rfl⟩ | ⟨h0, rfl⟩
          · have e2 := HP1.out.cells.2.2
            have hfz := HP1.out.frozen 2
            have h0' : ¬ (0 : Int) < (k : Int) := by omega
            have H0 := Lib.hid h0
            clear h0
            go_wp2
            go_roundw
            case rel =>
              refine ⟨k + 1, false, (out ++ tx), rfl, rfl, by rw [← bs_app], by go_num, by rw [HN.out]; omega, ?_, ?_, (HP1.out.setOk false), (HV1.out.fr (by simp [World.setCell]) (fun b hb _ => Below.heap_setCell _ ⟨pb, 2, none⟩ _ b hb)), (HF1.out.setCell (p := ⟨pb, 2, none⟩) (fun h => h.1 rfl) _)⟩
              · rw [HEQ.out, localG_go HT.out (by simp [HM.out, H46.out])]
                simp [H113.out, H0.out]
              · have := HSN.out
                simp; omega
            case measure => simp [intOf]; omega
          · have h0' : (0 : Int) < (k : Int) := by omega
            have e2 := HP1.out.cells.2.2
            have hfz := HP1.out.frozen 2
            go_wp2
            go_roundw
            case rel =>
              refine ⟨k + 1, false, (out ++ tx), rfl, rfl, by rw [← bs_app], by go_num, by rw [HN.out]; omega, ?_, ?_, (HP1.out.setOk false), (HV1.out.fr (by simp [World.setCell]) (fun b hb _ => Below.heap_setCell _ ⟨pb, 2, none⟩ _ b hb)), (HF1.out.setCell (p := ⟨pb, 2, none⟩) (fun h => h.1 rfl) _)⟩
              · rw [HEQ.out, localG_go HT.out (by simp [HM.out, H46.out])]
                simp [H113.out]
              · have := HSN.out
                simp; omega
            case measure => simp [intOf]; omega
          · have h0' : (0 : Int) < (k : Int) := by omega
            have e2 := HP1.out.cells.2.2
            have hfz := HP1.out.frozen 2
            go_wp2
            go_roundw
            case rel =>
              refine ⟨k + 1, false, (out ++ tx), rfl, rfl, by rw [← bs_app], by go_num, by rw [HN.out]; omega, ?_, ?_, ((HP1.out.setOk false).setOk false), ((HV1.out.fr (by simp [World.setCell]) (fun b hb _ => Below.heap_setCell _ ⟨pb, 2, none⟩ _ b hb)).fr (by simp [World.setCell]) (fun b hb _ => Below.heap_setCell _ ⟨pb, 2, none⟩ _ b hb)), ((HF1.out.setCell (p := ⟨pb, 2, none⟩) (fun h => h.1 rfl) _).setCell (p := ⟨pb, 2, none⟩) (fun h => h.1 rfl) _)⟩
              · rw [HEQ.out, localG_go HT.out (by simp [HM.out, H46.out])]
                simp [H113.out, h0]
              · have := HSN.out
                simp; omega
            case measure => simp [intOf]; omega
        · have H113 := Lib.hid h113
          clear h113
          rcases hsp with h0 | ⟨h0, rfl⟩ | ⟨h0, rfl⟩
          · have h0' : ¬ (0 : Int) < (k : Int) := by omega
            have H0 := Lib.hid h0
            clear h0
            go_wp2
            go_roundw
            case rel =>
              refine ⟨k + 1, ok', (out ++ tx), rfl, rfl, by rw [← bs_app], by go_num, by rw [HN.out]; omega, ?_, ?_, HP1.out, HV1.out, HF1.out⟩
              · rw [HEQ.out, localG_go HT.out (by simp [HM.out, H46.out])]
                simp [H46.out, beq_eq_false_iff_ne.2 H113.out, H0.out]
              · have := HSN.out
                simp; omega
            case measure => simp [intOf]; omega
          · have h0' : (0 : Int) < (k : Int) := by omega
            go_wp2
            go_roundw
            case rel =>
              refine ⟨k + 1, ok', (out ++ tx), rfl, rfl, by rw [← bs_app], by go_num, by rw [HN.out]; omega, ?_, ?_, HP1.out, HV1.out, HF1.out⟩
              · rw [HEQ.out, localG_go HT.out (by simp [HM.out, H46.out])]
                simp [H46.out, beq_eq_false_iff_ne.2 H113.out]
              · have := HSN.out
                simp; omega
            case measure => simp [intOf]; omega
          · have h0' : (0 : Int) < (k : Int) := by omega
            have e2 := HP1.out.cells.2.2
            have hfz := HP1.out.frozen 2
            go_wp2
            go_roundw
            case rel =>
              refine ⟨k + 1, false, (out ++ tx), rfl, rfl, by rw [← bs_app], by go_num, by rw [HN.out]; omega, ?_, ?_, (HP1.out.setOk false), (HV1.out.fr (by simp [World.setCell]) (fun b hb _ => Below.heap_setCell _ ⟨pb, 2, none⟩ _ b hb)), (HF1.out.setCell (p := ⟨pb, 2, none⟩) (fun h => h.1 rfl) _)⟩
              · rw [HEQ.out, localG_go HT.out (by simp [HM.out, H46.out])]
                simp [H46.out, h0]
              · have := HSN.out
                simp; omega
            case measure => simp [intOf]; omega
    · have hkN : k = N := by omega
      subst hkN
      have hd : us.drop k = [] := List.drop_eq_nil_of_le (by rw [HN.out]; exact Nat.le_refl _)
      rw [hd, localG] at heq
      have HEQ := Lib.hid heq; have HPM := Lib.hid hp; have HF := Lib.hid hF
      clear heq hp hF hd hvw
      rcases Nat.mod_two_eq_zero_or_one k with h | h
      · have tm : ((k : Int) % 2 == 1) = false := by rw [beq_eq_false_iff_ne]; omega
        have HH := Lib.hid h
        clear h
        go_wp2
        go_ret2
        rw [HEQ.out]
        exact ⟨by rw [HH.out]; rfl, HPM.out, HF.out⟩
      · have tm : ((k : Int) % 2 == 1) = true := by rw [beq_iff_eq]; omega
        have HH := Lib.hid h
        clear h
        go_wp2
        go_ret2
        rw [HEQ.out]
        exact ⟨by rw [HH.out]; rfl, HPM.out, HF.out⟩
end Go.Proofs.YtpoglombagmhmaaGreatDoor
