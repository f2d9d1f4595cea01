/- (*base64.Encoding).Encode: the walk. -/
import Derived.Test.YtciejdaifjbjdaaDoorB64a
import Derived.Test.YtciejdaifjbjdaaDoorA1
namespace Go.Proofs.YtciejdaifjbjdaaDoor
open Go Go.RowKit

/-- base64 of bytes, as numbers: the signs. -/
def sgn (i : Nat) : UInt8 := UInt8.ofNat (alphaN i)
def b64 : List UInt8 → List UInt8
  | a :: b :: c :: t => sgn (a.toNat / 4) :: sgn (a.toNat % 4 * 16 + b.toNat / 16) :: sgn (b.toNat % 16 * 4 + c.toNat / 64) :: sgn (c.toNat % 64) :: b64 t
  | [a, b] => [sgn (a.toNat / 4), sgn (a.toNat % 4 * 16 + b.toNat / 16), sgn (b.toNat % 16 * 4), 61]
  | [a] => [sgn (a.toNat / 4), sgn (a.toNat % 4 * 16), 61, 61]
  | [] => []

/-- The length of a slice, for a loop's measure. -/
def lenOf : Value → Nat | .slice _ m _ => m | _ => 0

theorem arr143 : (Tryd.prog.info? 143).map (·.size) = some 64 := by kernel_rfl

/-- What has been written into a row, from place o on. -/
structure Wrote (cs cs' : Array Value) (o : Nat) (l : List UInt8) : Prop where
  size : cs'.size = cs.size
  out : ∀ i, i < o ∨ o + l.length ≤ i → cs'[i]? = cs[i]?
  ins : ∀ j x, l[j]? = some x → cs'[o + j]? = some (.int .u8 x.toNat)
theorem Wrote.nil (cs : Array Value) (o : Nat) : Wrote cs cs o [] := ⟨rfl, fun _ _ => rfl, fun j x h => by simp at h⟩
theorem Wrote.snoc {cs cs' : Array Value} {o : Nat} {l : List UInt8} (h : Wrote cs cs' o l) (x : UInt8) (hs : o + l.length < cs.size) : Wrote cs (cs'.setIfInBounds (o + l.length) (.int .u8 x.toNat)) o (l ++ [x]) := by
  refine ⟨by rw [Array.size_setIfInBounds]; exact h.size, fun i hi => ?_, fun j y hy => ?_⟩
  · rw [List.length_append, List.length_singleton] at hi
    rw [Array.getElem?_setIfInBounds, if_neg (by omega)]; exact h.out i (by omega)
  · by_cases hj : j < l.length
    · rw [List.getElem?_append_left hj] at hy
      rw [Array.getElem?_setIfInBounds, if_neg (by omega)]; exact h.ins j y hy
    · have hjl : j = l.length := by
        have := (List.getElem?_eq_some_iff.1 hy).1
        simp at this; omega
      subst hjl
      simp at hy
      subst hy
      rw [Array.getElem?_setIfInBounds, if_pos rfl, if_pos (by rw [h.size]; exact hs)]

theorem sgn_toNat (i : Nat) (h : i < 64) : (sgn i).toNat = alphaN i := by
  have := alphaN_lt i h
  unfold sgn
  rw [UInt8.toNat_ofNat_of_lt' (by show alphaN i < 256; omega)]
/-- Four signs more in the row. -/
theorem Wrote.four {cs cs' : Array Value} {o d : Nat} {l : List UInt8} (h : Wrote cs cs' o l) (hd : d = o + l.length) (n0 n1 n2 n3 : Nat) (h0 : n0 < 64) (h1 : n1 < 64) (h2 : n2 < 64) (h3 : n3 < 64) (hs : d + 3 < cs.size) :
    Wrote cs ((((cs'.setIfInBounds d (.int .u8 (alphaN n0))).setIfInBounds (d + 1) (.int .u8 (alphaN n1))).setIfInBounds (d + 2) (.int .u8 (alphaN n2))).setIfInBounds (d + 3) (.int .u8 (alphaN n3))) o (l ++ [sgn n0, sgn n1, sgn n2, sgn n3]) := by
  subst hd
  have a0 := h.snoc (sgn n0) (by omega)
  have a1 := a0.snoc (sgn n1) (by simp; omega)
  have a2 := a1.snoc (sgn n2) (by simp; omega)
  have a3 := a2.snoc (sgn n3) (by simp; omega)
  rw [sgn_toNat n0 h0] at a0 a1 a2 a3
  rw [sgn_toNat n1 h1] at a1 a2 a3
  rw [sgn_toNat n2 h2] at a2 a3
  rw [sgn_toNat n3 h3] at a3
  simpa [Nat.add_assoc] using a3

theorem Wrote.tail1 {cs cs' : Array Value} {o d : Nat} {l : List UInt8} (h : Wrote cs cs' o l) (hd : d = o + l.length) (n0 n1 : Nat) (h0 : n0 < 64) (h1 : n1 < 64) (hs : d + 3 < cs.size) :
    Wrote cs ((((cs'.setIfInBounds d (.int .u8 (alphaN n0))).setIfInBounds (d + 1) (.int .u8 (alphaN n1))).setIfInBounds (d + 2) (.int .u8 61)).setIfInBounds (d + 3) (.int .u8 61)) o (l ++ [sgn n0, sgn n1, 61, 61]) := by
  subst hd
  have a0 := h.snoc (sgn n0) (by omega)
  have a1 := a0.snoc (sgn n1) (by simp; omega)
  have a2 := a1.snoc 61 (by simp; omega)
  have a3 := a2.snoc 61 (by simp; omega)
  rw [sgn_toNat n0 h0] at a0 a1 a2 a3
  rw [sgn_toNat n1 h1] at a1 a2 a3
  simpa [Nat.add_assoc] using a3
theorem Wrote.tail2 {cs cs' : Array Value} {o d : Nat} {l : List UInt8} (h : Wrote cs cs' o l) (hd : d = o + l.length) (n0 n1 n2 : Nat) (h0 : n0 < 64) (h1 : n1 < 64) (h2 : n2 < 64) (hs : d + 3 < cs.size) :
    Wrote cs ((((cs'.setIfInBounds d (.int .u8 (alphaN n0))).setIfInBounds (d + 1) (.int .u8 (alphaN n1))).setIfInBounds (d + 2) (.int .u8 (alphaN n2))).setIfInBounds (d + 3) (.int .u8 61)) o (l ++ [sgn n0, sgn n1, sgn n2, 61]) := by
  subst hd
  have a0 := h.snoc (sgn n0) (by omega)
  have a1 := a0.snoc (sgn n1) (by simp; omega)
  have a2 := a1.snoc (sgn n2) (by simp; omega)
  have a3 := a2.snoc 61 (by simp; omega)
  rw [sgn_toNat n0 h0] at a0 a1 a2 a3
  rw [sgn_toNat n1 h1] at a1 a2 a3
  rw [sgn_toNat n2 h2] at a2 a3
  simpa [Nat.add_assoc] using a3

set_option maxHeartbeats 4000000 in
set_option maxRecDepth 100000 in
theorem Encode_any (ea eb sb so n scap : Nat) (src : List UInt8) (hn : src.length = n) (w : World) (hE : EncM 64 ea w) (cs : Array Value) (hb : w.heap[eb]? = some (.cells cs 185 (0, 0))) (hsz : cs.size = 1031) (hne : ea ≠ eb)
    (hsrc : ∀ j x, src[j]? = some x → w.cell? ⟨sb, so + j, none⟩ = some (.int .u8 x.toNat)) (hap : sb ≠ eb ∨ so + n ≤ 7) (hn48 : n ≤ 48) (hcap : n ≤ scap) (hcap2 : scap ≤ 9223372036854775807) :
    Calls Tryd.prog 131 #[.pointer (some ⟨ea, 0, none⟩), .slice (some ⟨eb, 7, none⟩) 1024 1024, .slice (some ⟨sb, so, none⟩) n scap] w fun x w' => x = .returned (.tuple #[]) ∧
      (∃ cs', w'.heap[eb]? = some (.cells cs' 185 (0, 0)) ∧ Wrote cs cs' 7 (b64 src)) ∧ Fr (fun k => k < w.heap.size ∧ k ≠ eb) w w' := by
  by_cases hn0 : n = 0
  · have hz : ((n : Int) == 0) = true := by simp [hn0]
    obtain rfl : src = [] := List.eq_nil_of_length_eq_zero (by omega)
    clear hsrc hn hn0
    go_enter Tryd.func131, Tryd.ntmps131
    go_wp2_with fail
    refine end_ret rfl rfl ?_
    exact ⟨rfl, ⟨cs, hb, Wrote.nil _ _⟩, Fr.refl _ _⟩
  · have hnz : ((n : Int) == 0) = false := by rw [beq_eq_false_iff_ne]; omega
    obtain ⟨ec, heb, hec⟩ := hE
    have hlc : ∀ j v, (ec.toList.take 64)[j]? = some v → w.cell? ((⟨ea, 0, none⟩ : Addr).add j) = some v := by
      intro j v hv
      have hadd : (⟨ea, 0, none⟩ : Addr).add j = ⟨ea, j, none⟩ := by unfold Addr.add; split <;> simp_all
      rw [hadd, Lib.cell_of_heap heb]
      rw [List.getElem?_take] at hv
      split at hv
      · simpa using hv
      · cases hv
    have hll : (ec.toList.take 64).length = 64 := by rw [List.length_take, Array.length_toList, hec.size]; decide
    obtain ⟨el, hel⟩ : ∃ el, ec.toList.take 64 = el := ⟨_, rfl⟩
    rw [hel] at hlc hll
    have HL := Lib.hid hlc; have HLL := Lib.hid hll; have HSRC := Lib.hid hsrc; have HN := Lib.hid hn; have HB := Lib.hid hb; have HEB := Lib.hid heb; have HSZ := Lib.hid hsz
    clear hlc hll hel hsrc hn hb heb hsz
    go_enter Tryd.func131, Tryd.ntmps131
    go_wp2_with (refine wpList_load_at rfl 143 _ rfl ⟨ea, 0, none⟩ rfl el _ HL.out Tryd.underlying143 rfl (by rw [HLL.out]; exact arr143) ?_)
    simp only [Act.put, List.setIfInBounds_toArray, List.set_cons_succ, List.set_cons_zero]
    go_wp2_with fail
    go_loopw [1, 2] (fun d sv wr => ∃ (k m mc dl so' d' : Nat) (ad : Addr) (out rest : List UInt8) (cs' : Array Value), d = .slice (some ⟨eb, d', none⟩) dl dl ∧ sv = .slice (some ad) m mc ∧ (0 < m → ad = ⟨sb, so', none⟩) ∧ m ≤ mc ∧ mc ≤ scap ∧
        so' = so + 3 * k ∧ d' = 7 + 4 * k ∧ dl = 1024 - 4 * k ∧ m + 3 * k = n ∧ rest = src.drop (3 * k) ∧ out.length = 4 * k ∧ out ++ b64 rest = b64 src ∧ wr.heap[eb]? = some (.cells cs' 185 (0, 0)) ∧ Wrote cs cs' 7 out ∧ Fr (fun k => k < w.heap.size ∧ k ≠ eb) w wr) (fun _ sv _ => lenOf sv)
    case atStart => exact ⟨0, n, scap, 1024, so, 7, _, [], src, cs, rfl, rfl, fun _ => rfl, hcap, Nat.le_refl _, rfl, rfl, rfl, rfl, rfl, rfl, rfl, HB.out, Wrote.nil _ _, Fr.refl _ _⟩
    case round =>
      obtain ⟨k, m, mc, dl, so', d', ad, out, rest, cs', rfl, rfl, had, hmc, hmc2, e1, e2, e3, e4, e5, e6, e7, hbw, hW, hF⟩ := hrel
      by_cases h3 : 3 ≤ m
      · obtain rfl := had (by omega)
        have hrl : rest.length = m := by rw [e5, List.length_drop, HN.out]; omega
        obtain ⟨x, y, z, t, rfl⟩ : ∃ x y z t, rest = x :: y :: z :: t := by
          match rest, hrl with
          | x :: y :: z :: t, _ => exact ⟨x, y, z, t, rfl⟩
          | [], hl => simp at hl; omega
          | [_], hl => simp at hl; omega
          | [_, _], hl => simp at hl; omega
        have hget : ∀ j, (x :: y :: z :: t)[j]? = src[3 * k + j]? := fun j => by rw [e5, List.getElem?_drop]
        have hcell : ∀ j v, (x :: y :: z :: t)[j]? = some v → wr.cell? ⟨sb, so' + j, none⟩ = some (.int .u8 v.toNat) := by
          intro j v hv
          have hj := (List.getElem?_eq_some_iff.1 hv).1
          have h1 := HSRC.out (3 * k + j) v (by rw [← hget]; exact hv)
          have h2 : so + (3 * k + j) = so' + j := by omega
          rw [h2] at h1
          rw [← h1]
          by_cases he : sb = eb
          · subst he
            rw [Lib.cell_of_heap hbw, Lib.cell_of_heap HB.out]
            exact hW.out _ (.inl (by have := hrl ▸ hj; omega))
          · exact hF.cell ⟨World.block_lt_of_cell? w _ h1, he⟩
        have c0 := hcell 0 x rfl
        have c1 := hcell 1 y rfl
        have c2 := hcell 2 z rfl
        rw [Nat.add_zero] at c0
        have hd : ∀ j, j < 4 → ∃ u, wr.cell? ⟨eb, d' + j, none⟩ = some u := by
          intro j hj
          rw [Lib.cell_of_heap hbw]
          have : d' + j < cs'.size := by rw [hW.size, HSZ.out]; omega
          exact ⟨cs'[d' + j], by simp [this]⟩
        have hfz : ∀ j, wr.frozen? ⟨eb, j, none⟩ = false := fun j => Lib.frozen_of_heap hbw j
        have hmi : (3 : Int) ≤ (m : Int) := by omega
        have hdl : (60 : Int) ≤ (dl : Int) := by omega
        have hdl2 : dl ≤ 1024 := by omega
        have HE := Lib.hid (And.intro e1 (And.intro e2 (And.intro e3 (And.intro e4 (And.intro e5 (And.intro e6 e7))))))
        have HG := Lib.hid hget; have HC := Lib.hid hcell; have HD := Lib.hid hd; have HW := Lib.hid hW; have HBW := Lib.hid hbw; have HRL := Lib.hid hrl
        clear e1 e2 e3 e4 e5 e6 e7 hget hcell hd hW hbw hrl had
        go_wp2_with fail
        go_quiet (fail)
        rw [val3 x y z]
        have hx := x.toNat_lt; have hy := y.toNat_lt; have hzl := z.toNat_lt
        obtain ⟨V, hV⟩ : ∃ V, x.toNat * 65536 + y.toNat * 256 + z.toNat = V := ⟨_, rfl⟩
        rw [hV]
        have i0 : bits .and .u64 ((V : Int) / 262144) 63 = ((x.toNat / 4 : Nat) : Int) := six V _ 262144 _ (by omega) rfl (by omega)
        have i1 : bits .and .u64 ((V : Int) / 4096) 63 = ((x.toNat % 4 * 16 + y.toNat / 16 : Nat) : Int) := six V _ 4096 _ (by omega) rfl (by omega)
        have i2 : bits .and .u64 ((V : Int) / 64) 63 = ((y.toNat % 16 * 4 + z.toNat / 64 : Nat) : Int) := six V _ 64 _ (by omega) rfl (by omega)
        have i3 : bits .and .u64 (V : Int) 63 = ((z.toNat % 64 : Nat) : Int) := by rw [and63 V (by omega)]; congr 1; omega
        obtain ⟨n0, hn0'⟩ : ∃ n0, x.toNat / 4 = n0 := ⟨_, rfl⟩
        obtain ⟨n1, hn1'⟩ : ∃ n1, x.toNat % 4 * 16 + y.toNat / 16 = n1 := ⟨_, rfl⟩
        obtain ⟨n2, hn2'⟩ : ∃ n2, y.toNat % 16 * 4 + z.toNat / 64 = n2 := ⟨_, rfl⟩
        obtain ⟨n3, hn3'⟩ : ∃ n3, z.toNat % 64 = n3 := ⟨_, rfl⟩
        rw [hn0'] at i0; rw [hn1'] at i1; rw [hn2'] at i2; rw [hn3'] at i3
        have b0 : (n0 : Int) < 64 := by omega
        have b1 : (n1 : Int) < 64 := by omega
        have b2 : (n2 : Int) < 64 := by omega
        have b3 : (n3 : Int) < 64 := by omega
        have hbq : (wr.drewN nq).heap[eb]? = some (.cells cs' 185 (0, 0)) := by rw [heap_drewN]; exact HBW.out
        have hFq := hF.drewN nq
        have hebq := (hFq.block ea ⟨(Array.getElem?_eq_some_iff.1 HEB.out).1, hne⟩).trans HEB.out
        have dq : ∀ j, j < 4 → ∃ u, (wr.drewN nq).cell? ⟨eb, d' + j, none⟩ = some u := HD.out
        clear hV hF hfz
        generalize wr.drewN nq = wq at hbq hFq hebq dq ⊢
        have q0 : wq.cell? ⟨ea, n0, none⟩ = some (.int .u8 (alphaN n0)) := by rw [Lib.cell_of_heap hebq]; exact hec.enc _ (by omega)
        have q1 : wq.cell? ⟨ea, n1, none⟩ = some (.int .u8 (alphaN n1)) := by rw [Lib.cell_of_heap hebq]; exact hec.enc _ (by omega)
        have q2 : wq.cell? ⟨ea, n2, none⟩ = some (.int .u8 (alphaN n2)) := by rw [Lib.cell_of_heap hebq]; exact hec.enc _ (by omega)
        have q3 : wq.cell? ⟨ea, n3, none⟩ = some (.int .u8 (alphaN n3)) := by rw [Lib.cell_of_heap hebq]; exact hec.enc _ (by omega)
        obtain ⟨u0, d0⟩ := dq 0 (by omega)
        obtain ⟨u1, d1⟩ := dq 1 (by omega)
        obtain ⟨u2, d2⟩ := dq 2 (by omega)
        obtain ⟨u3, d3⟩ := dq 3 (by omega)
        rw [Nat.add_zero] at d0
        have hfz : ∀ j, wq.frozen? ⟨eb, j, none⟩ = false := fun j => Lib.frozen_of_heap hbq j
        have HNN := Lib.hid (And.intro hn0' (And.intro hn1' (And.intro hn2' hn3')))
        have HBQ := Lib.hid hbq; have HEBQ := Lib.hid hebq
        clear hn0' hn1' hn2' hn3' hbq hebq dq
        go_wp2_with fail
        obtain ⟨e1, e2, e3, e4, e5, e6, e7⟩ := HE.out
        obtain ⟨m0, m1, m2, m3⟩ := HNN.out
        have hrow := heap_setCell_row (i := d' + 3) (v := .int .u8 (alphaN n3)) (heap_setCell_row (i := d' + 2) (v := .int .u8 (alphaN n2)) (heap_setCell_row (i := d' + 1) (v := .int .u8 (alphaN n1)) (heap_setCell_row (i := d') (v := .int .u8 (alphaN n0)) HBQ.out)))
        have hwr := HW.out.four (d := d') (by omega) n0 n1 n2 n3 (by omega) (by omega) (by omega) (by omega) (by rw [HSZ.out]; omega)
        have hfr := (((hFq.setCell (p := ⟨eb, d', none⟩) (by simp) (.int .u8 (alphaN n0))).setCell (p := ⟨eb, d' + 1, none⟩) (by simp) (.int .u8 (alphaN n1))).setCell (p := ⟨eb, d' + 2, none⟩) (by simp) (.int .u8 (alphaN n2))).setCell (p := ⟨eb, d' + 3, none⟩) (by simp) (.int .u8 (alphaN n3))
        refine ⟨⟨k + 1, m - 3, mc - 3, dl - 4, so' + 3, d' + 4, if mc = 3 then ⟨sb, so', none⟩ else ⟨sb, so' + 3, none⟩, out ++ [sgn n0, sgn n1, sgn n2, sgn n3], t, _, rfl, ?_, ?_, by omega, by omega, by omega, by omega, by omega, by omega, ?_, ?_, ?_, hrow, hwr, hfr⟩, ?_⟩
        · congr 1; split <;> rfl
        · intro h0; rw [if_neg (by omega)]
        · have : src.drop (3 * (k + 1)) = (src.drop (3 * k)).drop 3 := by rw [List.drop_drop]; congr 1
          rw [this, ← e5]; rfl
        · rw [List.length_append, e6]; simp; omega
        · rw [← e7, List.append_assoc]
          simp only [b64, m0, m1, m2, m3, List.cons_append, List.nil_append]
        · simp only [lenOf]; omega
      · have hrl : rest.length = m := by rw [e5, List.length_drop, HN.out]; omega
        have hm0 : ¬ (3 : Int) ≤ (m : Int) := by omega
        have hfz : ∀ j, wr.frozen? ⟨eb, j, none⟩ = false := fun j => Lib.frozen_of_heap hbw j
        have hebw := (hF.block ea ⟨(Array.getElem?_eq_some_iff.1 HEB.out).1, hne⟩).trans HEB.out
        have hpad : wr.cell? ⟨ea, 320, none⟩ = some (.int .i32 61) := by rw [Lib.cell_of_heap hebw]; exact hec.pad
        have hd : ∀ j, j < 4 → ∃ u, wr.cell? ⟨eb, d' + j, none⟩ = some u := by
          intro j hj
          rw [Lib.cell_of_heap hbw]
          have : d' + j < cs'.size := by rw [hW.size, HSZ.out]; omega
          exact ⟨cs'[d' + j], by simp [this]⟩
        obtain ⟨u0, d0⟩ := hd 0 (by omega)
        obtain ⟨u1, d1⟩ := hd 1 (by omega)
        obtain ⟨u2, d2⟩ := hd 2 (by omega)
        obtain ⟨u3, d3⟩ := hd 3 (by omega)
        rw [Nat.add_zero] at d0
        have hdl : (60 : Int) ≤ (dl : Int) := by omega
        have hdl2 : dl ≤ 1024 := by omega
        have hcell : ∀ j v, rest[j]? = some v → wr.cell? ⟨sb, so' + j, none⟩ = some (.int .u8 v.toNat) := by
          intro j v hv
          have hj := (List.getElem?_eq_some_iff.1 hv).1
          have h1 := HSRC.out (3 * k + j) v (by rw [e5, List.getElem?_drop] at hv; exact hv)
          have h2 : so + (3 * k + j) = so' + j := by omega
          rw [h2] at h1
          rw [← h1]
          by_cases he : sb = eb
          · subst he
            rw [Lib.cell_of_heap hbw, Lib.cell_of_heap HB.out]
            exact hW.out _ (.inl (by have := hrl ▸ hj; omega))
          · exact hF.cell ⟨World.block_lt_of_cell? w _ h1, he⟩
        have hE := And.intro e1 (And.intro e2 (And.intro e3 (And.intro e4 (And.intro e6 e7))))
        have HE := Lib.hid hE; have HW := Lib.hid hW; have HBW := Lib.hid hbw
        clear e1 e2 e3 e4 e5 e6 e7 hE hW hbw hd
        match rest, hrl, hcell, HE with
        | [], hrl, hcell, HE =>
          have g0 : ((m : Int) == 0) = true := by simp at hrl; simp [← hrl]
          clear hrl hcell
          go_wp2_with fail
          refine end_ret rfl rfl ⟨rfl, ⟨cs', HBW.out, ?_⟩, hF⟩
          have := HE.out.2.2.2.2.2
          rw [show b64 [] = [] from rfl, List.append_nil] at this
          rw [← this]; exact HW.out
        | [x], hrl, hcell, HE =>
          have g0 : ((m : Int) == 0) = false := by simp at hrl; simp [← hrl]
          have g1 : ((m : Int) == 1) = true := by simp at hrl; simp [← hrl]
          have hmp : 0 < m := by simp at hrl; omega
          obtain rfl := had hmp
          have hmi : (0 : Int) < (m : Int) := by omega
          have c0 := hcell 0 x rfl
          rw [Nat.add_zero] at c0
          have HRL := Lib.hid hrl
          clear hrl hcell had
          have hx := x.toNat_lt
          obtain ⟨V, hV⟩ : ∃ V, x.toNat * 65536 = V := ⟨_, rfl⟩
          have v1 := val1 x
          rw [hV] at v1
          have i0 : bits .and .u64 ((V : Int) / 262144) 63 = ((x.toNat / 4 : Nat) : Int) := six V _ 262144 _ (by omega) rfl (by omega)
          have i1 : bits .and .u64 ((V : Int) / 4096) 63 = ((x.toNat % 4 * 16 : Nat) : Int) := six V _ 4096 _ (by omega) rfl (by omega)
          obtain ⟨n0, hn0'⟩ : ∃ n0, x.toNat / 4 = n0 := ⟨_, rfl⟩
          obtain ⟨n1, hn1'⟩ : ∃ n1, x.toNat % 4 * 16 = n1 := ⟨_, rfl⟩
          rw [hn0'] at i0; rw [hn1'] at i1
          have b0 : (n0 : Int) < 64 := by omega
          have b1 : (n1 : Int) < 64 := by omega
          have q0 : wr.cell? ⟨ea, n0, none⟩ = some (.int .u8 (alphaN n0)) := by rw [Lib.cell_of_heap hebw]; exact hec.enc _ (by omega)
          have q1 : wr.cell? ⟨ea, n1, none⟩ = some (.int .u8 (alphaN n1)) := by rw [Lib.cell_of_heap hebw]; exact hec.enc _ (by omega)
          have HNN := Lib.hid (And.intro hn0' hn1')
          have v1' : (x.toNat : Int) * 65536 = (V : Int) := by omega
          clear hV hn0' hn1' hebw hx
          go_wp2_with fail
          obtain ⟨e1, e2, e3, e4, e6, e7⟩ := HE.out
          obtain ⟨m0, m1⟩ := HNN.out
          have hrow := heap_setCell_row (i := d' + 3) (v := .int .u8 61) (heap_setCell_row (i := d' + 2) (v := .int .u8 61) (heap_setCell_row (i := d' + 1) (v := .int .u8 (alphaN n1)) (heap_setCell_row (i := d') (v := .int .u8 (alphaN n0)) HBW.out)))
          have hwr := HW.out.tail1 (d := d') (by omega) n0 n1 (by omega) (by omega) (by rw [HSZ.out]; omega)
          have hfr := (((hF.setCell (p := ⟨eb, d', none⟩) (by simp) (.int .u8 (alphaN n0))).setCell (p := ⟨eb, d' + 1, none⟩) (by simp) (.int .u8 (alphaN n1))).setCell (p := ⟨eb, d' + 2, none⟩) (by simp) (.int .u8 61)).setCell (p := ⟨eb, d' + 3, none⟩) (by simp) (.int .u8 61)
          go_end0
          refine ⟨rfl, ⟨_, hrow, ?_⟩, hfr⟩
          rw [← e7]
          simp only [b64, m0, m1]
          exact hwr
        | [x, y], hrl, hcell, HE =>
          have g0 : ((m : Int) == 0) = false := by simp at hrl; simp [← hrl]
          have g1 : ((m : Int) == 1) = false := by simp at hrl; simp [← hrl]
          have g2 : ((m : Int) == 2) = true := by simp at hrl; simp [← hrl]
          have hmp : 0 < m := by simp at hrl; omega
          obtain rfl := had hmp
          have hmi : (1 : Int) < (m : Int) := by simp at hrl; omega
          have c0 := hcell 0 x rfl
          have c1 := hcell 1 y rfl
          rw [Nat.add_zero] at c0
          have HRL := Lib.hid hrl
          clear hrl hcell had
          go_wp2_with fail
          go_quiet (fail)
          rw [val2 x y]
          have hx := x.toNat_lt; have hy := y.toNat_lt
          obtain ⟨V, hV⟩ : ∃ V, x.toNat * 65536 + y.toNat * 256 = V := ⟨_, rfl⟩
          rw [hV]
          have i0 : bits .and .u64 ((V : Int) / 262144) 63 = ((x.toNat / 4 : Nat) : Int) := six V _ 262144 _ (by omega) rfl (by omega)
          have i1 : bits .and .u64 ((V : Int) / 4096) 63 = ((x.toNat % 4 * 16 + y.toNat / 16 : Nat) : Int) := six V _ 4096 _ (by omega) rfl (by omega)
          have i2 : bits .and .u64 ((V : Int) / 64) 63 = ((y.toNat % 16 * 4 : Nat) : Int) := six V _ 64 _ (by omega) rfl (by omega)
          obtain ⟨n0, hn0'⟩ : ∃ n0, x.toNat / 4 = n0 := ⟨_, rfl⟩
          obtain ⟨n1, hn1'⟩ : ∃ n1, x.toNat % 4 * 16 + y.toNat / 16 = n1 := ⟨_, rfl⟩
          obtain ⟨n2, hn2'⟩ : ∃ n2, y.toNat % 16 * 4 = n2 := ⟨_, rfl⟩
          rw [hn0'] at i0; rw [hn1'] at i1; rw [hn2'] at i2
          have b0 : (n0 : Int) < 64 := by omega
          have b1 : (n1 : Int) < 64 := by omega
          have b2 : (n2 : Int) < 64 := by omega
          have hbq : (wr.drewN nq).heap[eb]? = some (.cells cs' 185 (0, 0)) := by rw [heap_drewN]; exact HBW.out
          have hFq := hF.drewN nq
          have hebq : (wr.drewN nq).heap[ea]? = some (.cells ec 145 (0, 0)) := by rw [heap_drewN]; exact hebw
          have dd0 : (wr.drewN nq).cell? ⟨eb, d', none⟩ = some u0 := d0
          have dd1 : (wr.drewN nq).cell? ⟨eb, d' + 1, none⟩ = some u1 := d1
          have dd2 : (wr.drewN nq).cell? ⟨eb, d' + 2, none⟩ = some u2 := d2
          have dd3 : (wr.drewN nq).cell? ⟨eb, d' + 3, none⟩ = some u3 := d3
          clear hV hF hfz hebw hpad d0 d1 d2 d3 c0 c1
          generalize wr.drewN nq = wq at hbq hFq hebq dd0 dd1 dd2 dd3 ⊢
          have hpad : wq.cell? ⟨ea, 320, none⟩ = some (.int .i32 61) := by rw [Lib.cell_of_heap hebq]; exact hec.pad
          have q0 : wq.cell? ⟨ea, n0, none⟩ = some (.int .u8 (alphaN n0)) := by rw [Lib.cell_of_heap hebq]; exact hec.enc _ (by omega)
          have q1 : wq.cell? ⟨ea, n1, none⟩ = some (.int .u8 (alphaN n1)) := by rw [Lib.cell_of_heap hebq]; exact hec.enc _ (by omega)
          have q2 : wq.cell? ⟨ea, n2, none⟩ = some (.int .u8 (alphaN n2)) := by rw [Lib.cell_of_heap hebq]; exact hec.enc _ (by omega)
          have hfz : ∀ j, wq.frozen? ⟨eb, j, none⟩ = false := fun j => Lib.frozen_of_heap hbq j
          have HNN := Lib.hid (And.intro hn0' (And.intro hn1' hn2'))
          have HBQ := Lib.hid hbq
          clear hn0' hn1' hn2' hbq hebq
          go_wp2_with fail
          obtain ⟨e1, e2, e3, e4, e6, e7⟩ := HE.out
          obtain ⟨m0, m1, m2⟩ := HNN.out
          have hrow := heap_setCell_row (i := d' + 3) (v := .int .u8 61) (heap_setCell_row (i := d' + 2) (v := .int .u8 (alphaN n2)) (heap_setCell_row (i := d' + 1) (v := .int .u8 (alphaN n1)) (heap_setCell_row (i := d') (v := .int .u8 (alphaN n0)) HBQ.out)))
          have hwr := HW.out.tail2 (d := d') (by omega) n0 n1 n2 (by omega) (by omega) (by omega) (by rw [HSZ.out]; omega)
          have hfr := (((hFq.setCell (p := ⟨eb, d', none⟩) (by simp) (.int .u8 (alphaN n0))).setCell (p := ⟨eb, d' + 1, none⟩) (by simp) (.int .u8 (alphaN n1))).setCell (p := ⟨eb, d' + 2, none⟩) (by simp) (.int .u8 (alphaN n2))).setCell (p := ⟨eb, d' + 3, none⟩) (by simp) (.int .u8 61)
          go_end0
          refine ⟨rfl, ⟨_, hrow, ?_⟩, hfr⟩
          rw [← e7]
          simp only [b64, m0, m1, m2]
          exact hwr
        | _ :: _ :: _ :: _, hrl, _, _ => simp at hrl; omega
end Go.Proofs.YtciejdaifjbjdaaDoor
