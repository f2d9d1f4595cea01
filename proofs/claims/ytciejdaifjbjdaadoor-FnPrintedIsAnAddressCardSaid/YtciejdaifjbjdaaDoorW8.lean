/- netmail.Address.String, on an address of atoms: the walk. -/
import Derived.Test.YtciejdaifjbjdaaDoorW7
import Derived.Test.YtciejdaifjbjdaaDoorX2
import Derived.Test.YtciejdaifjbjdaaDoorW9
import Derived.Deep.Cut
import Derived.BigQuiet
namespace Go.Proofs.YtciejdaifjbjdaaDoor
open Go Go.RowKit

theorem at_list (s : ByteArray) (j : Nat) : s.data[j]! = s.data.toList.getD j 0 := by
  rw [List.getD_eq_getElem?_getD, Array.getElem?_toList]
  rw [getElem!_def]
  cases s.data[j]? <;> rfl
theorem last_at (a : ByteArray) (l d : List UInt8) (ha : a.data.toList = l ++ [64] ++ d) (hd : ∀ c ∈ d, c ≠ 64) : Lib.lastIndexByte a 64 = l.length := by
  have hz : a.size = l.length + 1 + d.length := by
    have := congrArg List.length ha
    simp only [List.length_append, List.length_singleton, Array.length_toList] at this
    exact this
  have h0 : ((a.data[l.length]!).toNat : Int) = 64 := by rw [at_list, ha]; simp
  rcases Lib.lastIndexByte_spec a 64 with ⟨_, h⟩ | ⟨i, hi, e, hc, hn⟩
  · exact absurd h0 (h _ (by omega))
  · rw [e]
    rcases Nat.lt_trichotomy i l.length with h | h | h
    · exact absurd h0 (hn _ h (by omega))
    · rw [h]
    · exfalso
      rw [at_list, ha, List.getD_eq_getElem?_getD, List.getElem?_append_right (by simp; omega)] at hc
      have hk : i - (l ++ [64]).length < d.length := by simp; omega
      rw [List.getElem?_eq_getElem hk] at hc
      have := hd _ (List.getElem_mem hk)
      apply this
      apply UInt8.toNat_inj.1
      have h9 : (((d[i - (l ++ [64]).length]).toNat : Nat) : Int) = 64 := by simpa using hc
      have h8 : (d[i - (l ++ [64]).length]).toNat = 64 := by omega
      rw [h8]; rfl
theorem dots_at64 {l : List UInt8} (h : Dots l) : ∀ c ∈ l, c ≠ 64 := by
  have ha : ∀ c : UInt8, atomB c = true → c ≠ 64 := fun c h e => by rw [e] at h; exact absurd h (by decide)
  induction h with
  | one a h0 h => exact fun c hc => ha c (h c hc).1
  | more a l h0 h hl ih =>
    intro c hc
    rcases List.mem_append.1 hc with hc | hc
    · exact ha c (h c hc).1
    · rcases List.mem_cons.1 hc with rfl | hc
      · decide
      · exact ih c hc
theorem dotted_all {l : List UInt8} (h : dottedL l = true) : ∀ j, j < l.length → goodAt l j = true := by
  unfold dottedL at h
  rw [Bool.and_eq_true] at h
  exact fun j hj => List.all_eq_true.1 h.1 j (List.mem_range.2 hj)
theorem atom_atext {c : UInt8} (h : atomB c = true) (h2 : c.toNat < 128) : atextR c.toNat = true := by
  have : ∀ k : Fin 128, atomB (UInt8.ofNat k.val) = true → atextR (UInt8.ofNat k.val).toNat = true := by decide
  have := this ⟨c.toNat, h2⟩
  simp only [UInt8.ofNat_toNat] at this
  exact this h

theorem last64 (a : ByteArray) (hs : a.size < 4611686018427387904) (w : World) : Calls Tryd.prog 20 #[.string a, .string ⟨#[64]⟩] w fun x w' => x = .returned (.int .i64 (Lib.lastIndexByte a 64)) ∧ w' = w :=
  Tryd.strings_LastIndex_one a ⟨#[64]⟩ rfl hs w
theorem bytes_eq {a b : ByteArray} (h : a.data.toList = b.data.toList) : a = b := by rw [← bs_of a, ← bs_of b, h]

def prR (r : Nat) : Bool := decide ((32 ≤ r ∧ r ≤ 126) ∨ r = 9)
theorem pr_step (s : ByteArray) (k : Nat) (hlt : k < s.size) (hp : plainL (s.data.toList.take k) = true) :
    (prR (Utf8.decode s k).1 = true → k + (Utf8.decode s k).2 ≤ s.size ∧ 1 ≤ (Utf8.decode s k).2 ∧ plainL (s.data.toList.take (k + (Utf8.decode s k).2)) = true) ∧ (prR (Utf8.decode s k).1 = false → plainL s.data.toList = false) := by
  by_cases ha : (s[k]'hlt).toNat < 128
  · have hd := decode_ascii s k hlt ha
    rw [hd]
    exact ⟨fun h => ⟨hlt, Nat.le_refl 1, all_take_succ plainB s k hlt hp h⟩, fun h => all_not plainB s k hlt h⟩
  · have hh := (decode_high s k hlt (by omega)).1
    have hc' : plainB s[k] = false := by unfold plainB; rw [decide_eq_false_iff_not]; omega
    exact ⟨fun h => by have := of_decide_eq_true h; omega, fun _ => all_not plainB s k hlt hc'⟩

theorem tab_lt {g0 g1 : Nat} {w : World} (hT : Lib.Utf8Tabs g0 g1 w) : g0 < w.heap.size ∧ g1 < w.heap.size := by
  have lt : ∀ {a : Addr} {v : Value}, w.cell? a = some v → a.block < w.heap.size := fun {a v} hc => by
    rcases Nat.lt_or_ge a.block w.heap.size with h' | h'
    · exact h'
    · simp [World.cell?, Array.getElem?_eq_none h'] at hc
  exact ⟨lt (hT.1 0 (by decide)), lt (hT.2 0 (by decide)).1⟩
/-- A name without the signs that a phrase may not hold raw. -/
theorem q_name {l : List UInt8} (h : noneOf [34, 35, 36, 37, 38, 39, 40, 41, 44, 46, 58, 59, 60, 62, 64, 91, 93, 94, 96, 123, 124, 125, 126] l) (hb : ∀ c ∈ l, c ≠ 92) : qName l := by
  intro c hc hr
  have h1 := h c hc
  have h2 := hb c hc
  have hlt : c.toNat < 128 := by have := of_decide_eq_true hr; omega
  have : ∀ k : Fin 128, ¬ (UInt8.ofNat k.val) ∈ [(34 : UInt8), 35, 36, 37, 38, 39, 40, 41, 44, 46, 58, 59, 60, 62, 64, 91, 93, 94, 96, 123, 124, 125, 126] → (UInt8.ofNat k.val) ≠ 92 → qRaw (UInt8.ofNat k.val) = true → qOk true (UInt8.ofNat k.val) = true := by decide
  have := this ⟨c.toNat, hlt⟩
  simp only [UInt8.ofNat_toNat] at this
  exact this h1 h2 hr

/-- What is printed. -/
def Printed (n : ByteArray) (l d out : List UInt8) : Prop :=
  (n.data.toList = [] ∧ out = angleL l d) ∨ (n.data.toList ≠ [] ∧ plainL n.data.toList = true ∧ out = qsL n.data.toList ++ [32] ++ angleL l d) ∨
    (∃ e enc, Words e n enc ∧ (e = 113 → qName n.data.toList) ∧ out = enc ++ [32] ++ angleL l d)

set_option maxHeartbeats 4000000 in
set_option maxRecDepth 100000 in
theorem String_plain (ab : Nat) (n a lo dm : ByteArray) (w : World) (hab : w.heap[ab]? = some (.cells #[.string n, .string a] 37 (0, 0)))
    (ha : a.data.toList = lo.data.toList ++ [64] ++ dm.data.toList) (hlo : dottedL lo.data.toList = true) (hdm : dottedL dm.data.toList = true) (hz : n.size + lo.size + dm.size ≤ 4096)
    (hT : Lib.Utf8Tabs 0 1 w) (hv : Lib.validD n.data.toList = true) (hb : plainL n.data.toList = false → ∀ c ∈ n.data.toList, c ≠ 92) :
    Calls Tryd.prog 13 #[.pointer (some ⟨ab, 0, none⟩)] w fun x w' => (∃ out, x = .returned (.string ⟨out.toArray⟩) ∧ Printed n lo.data.toList dm.data.toList out) ∧ Below w.heap.size w w' := by
  have hll : lo.data.toList.length = lo.size := Array.length_toList
  have hat : Lib.lastIndexByte a 64 = lo.size := by rw [last_at a _ _ ha (dots_at64 (dots_dotted hdm)), hll]
  have HAT := Lib.hid hat; have HT := Lib.hid hT; have HV := Lib.hid hv; have HNB := Lib.hid hb
  have c0 : w.cell? ⟨ab, 0, none⟩ = some (.string n) := by rw [Lib.cell_of_heap hab]; rfl
  have c1 : w.cell? ⟨ab, 1, none⟩ = some (.string a) := by rw [Lib.cell_of_heap hab]; rfl
  have HAB := Lib.hid hab
  have hsz : a.size = lo.size + dm.size + 1 := by
    have := congrArg List.length ha
    simp only [List.length_append, List.length_singleton, Array.length_toList] at this
    show a.data.size = lo.data.size + dm.data.size + 1
    omega
  have e1 : a.extract 0 lo.size = lo := bytes_eq (by
    have := extract_list a 0 lo.size
    rw [Nat.zero_add] at this
    rw [this, ha, List.drop_zero, List.append_assoc, ← hll, List.take_left])
  have e2 : a.extract (lo.size + 1) a.size = dm := bytes_eq (by
    have h1 : dm.data.toList.length = dm.size := Array.length_toList
    have h2 := extract_list a (lo.size + 1) dm.size
    rw [show lo.size + 1 + dm.size = a.size by omega] at h2
    rw [h2, ha, show lo.size + 1 = (lo.data.toList ++ [64]).length by simp [hll], List.drop_left, ← h1, List.take_length])
  have HZ := Lib.hid hsz
  have HG := Lib.hid (dotted_all hlo)
  have HLL := Lib.hid hll
  clear hll hat hT hv hb hab ha hlo hdm
  go_enter Tryd.func13, Tryd.ntmps13
  go_wp2_with fail
  refine (last64 _ (by rw [HZ.out]; omega) _).mono ?_
  rintro x w1 ⟨rfl, rfl⟩
  rw [HAT.out]
  have i0 : ¬ (lo.size : Int) < 0 := by omega
  have j1 : (lo.size : Int) ≤ (a.size : Int) := by rw [HZ.out]; omega
  have j2 : (lo.size : Int) + 1 ≤ (a.size : Int) := by rw [HZ.out]; omega
  clear hsz
  go_upto_region 5 with fail
  go_wp2_with fail
  go_big_quiet (fail)
  have HB0 := Lib.hid (below_drewN (Below.refl w1.heap.size w1) nq)
  have HC0 := Lib.hid (fun (W : World) (h : Below w1.heap.size w1 W) => show W.cell? ⟨ab, 0, none⟩ = some (.string n) by rw [Lib.cell_of_heap ((h.block ab (Array.getElem?_eq_some_iff.1 HAB.out).1).trans HAB.out)]; rfl)
  generalize w1.drewN nq = w2 at HB0 ⊢
  obtain ⟨it, hit0⟩ : ∃ it, w2.heap.size = it := ⟨_, rfl⟩
  have HIT := Lib.hid hit0
  have hitN : w1.heap.size ≤ it := by rw [← hit0]; exact HB0.out.size
  have HI0 := Lib.hid (show (w2.iter lo 0).heap[it]? = some (.stringIter lo 0) by rw [← hit0]; exact World.iter_heap w2 lo 0)
  have HB1 := Lib.hid (show Below w1.heap.size w1 (w2.iter lo 0) from HB0.out.alloc (by omega) (.stringIter lo 0))
  clear hit0 c0 c1 j1 j2 e1 e2 HB0
  go_wp2
  rw [HIT.out]
  generalize w2.iter lo 0 = w3 at HB1 HI0 ⊢
  go_loopw [6] (fun v wr => v = .bool false ∧ ∃ k : Nat, k ≤ lo.size ∧ wr.heap[it]? = some (.stringIter lo k) ∧ Below w1.heap.size w1 wr) (fun _ wr => lo.size - wr.iterPos it)
  case atStart => exact ⟨rfl, 0, Nat.zero_le _, HI0.out, HB1.out⟩
  case round =>
    obtain ⟨rfl, k, hk, hit, hbw⟩ := hrel
    by_cases hlt : k < lo.size
    · obtain ⟨c, hc⟩ : ∃ c, lo[k] = c := ⟨_, rfl⟩
      have hgd : lo.data.toList.getD k 0 = c := by rw [getD_s lo k hlt]; exact hc
      have hg := HG.out k (by rw [HLL.out]; exact hlt)
      unfold goodAt at hg
      rw [hgd] at hg
      have hca : c.toNat < 128 := by
        by_cases h46 : c = 46
        · rw [h46]; decide
        · rw [if_neg h46, Bool.and_eq_true] at hg; exact of_decide_eq_true hg.2
      have hnx : ∀ ty, (Instr.next (.pointer (some ⟨it, 0, none⟩)) true ty).run Tryd.prog wr = _ := fun ty => Lib.run_next_ascii_at wr it lo k ty hit hlt (by rw [hc]; exact hca)
      have hit2 := Lib.iterAt_heap wr it lo k (k + 1) hit
      have hbw2 := Lib.below_iterAt hbw (k := it) hitN lo (k + 1)
      rw [hc] at hnx
      have HI := Lib.hid hit; have HI2 := Lib.hid hit2; have HB2 := Lib.hid hbw2
      clear hit hit2 hbw hbw2 hgd
      by_cases h46 : c = 46
      · rw [if_pos h46] at hg
        rw [Bool.not_eq_true', Bool.or_eq_false_iff, Bool.or_eq_false_iff] at hg
        have k0 : k ≠ 0 := of_decide_eq_false hg.1.1
        have k1 : k + 1 ≠ lo.size := by have := of_decide_eq_false hg.1.2; rw [HLL.out] at this; exact this
        have hk1 : k - 1 < lo.size := by omega
        have k2 : lo.data.toList.getD (k - 1) 0 ≠ 46 := of_decide_eq_false hg.2
        obtain ⟨d, hd⟩ : ∃ d, lo[k - 1] = d := ⟨_, rfl⟩
        rw [getD_s lo (k - 1) hk1, hd] at k2
        have t46 : ((c.toNat : Int) == 46) = true := ceq h46
        have hat : atextR c.toNat = false := by rw [h46]; decide
        have t5 : ((d.toNat : Int) != 46) = true := by have := cne9 k2; simpa [bne] using this
        have z0 : (0 : Int) < (k : Int) := by omega
        have i1 : (0 : Int) ≤ (k : Int) - 1 := by omega
        have i2 : (k : Int) - 1 < (lo.size : Int) := by omega
        have z1 : (k : Int) < (lo.size : Int) - 1 := by omega
        clear hg h46 k0 k1 k2 hc
        go_wp2_with fail
        refine (isAtext_any c.toNat _).mono ?_
        rintro x w5 ⟨rfl, rfl⟩
        rw [hat]
        go_wp2
        go_roundw
        case rel => exact ⟨rfl, k + 1, by omega, HI2.out, HB2.out⟩
        case measure =>
          have e1 := HI.out; have e2 := HI2.out
          simp only [World.iterPos, e1, e2]
          omega
      · rw [if_neg h46, Bool.and_eq_true] at hg
        have hat : atextR c.toNat = true := atom_atext hg.1 hca
        clear hg h46 hc
        go_wp2_with fail
        refine (isAtext_any c.toNat _).mono ?_
        rintro x w5 ⟨rfl, rfl⟩
        rw [hat]
        go_wp2
        go_roundw
        case rel => exact ⟨rfl, k + 1, by omega, HI2.out, HB2.out⟩
        case measure =>
          have e1 := HI.out; have e2 := HI2.out
          simp only [World.iterPos, e1, e2]
          omega
    · have hnx : ∀ ty, (Instr.next (.pointer (some ⟨it, 0, none⟩)) true ty).run Tryd.prog wr = _ := fun ty => Lib.run_next_end_at wr it lo k ty hit hlt
      have c0 := HC0.out wr hbw
      have HBW := Lib.hid hbw
      clear hit hbw HB1 HI0
      obtain ⟨S, hS⟩ : ∃ S : ByteArray, (⟨#[60]⟩ ++ lo ++ ⟨#[64]⟩ ++ dm ++ ⟨#[62]⟩ : ByteArray) = S := ⟨_, rfl⟩
      have HSA := Lib.hid (show S.data.toList = angleL lo.data.toList dm.data.toList by rw [← hS]; simp [angleL])
      have hss : S.size ≤ 4200 := by
        have h1 := congrArg List.length HSA.out
        rw [Array.length_toList] at h1
        have h2 : lo.data.toList.length = lo.size := Array.length_toList
        have h3 : dm.data.toList.length = dm.size := Array.length_toList
        unfold angleL at h1
        simp only [List.length_append, List.length_singleton] at h1
        have h4 : S.data.size = S.size := rfl
        omega
      have HS := Lib.hid hS
      clear hS
      by_cases hne : n.data.toList = []
      · have z : n.toList.isEmpty = true := by rw [ByteArray.toList_eq, hne]; rfl
        have HNE := Lib.hid hne
        clear hne
        go_wp2
        rw [HS.out]
        go_ret
        exact ⟨⟨S.data.toList, rfl, .inl ⟨HNE.out, HSA.out⟩⟩, HBW.out⟩
      · have z : n.toList.isEmpty = false := by
          rw [ByteArray.toList_eq]
          cases h : n.data.toList with
          | nil => exact absurd h hne
          | cons => rfl
        have HNE := Lib.hid hne
        obtain ⟨jt, hjt0⟩ : ∃ jt, wr.heap.size = jt := ⟨_, rfl⟩
        have HJT := Lib.hid hjt0
        have hjtN : w1.heap.size ≤ jt := by rw [← hjt0]; exact HBW.out.size
        have HJ0 := Lib.hid (show (wr.iter n 0).heap[jt]? = some (.stringIter n 0) by rw [← hjt0]; exact World.iter_heap wr n 0)
        have HJB := Lib.hid (show Below w1.heap.size w1 (wr.iter n 0) from HBW.out.alloc (by omega) (.stringIter n 0))
        clear hne hjt0
        go_wp2
        rw [HS.out, HJT.out]
        generalize wr.iter n 0 = w4 at HJ0 HJB ⊢
        clear z c0 hnx hlt hk HBW HJT
        go_loopw [10] (fun v wr => v = .bool true ∧ ∃ k : Nat, k ≤ n.size ∧ wr.heap[jt]? = some (.stringIter n k) ∧ plainL (n.data.toList.take k) = true ∧ Below w1.heap.size w1 wr) (fun _ wr => n.size - wr.iterPos jt)
        case atStart => exact ⟨rfl, 0, Nat.zero_le _, HJ0.out, rfl, HJB.out⟩
        case round =>
          obtain ⟨rfl, k, hk, hit, hp, hbw⟩ := hrel
          by_cases hlt : k < n.size
          · have hnx : ∀ ty, (Instr.next (.pointer (some ⟨jt, 0, none⟩)) true ty).run Tryd.prog wr = _ := fun ty => Lib.run_next_any_at wr jt n k ty hit hlt
            have hit2 := Lib.iterAt_heap wr jt n k (k + (Utf8.decode n k).2) hit
            have hbw2 := Lib.below_iterAt hbw (k := jt) hjtN n (k + (Utf8.decode n k).2)
            have hpr := pr_step n k hlt hp
            generalize hr : (Utf8.decode n k).1 = r at *
            generalize hn : (Utf8.decode n k).2 = m at *
            have HI := Lib.hid hit; have HI2 := Lib.hid hit2; have HB2 := Lib.hid hbw2; have HPR := Lib.hid hpr
            clear hit hbw hit2 hbw2 hpr hp hr hn
            generalize wr.iterAt jt n (k + m) = w5 at hnx HI2 HB2
            go_upto_region 23 with fail
            go_cut [97] from 86 to 97 (fun c wx => c = .bool (!prR r) ∧ wx = w5)
            case first =>
              by_cases hA : 33 ≤ r ∧ r ≤ 126
              · have h1 : vcharR r = true := by unfold vcharR; rw [decide_eq_true hA]; rfl
                have h3 : decide (128 ≤ r) = false := decide_eq_false (by omega)
                have HPP := Lib.hid (show prR r = true from decide_eq_true (by omega))
                clear hA
                go_wp2_with fail
                refine (isVchar_any r _).mono ?_
                rintro x w6 ⟨rfl, rfl⟩
                rw [h1]
                go_wp2_with fail
                refine (isMultibyte_any r _).mono ?_
                rintro x w6 ⟨rfl, rfl⟩
                rw [h3]
                go_wp2
                go_meet
                exact ⟨by rw [HPP.out]; rfl, rfl⟩
              · by_cases hB : 128 ≤ r
                · have h1 : vcharR r = true := by unfold vcharR; rw [decide_eq_true hB, Bool.or_true]
                  have h3 : decide (128 ≤ r) = true := decide_eq_true hB
                  have HPP := Lib.hid (show prR r = false from decide_eq_false (by omega))
                  clear hA hB
                  go_wp2_with fail
                  refine (isVchar_any r _).mono ?_
                  rintro x w6 ⟨rfl, rfl⟩
                  rw [h1]
                  go_wp2_with fail
                  refine (isMultibyte_any r _).mono ?_
                  rintro x w6 ⟨rfl, rfl⟩
                  rw [h3]
                  go_wp2
                  go_meet
                  exact ⟨by rw [HPP.out]; rfl, rfl⟩
                · have h1 : vcharR r = false := by unfold vcharR; rw [decide_eq_false hA, decide_eq_false hB]; rfl
                  have h3 : decide (128 ≤ r) = false := decide_eq_false hB
                  by_cases hC : r = 32 ∨ r = 9
                  · have h2 : wspR r = true := decide_eq_true hC
                    have HPP := Lib.hid (show prR r = true from decide_eq_true (by omega))
                    clear hA hB hC
                    go_wp2_with fail
                    refine (isVchar_any r _).mono ?_
                    rintro x w6 ⟨rfl, rfl⟩
                    rw [h1]
                    go_wp2_with fail
                    refine (isWSP_any r _).mono ?_
                    rintro x w6 ⟨rfl, rfl⟩
                    rw [h2]
                    go_wp2_with fail
                    refine (isMultibyte_any r _).mono ?_
                    rintro x w6 ⟨rfl, rfl⟩
                    rw [h3]
                    go_wp2
                    go_meet
                    exact ⟨by rw [HPP.out]; rfl, rfl⟩
                  · have h2 : wspR r = false := decide_eq_false hC
                    have HPP := Lib.hid (show prR r = false from decide_eq_false (by omega))
                    clear hA hB hC
                    go_wp2_with fail
                    refine (isVchar_any r _).mono ?_
                    rintro x w6 ⟨rfl, rfl⟩
                    rw [h1]
                    go_wp2_with fail
                    refine (isWSP_any r _).mono ?_
                    rintro x w6 ⟨rfl, rfl⟩
                    rw [h2]
                    go_wp2
                    go_meet
                    exact ⟨by rw [HPP.out]; rfl, rfl⟩
            case rest =>
              obtain ⟨rfl, rfl⟩ := hcut
              cases hv : prR r with
              | true =>
                have HK := Lib.hid (HPR.out.1 hv)
                clear hv
                go_wp2
                go_roundw
                case rel => exact ⟨rfl, k + m, HK.out.1, HI2.out, HK.out.2.2, HB2.out⟩
                case measure =>
                  have e1 := HI.out; have e2 := HI2.out; have e3 := HK.out
                  simp only [World.iterPos, e1, e2]
                  omega
              | false =>
                have HP := Lib.hid (HPR.out.2 hv)
                have c0 := HC0.out wc HB2.out
                clear hv
                go_wp2_with fail
                refine (zzContainsAny_any n ⟨#[34, 35, 36, 37, 38, 39, 40, 41, 44, 46, 58, 59, 60, 62, 64, 91, 93, 94, 96, 123, 124, 125, 126]⟩ (by decide) (by omega) _).mono ?_
                rintro x w6 ⟨⟨b, rfl, hb⟩, hb6⟩
                have HB6 := Lib.hid (HB2.out.trans (hb6.mono HB2.out.size))
                have HQ := Lib.hid hb
                clear hb hb6 c0
                cases b with
                | true =>
                  have c0 := HC0.out w6 HB6.out
                  have HT6 := Lib.hid (Utf8Tabs_below HT.out HB6.out)
                  go_wp2_with fail
                  refine (Encode_text 98 (.inl rfl) n (· < w6.heap.size) _ (fun _ h => h) HT6.out (tab_lt HT6.out).1 (tab_lt HT6.out).2 HV.out HP.out (by omega)).mono ?_
                  rintro x w7 ⟨⟨l, rfl, hl⟩, hf7⟩
                  have HL := Lib.hid hl; have HB7 := Lib.hid (HB6.out.trans (hf7.below.mono HB6.out.size))
                  have hql : l.length ≤ 82000 := by have := words_len hl; omega
                  clear hl hf7
                  go_wp2
                  go_ret
                  exact ⟨⟨_, rfl, .inr (.inr ⟨98, l, HL.out, fun e => absurd e (by decide), by simp [HSA.out]⟩)⟩, HB7.out⟩
                | false =>
                  have c0 := HC0.out w6 HB6.out
                  have HT6 := Lib.hid (Utf8Tabs_below HT.out HB6.out)
                  go_wp2_with fail
                  refine (Encode_text 113 (.inr rfl) n (· < w6.heap.size) _ (fun _ h => h) HT6.out (tab_lt HT6.out).1 (tab_lt HT6.out).2 HV.out HP.out (by omega)).mono ?_
                  rintro x w7 ⟨⟨l, rfl, hl⟩, hf7⟩
                  have HL := Lib.hid hl; have HB7 := Lib.hid (HB6.out.trans (hf7.below.mono HB6.out.size))
                  have hql : l.length ≤ 82000 := by have := words_len hl; omega
                  clear hl hf7
                  go_wp2
                  go_ret
                  exact ⟨⟨_, rfl, .inr (.inr ⟨113, l, HL.out, fun _ => q_name (by first | exact HQ.out trivial | exact HQ.out rfl) (HNB.out HP.out), by simp [HSA.out]⟩)⟩, HB7.out⟩
          · have hnx : ∀ ty, (Instr.next (.pointer (some ⟨jt, 0, none⟩)) true ty).run Tryd.prog wr = _ := fun ty => Lib.run_next_end_at wr jt n k ty hit hlt
            have hpn : plainL n.data.toList = true := all_whole plainB n k hlt hp
            have c0 := HC0.out wr hbw
            have HP := Lib.hid hpn; have HB := Lib.hid hbw
            clear hpn hp hbw hit
            go_wp2_with fail
            refine (quoteString_plain n _ (by omega) HP.out).mono ?_
            rintro x w7 ⟨rfl, hb7⟩
            have HB7 := Lib.hid (HB.out.trans (hb7.mono HB.out.size))
            have hql : (qsL n.data.toList).length ≤ 8200 := by
              have h1 := qs_len n.data.toList
              have h2 : n.data.toList.length = n.size := Array.length_toList
              unfold qsL
              simp only [List.length_append, List.length_singleton]
              omega
            clear hb7
            go_wp2
            go_ret
            exact ⟨⟨_, rfl, .inr (.inl ⟨HNE.out, HP.out, by simp [HSA.out]⟩)⟩, HB7.out⟩
end Go.Proofs.YtciejdaifjbjdaaDoor
