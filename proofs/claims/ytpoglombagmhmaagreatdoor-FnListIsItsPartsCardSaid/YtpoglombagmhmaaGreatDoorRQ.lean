/- netmail.parseSingleAddress, ParseAddress, impl.Parse, on a text that is one address; texts that came in; zzFits1: the walks. -/
import Derived.Test.YtpoglombagmhmaaGreatDoorOD
import Derived.Laws.ResultCell
namespace Go.Proofs.YtpoglombagmhmaaGreatDoor
open Go Go.RowKit

theorem AddrT.skip {Z : List Tok} {l : Bool} {R nm ad : List UInt8} (h : AddrT Z l R nm ad) : AddrT Z l (R.dropWhile isSp) nm ad := by
  cases h with
  | angle b sp x us X ht hw hn hX =>
    obtain ⟨b', hb, _⟩ := ph_skip R b
    exact .angle b' sp x us X (by rw [← hb]; exact ht) hw hn hX
  | alone L D R4 hR hL hD h4 ht hn ha =>
    obtain ⟨c, t, hLc, hc⟩ := hL.head
    have : R.dropWhile isSp = R := by rw [hR, hLc]; exact nosp_drop (atom_neSp hc)
    rw [this]
    exact .alone L D R4 hR hL hD h4 ht hn ha
/-- The end: the named result's block. -/
theorem pend_end {N : Nat} {w wr : World} {v0 v1 x0 x1 : Value} (hb : wr.heap[N]? = some (.cells #[x0, x1] 34 (0, 0))) (hB : Below N w wr) :
    ((wr.setCell ⟨N, 0, none⟩ v0).setCell ⟨N, 1, none⟩ v1).heap[N]? = some (.cells #[v0, v1] 34 (0, 0)) ∧ Below N w ((wr.setCell ⟨N, 0, none⟩ v0).setCell ⟨N, 1, none⟩ v1) :=
  ⟨heap_setCell_row (heap_setCell_row hb), (((Fr.of_below hB).setCell (p := ⟨N, 0, none⟩) (Nat.lt_irrefl _) _).setCell (p := ⟨N, 1, none⟩) (Nat.lt_irrefl _) _).below⟩

/-- The address that the parser answers. -/
def SARes (pb : Nat) (nm ad : List UInt8) (w : World) (x : Ending) (w' : World) : Prop :=
  (∃ q, x = .returned (.tuple #[.pointer (some ⟨q, 0, none⟩), .nilIface]) ∧ w'.heap[q]? = some (.cells #[.string (bs nm), .string (bs ad)] 51 (0, 0))) ∧ Fr (fun k => k ≠ pb ∧ k < w.heap.size) w w'
set_option maxHeartbeats 1000000 in
set_option maxRecDepth 100000 in
theorem single_yes (pb : Nat) (l : Bool) (R nm ad : List UInt8) (et : TypeId) (ev : Value) (w : World) (h : PS pb (.pointer none) (bs R) w) (hg : GoodS R) (hl : R.length ≤ 4294967296) (ha : AddrT [] l (R.dropWhile isSp) nm ad)
    (hT : Lib.Utf8Tabs 0 1 w) (he : w.cell? ⟨2, 0, none⟩ = some (.iface et ev)) (hgp : pb ≠ 0 ∧ pb ≠ 1 ∧ pb ≠ 2) :
    Calls Tryz.prog 21 #[.pointer (some ⟨pb, 0, none⟩)] w fun x w' => SARes pb nm ad w x w' := by
  have hpb := h.cells.2.2.2
  have HP := Lib.hid h; have HG := Lib.hid hg; have HA := Lib.hid ha; have HT := Lib.hid hT; have HE := Lib.hid he; have HGP := Lib.hid hgp
  clear h hg ha hT he hgp
  go_enter Tryz.func21, Tryz.ntmps21
  go_wp2_with fail
  refine (paddr_yes pb [] l true R nm ad et ev w HP.out HG.out hl HA.out HT.out HE.out HGP.out).mono ?_
  rintro x w1 ⟨⟨g, q, rfl, hadr⟩, ⟨R5, b5, hp5, ht5, hg5, hl5⟩, hf⟩
  have hlt : ∀ {k : Nat} {o : Obj}, w1.heap[k]? = some o → k < w1.heap.size := fun h => (Array.getElem?_eq_some_iff.1 h).1
  have hgl := hlt hadr.row
  have hql := hlt hadr.adr
  have hgp : g ≠ pb := by have := hadr.hg; omega
  have hqp : q ≠ pb := by have := hadr.hq; omega
  have hR5 := toks_none ht5
  have HQ1 := Lib.hid (show PQ pb w (bs R5) w1 from ⟨hp5, hf⟩)
  have HADR := Lib.hid hadr; have HR5 := Lib.hid hR5
  have hrl : R5.length ≤ 4294967296 := by omega
  clear hp5 ht5 hg5 hf hadr hlt hR5
  go_wp2_with fail
  refine (cfwsL pb R5 _ HQ1.out.ps (by omega) (fun t e => by rw [HR5.out] at e; cases e)).mono ?_
  rintro x w2 ⟨rfl, hp2, hf2⟩
  rw [HR5.out] at hp2
  have hA2 := (hf2.block g ⟨hgp, hgl⟩).trans HADR.out.row
  have HD2 := Lib.hid ((hf2.block q ⟨hqp, hql⟩).trans HADR.out.adr)
  have HQ2 := Lib.hid (HQ1.out.step hp2 hf2)
  have c0 : w2.cell? ⟨g, 0, none⟩ = some (.pointer (some ⟨q, 0, none⟩)) := by rw [Lib.cell_of_heap hA2]; rfl
  clear hp2 hf2 hA2
  go_wp2_with fail
  refine (pempty_any pb (.pointer none) (bs []) _ HQ2.out.ps).mono ?_
  rintro x w3 ⟨rfl, rfl⟩
  rw [show decide ((bs []).size = 0) = true by rfl]
  go_wp2
  go_ret2
  exact ⟨⟨q, rfl, HD2.out⟩, HQ2.out.fr⟩

set_option maxRecDepth 100000 in
theorem parse_addr (l : Bool) (R nm ad : List UInt8) (et : TypeId) (ev : Value) (w : World) (hg : GoodS R) (hl : R.length ≤ 4294967296) (ha : AddrT [] l (R.dropWhile isSp) nm ad)
    (hT : Lib.Utf8Tabs 0 1 w) (he : w.cell? ⟨2, 0, none⟩ = some (.iface et ev)) :
    Calls Tryz.prog 17 #[.string (bs R)] w fun x w' => (∃ q, x = .returned (.tuple #[.pointer (some ⟨q, 0, none⟩), .nilIface]) ∧ w'.heap[q]? = some (.cells #[.string (bs nm), .string (bs ad)] 51 (0, 0))) ∧ Below w.heap.size w w' := by
  obtain ⟨pb, hpb⟩ : ∃ pb, w.heap.size = pb := ⟨_, rfl⟩
  have hb := (Below.refl w.heap.size w).alloc (Nat.le_refl _) (.cells #[.string (bs R), .pointer none] 64)
  have hp := heap_alloc_new w (.cells #[.string (bs R), .pointer none] 64)
  rw [hpb] at hb hp
  have hT1 := Utf8Tabs_below hT (hpb ▸ hb)
  have he1 := (hb.cell (p := ⟨2, 0, none⟩) (by rw [← hpb]; exact cell_lt he)).trans he
  have hgp : pb ≠ 0 ∧ pb ≠ 1 ∧ pb ≠ 2 := by
    have h1 := tabs_lt2 hT
    have h2 := cell_lt he
    simp only at h2
    omega
  have HB := Lib.hid hb; have HP := Lib.hid hp; have HG := Lib.hid hg; have HA := Lib.hid ha; have HT1 := Lib.hid hT1; have HE1 := Lib.hid he1; have HGP := Lib.hid hgp; have HPB := Lib.hid hpb
  clear hb hp hg ha hT he hT1 he1 hgp
  go_enter Tryz.func17, Tryz.ntmps17
  go_wp2_with fail
  generalize w.alloc (.cells #[.string (bs R), .pointer none] 64) = w1 at HB HP HT1 HE1 ⊢
  refine (single_yes pb l R nm ad et ev w1 HP.out HG.out hl HA.out HT1.out HE1.out HGP.out).mono ?_
  rintro x w2 ⟨⟨q, rfl, hd⟩, hf⟩
  have HD := Lib.hid hd
  have HB2 := Lib.hid (HB.out.trans (hf.mono (K' := fun k => k < pb) (fun k hk => ⟨by omega, by have h1 := HB.out.size; have h2 := HPB.out; omega⟩)).below)
  clear hd hf
  go_wp2
  go_ret2
  refine ⟨⟨q, rfl, HD.out⟩, ?_⟩
  first | exact HB2.out | (rw [HPB.out]; exact HB2.out)

set_option maxRecDepth 100000 in
theorem parse_one (l : Bool) (R nm ad : List UInt8) (et : TypeId) (ev : Value) (w : World) (hg : GoodS R) (hl : R.length ≤ 4294967296) (ha : AddrT [] l (R.dropWhile isSp) nm ad)
    (hT : Lib.Utf8Tabs 0 1 w) (he : w.cell? ⟨2, 0, none⟩ = some (.iface et ev)) :
    Calls Tryz.prog 11 #[.string (bs R)] w fun x w' => x = .returned (.tuple #[.agg #[.string (bs nm), .string (bs ad)], .bool true]) ∧ Below w.heap.size w w' := by
  have hb := (Below.refl w.heap.size w).alloc (Nat.le_refl _) (.cells #[.string ⟨#[]⟩, .string ⟨#[]⟩] 34)
  have hA := heap_alloc_new w (.cells #[.string ⟨#[]⟩, .string ⟨#[]⟩] 34)
  have hT1 := Utf8Tabs_below hT hb
  have he1 := (hb.cell (p := ⟨2, 0, none⟩) (cell_lt he)).trans he
  have HG := Lib.hid hg; have HA := Lib.hid ha; have HT1 := Lib.hid hT1; have HE1 := Lib.hid he1; have HB := Lib.hid hb; have HAL := Lib.hid hA
  clear hg ha hT he hb hA hT1 he1
  go_enter Tryz.func11, Tryz.ntmps11
  go_wp2_with fail
  obtain ⟨N, hN⟩ : ∃ N, w.heap.size = N := ⟨_, rfl⟩
  have HN := Lib.hid hN
  rw [hN] at HB HAL ⊢
  clear hN
  generalize w.alloc (.cells #[.string ⟨#[]⟩, .string ⟨#[]⟩] 34) = w1 at HB HAL HT1 HE1 ⊢
  refine (parse_addr l R nm ad et ev w1 HG.out hl HA.out HT1.out HE1.out).mono ?_
  rintro x w2 ⟨⟨q, rfl, hd⟩, hb2⟩
  have hlt : N < w1.heap.size := (Array.getElem?_eq_some_iff.1 HAL.out).1
  have HA2 := Lib.hid ((hb2.block N hlt).trans HAL.out)
  have HB2 := Lib.hid (HB.out.trans (hb2.mono (by omega)))
  have c0 : w2.cell? ⟨q, 0, none⟩ = some (.string (bs nm)) := by rw [Lib.cell_of_heap hd]; rfl
  have c1 : w2.cell? ⟨q, 1, none⟩ = some (.string (bs ad)) := by rw [Lib.cell_of_heap hd]; rfl
  have a0 : w2.cell? ⟨N, 0, none⟩ = some (.string ⟨#[]⟩) := by rw [Lib.cell_of_heap HA2.out]; rfl
  have a1 : w2.cell? ⟨N, 1, none⟩ = some (.string ⟨#[]⟩) := by rw [Lib.cell_of_heap HA2.out]; rfl
  have f0 : w2.frozen? ⟨N, 0, none⟩ = false := Lib.frozen_of_heap HA2.out 0
  have f1 : w2.frozen? ⟨N, 1, none⟩ = false := Lib.frozen_of_heap HA2.out 1
  clear hd hb2 hlt
  go_wp2
  have hE := pend_end (v0 := .string (bs nm)) (v1 := .string (bs ad)) HA2.out HB2.out
  generalize (w2.setCell ⟨N, 0, none⟩ (.string (bs nm))).setCell ⟨N, 1, none⟩ (.string (bs ad)) = w9 at hE ⊢
  have u0 : w9.cell? ⟨N, 0, none⟩ = some (.string (bs nm)) := by rw [Lib.cell_of_heap hE.1]; rfl
  have u1 : w9.cell? ⟨N, 1, none⟩ = some (.string (bs ad)) := by rw [Lib.cell_of_heap hE.1]; rfl
  (try simp only [Exit.inBlock, Exit.then])
  refine bodyPost_ret (v := .tuple #[.agg #[.string (bs nm), .string (bs ad)], .bool true]) ?_ rfl ⟨rfl, by rw [HN.out]; exact hE.2⟩
  rw [results_cell_tmp rfl]
  go_simp
/-- A row of texts that came in. -/
structure StrArg (v : Value) (n : Nat) (f : Nat → ByteArray) (B : Nat) (w : World) : Prop where
  form : (v = .slice none 0 0 ∧ n = 0) ∨ ∃ a cap, v = .slice (some a) n cap ∧ n ≤ cap ∧ cap ≤ maxLen ∧ ∀ j, j < n → w.cell? (a.add j) = some (.string (f j)) ∧ (a.add j).block < B
  size : ∀ j, j < n → (f j).size ≤ maxLen
theorem StrArg.below {v : Value} {n : Nat} {f : Nat → ByteArray} {B : Nat} {w w' : World} (h : StrArg v n f B w) (hb : Below B w w') : StrArg v n f B w' := by
  refine ⟨?_, h.size⟩
  rcases h.form with h | ⟨a, cap, h1, h2, h3, h4⟩
  · exact .inl h
  · exact .inr ⟨a, cap, h1, h2, h3, fun j hj => ⟨by rw [hb.cell (h4 j hj).2]; exact (h4 j hj).1, (h4 j hj).2⟩⟩
theorem StrArg.slice {v : Value} {n : Nat} {f : Nat → ByteArray} {B : Nat} {w : World} (h : StrArg v n f B w) : ∃ p c, v = .slice p n c ∧ n ≤ maxLen := by
  rcases h.form with ⟨rfl, rfl⟩ | ⟨a, cap, rfl, h2, h3, _⟩
  · exact ⟨none, 0, rfl, Nat.zero_le _⟩
  · exact ⟨_, _, rfl, by omega⟩
def FitRet (n : Nat) (f : Nat → ByteArray) (x : Ending) : Prop := ∃ b, x = .returned (.bool b) ∧ (b = true → n ≤ 2147483647 ∧ ∀ j, j < n → (f j).size ≤ 2147483647)
theorem fits_nil (f : Nat → ByteArray) (w : World) : Calls Tryz.prog 5 #[.slice none 0 0] w fun x w' => FitRet 0 f x ∧ w' = w := by
  go_enter Tryz.func5, Tryz.ntmps5
  go_wp2
  go_loop [2, 10] (fun r i => r = .bool false ∧ i = .int .i64 0) (fun _ i => 0)
  case atStart => exact ⟨rfl, rfl⟩
  case round =>
    obtain ⟨rfl, rfl⟩ := hrel
    go_wp2
    go_ret
    exact ⟨⟨true, rfl, fun _ => ⟨by omega, fun j hj => absurd hj (Nat.not_lt_zero j)⟩⟩, rfl⟩
set_option maxRecDepth 100000 in
theorem fits_any (n cap : Nat) (a : Addr) (f : Nat → ByteArray) (w : World) (_hn : n ≤ cap) (_hcap : cap ≤ maxLen) (h : ∀ j, j < n → w.cell? (a.add j) = some (.string (f j)) ∧ (f j).size ≤ maxLen) :
    Calls Tryz.prog 5 #[.slice (some a) n cap] w fun x w' => FitRet n f x ∧ w' = w := by
  have H := Lib.hid h
  clear h
  unfold maxLen at _hcap
  by_cases hN : n ≤ 2147483647
  · have t0 : ¬ (2147483647 : Int) < (n : Int) := by omega
    go_enter Tryz.func5, Tryz.ntmps5
    go_wp2
    go_loop [2, 10] (fun r i => r = .bool false ∧ ∃ k : Nat, i = .int .i64 k ∧ k ≤ n ∧ ∀ j, j < k → (f j).size ≤ 2147483647) (fun _ i => n - (intOf i).toNat)
    case atStart => exact ⟨rfl, 0, rfl, Nat.zero_le _, fun j h => absurd h (Nat.not_lt_zero j)⟩
    case round =>
      obtain ⟨rfl, k, rfl, hk, hall⟩ := hrel
      have HALL := Lib.hid hall
      clear hall
      by_cases hlt : k < n
      · obtain ⟨hc, hs⟩ := H.out k hlt
        obtain ⟨S, hS⟩ : ∃ S, f k = S := ⟨_, rfl⟩
        rw [hS] at hc hs
        unfold maxLen at hs
        have HS := Lib.hid hS
        clear hS
        have t1 : (k : Int) < (n : Int) := by omega
        by_cases hz : S.size ≤ 2147483647
        · have t2 : ¬ (2147483647 : Int) < (S.size : Int) := by omega
          go_wp2
          go_round
          case rel => exact ⟨rfl, k + 1, by go_num, by omega, fun j hj => by
            rcases Nat.lt_succ_iff_lt_or_eq.1 hj with h | rfl
            · exact HALL.out j h
            · rw [HS.out]; exact hz⟩
          case measure => simp [intOf]; omega
        · have t2 : (2147483647 : Int) < (S.size : Int) := by omega
          go_wp2
          go_ret
          exact ⟨⟨false, rfl, fun h => by cases h⟩, rfl⟩
      · have t1 : ¬ (k : Int) < (n : Int) := by omega
        go_wp2
        go_ret
        exact ⟨⟨true, rfl, fun _ => ⟨hN, fun j hj => HALL.out j (by omega)⟩⟩, rfl⟩
  · have t0 : (2147483647 : Int) < (n : Int) := by omega
    go_enter Tryz.func5, Tryz.ntmps5
    go_wp2
    go_ret
    exact ⟨⟨false, rfl, fun h => by cases h⟩, rfl⟩
theorem fits_arg {v : Value} {n : Nat} {f : Nat → ByteArray} {B : Nat} {w : World} (h : StrArg v n f B w) :
    Calls Tryz.prog 5 #[v] w fun x w' => FitRet n f x ∧ w' = w := by
  rcases h.form with ⟨rfl, rfl⟩ | ⟨a, cap, rfl, h2, h3, h4⟩
  · exact fits_nil f w
  · exact fits_any n cap a f w h2 h3 (fun j hj => ⟨(h4 j hj).1, h.size j hj⟩)
end Go.Proofs.YtpoglombagmhmaaGreatDoor
