/- laws.made: the walk. -/
import Derived.Test.YtmcjmmcamelmcaaGreatDoorV9
import Derived.Test.YtmcjmmcamelmcaaGreatDoorA1
import Derived.Laws.ResultCell
namespace Go.Proofs.YtmcjmmcamelmcaaGreatDoor
open Go Go.RowKit

theorem cne9 {c x : UInt8} (h : c ≠ x) : ((c.toNat : Int) == (x.toNat : Int)) = false := by rw [beq_eq_false_iff_ne]; exact fun e => h (UInt8.toNat_inj.1 (Int.ofNat_inj.1 e))
/-- A text without a backslash, or plain. -/
def slashOk (n : List UInt8) : Bool := n.all (fun c => c != 92) || plainL n
/-- What made takes. -/
def madeG (n l d : List UInt8) : Bool := slashOk n && Lib.validD n && dottedL l && dottedL d && decide (n.length + l.length + d.length ≤ 4096)
def MadeRet (n l d : ByteArray) : Ending :=
  if madeG n.data.toList l.data.toList d.data.toList then .returned (.tuple #[.agg #[.string n, .string (l ++ ⟨#[64]⟩ ++ d)], .bool true])
  else .returned (.tuple #[.agg #[.string ⟨#[]⟩, .string ⟨#[]⟩], .bool false])

theorem slash_no {n : ByteArray} {k : Nat} (hlt : k < n.size) (hc : n[k] = 92) (hp : plainL n.data.toList = false) : slashOk n.data.toList = false := by
  unfold slashOk
  rw [hp, Bool.or_false, List.all_eq_false]
  exact ⟨n[k], Array.mem_toList_iff.2 (Array.getElem_mem hlt), by rw [hc]; decide⟩
/-- The end: the named result's block. -/
theorem made_end {N : Nat} {w wr : World} {v0 v1 x0 x1 : Value} (hb : wr.heap[N]? = some (.cells #[x0, x1] 33 (0, 0))) (hB : Below N w wr) :
    ((wr.setCell ⟨N, 0, none⟩ v0).setCell ⟨N, 1, none⟩ v1).heap[N]? = some (.cells #[v0, v1] 33 (0, 0)) ∧ Below N w ((wr.setCell ⟨N, 0, none⟩ v0).setCell ⟨N, 1, none⟩ v1) :=
  ⟨heap_setCell_row (heap_setCell_row hb), (((Fr.of_below hB).setCell (p := ⟨N, 0, none⟩) (Nat.lt_irrefl _) _).setCell (p := ⟨N, 1, none⟩) (Nat.lt_irrefl _) _).below⟩

set_option maxHeartbeats 4000000 in
set_option maxRecDepth 100000 in
theorem made_any (n l d : ByteArray) (w : World) (hn : n.size ≤ 2147483647) (hl : l.size ≤ 2147483647) (hd : d.size ≤ 2147483647) (hT : Lib.Utf8Tabs 0 1 w) :
    Calls Tryz.prog 9 #[.string n, .string l, .string d] w fun x w' => x = MadeRet n l d ∧ Below w.heap.size w w' := by
  have hB1 := (Below.refl w.heap.size w).alloc (Nat.le_refl _) (.cells #[.string ⟨#[]⟩, .string ⟨#[]⟩] 33)
  have hA1 := heap_alloc_new w (.cells #[.string ⟨#[]⟩, .string ⟨#[]⟩] 33)
  have HB1 := Lib.hid hB1; have HA1 := Lib.hid hA1; have HT := Lib.hid hT
  clear hB1 hA1 hT
  go_enter Tryz.func9, Tryz.ntmps9
  go_wp2
  generalize w.alloc (.cells #[.string ⟨#[]⟩, .string ⟨#[]⟩] 33) = w1 at HB1 HA1 ⊢
  obtain ⟨N, hN⟩ : ∃ N, w.heap.size = N := ⟨_, rfl⟩
  have HN := Lib.hid hN
  rw [hN] at HB1 HA1 ⊢
  clear hN
  go_loopw [11] (fun i wr => wr = w1 ∧ ∃ k : Nat, i = .int .i64 k ∧ k ≤ n.size ∧ ((n.data.toList.take k).all (fun c => c != 92) || plainL n.data.toList) = true) (fun i _ => n.size - (intOf i).toNat)
  case atStart => exact ⟨rfl, 0, rfl, Nat.zero_le _, by simp⟩
  case round =>
    obtain ⟨rfl, k, rfl, hk, hsl⟩ := hrel
    have a0 : wr.cell? ⟨N, 0, none⟩ = some (.string ⟨#[]⟩) := by rw [Lib.cell_of_heap HA1.out]; rfl
    have a1 : wr.cell? ⟨N, 1, none⟩ = some (.string ⟨#[]⟩) := by rw [Lib.cell_of_heap HA1.out]; rfl
    have f0 : wr.frozen? ⟨N, 0, none⟩ = false := Lib.frozen_of_heap HA1.out 0
    have f1 : wr.frozen? ⟨N, 1, none⟩ = false := Lib.frozen_of_heap HA1.out 1
    have HSL := Lib.hid hsl
    clear hsl
    by_cases hlt : k < n.size
    · have z0 : (k : Int) < (n.size : Int) := by omega
      obtain ⟨c, hc⟩ : ∃ c, n[k] = c := ⟨_, rfl⟩
      have hct := c.toNat_lt
      have htk := take_snoc n k hlt
      rw [hc] at htk
      have HTK := Lib.hid htk
      clear htk
      by_cases h92 : c = 92
      · have t92 : ((c.toNat : Int) == 92) = true := by rw [h92]; rfl
        have HC := Lib.hid h92
        clear h92
        go_wp2_with fail
        refine (plain_any n _ (by omega)).mono ?_
        rintro x w2 ⟨rfl, rfl⟩
        cases hp : plainL n.data.toList with
        | true =>
          have HP := Lib.hid hp
          clear hp
          go_wp2
          go_roundw
          case rel => exact ⟨by first | trivial | rfl, k + 1, by go_num, by omega, by rw [HP.out]; simp⟩
          case measure => simp [intOf]; omega
        | false =>
          have HG := Lib.hid (show madeG n.data.toList l.data.toList d.data.toList = false by unfold madeG; rw [slash_no hlt (hc.trans HC.out) hp]; rfl)
          clear hp
          go_wp2
          have hE := made_end (v0 := .string ⟨#[]⟩) (v1 := .string ⟨#[]⟩) HA1.out HB1.out
          generalize (wr.setCell ⟨N, 0, none⟩ (.string ⟨#[]⟩)).setCell ⟨N, 1, none⟩ (.string ⟨#[]⟩) = w9 at hE ⊢
          have u0 : w9.cell? ⟨N, 0, none⟩ = some (.string ⟨#[]⟩) := by rw [Lib.cell_of_heap hE.1]; rfl
          have u1 : w9.cell? ⟨N, 1, none⟩ = some (.string ⟨#[]⟩) := by rw [Lib.cell_of_heap hE.1]; rfl
          (try simp only [Exit.inBlock, Exit.then])
          refine bodyPost_ret (v := .tuple #[.agg #[.string ⟨#[]⟩, .string ⟨#[]⟩], .bool false]) ?_ rfl ⟨by unfold MadeRet; rw [HG.out]; rfl, by rw [HN.out]; exact hE.2⟩
          rw [results_cell_tmp rfl]
          go_simp
      · have t92 : ((c.toNat : Int) == 92) = false := cne9 h92
        have HC := Lib.hid h92
        clear h92
        go_wp2
        go_roundw
        case rel =>
          refine ⟨by first | trivial | rfl, k + 1, by go_num, by omega, ?_⟩
          have := HSL.out
          rw [HTK.out, List.all_append]
          rw [Bool.or_eq_true] at this ⊢
          rcases this with h | h
          · left; rw [h]; simp [HC.out]
          · right; exact h
        case measure => simp [intOf]; omega
    · have hsl : slashOk n.data.toList = true := by
        have := HSL.out
        rw [List.take_of_length_le (by rw [Array.length_toList]; show n.size ≤ k; omega)] at this
        exact this
      have HS := Lib.hid hsl
      clear hsl HSL
      have hTr := Utf8Tabs_below HT.out (by rw [← HN.out] at HB1; exact HB1.out)
      have HTr := Lib.hid hTr
      clear hTr
      go_wp2_with fail
      refine (Tryz.utf8_ValidString n _ (by omega) HTr.out).mono ?_
      rintro x w2 ⟨rfl, hb2⟩
      have hlt2 : N < wr.heap.size := (Array.getElem?_eq_some_iff.1 HA1.out).1
      have HA2 := Lib.hid ((hb2.block N hlt2).trans HA1.out)
      have HB2 := Lib.hid (HB1.out.trans (hb2.mono (by omega)))
      cases hv : Lib.validD n.data.toList with
      | false =>
        have HG := Lib.hid (show madeG n.data.toList l.data.toList d.data.toList = false by unfold madeG; rw [hv]; simp)
        clear hv hb2
        have a0 : w2.cell? ⟨N, 0, none⟩ = some (.string ⟨#[]⟩) := by rw [Lib.cell_of_heap HA2.out]; rfl
        have a1 : w2.cell? ⟨N, 1, none⟩ = some (.string ⟨#[]⟩) := by rw [Lib.cell_of_heap HA2.out]; rfl
        have f0 : w2.frozen? ⟨N, 0, none⟩ = false := Lib.frozen_of_heap HA2.out 0
        have f1 : w2.frozen? ⟨N, 1, none⟩ = false := Lib.frozen_of_heap HA2.out 1
        go_wp2
        have hE := made_end (v0 := .string ⟨#[]⟩) (v1 := .string ⟨#[]⟩) HA2.out HB2.out
        generalize (w2.setCell ⟨N, 0, none⟩ (.string ⟨#[]⟩)).setCell ⟨N, 1, none⟩ (.string ⟨#[]⟩) = w9 at hE ⊢
        have u0 : w9.cell? ⟨N, 0, none⟩ = some (.string ⟨#[]⟩) := by rw [Lib.cell_of_heap hE.1]; rfl
        have u1 : w9.cell? ⟨N, 1, none⟩ = some (.string ⟨#[]⟩) := by rw [Lib.cell_of_heap hE.1]; rfl
        (try simp only [Exit.inBlock, Exit.then])
        refine bodyPost_ret (v := .tuple #[.agg #[.string ⟨#[]⟩, .string ⟨#[]⟩], .bool false]) ?_ rfl ⟨by unfold MadeRet; rw [HG.out]; rfl, by rw [HN.out]; exact hE.2⟩
        rw [results_cell_tmp rfl]
        go_simp
      | true =>
        have HV := Lib.hid hv
        have HT2 := Lib.hid (Utf8Tabs_below HTr.out hb2)
        clear hv hb2
        go_wp2_with fail
        refine (Dotted_any l _ (by omega)).mono ?_
        rintro x w3 ⟨rfl, hb3⟩
        have hlt3 : N < w2.heap.size := (Array.getElem?_eq_some_iff.1 HA2.out).1
        have HA3 := Lib.hid ((hb3.block N hlt3).trans HA2.out)
        have HB3 := Lib.hid (HB2.out.trans (hb3.mono (by omega)))
        clear hb3
        cases hv : dottedL l.data.toList with
        | false =>
          have HG := Lib.hid (show madeG n.data.toList l.data.toList d.data.toList = false by unfold madeG; rw [hv]; simp)
          clear hv
          have a0 : w3.cell? ⟨N, 0, none⟩ = some (.string ⟨#[]⟩) := by rw [Lib.cell_of_heap HA3.out]; rfl
          have a1 : w3.cell? ⟨N, 1, none⟩ = some (.string ⟨#[]⟩) := by rw [Lib.cell_of_heap HA3.out]; rfl
          have f0 : w3.frozen? ⟨N, 0, none⟩ = false := Lib.frozen_of_heap HA3.out 0
          have f1 : w3.frozen? ⟨N, 1, none⟩ = false := Lib.frozen_of_heap HA3.out 1
          go_wp2
          have hE := made_end (v0 := .string ⟨#[]⟩) (v1 := .string ⟨#[]⟩) HA3.out HB3.out
          generalize (w3.setCell ⟨N, 0, none⟩ (.string ⟨#[]⟩)).setCell ⟨N, 1, none⟩ (.string ⟨#[]⟩) = w9 at hE ⊢
          have u0 : w9.cell? ⟨N, 0, none⟩ = some (.string ⟨#[]⟩) := by rw [Lib.cell_of_heap hE.1]; rfl
          have u1 : w9.cell? ⟨N, 1, none⟩ = some (.string ⟨#[]⟩) := by rw [Lib.cell_of_heap hE.1]; rfl
          (try simp only [Exit.inBlock, Exit.then])
          refine bodyPost_ret (v := .tuple #[.agg #[.string ⟨#[]⟩, .string ⟨#[]⟩], .bool false]) ?_ rfl ⟨by unfold MadeRet; rw [HG.out]; rfl, by rw [HN.out]; exact hE.2⟩
          rw [results_cell_tmp rfl]
          go_simp
        | true =>
          have HL := Lib.hid hv
          clear hv
          go_wp2_with fail
          refine (Dotted_any d _ (by omega)).mono ?_
          rintro x w4 ⟨rfl, hb4⟩
          have hlt4 : N < w3.heap.size := (Array.getElem?_eq_some_iff.1 HA3.out).1
          have HA4 := Lib.hid ((hb4.block N hlt4).trans HA3.out)
          have HB4 := Lib.hid (HB3.out.trans (hb4.mono (by omega)))
          clear hb4
          cases hv : dottedL d.data.toList with
          | false =>
            have HG := Lib.hid (show madeG n.data.toList l.data.toList d.data.toList = false by unfold madeG; rw [hv]; simp)
            clear hv
            have a0 : w4.cell? ⟨N, 0, none⟩ = some (.string ⟨#[]⟩) := by rw [Lib.cell_of_heap HA4.out]; rfl
            have a1 : w4.cell? ⟨N, 1, none⟩ = some (.string ⟨#[]⟩) := by rw [Lib.cell_of_heap HA4.out]; rfl
            have f0 : w4.frozen? ⟨N, 0, none⟩ = false := Lib.frozen_of_heap HA4.out 0
            have f1 : w4.frozen? ⟨N, 1, none⟩ = false := Lib.frozen_of_heap HA4.out 1
            go_wp2
            have hE := made_end (v0 := .string ⟨#[]⟩) (v1 := .string ⟨#[]⟩) HA4.out HB4.out
            generalize (w4.setCell ⟨N, 0, none⟩ (.string ⟨#[]⟩)).setCell ⟨N, 1, none⟩ (.string ⟨#[]⟩) = w9 at hE ⊢
            have u0 : w9.cell? ⟨N, 0, none⟩ = some (.string ⟨#[]⟩) := by rw [Lib.cell_of_heap hE.1]; rfl
            have u1 : w9.cell? ⟨N, 1, none⟩ = some (.string ⟨#[]⟩) := by rw [Lib.cell_of_heap hE.1]; rfl
            (try simp only [Exit.inBlock, Exit.then])
            refine bodyPost_ret (v := .tuple #[.agg #[.string ⟨#[]⟩, .string ⟨#[]⟩], .bool false]) ?_ rfl ⟨by unfold MadeRet; rw [HG.out]; rfl, by rw [HN.out]; exact hE.2⟩
            rw [results_cell_tmp rfl]
            go_simp
          | true =>
            have HD := Lib.hid hv
            clear hv
            have e1 : n.data.toList.length = n.size := Array.length_toList
            have e2 : l.data.toList.length = l.size := Array.length_toList
            have e3 : d.data.toList.length = d.size := Array.length_toList
            by_cases hz : (4096 : Int) < (n.size : Int) + (l.size : Int) + (d.size : Int)
            · have HG := Lib.hid (show madeG n.data.toList l.data.toList d.data.toList = false by
                unfold madeG; rw [e1, e2, e3, decide_eq_false (by omega), Bool.and_false])
              clear e1 e2 e3
              have a0 : w4.cell? ⟨N, 0, none⟩ = some (.string ⟨#[]⟩) := by rw [Lib.cell_of_heap HA4.out]; rfl
              have a1 : w4.cell? ⟨N, 1, none⟩ = some (.string ⟨#[]⟩) := by rw [Lib.cell_of_heap HA4.out]; rfl
              have f0 : w4.frozen? ⟨N, 0, none⟩ = false := Lib.frozen_of_heap HA4.out 0
              have f1 : w4.frozen? ⟨N, 1, none⟩ = false := Lib.frozen_of_heap HA4.out 1
              go_wp2
              have hE := made_end (v0 := .string ⟨#[]⟩) (v1 := .string ⟨#[]⟩) HA4.out HB4.out
              generalize (w4.setCell ⟨N, 0, none⟩ (.string ⟨#[]⟩)).setCell ⟨N, 1, none⟩ (.string ⟨#[]⟩) = w9 at hE ⊢
              have u0 : w9.cell? ⟨N, 0, none⟩ = some (.string ⟨#[]⟩) := by rw [Lib.cell_of_heap hE.1]; rfl
              have u1 : w9.cell? ⟨N, 1, none⟩ = some (.string ⟨#[]⟩) := by rw [Lib.cell_of_heap hE.1]; rfl
              (try simp only [Exit.inBlock, Exit.then])
              refine bodyPost_ret (v := .tuple #[.agg #[.string ⟨#[]⟩, .string ⟨#[]⟩], .bool false]) ?_ rfl ⟨by unfold MadeRet; rw [HG.out]; rfl, by rw [HN.out]; exact hE.2⟩
              rw [results_cell_tmp rfl]
              go_simp
            · have HG := Lib.hid (show madeG n.data.toList l.data.toList d.data.toList = true by
                unfold madeG; rw [HS.out, HV.out, HL.out, HD.out, e1, e2, e3, decide_eq_true (by omega)]; rfl)
              clear e1 e2 e3
              have a0 : w4.cell? ⟨N, 0, none⟩ = some (.string ⟨#[]⟩) := by rw [Lib.cell_of_heap HA4.out]; rfl
              have a1 : w4.cell? ⟨N, 1, none⟩ = some (.string ⟨#[]⟩) := by rw [Lib.cell_of_heap HA4.out]; rfl
              have f0 : w4.frozen? ⟨N, 0, none⟩ = false := Lib.frozen_of_heap HA4.out 0
              have f1 : w4.frozen? ⟨N, 1, none⟩ = false := Lib.frozen_of_heap HA4.out 1
              go_wp2
              have hE := made_end (v0 := .string n) (v1 := .string (l ++ ⟨#[64]⟩ ++ d)) HA4.out HB4.out
              generalize (w4.setCell ⟨N, 0, none⟩ (.string n)).setCell ⟨N, 1, none⟩ (.string (l ++ ⟨#[64]⟩ ++ d)) = w9 at hE ⊢
              have u0 : w9.cell? ⟨N, 0, none⟩ = some (.string n) := by rw [Lib.cell_of_heap hE.1]; rfl
              have u1 : w9.cell? ⟨N, 1, none⟩ = some (.string (l ++ ⟨#[64]⟩ ++ d)) := by rw [Lib.cell_of_heap hE.1]; rfl
              (try simp only [Exit.inBlock, Exit.then])
              refine bodyPost_ret (v := .tuple #[.agg #[.string n, .string (l ++ ⟨#[64]⟩ ++ d)], .bool true]) ?_ rfl ⟨by unfold MadeRet; rw [HG.out]; rfl, by rw [HN.out]; exact hE.2⟩
              rw [results_cell_tmp rfl]
              go_simp
end Go.Proofs.YtmcjmmcamelmcaaGreatDoor
