/- spec.One, whatever the text: the walk. -/
import Derived.Test.YtpoglombagmhmaaGreatDoorZ1
import Derived.Test.YtpoglombagmhmaaGreatDoorPH
namespace Go.Proofs.YtpoglombagmhmaaGreatDoor
open Go Go.RowKit

theorem tlen_cons (t : Tok) (ts : List Tok) : tlen (t :: ts) = t.text.length + 1 + tlen ts := by simp [tlen]
theorem toks_tlen : ∀ (n : Nat) (s : List UInt8) (b : Bool) (ts : List Tok) (l : Bool), s.length ≤ n → toksL b s = .good ts l → tlen ts ≤ 2 * s.length
  | _, [], b, ts, l, _, h => by rw [tk_nil] at h; cases h; simp [tlen]
  | 0, _ :: _, _, _, _, hn, _ => by simp at hn
  | n + 1, c :: t, b, ts, l, hn, h => by
    cases hs : isSp c with
    | true =>
      rw [toksL, if_pos hs] at h
      have := toks_tlen n t true ts l (by simp at hn; omega) h
      simp; omega
    | false =>
      rcases ph_head hs h with ⟨_, ts', rfl, h2⟩ | ⟨_, x, k, ts', hq, rfl, h2⟩ | ⟨_, _, _, _, ts', rfl, h2⟩
      · have hd : (t.dropWhile atomB).length + (t.takeWhile atomB).length = t.length := by
          have := congrArg List.length (List.takeWhile_append_dropWhile (p := atomB) (l := t))
          rw [List.length_append] at this; omega
        have := toks_tlen n (t.dropWhile atomB) false ts' l (by simp at hn; omega) h2
        rw [tlen_cons]; simp only [List.length_cons]; omega
      · have hk := quotedL_len _ t x k (Nat.le_refl _) hq
        have := toks_tlen n (t.drop k) false ts' l (by simp at hn ⊢; omega) h2
        rw [List.length_drop] at this
        rw [tlen_cons]; simp only [List.length_cons]; omega
      · have := toks_tlen n t false ts' l (by simp at hn; omega) h2
        rw [tlen_cons]; simp only [List.length_cons, List.length_nil]; omega
theorem tokens_tlen {s : List UInt8} {ts : List Tok} {l : Bool} (h : tokensL s = .good ts l) : toksL false s = .good ts l ∧ tlen ts ≤ 2 * s.length := by
  unfold tokensL at h
  split at h
  · cases h
  · split at h
    · cases h
    · exact ⟨h, toks_tlen _ s false ts l (Nat.le_refl _) h⟩
theorem one_end {N : Nat} {w wr : World} {v0 v1 x0 x1 : Value} (hb : wr.heap[N]? = some (.cells #[x0, x1] 38 (0, 0))) (hB : Below N w wr) :
    ((wr.setCell ⟨N, 0, none⟩ v0).setCell ⟨N, 1, none⟩ v1).heap[N]? = some (.cells #[v0, v1] 38 (0, 0)) ∧ Below N w ((wr.setCell ⟨N, 0, none⟩ v0).setCell ⟨N, 1, none⟩ v1) :=
  ⟨heap_setCell_row (heap_setCell_row hb), (((Fr.of_below hB).setCell (p := ⟨N, 0, none⟩) (Nat.lt_irrefl _) _).setCell (p := ⟨N, 1, none⟩) (Nat.lt_irrefl _) _).below⟩

theorem tabs_lt2 {g0 g1 : Nat} {w : World} (hT : Lib.Utf8Tabs g0 g1 w) : g0 < w.heap.size ∧ g1 < w.heap.size := by
  have lt : ∀ {a : Addr} {v : Value}, w.cell? a = some v → a.block < w.heap.size := fun {a v} hc => by
    rcases Nat.lt_or_ge a.block w.heap.size with h' | h'
    · exact h'
    · simp [World.cell?, Array.getElem?_eq_none h'] at hc
  exact ⟨lt (hT.1 0 (by decide)), lt (hT.2 0 (by decide)).1⟩
/-- What One answers. -/
def OneR (s : List UInt8) (x : Ending) : Prop :=
  ∃ (nm ad : List UInt8) (what : Int), x = .returned (.tuple #[.agg #[.string (bs nm), .string (bs ad)], .int .i64 what]) ∧ (what = 0 → ∃ ts last, tokensL s = .good ts last ∧ AddrOk ts 0 true nm ad ts.length)

set_option maxHeartbeats 4000000 in
set_option maxRecDepth 100000 in
theorem One_any (s : ByteArray) (w : World) (hT : Lib.Utf8Tabs 0 1 w) (hs : s.size ≤ 1099511627776) :
    Calls Tryz.prog 13 #[.string s] w fun x w' => OneR s.data.toList x ∧ Below w.heap.size w w' := by
  have HTB := Lib.hid hT
  have hsl : s.data.toList.length = s.size := Array.length_toList
  have HSL := Lib.hid hsl
  clear hT hsl
  have hB1 := (Below.refl w.heap.size w).alloc (Nat.le_refl _) (.cells #[.string ⟨#[]⟩, .string ⟨#[]⟩] 38)
  have hA1 := heap_alloc_new w (.cells #[.string ⟨#[]⟩, .string ⟨#[]⟩] 38)
  have HB1 := Lib.hid hB1; have HA1 := Lib.hid hA1
  have HS1 := Lib.hid (show (w.alloc (.cells #[.string ⟨#[]⟩, .string ⟨#[]⟩] 38)).heap.size = w.heap.size + 1 by simp)
  clear hB1 hA1
  have HTB1 := Lib.hid (Utf8Tabs_below HTB.out HB1.out)
  go_enter Tryz.func13, Tryz.ntmps13
  go_wp2_with fail
  generalize w.alloc (.cells #[.string ⟨#[]⟩, .string ⟨#[]⟩] 38) = w1 at HB1 HA1 HS1 HTB1 ⊢
  refine (tokens_any s _ hs HTB1.out).mono ?_
  rintro x w2 ⟨hx, hb⟩
  have HB2 := Lib.hid (HB1.out.trans (hb.mono (by have := HS1.out; omega)))
  have HA2 := Lib.hid ((hb.block w.heap.size (by have := HS1.out; omega)).trans HA1.out)
  have hz2 := hb.size
  clear hb
  cases hts : tokensL s.data.toList with
  | bad =>
    rw [hts] at hx
    obtain rfl : x = _ := hx
    clear hts
    have e0 : w2.cell? ⟨w.heap.size, 0, none⟩ = some (.string ⟨#[]⟩) := by rw [Lib.cell_of_heap HA2.out]; rfl
    have e1 : w2.cell? ⟨w.heap.size, 1, none⟩ = some (.string ⟨#[]⟩) := by rw [Lib.cell_of_heap HA2.out]; rfl
    have f0 : w2.frozen? ⟨w.heap.size, 0, none⟩ = false := Lib.frozen_of_heap HA2.out 0
    have f1 : w2.frozen? ⟨w.heap.size, 1, none⟩ = false := Lib.frozen_of_heap HA2.out 1
    go_wp2
    have hE := one_end (v0 := .string ⟨#[]⟩) (v1 := .string ⟨#[]⟩) HA2.out HB2.out
    generalize (w2.setCell ⟨w.heap.size, 0, none⟩ (.string ⟨#[]⟩)).setCell ⟨w.heap.size, 1, none⟩ (.string ⟨#[]⟩) = w9 at hE ⊢
    have u0 : w9.cell? ⟨w.heap.size, 0, none⟩ = some (.string ⟨#[]⟩) := by rw [Lib.cell_of_heap hE.1]; rfl
    have u1 : w9.cell? ⟨w.heap.size, 1, none⟩ = some (.string ⟨#[]⟩) := by rw [Lib.cell_of_heap hE.1]; rfl
    (try simp only [Exit.inBlock, Exit.then])
    refine bodyPost_ret (v := .tuple #[.agg #[.string ⟨#[]⟩, .string ⟨#[]⟩], .int .i64 1]) ?_ rfl ⟨⟨[], [], 1, rfl, fun e => absurd e (by decide)⟩, hE.2⟩
    rw [results_cell_tmp rfl]
    go_simp
  | open_ =>
    rw [hts] at hx
    obtain rfl : x = _ := hx
    clear hts
    have e0 : w2.cell? ⟨w.heap.size, 0, none⟩ = some (.string ⟨#[]⟩) := by rw [Lib.cell_of_heap HA2.out]; rfl
    have e1 : w2.cell? ⟨w.heap.size, 1, none⟩ = some (.string ⟨#[]⟩) := by rw [Lib.cell_of_heap HA2.out]; rfl
    have f0 : w2.frozen? ⟨w.heap.size, 0, none⟩ = false := Lib.frozen_of_heap HA2.out 0
    have f1 : w2.frozen? ⟨w.heap.size, 1, none⟩ = false := Lib.frozen_of_heap HA2.out 1
    go_wp2
    have hE := one_end (v0 := .string ⟨#[]⟩) (v1 := .string ⟨#[]⟩) HA2.out HB2.out
    generalize (w2.setCell ⟨w.heap.size, 0, none⟩ (.string ⟨#[]⟩)).setCell ⟨w.heap.size, 1, none⟩ (.string ⟨#[]⟩) = w9 at hE ⊢
    have u0 : w9.cell? ⟨w.heap.size, 0, none⟩ = some (.string ⟨#[]⟩) := by rw [Lib.cell_of_heap hE.1]; rfl
    have u1 : w9.cell? ⟨w.heap.size, 1, none⟩ = some (.string ⟨#[]⟩) := by rw [Lib.cell_of_heap hE.1]; rfl
    (try simp only [Exit.inBlock, Exit.then])
    refine bodyPost_ret (v := .tuple #[.agg #[.string ⟨#[]⟩, .string ⟨#[]⟩], .int .i64 2]) ?_ rfl ⟨⟨[], [], 2, rfl, fun e => absurd e (by decide)⟩, hE.2⟩
    rw [results_cell_tmp rfl]
    go_simp
  | good ts last =>
    rw [hts] at hx
    obtain ⟨tv, rfl, hown⟩ := hx
    have htl : tlen ts ≤ 4398046511104 := by
      have := (tokens_tlen hts).2
      rw [HSL.out] at this; omega
    have htc : ts.length ≤ 4398046511104 := Nat.le_trans (tlen_len ts) htl
    have HTS := Lib.hid hts; have HOWN := Lib.hid hown
    clear hts hown
    obtain ⟨ta, tcap, rfl⟩ : ∃ ta tcap, tv = .slice ta ts.length tcap := by
      rcases HOWN.out.2 with ⟨rfl, h0⟩ | ⟨g, cap, cur, rfl, _⟩
      · exact ⟨none, 0, by rw [h0]⟩
      · exact ⟨_, _, rfl⟩
    obtain ⟨pb, hpb⟩ : ∃ pb, w2.heap.size = pb := ⟨_, rfl⟩
    have hP : Par pb (.slice ta ts.length tcap) ts 0 true (w2.alloc (.cells #[.slice ta ts.length tcap, .int .i64 0, .bool true] 57)) := by
      refine ⟨?_, ?_, ?_, Nat.zero_le _, htl⟩
      · rw [← hpb]; exact heap_alloc_new w2 _
      · exact World.ownsRow.alloc (own_base HOWN.out) _
      · intro e
        have := (HOWN.out.lt pb e).2
        omega
    have HP := Lib.hid hP
    have HB3 := Lib.hid (HB2.out.alloc HB2.out.size (.cells #[.slice ta ts.length tcap, .int .i64 0, .bool true] 57))
    have HA3 := Lib.hid (show (w2.alloc (.cells #[.slice ta ts.length tcap, .int .i64 0, .bool true] 57)).heap[w.heap.size]? = some (.cells #[.string ⟨#[]⟩, .string ⟨#[]⟩] 38 (0, 0)) from
      (Below.heap_alloc w2 _ _ (Array.getElem?_eq_some_iff.1 HA2.out).1).trans HA2.out)
    have hpw : w.heap.size < pb := by rw [← hpb]; exact (Array.getElem?_eq_some_iff.1 HA2.out).1
    have HTB3 := Lib.hid (Utf8Tabs_below HTB.out HB3.out)
    have hg := tabs_lt2 HTB.out
    have hgn : pb ≠ 0 ∧ pb ≠ 1 := ⟨by have := hg.1; omega, by have := hg.2; omega⟩
    have HPB := Lib.hid hpb
    clear hP hpb hg
    go_wp2_with fail
    rw [HPB.out]
    generalize w2.alloc (.cells #[.slice ta ts.length tcap, .int .i64 0, .bool true] 57) = w3 at HP HB3 HA3 HTB3 ⊢
    refine (address_any (ts.length + 1) pb _ ts 0 true _ (by omega) HP.out HTB3.out hgn).mono ?_
    rintro x w4 ⟨⟨v, b, m, ok', cnt, rfl, hp, hcm, hbm, -, hown, hgood⟩, hf⟩
    have hltw : w.heap.size < w3.heap.size := by have := (Array.getElem?_eq_some_iff.1 HA3.out).1; omega
    have HA4 := Lib.hid ((hf.block w.heap.size ⟨by omega, hltw⟩).trans HA3.out)
    have HB4 := Lib.hid (HB3.out.trans ((hf.mono (fun k (hk : k < w.heap.size) => ⟨by omega, by omega⟩)).below))
    have HGOOD := Lib.hid hgood
    obtain ⟨p0, p1, p2⟩ := hp.cells
    have hml := hp.le
    clear hp hcm hbm hf hgood
    obtain ⟨va, vn, vcap, hv⟩ : ∃ va vn vcap, v = .slice va vn vcap := by
      obtain ⟨xs, h1, _⟩ := hown
      rcases h1.2 with ⟨hv, _⟩ | ⟨g, cap, cur, hv, _⟩
      · exact ⟨_, _, _, hv⟩
      · exact ⟨_, _, _, hv⟩
    clear hown
    cases b with
    | false =>
      subst hv
      have e0 : w4.cell? ⟨w.heap.size, 0, none⟩ = some (.string ⟨#[]⟩) := by rw [Lib.cell_of_heap HA4.out]; rfl
      have e1 : w4.cell? ⟨w.heap.size, 1, none⟩ = some (.string ⟨#[]⟩) := by rw [Lib.cell_of_heap HA4.out]; rfl
      have f0 : w4.frozen? ⟨w.heap.size, 0, none⟩ = false := Lib.frozen_of_heap HA4.out 0
      have f1 : w4.frozen? ⟨w.heap.size, 1, none⟩ = false := Lib.frozen_of_heap HA4.out 1
      go_wp2
      have hE := one_end (v0 := .string ⟨#[]⟩) (v1 := .string ⟨#[]⟩) HA4.out HB4.out
      generalize (w4.setCell ⟨w.heap.size, 0, none⟩ (.string ⟨#[]⟩)).setCell ⟨w.heap.size, 1, none⟩ (.string ⟨#[]⟩) = w9 at hE ⊢
      have u0 : w9.cell? ⟨w.heap.size, 0, none⟩ = some (.string ⟨#[]⟩) := by rw [Lib.cell_of_heap hE.1]; rfl
      have u1 : w9.cell? ⟨w.heap.size, 1, none⟩ = some (.string ⟨#[]⟩) := by rw [Lib.cell_of_heap hE.1]; rfl
      (try simp only [Exit.inBlock, Exit.then])
      refine bodyPost_ret (v := .tuple #[.agg #[.string ⟨#[]⟩, .string ⟨#[]⟩], .int .i64 1]) ?_ rfl ⟨⟨[], [], 1, rfl, fun e => absurd e (by decide)⟩, hE.2⟩
      rw [results_cell_tmp rfl]
      go_simp
    | true =>
      by_cases hm : m < ts.length
      · have zm : (m : Int) < (ts.length : Int) := by omega
        subst hv
        have e0 : w4.cell? ⟨w.heap.size, 0, none⟩ = some (.string ⟨#[]⟩) := by rw [Lib.cell_of_heap HA4.out]; rfl
        have e1 : w4.cell? ⟨w.heap.size, 1, none⟩ = some (.string ⟨#[]⟩) := by rw [Lib.cell_of_heap HA4.out]; rfl
        have f0 : w4.frozen? ⟨w.heap.size, 0, none⟩ = false := Lib.frozen_of_heap HA4.out 0
        have f1 : w4.frozen? ⟨w.heap.size, 1, none⟩ = false := Lib.frozen_of_heap HA4.out 1
        go_wp2
        have hE := one_end (v0 := .string ⟨#[]⟩) (v1 := .string ⟨#[]⟩) HA4.out HB4.out
        generalize (w4.setCell ⟨w.heap.size, 0, none⟩ (.string ⟨#[]⟩)).setCell ⟨w.heap.size, 1, none⟩ (.string ⟨#[]⟩) = w9 at hE ⊢
        have u0 : w9.cell? ⟨w.heap.size, 0, none⟩ = some (.string ⟨#[]⟩) := by rw [Lib.cell_of_heap hE.1]; rfl
        have u1 : w9.cell? ⟨w.heap.size, 1, none⟩ = some (.string ⟨#[]⟩) := by rw [Lib.cell_of_heap hE.1]; rfl
        (try simp only [Exit.inBlock, Exit.then])
        refine bodyPost_ret (v := .tuple #[.agg #[.string ⟨#[]⟩, .string ⟨#[]⟩], .int .i64 1]) ?_ rfl ⟨⟨[], [], 1, rfl, fun e => absurd e (by decide)⟩, hE.2⟩
        rw [results_cell_tmp rfl]
        go_simp
      · have zm : ¬ (m : Int) < (ts.length : Int) := by omega
        have hmt : m = ts.length := by omega
        have HMT := Lib.hid hmt
        clear hm hmt
        cases ok' with
        | false =>
          subst hv
          have e0 : w4.cell? ⟨w.heap.size, 0, none⟩ = some (.string ⟨#[]⟩) := by rw [Lib.cell_of_heap HA4.out]; rfl
          have e1 : w4.cell? ⟨w.heap.size, 1, none⟩ = some (.string ⟨#[]⟩) := by rw [Lib.cell_of_heap HA4.out]; rfl
          have f0 : w4.frozen? ⟨w.heap.size, 0, none⟩ = false := Lib.frozen_of_heap HA4.out 0
          have f1 : w4.frozen? ⟨w.heap.size, 1, none⟩ = false := Lib.frozen_of_heap HA4.out 1
          go_wp2
          have hE := one_end (v0 := .string ⟨#[]⟩) (v1 := .string ⟨#[]⟩) HA4.out HB4.out
          generalize (w4.setCell ⟨w.heap.size, 0, none⟩ (.string ⟨#[]⟩)).setCell ⟨w.heap.size, 1, none⟩ (.string ⟨#[]⟩) = w9 at hE ⊢
          have u0 : w9.cell? ⟨w.heap.size, 0, none⟩ = some (.string ⟨#[]⟩) := by rw [Lib.cell_of_heap hE.1]; rfl
          have u1 : w9.cell? ⟨w.heap.size, 1, none⟩ = some (.string ⟨#[]⟩) := by rw [Lib.cell_of_heap hE.1]; rfl
          (try simp only [Exit.inBlock, Exit.then])
          refine bodyPost_ret (v := .tuple #[.agg #[.string ⟨#[]⟩, .string ⟨#[]⟩], .int .i64 2]) ?_ rfl ⟨⟨[], [], 2, rfl, fun e => absurd e (by decide)⟩, hE.2⟩
          rw [results_cell_tmp rfl]
          go_simp
        | true =>
          obtain ⟨nm, ad, g, hok, hve, k0, k1⟩ := HGOOD.out (by first | rfl | trivial) (by first | rfl | trivial)
          subst hve
          have HOK := Lib.hid hok
          obtain ⟨X, hX⟩ : ∃ X, bs nm = X := ⟨_, rfl⟩
          obtain ⟨Y, hY⟩ : ∃ Y, bs ad = Y := ⟨_, rfl⟩
          rw [hX] at k0
          rw [hY] at k1
          have HX := Lib.hid hX; have HY := Lib.hid hY
          clear hok hX hY hv
          have e0 : w4.cell? ⟨w.heap.size, 0, none⟩ = some (.string ⟨#[]⟩) := by rw [Lib.cell_of_heap HA4.out]; rfl
          have e1 : w4.cell? ⟨w.heap.size, 1, none⟩ = some (.string ⟨#[]⟩) := by rw [Lib.cell_of_heap HA4.out]; rfl
          have f0 : w4.frozen? ⟨w.heap.size, 0, none⟩ = false := Lib.frozen_of_heap HA4.out 0
          have f1 : w4.frozen? ⟨w.heap.size, 1, none⟩ = false := Lib.frozen_of_heap HA4.out 1
          go_wp2
          have hE := one_end (v0 := .string X) (v1 := .string Y) HA4.out HB4.out
          generalize (w4.setCell ⟨w.heap.size, 0, none⟩ (.string X)).setCell ⟨w.heap.size, 1, none⟩ (.string Y) = w9 at hE ⊢
          have u0 : w9.cell? ⟨w.heap.size, 0, none⟩ = some (.string X) := by rw [Lib.cell_of_heap hE.1]; rfl
          have u1 : w9.cell? ⟨w.heap.size, 1, none⟩ = some (.string Y) := by rw [Lib.cell_of_heap hE.1]; rfl
          (try simp only [Exit.inBlock, Exit.then])
          refine bodyPost_ret (v := .tuple #[.agg #[.string X, .string Y], .int .i64 0]) ?_ rfl ⟨⟨nm, ad, 0, by rw [HX.out, HY.out], fun _ => ⟨ts, last, HTS.out, by have := HOK.out; rw [HMT.out] at this; exact this⟩⟩, hE.2⟩
          rw [results_cell_tmp rfl]
          go_simp
end Go.Proofs.YtpoglombagmhmaaGreatDoor
