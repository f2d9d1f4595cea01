/- impl.Print; what is printed, read by the reference: the plain law; laws.FnPrintedIsAnAddress: the walk. -/
import Derived.Test.YtciejdaifjbjdaaDoorW8
import Derived.Test.YtciejdaifjbjdaaDoorV8
namespace Go.Proofs.YtciejdaifjbjdaaDoor
open Go Go.RowKit

/-- What is printed is plain, and is read as one address. -/
theorem printed_tokens {n : ByteArray} {l d out : List UInt8} (h : Printed n l d out) (hl : dottedL l = true) (hd : dottedL d = true) (hz : n.size + l.length + d.length ≤ 4096) :
    plainL out = true ∧ out.length ≤ 100000 ∧ ∃ ps ls ds sp, tokensL out = .good (ps ++ ⟨60, [], sp⟩ :: (ls ++ ⟨64, [], false⟩ :: (ds ++ [⟨62, [], false⟩]))) false ∧ DT l ls ∧ DT d ds ∧ (∀ t ∈ ps, wordK t = true) ∧ nameG ps 0 true false [] = (true, n.data.toList) ∧ tlen ps ≤ 200000 := by
  have hDl := dots_dotted hl; have hDd := dots_dotted hd
  obtain ⟨ls, hls, htl⟩ := toks_dots hDl
  obtain ⟨ds, hds, htd⟩ := toks_dots hDd
  have hap := angle_plain hDl hDd
  have hal : (angleL l d).length = l.length + d.length + 3 := by
    unfold angleL
    simp only [List.length_append, List.length_singleton]; omega
  have hnl : n.data.toList.length = n.size := Array.length_toList
  have named : ∀ {x : List UInt8} {ps : List Tok}, Named n.data.toList x ps → x.length ≤ 90000 → plainL (x ++ [32] ++ angleL l d) = true ∧ (x ++ [32] ++ angleL l d).length ≤ 100000 ∧ ∃ ps ls ds sp, tokensL (x ++ [32] ++ angleL l d) = .good (ps ++ ⟨60, [], sp⟩ :: (ls ++ ⟨64, [], false⟩ :: (ds ++ [⟨62, [], false⟩]))) false ∧ DT l ls ∧ DT d ds ∧ (∀ t ∈ ps, wordK t = true) ∧ nameG ps 0 true false [] = (true, n.data.toList) ∧ tlen ps ≤ 200000 := by
    intro x ps hn hx
    have hp : plainL (x ++ [32] ++ angleL l d) = true := by
      unfold plainL at hap ⊢
      rw [List.all_append, List.all_append, hap, show x.all plainB = true from hn.plain]; decide
    refine ⟨hp, by simp only [List.length_append, List.length_singleton, hal]; omega, ps, ls, ds, true, ?_, hls, hds, hn.word, hn.name, by have := hn.len; omega⟩
    rw [plain_tokens hp, List.append_assoc, List.singleton_append, hn.toks, toks_angle htl htd]
    rfl
  rcases h with ⟨h0, rfl⟩ | ⟨h0, hp, rfl⟩ | ⟨e, enc, hw, hq, rfl⟩
  · refine ⟨hap, by omega, [], ls, ds, false, ?_, hls, hds, by simp, by rw [h0]; rfl, by simp [tlen]⟩
    rw [plain_tokens hap, toks_angle htl htd]; rfl
  · obtain ⟨ps, hn⟩ := qs_name hp h0
    refine named hn ?_
    have := qs_len n.data.toList
    unfold qsL
    simp only [List.length_append, List.length_singleton]; omega
  · obtain ⟨ps, hn⟩ := words_name hw hq
    exact named hn (by have := words_len hw; omega)

theorem Print_plain (n a lo dm : ByteArray) (w : World)
    (ha : a.data.toList = lo.data.toList ++ [64] ++ dm.data.toList) (hlo : dottedL lo.data.toList = true) (hdm : dottedL dm.data.toList = true) (hz : n.size + lo.size + dm.size ≤ 4096)
    (hT : Lib.Utf8Tabs 0 1 w) (hv : Lib.validD n.data.toList = true) (hb : plainL n.data.toList = false → ∀ c ∈ n.data.toList, c ≠ 92) :
    Calls Tryd.prog 6 #[.agg #[.string n, .string a]] w fun x w' => (∃ out, x = .returned (.string ⟨out.toArray⟩) ∧ Printed n lo.data.toList dm.data.toList out) ∧ Below w.heap.size w w' := by
  have HS := Lib.hid (fun (ab : Nat) (W : World) (h1 : W.heap[ab]? = some (.cells #[.string n, .string a] 37 (0, 0))) (h2 : Lib.Utf8Tabs 0 1 W) => String_plain ab n a lo dm W h1 ha hlo hdm hz h2 hv hb)
  have HT := Lib.hid hT
  have HA0 := Lib.hid (heap_alloc_new w (.cells #[.string n, .string a] 23))
  have HB0 := Lib.hid ((Below.refl w.heap.size w).alloc (Nat.le_refl _) (.cells #[.string n, .string a] 23))
  clear ha hlo hdm hz hT hv hb
  go_enter Tryd.func6, Tryd.ntmps6
  go_wp2_with fail
  have h1 := heap_alloc_new (w.alloc (.cells #[.string n, .string a] 23)) (.cells #[.string n, .string a] 37)
  have h2 := HB0.out.alloc (by simp) (.cells #[.string n, .string a] 37)
  rw [show (w.alloc (.cells #[.string n, .string a] 23)).heap.size = w.heap.size + 1 by simp] at h1
  refine (HS.out _ _ h1 (Utf8Tabs_below HT.out h2)).mono ?_
  rintro x w2 ⟨⟨out, rfl, hp⟩, hb2⟩
  have HP := Lib.hid hp
  have HB2 := Lib.hid (h2.trans (hb2.mono (by simp; omega)))
  clear hp hb2 h1 h2
  go_wp2
  go_ret
  exact ⟨⟨out, rfl, HP.out⟩, HB2.out⟩

/-- What is printed is one address. -/
theorem One_printed (n : ByteArray) (l d out : List UInt8) (w : World) (h : Printed n l d out) (hl : dottedL l = true) (hd : dottedL d = true) (hz : n.size + l.length + d.length ≤ 4096) (hT : Lib.Utf8Tabs 0 1 w) :
    Calls Tryd.prog 7 #[.string ⟨out.toArray⟩] w fun x w' => x = .returned (.tuple #[.agg #[.string n, .string (bs (l ++ [64] ++ d))], .int .i64 0]) ∧ Below w.heap.size w w' := by
  obtain ⟨hp, hlen, ps, ls, ds, sp, htok, hls, hds, hw, hn, ht⟩ := printed_tokens h hl hd hz
  obtain ⟨a1, a2, a3, a4, a5, a6, a7, a8, a9⟩ := angle_facts hls hds sp hw _ rfl
  have hres := One_plain ⟨out.toArray⟩ _ ps ls false ps.length (ps.length + 1 + ls.length) true true true n.data.toList l d [⟨62, [], false⟩] w hT (by show out.toArray.size ≤ _; simp; omega) (by simpa using htok) ?_ a1 a2 a3 a4 hn a5 a6 a7 a8 a9 rfl rfl rfl
  · rw [bs_of] at hres
    exact hres
  · have h1 := hls.tlen; have h2 := hds.tlen
    simp only [tlen, List.map_append, List.map_cons, List.map_nil, List.sum_append, List.sum_cons, List.sum_nil, List.length_nil] at h1 h2 ht ⊢
    omega

/-- made's name has a backslash only if it is plain. -/
theorem slash_ok {n : List UInt8} (h : slashOk n = true) (hp : plainL n = false) : ∀ c ∈ n, c ≠ 92 := by
  unfold slashOk at h
  rw [hp, Bool.or_false, List.all_eq_true] at h
  intro c hc e
  have := h c hc
  rw [e] at this
  exact absurd this (by decide)
end Go.Proofs.YtciejdaifjbjdaaDoor
