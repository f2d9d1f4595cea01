/- netmail.parseAddressList, ParseAddressList, on texts that are each one address, with commas between them: the walks. -/
import Derived.Test.YtpoglombagmhmaaGreatDoorJ1
import Derived.Test.YtpoglombagmhmaaGreatDoorJ2
namespace Go.Proofs.YtpoglombagmhmaaGreatDoor
open Go Go.RowKit

/-- The addresses that pointers lead to. -/
structure Ptrs (B : Nat) (qs : List Nat) (aas : List (List UInt8 × List UInt8)) (w : World) : Prop where
  len : qs.length = aas.length
  adr : ∀ (i q : Nat) (p : List UInt8 × List UInt8), qs[i]? = some q → aas[i]? = some p → w.heap[q]? = some (.cells #[.string (bs p.1), .string (bs p.2)] 51 (0, 0)) ∧ B ≤ q
theorem Ptrs.nil (B : Nat) (w : World) : Ptrs B [] [] w := ⟨rfl, by simp⟩
theorem heap_lt {w : World} {k : Nat} {o : Obj} (h : w.heap[k]? = some o) : k < w.heap.size := (Array.getElem?_eq_some_iff.1 h).1
theorem Ptrs.fr {B : Nat} {qs : List Nat} {aas : List (List UInt8 × List UInt8)} {w w' : World} (h : Ptrs B qs aas w) (hf : ∀ q, B ≤ q → (∃ cs, w.heap[q]? = some (.cells cs 51 (0, 0))) → w'.heap[q]? = w.heap[q]?) : Ptrs B qs aas w' := by
  refine ⟨h.len, fun i q p h1 h2 => ?_⟩
  obtain ⟨h3, h4⟩ := h.adr i q p h1 h2
  exact ⟨(hf q h4 ⟨_, h3⟩).trans h3, h4⟩
theorem Ptrs.snoc {B : Nat} {qs : List Nat} {aas : List (List UInt8 × List UInt8)} {w : World} (h : Ptrs B qs aas w) {q : Nat} {nm ad : List UInt8} (hq : w.heap[q]? = some (.cells #[.string (bs nm), .string (bs ad)] 51 (0, 0))) (hB : B ≤ q) : Ptrs B (qs ++ [q]) (aas ++ [(nm, ad)]) w := by
  refine ⟨by rw [List.length_append, List.length_append, h.len]; rfl, fun i q' p h1 h2 => ?_⟩
  rcases Nat.lt_or_ge i qs.length with hi | hi
  · rw [List.getElem?_append_left hi] at h1
    rw [List.getElem?_append_left (by rw [← h.len]; exact hi)] at h2
    exact h.adr i q' p h1 h2
  · rw [List.getElem?_append_right hi] at h1
    rw [List.getElem?_append_right (by rw [← h.len]; exact hi), ← h.len] at h2
    cases hk : i - qs.length with
    | zero =>
      rw [hk] at h1 h2
      simp at h1 h2
      subst h1 h2
      exact ⟨hq, hB⟩
    | succ k => rw [hk] at h1; simp at h1
theorem ptr_ne {B : Nat} {qs : List Nat} {v : Value} {w : World} (h : OwnP B qs v w) {q : Nat} {cs : Array Value} (hq : w.heap[q]? = some (.cells cs 51 (0, 0))) : v.ownBlock ≠ some q := by
  intro e
  rcases h.2 with ⟨rfl, _⟩ | ⟨g, cap, cur, rfl, _, hg, _⟩
  · simp [Value.ownBlock] at e
  · simp [Value.ownBlock] at e
    subst e
    rw [hq] at hg
    injection hg with hg
    injection hg with _ hg _
    exact absurd hg (by decide)
/-- The list so far. -/
structure PLW (w : World) (done : List (List UInt8 × List UInt8)) (qs : List Nat) (v : Value) (wx : World) : Prop where
  own : OwnP w.heap.size qs v wx
  ptr : Ptrs w.heap.size qs done wx
theorem PLW.step {pb : Nat} {w wx wy : World} {done : List (List UInt8 × List UInt8)} {qs : List Nat} {v : Value} (h : PLW w done qs v wx) (hpb : pb < w.heap.size) (hf : Fr (fun k => k ≠ pb ∧ k < wx.heap.size) wx wy) : PLW w done qs v wy :=
  ⟨h.own.fr (fun k e hk => hf.block k ⟨by have := (h.own.block k e).1; omega, hk⟩), h.ptr.fr (fun q hB ⟨_, hq⟩ => hf.block q ⟨by omega, heap_lt hq⟩)⟩
theorem PLW.push {w wx wy : World} {done : List (List UInt8 × List UInt8)} {qs : List Nat} {v v' : Value} {q : Nat} {nm ad : List UInt8} (h : PLW w done qs v wx) (hq : wx.heap[q]? = some (.cells #[.string (bs nm), .string (bs ad)] 51 (0, 0))) (hB : w.heap.size ≤ q) (hown : OwnP w.heap.size (qs ++ [q]) v' wy) (hg : wx.grownBy wy v.ownBlock) : PLW w (done ++ [(nm, ad)]) (qs ++ [q]) v' wy := by
  have hf : Fr (fun k => k < wx.heap.size ∧ v.ownBlock ≠ some k) wx wy := (Fr.refl _ wx).grown hg (fun k hk => hk.1) (fun k e hk => hk.2 e)
  refine ⟨hown, Ptrs.snoc (h.ptr.fr (fun q' _ ⟨_, hq'⟩ => hf.block q' ⟨heap_lt hq', ptr_ne h.own hq'⟩)) ?_ hB⟩
  rw [hf.block q ⟨heap_lt hq, ptr_ne h.own hq⟩]
  exact hq
theorem PQ.grow {pb : Nat} {w wx wy : World} {S : ByteArray} {qs : List Nat} {v : Value} (h : PQ pb w S wx) (hpb : pb < w.heap.size) (hown : OwnP w.heap.size qs v wx) (hg : wx.grownBy wy v.ownBlock) : PQ pb w S wy := by
  have hf : Fr (fun k => k < wx.heap.size ∧ v.ownBlock ≠ some k) wx wy := (Fr.refl _ wx).grown hg (fun k hk => hk.1) (fun k e hk => hk.2 e)
  have hne : ∀ k, k < w.heap.size → v.ownBlock ≠ some k := fun k hk e => by have := (hown.block k e).1; omega
  exact ⟨h.ps.fr (hf.block pb ⟨heap_lt h.ps, hne pb hpb⟩), h.fr.trans (hf.mono (fun k hk => ⟨Nat.lt_of_lt_of_le hk.2 h.fr.size, hne k hk.2⟩))⟩
theorem dw_idem (R : List UInt8) : (R.dropWhile isSp).dropWhile isSp = R.dropWhile isSp := by
  cases h : R.dropWhile isSp with
  | nil => rfl
  | cons c t => exact nosp_drop (ph_nosp h)
def vlen : Value → Nat
  | .slice _ n _ => n
  | _ => 0
/-- Addresses are left to be read. -/
structure Rest (R : List UInt8) (rest : List (List UInt8 × List UInt8)) : Prop where
  good : GoodS R
  toks : ∃ b us l, toksL b R = .good us l ∧ LT rest us

set_option maxHeartbeats 4000000 in
set_option maxRecDepth 100000 in
theorem plist_yes (pb : Nat) (T : List UInt8) (aas : List (List UInt8 × List UInt8)) (et : TypeId) (ev : Value) (w : World) (h : PS pb (.pointer none) (bs T) w) (hJ : JT T aas) (hl : T.length ≤ 4294967296) (hal : aas.length ≤ 1048576)
    (hT : Lib.Utf8Tabs 0 1 w) (he : w.cell? ⟨2, 0, none⟩ = some (.iface et ev)) (hgp : pb ≠ 0 ∧ pb ≠ 1 ∧ pb ≠ 2) :
    Calls Tryz.prog 20 #[.pointer (some ⟨pb, 0, none⟩)] w fun x w' => (∃ qs v, x = .returned (.tuple #[v, .nilIface]) ∧ PLW w aas qs v w') ∧ Fr (fun k => k ≠ pb ∧ k < w.heap.size) w w' := by
  have hpb := h.cells.2.2.2
  have HQ0 := Lib.hid (PQ.start h); have HT := Lib.hid hT; have HE := Lib.hid he; have HGP := Lib.hid hgp
  have HR0 := Lib.hid (show Rest T aas from ⟨hJ.good, false, hJ.toks.choose, hJ.toks.choose_spec.choose, hJ.toks.choose_spec.choose_spec⟩)
  clear h hJ hT he hgp
  go_enter Tryz.func20, Tryz.ntmps20
  go_wp2
  go_loopw [2, 3, 4] (fun r0 r1 v wr => r0 = .slice none 0 0 ∧ r1 = .nilIface ∧ ∃ (R : List UInt8) (done rest : List (List UInt8 × List UInt8)) (qs : List Nat) (qa : Option Addr) (qc : Nat), v = .slice qa qs.length qc ∧ done ++ rest = aas ∧ Rest R rest ∧ R.length ≤ T.length ∧ PQ pb w (bs R) wr ∧ PLW w done qs (.slice qa qs.length qc) wr) (fun _ _ v _ => aas.length - vlen v)
  case atStart => exact ⟨rfl, rfl, T, [], aas, [], none, 0, rfl, rfl, HR0.out, Nat.le_refl _, HQ0.out, ⟨OwnP.nil _ _, Ptrs.nil _ _⟩⟩
  case round =>
    obtain ⟨rfl, rfl, R, done, rest, qs, qa, qc, rfl, hdr, hrest, hRl, hq, hp⟩ := hrel
    obtain ⟨b, us, l, htk, hlt⟩ := hrest.toks
    obtain ⟨hne, hn44, hn59⟩ := lt_start (Z := []) hlt (by rw [List.append_nil]; exact htk)
    obtain ⟨R1, hR1⟩ : ∃ R1, R.dropWhile isSp = R1 := ⟨_, rfl⟩
    have hg1 : GoodS R1 := by rw [← hR1]; exact hrest.good.skip
    have hR1l : R1.length ≤ R.length := by rw [← hR1]; exact (List.dropWhile_sublist _).length_le
    rw [hR1] at hn44
    obtain ⟨nm, ad, rest2, Z, hre, haddr, hZ⟩ : ∃ nm ad rest2 Z, rest = (nm, ad) :: rest2 ∧ AddrT Z l R1 nm ad ∧ ((rest2 = [] ∧ Z = []) ∨ ∃ x sp us2, Z = ⟨44, x, sp⟩ :: us2 ∧ LT rest2 us2) := by
      cases hlt with
      | one ts nm ad ha =>
        refine ⟨nm, ad, [], [], rfl, ?_, .inl ⟨rfl, rfl⟩⟩
        rw [← hR1]
        exact addrT_of ha (by rw [List.append_nil]; exact htk) (fun z r e => by cases e)
      | more ts us2 nm ad x sp r ha hr =>
        refine ⟨nm, ad, r, _, rfl, ?_, .inr ⟨x, sp, us2, rfl, hr⟩⟩
        rw [← hR1]
        exact addrT_of ha htk (fun z r e => by cases e; exact .inl rfl)
    have HQ := Lib.hid hq; have HPL := Lib.hid hp; have HR1 := Lib.hid hR1; have HA := Lib.hid (show AddrT Z l (R1.dropWhile isSp) nm ad by rw [← hR1, dw_idem, hR1]; exact haddr); have HZ := Lib.hid hZ; have HG1 := Lib.hid hg1; have HN44 := Lib.hid hn44; have HDR := Lib.hid hdr; have HRE := Lib.hid hre
    have HQN := Lib.hid (show qs.length = done.length from hp.ptr.len)
    have HDL := Lib.hid (show done.length + rest2.length + 1 = aas.length by rw [← hdr, hre, List.length_append, List.length_cons]; omega)
    clear hq hp hR1 haddr hZ hg1 hn44 hdr hre hrest htk hlt hne hn59
    go_wp2_with fail
    refine (skipL pb R _ HQ.out.ps (by omega)).mono ?_
    rintro x w1 ⟨rfl, hp1, hf1⟩
    rw [HR1.out] at hp1
    have HQ1 := Lib.hid (HQ.out.step hp1 hf1)
    have HPL1 := Lib.hid (HPL.out.step hpb hf1)
    clear hp1 hf1
    go_wp2_with fail
    refine (consL_no pb 44 R1 _ HQ1.out.ps HN44.out).mono ?_
    rintro x w2 ⟨rfl, m2, rfl⟩
    have HQ2 := Lib.hid (HQ1.out.drewN m2)
    have HPL2 := Lib.hid (HPL1.out.step hpb ((Fr.refl (fun k => k ≠ pb ∧ k < w1.heap.size) w1).drewN m2))
    generalize w1.drewN m2 = w2 at HQ2 HPL2 ⊢
    have HT2 := Lib.hid (tabs_b HT.out HQ2.out.fr HGP.out.1 HGP.out.2.1)
    go_wp2_with fail
    refine (paddr_yes pb Z l true R1 nm ad et ev w2 HQ2.out.ps HG1.out (by omega) HA.out HT2.out ?ce HGP.out).mono ?_
    case ce => rw [HQ2.out.fr.cell ⟨HGP.out.2.2.symm, cell_lt HE.out⟩]; exact HE.out
    rintro x w3 ⟨⟨g, q, rfl, hadr⟩, ⟨R5, b5, hp5, ht5, hg5, hl5⟩, hf3⟩
    have HQ3 := Lib.hid (HQ2.out.step hp5 hf3)
    have HPL3 := Lib.hid (HPL2.out.step hpb hf3)
    have c0 : w3.cell? ⟨g, 0, none⟩ = some (.pointer (some ⟨q, 0, none⟩)) := by rw [Lib.cell_of_heap hadr.row]; rfl
    have hqB : w.heap.size ≤ q := Nat.le_trans HQ2.out.fr.size hadr.hq
    have HAD := Lib.hid hadr.adr; have HT5 := Lib.hid ht5; have HG5 := Lib.hid hg5
    have hB3 := HQ3.out.fr.size
    clear hp5 hf3 hadr ht5 hg5
    go_wp2_with (at_builtin; refine wpList_push_ptr rfl _ _ rfl w.heap.size qs _ g q w3 HPL3.out.own hB3 ?c4 rfl rfl c0 ?_)
    case c4 => have h1 := HQN.out; have h2 := HDL.out; omega
    intro v' w4 hown' hg' hat'
    obtain ⟨qa', qc', hv'⟩ := hown'.form
    have HQ4 := Lib.hid (HQ3.out.grow hpb HPL3.out.own hg')
    have HPL4 := Lib.hid (HPL3.out.push HAD.out hqB hown' hg')
    obtain ⟨n', hn'⟩ : ∃ n', (qs ++ [q]).length = n' := ⟨_, rfl⟩
    rw [hn'] at hv'
    subst hv'
    have HN := Lib.hid hn'
    clear hown' hg' hat' hn' c0
    obtain ⟨R6, hR6⟩ : ∃ R6, R5.dropWhile isSp = R6 := ⟨_, rfl⟩
    have hg6 : GoodS R6 := by rw [← hR6]; exact HG5.out.skip
    have hl6 : R6.length ≤ R5.length := by rw [← hR6]; exact (List.dropWhile_sublist _).length_le
    have HR6 := Lib.hid hR6; have HG6 := Lib.hid hg6
    clear hR6 hg6
    go_wp2_with fail
    refine (cfwsL pb R5 _ HQ4.out.ps (by omega) (toks_no40 HT5.out)).mono ?_
    rintro x w5 ⟨rfl, hp5, hf5⟩
    rw [HR6.out] at hp5
    have HQ5 := Lib.hid (HQ4.out.step hp5 hf5)
    have HPL5 := Lib.hid (HPL4.out.step hpb hf5)
    clear hp5 hf5
    rcases HZ.out with ⟨hr2, hz⟩ | ⟨x, sp, us2, hz, hlt2⟩
    · have hR6n : R6 = [] := by
        have := HT5.out
        rw [hz] at this
        rw [← HR6.out]
        exact toks_none this
      have hfin : done ++ [(nm, ad)] = aas := by rw [← HDR.out, HRE.out, hr2]
      have HFIN := Lib.hid hfin
      rw [hR6n] at HQ5
      clear hr2 hz hfin hR6n
      go_wp2_with fail
      refine (pempty_any pb (.pointer none) (bs []) _ HQ5.out.ps).mono ?_
      rintro x w6 ⟨rfl, hw6⟩
      subst hw6
      rw [show decide ((bs []).size = 0) = true by rfl]
      go_wp2
      go_ret2
      exact ⟨⟨_, _, rfl, by rw [HFIN.out] at HPL5; exact HPL5.out⟩, HQ5.out.fr⟩
    · obtain ⟨u, hu, htu⟩ : ∃ u, R6 = 44 :: u ∧ toksL false u = .good us2 l := by
        have := HT5.out
        rw [hz] at this
        obtain ⟨u, h1, h2⟩ := toks_sign this rfl
        rw [HR6.out] at h1
        exact ⟨u, h1, h2⟩
      obtain ⟨hneu, hnu44, _⟩ := lt_start (Z := []) hlt2 (by rw [List.append_nil]; exact htu)
      obtain ⟨b7, htu7, -⟩ := ph_skip u false
      rw [htu] at htu7
      have hgu : GoodS u := by have := HG6.out; rw [hu] at this; exact this.tail (by decide)
      rw [hu] at HQ5
      have hul : u.length + 1 ≤ R5.length := by rw [hu] at hl6; simpa using hl6
      obtain ⟨U, hU⟩ : ∃ U, u.dropWhile isSp = U := ⟨_, rfl⟩
      have hUl : U.length ≤ u.length := by rw [← hU]; exact (List.dropWhile_sublist _).length_le
      rw [hU] at hneu hnu44 htu7
      obtain ⟨cU, tU, hcU⟩ := hneu
      have HREST := Lib.hid (show Rest U rest2 from ⟨by rw [← hU]; exact hgu.skip, b7, us2, l, htu7.symm, hlt2⟩)
      have HNU := Lib.hid hnu44; have HU := Lib.hid hU; have HCU := Lib.hid hcU
      clear hz hlt2 hu htu hnu44 htu7 hU hgu hcU
      go_wp2_with fail
      refine (pempty_any pb (.pointer none) (bs (44 :: u)) _ HQ5.out.ps).mono ?_
      rintro x w6 ⟨rfl, hw6⟩
      subst hw6
      rw [show decide ((bs (44 :: u)).size = 0) = false by rw [bs_size]; simp]
      obtain ⟨q0, qc0⟩ := bs_cons 44 u
      go_wp2_with fail
      refine (ppeek_any pb (.pointer none) _ 44 _ HQ5.out.ps q0 qc0).mono ?_
      rintro x w7 ⟨rfl, m7, rfl⟩
      have HQ7 := Lib.hid (HQ5.out.drewN m7)
      have HPL7 := Lib.hid (HPL5.out.step hpb ((Fr.refl (fun k => k ≠ pb ∧ k < w6.heap.size) w6).drewN m7))
      clear q0 qc0
      generalize w6.drewN m7 = w8 at HQ7 HPL7 ⊢
      go_wp2
      go_loopw [] (fun wx => (PQ pb w (bs (44 :: u)) wx ∨ PQ pb w (bs U) wx) ∧ PLW w (done ++ [(nm, ad)]) (qs ++ [q]) (.slice qa' n' qc') wx) (fun wx => strOf pb wx)
      case atStart => exact ⟨.inl HQ7.out, HPL7.out⟩
      case round =>
        obtain ⟨hq9, hpl9⟩ := hrel
        have HPL9 := Lib.hid hpl9
        clear hpl9
        rcases hq9 with hq9 | hq9
        · have HQ9 := Lib.hid hq9
          clear hq9
          go_wp2_with fail
          refine (consL_yes pb 44 u _ HQ9.out.ps).mono ?_
          rintro x wa ⟨rfl, hpa, hfa⟩
          have HQA := Lib.hid (HQ9.out.fr1 hpa hfa)
          have HPLA := Lib.hid (HPL9.out.step hpb (hfa.mono (fun _ hk => hk.1)))
          clear hpa hfa
          go_wp2_with fail
          refine (skipL pb u _ HQA.out.ps (by omega)).mono ?_
          rintro x wb ⟨rfl, hpb2, hfb⟩
          rw [HU.out] at hpb2
          have HQB := Lib.hid (HQA.out.step hpb2 hfb)
          have HPLB := Lib.hid (HPLA.out.step hpb hfb)
          clear hpb2 hfb
          go_wp2
          go_roundw
          case rel => exact ⟨.inr HQB.out, HPLB.out⟩
          case measure => rw [HQB.out.ps.strOf, HQ9.out.ps.strOf, bs_size, bs_size, List.length_cons]; omega
        · have HQ9 := Lib.hid hq9
          clear hq9
          go_wp2_with fail
          refine (consL_no pb 44 U _ HQ9.out.ps HNU.out).mono ?_
          rintro x wa ⟨rfl, ma, rfl⟩
          have HQA := Lib.hid (HQ9.out.drewN ma)
          have HPLA := Lib.hid (HPL9.out.step hpb ((Fr.refl (fun k => k ≠ pb ∧ k < wr.heap.size) wr).drewN ma))
          generalize wr.drewN ma = wb at HQA HPLA ⊢
          go_wp2_with fail
          refine (pempty_any pb (.pointer none) (bs U) _ HQA.out.ps).mono ?_
          rintro x wc ⟨rfl, hwc⟩
          subst hwc
          rw [show decide ((bs U).size = 0) = false by rw [bs_size, HCU.out]; simp]
          go_wp2
          go_roundw
          case rel => exact ⟨rfl, rfl, U, done ++ [(nm, ad)], rest2, qs ++ [q], qa', qc', by rw [HN.out], by rw [← HDR.out, HRE.out]; simp, HREST.out, by omega, HQA.out, by rw [HN.out]; exact HPLA.out⟩
          case measure => have h0 := HN.out; have h1 := HQN.out; have h2 := HDL.out; rw [List.length_append, List.length_singleton] at h0; simp only [vlen]; omega
end Go.Proofs.YtpoglombagmhmaaGreatDoor
