/- netmail.consumeGroupList, parseAddress, parseAddressList, on a group of addresses behind a name that is an atom: the walks. -/
import Derived.Test.YtpoglombagmhmaaGreatDoorJ5
import Derived.Test.YtpoglombagmhmaaGreatDoorJ9
namespace Go.Proofs.YtpoglombagmhmaaGreatDoor
open Go Go.RowKit

/-- 'append(list, addrs...)' of a row of pointers to nothing. -/
theorem wpList_push_ptrs {ops : Array Oper} {rest : List Oper} {o : Oper} {a : Act} {Q : Exit → Act → World → Prop} (hgd : o.guard = none) (s x : Operand)
    (ho : o.op = .call { callee := .builtin .append, args := #[s, x], argTypes := #[42, 42] })
    (B : Nat) (qs : List Nat) (g c : Nat) (wr : World) (hB : B ≤ wr.heap.size) (hlen : qs.length ≤ 1048576) (h0 : qs ≠ []) (hs : a.eval s = .slice none 0 0) (hx : a.eval x = .slice (some ⟨g, 0, none⟩) qs.length c) (hc : ∀ (i q : Nat), qs[i]? = some q → wr.cell? ⟨g, i, none⟩ = some (.pointer (some ⟨q, 0, none⟩)))
    (h : ∀ v' w', OwnP B qs v' w' → wr.grownBy w' none → wpList Tryz.prog ops Q rest (a.put o.dst v') w') :
    wpList Tryz.prog ops Q (o :: rest) a wr := by
  obtain ⟨i0, hi, hz0, hz1, hz2⟩ := info_parts3 infoPtr
  refine wpList_append_own_at _ hgd s x 42 ho B 48 i0 _ 1 8 Tryz.underlying42 hi hz0 hz1 hz2 rfl (by decide) (.slice none 0 0) 0 [] hs (World.ownsRow_nil _ _ _ _) ⟨g, 0, none⟩ qs.length c (ptrCells qs) hx (by simp [ptrCells]) ?_ (fun u hu => ?_) (by unfold maxLen; omega) (by omega) (by have := List.length_pos_iff.2 h0; omega) (fun v' w' h1 h2 _ _ => h v' w' ?_ h2)
  · intro j u hj
    unfold ptrCells at hj
    rw [List.getElem?_map] at hj
    cases hq : qs[j]? with
    | none => rw [hq] at hj; cases hj
    | some q =>
      rw [hq] at hj
      have hadd : (⟨g, 0, none⟩ : Addr).add j = ⟨g, j, none⟩ := by unfold Addr.add; split <;> simp_all
      rw [hadd, hc j q hq]
      simpa using hj
  · unfold ptrCells at hu
    obtain ⟨q, _, rfl⟩ := List.mem_map.1 hu
    rfl
  · unfold OwnP
    simpa using h1

/-- Addresses are left to be read, and a semicolon. -/
structure RestS (R : List UInt8) (rest : List (List UInt8 × List UInt8)) : Prop where
  good : GoodS R
  toks : ∃ b us x sp l, toksL b R = .good (us ++ [⟨59, x, sp⟩]) l ∧ LT rest us

set_option maxHeartbeats 4000000 in
set_option maxRecDepth 100000 in
theorem cgroup_yes (pb : Nat) (U : List UInt8) (aas : List (List UInt8 × List UInt8)) (et : TypeId) (ev : Value) (w : World) (h : PS pb (.pointer none) (bs U) w) (hR : RestS U aas) (hl : U.length ≤ 4294967296) (hal : aas.length ≤ 1048576)
    (hT : Lib.Utf8Tabs 0 1 w) (he : w.cell? ⟨2, 0, none⟩ = some (.iface et ev)) (hgp : pb ≠ 0 ∧ pb ≠ 1 ∧ pb ≠ 2) :
    Calls Tryz.prog 44 #[.pointer (some ⟨pb, 0, none⟩)] w fun x w' => (∃ qs v, x = .returned (.tuple #[v, .nilIface]) ∧ PLW w aas qs v w') ∧ PS pb (.pointer none) (bs []) w' ∧ Fr (fun k => k ≠ pb ∧ k < w.heap.size) w w' := by
  have hpb := h.cells.2.2.2
  obtain ⟨U1, hU1⟩ : ∃ U1, U.dropWhile isSp = U1 := ⟨_, rfl⟩
  have hR1 : RestS U1 aas ∧ (∀ t, U1 ≠ 59 :: t) ∧ U1.length ≤ U.length := by
    obtain ⟨b, us, x, sp, l, h1, h2⟩ := hR.toks
    obtain ⟨b', hb', _⟩ := ph_skip U b
    rw [hb', hU1] at h1
    refine ⟨⟨by rw [← hU1]; exact hR.good.skip, b', us, x, sp, l, h1, h2⟩, ?_, by rw [← hU1]; exact (List.dropWhile_sublist _).length_le⟩
    have := (lt_start (R := U1) h2 h1).2.2
    rw [← hU1, dw_idem, hU1] at this
    exact this
  have HQ0 := Lib.hid (PQ.start h); have HT := Lib.hid hT; have HE := Lib.hid he; have HGP := Lib.hid hgp; have HU1 := Lib.hid hU1; have HR1 := Lib.hid hR1.1; have HN59 := Lib.hid hR1.2.1
  have hU1l := hR1.2.2
  clear h hR hT he hgp hU1 hR1
  go_enter Tryz.func44, Tryz.ntmps44
  go_wp2_with fail
  refine (skipL pb U _ HQ0.out.ps (by omega)).mono ?_
  rintro x w1 ⟨rfl, hp1, hf1⟩
  rw [HU1.out] at hp1
  have HQ1 := Lib.hid (HQ0.out.step hp1 hf1)
  clear hp1 hf1
  go_wp2_with fail
  refine (consL_no pb 59 U1 _ HQ1.out.ps HN59.out).mono ?_
  rintro x w2 ⟨rfl, m2, rfl⟩
  have HQ2 := Lib.hid (HQ1.out.drewN m2)
  generalize w1.drewN m2 = w2 at HQ2 ⊢
  go_wp2
  go_loopw [2, 3, 4] (fun r0 r1 v wr => r0 = .slice none 0 0 ∧ r1 = .nilIface ∧ ∃ (R : List UInt8) (done rest : List (List UInt8 × List UInt8)) (qs : List Nat) (qa : Option Addr) (qc : Nat), v = .slice qa qs.length qc ∧ done ++ rest = aas ∧ RestS R rest ∧ R.length ≤ U.length ∧ PQ pb w (bs R) wr ∧ PLW w done qs (.slice qa qs.length qc) wr) (fun _ _ v _ => aas.length - vlen v)
  case atStart => exact ⟨rfl, rfl, U1, [], aas, [], none, 0, rfl, rfl, HR1.out, hU1l, HQ2.out, ⟨OwnP.nil _ _, Ptrs.nil _ _⟩⟩
  case round =>
    obtain ⟨rfl, rfl, R, done, rest, qs, qa, qc, rfl, hdr, hrest, hRl, hq, hp⟩ := hrel
    obtain ⟨b, us, x0, sp0, l, htk, hlt⟩ := hrest.toks
    obtain ⟨R1, hR1⟩ : ∃ R1, R.dropWhile isSp = R1 := ⟨_, rfl⟩
    have hg1 : GoodS R1 := by rw [← hR1]; exact hrest.good.skip
    have hR1l : R1.length ≤ R.length := by rw [← hR1]; exact (List.dropWhile_sublist _).length_le
    obtain ⟨nm, ad, rest2, Z, hre, haddr, hZ⟩ : ∃ nm ad rest2 Z, rest = (nm, ad) :: rest2 ∧ AddrT Z l R1 nm ad ∧ ((rest2 = [] ∧ Z = [⟨59, x0, sp0⟩]) ∨ ∃ x sp us2, Z = ⟨44, x, sp⟩ :: (us2 ++ [⟨59, x0, sp0⟩]) ∧ LT rest2 us2) := by
      cases hlt with
      | one ts nm ad ha =>
        refine ⟨nm, ad, [], _, rfl, ?_, .inl ⟨rfl, rfl⟩⟩
        rw [← hR1]
        exact addrT_of ha htk (fun z r e => by cases e; exact .inr rfl)
      | more ts us2 nm ad x sp r ha hr =>
        refine ⟨nm, ad, r, _, rfl, ?_, .inr ⟨x, sp, us2, rfl, hr⟩⟩
        rw [← hR1]
        exact addrT_of ha (by rw [htk]; simp) (fun z r e => by cases e; exact .inl rfl)
    have HQ := Lib.hid hq; have HPL := Lib.hid hp; have HR1 := Lib.hid hR1; have HA := Lib.hid (show AddrT Z l (R1.dropWhile isSp) nm ad by rw [← hR1, dw_idem, hR1]; exact haddr); have HZ := Lib.hid hZ; have HG1 := Lib.hid hg1; have HDR := Lib.hid hdr; have HRE := Lib.hid hre
    have HQN := Lib.hid (show qs.length = done.length from hp.ptr.len)
    have HDL := Lib.hid (show done.length + rest2.length + 1 = aas.length by rw [← hdr, hre, List.length_append, List.length_cons]; omega)
    clear hq hp hR1 haddr hZ hg1 hdr hre hrest htk hlt
    go_wp2_with fail
    refine (skipL pb R _ HQ.out.ps (by omega)).mono ?_
    rintro x w1 ⟨rfl, hp1, hf1⟩
    rw [HR1.out] at hp1
    have HQ1 := Lib.hid (HQ.out.step hp1 hf1)
    have HPL1 := Lib.hid (HPL.out.step hpb hf1)
    clear hp1 hf1
    have HT2 := Lib.hid (tabs_b HT.out HQ1.out.fr HGP.out.1 HGP.out.2.1)
    go_wp2_with fail
    refine (paddr_yes pb Z l false R1 nm ad et ev w1 HQ1.out.ps HG1.out (by omega) HA.out HT2.out ?ce HGP.out).mono ?_
    case ce => rw [HQ1.out.fr.cell ⟨HGP.out.2.2.symm, cell_lt HE.out⟩]; exact HE.out
    rintro x w3 ⟨⟨g, q, rfl, hadr⟩, ⟨R5, b5, hp5, ht5, hg5, hl5⟩, hf3⟩
    have HQ3 := Lib.hid (HQ1.out.step hp5 hf3)
    have HPL3 := Lib.hid (HPL1.out.step hpb hf3)
    have c0 : w3.cell? ⟨g, 0, none⟩ = some (.pointer (some ⟨q, 0, none⟩)) := by rw [Lib.cell_of_heap hadr.row]; rfl
    have hqB : w.heap.size ≤ q := Nat.le_trans HQ1.out.fr.size hadr.hq
    have HAD := Lib.hid hadr.adr; have HT5 := Lib.hid ht5; have HG5 := Lib.hid hg5
    have hB3 := HQ3.out.fr.size
    clear hp5 hf3 hadr ht5 hg5
    go_wp2_with (at_builtin; refine wpList_push_ptr rfl _ _ rfl w.heap.size qs _ g q w3 HPL3.out.own hB3 ?c4 rfl rfl c0 ?_)
    case c4 => have h1 := HQN.out; have h2 := HDL.out; omega
    intro v' w4 hown' hg' hat'
    obtain ⟨qa', qc', hv'⟩ := hown'.form
    have HQ4 := Lib.hid (HQ3.out.grow hpb HPL3.out.own hg')
    have HPL4 := Lib.hid (HPL3.out.push HAD.out hqB hown' hg')
    obtain ⟨n', hn'⟩ : ∃ n', (qs ++ [q]).length = n' := ⟨_, rfl⟩
    rw [hn'] at hv'
    subst hv'
    have HN := Lib.hid hn'
    clear hown' hg' hat' hn' c0
    obtain ⟨R6, hR6⟩ : ∃ R6, R5.dropWhile isSp = R6 := ⟨_, rfl⟩
    have hg6 : GoodS R6 := by rw [← hR6]; exact HG5.out.skip
    have hl6 : R6.length ≤ R5.length := by rw [← hR6]; exact (List.dropWhile_sublist _).length_le
    have HR6 := Lib.hid hR6; have HG6 := Lib.hid hg6
    clear hR6 hg6
    go_wp2_with fail
    refine (cfwsL pb R5 _ HQ4.out.ps (by omega) (toks_no40 HT5.out)).mono ?_
    rintro x w5 ⟨rfl, hp5, hf5⟩
    rw [HR6.out] at hp5
    have HQ5 := Lib.hid (HQ4.out.step hp5 hf5)
    have HPL5 := Lib.hid (HPL4.out.step hpb hf5)
    clear hp5 hf5
    rcases HZ.out with ⟨hr2, hz⟩ | ⟨x, sp, us2, hz, hlt2⟩
    · obtain ⟨u, hu, htu⟩ : ∃ u, R6 = 59 :: u ∧ toksL false u = .good [] l := by
        have := HT5.out
        rw [hz] at this
        obtain ⟨u, h1, h2⟩ := toks_sign this rfl
        rw [HR6.out] at h1
        exact ⟨u, h1, h2⟩
      have hfin : done ++ [(nm, ad)] = aas := by rw [← HDR.out, HRE.out, hr2]
      have HFIN := Lib.hid hfin
      have HUN := Lib.hid (toks_none htu)
      rw [hu] at HQ5
      have hul : u.length + 1 ≤ R5.length := by rw [hu] at hl6; simpa using hl6
      clear hr2 hz hfin hu htu
      go_wp2_with fail
      refine (consL_yes pb 59 u _ HQ5.out.ps).mono ?_
      rintro x w6 ⟨rfl, hp6, hf6⟩
      have HQ6 := Lib.hid (HQ5.out.fr1 hp6 hf6)
      have HPL6 := Lib.hid (HPL5.out.step hpb (hf6.mono (fun _ hk => hk.1)))
      clear hp6 hf6
      go_wp2_with fail
      refine (cfwsL pb u _ HQ6.out.ps (by omega) (fun t e => by rw [HUN.out] at e; cases e)).mono ?_
      rintro x w7 ⟨rfl, hp7, hf7⟩
      rw [HUN.out] at hp7
      have HQ7 := Lib.hid (HQ6.out.step hp7 hf7)
      have HPL7 := Lib.hid (HPL6.out.step hpb hf7)
      clear hp7 hf7
      go_wp2
      go_ret2
      exact ⟨⟨_, _, rfl, by rw [HFIN.out] at HPL7; exact HPL7.out⟩, HQ7.out.ps, HQ7.out.fr⟩
    · obtain ⟨u, hu, htu⟩ : ∃ u, R6 = 44 :: u ∧ toksL false u = .good (us2 ++ [⟨59, x0, sp0⟩]) l := by
        have := HT5.out
        rw [hz] at this
        obtain ⟨u, h1, h2⟩ := toks_sign this rfl
        rw [HR6.out] at h1
        exact ⟨u, h1, h2⟩
      have hgu : GoodS u := by have := HG6.out; rw [hu] at this; exact this.tail (by decide)
      rw [hu] at HQ5
      have hul : u.length + 1 ≤ R5.length := by rw [hu] at hl6; simpa using hl6
      have HREST := Lib.hid (show RestS u rest2 from ⟨hgu, false, us2, x0, sp0, l, htu, hlt2⟩)
      clear hz hlt2 hu htu hgu
      go_wp2_with fail
      refine (consL_no pb 59 (44 :: u) _ HQ5.out.ps (fun t e => by injection e with e _; exact absurd e (by decide))).mono ?_
      rintro x w6 ⟨rfl, m6, rfl⟩
      have HQ6 := Lib.hid (HQ5.out.drewN m6)
      have HPL6 := Lib.hid (HPL5.out.step hpb ((Fr.refl (fun k => k ≠ pb ∧ k < w5.heap.size) w5).drewN m6))
      generalize w5.drewN m6 = w6 at HQ6 HPL6 ⊢
      go_wp2_with fail
      refine (consL_yes pb 44 u _ HQ6.out.ps).mono ?_
      rintro x w7 ⟨rfl, hp7, hf7⟩
      have HQ7 := Lib.hid (HQ6.out.fr1 hp7 hf7)
      have HPL7 := Lib.hid (HPL6.out.step hpb (hf7.mono (fun _ hk => hk.1)))
      clear hp7 hf7
      go_wp2
      go_roundw
      case rel => exact ⟨rfl, rfl, u, done ++ [(nm, ad)], rest2, qs ++ [q], qa', qc', by rw [HN.out], by rw [← HDR.out, HRE.out]; simp, HREST.out, by omega, HQ7.out, by rw [HN.out]; exact HPL7.out⟩
      case measure => have h0 := HN.out; have h1 := HQN.out; have h2 := HDL.out; rw [List.length_append, List.length_singleton] at h0; simp only [vlen]; omega

theorem OwnP.mono {B B' : Nat} {qs : List Nat} {v : Value} {w : World} (h : OwnP B qs v w) (hB : B' ≤ B) : OwnP B' qs v w := by
  refine ⟨h.1, ?_⟩
  rcases h.2 with ⟨a, b⟩ | ⟨g, cap, cur, hv, hg, rest⟩
  · exact .inl ⟨a, b⟩
  · exact .inr ⟨g, cap, cur, hv, Nat.le_trans hB hg, rest⟩
theorem PLW.base {w0 w wx : World} {aas : List (List UInt8 × List UInt8)} {qs : List Nat} {v : Value} (h : PLW w aas qs v wx) (hB : w0.heap.size ≤ w.heap.size) : PLW w0 aas qs v wx :=
  ⟨h.own.mono hB, h.ptr.len, fun i q p h1 h2 => ⟨(h.ptr.adr i q p h1 h2).1, Nat.le_trans hB (h.ptr.adr i q p h1 h2).2⟩⟩
theorem group_tokens {G N T : List UInt8} {aas : List (List UInt8 × List UInt8)} (h : GT G N T aas) : ∃ us l, toksL false G = .good ([⟨97, N, false⟩] ++ ⟨58, [], false⟩ :: (us ++ [⟨59, [], l⟩])) false ∧ LT aas us := by
  obtain ⟨us, l, h1, h2⟩ := h.toks
  refine ⟨us, l, ?_, h2⟩
  rw [h.text, tk_atom false N _ h.ne (fun c hc => (h.atom c hc).1) (fun c t e => by cases e; decide), tk_sign false 58 _ (by decide) (by decide) (by decide) (by decide) (by decide), h1]
  rfl

set_option maxHeartbeats 4000000 in
set_option maxRecDepth 100000 in
theorem paddr_group (pb : Nat) (G N T : List UInt8) (aas : List (List UInt8 × List UInt8)) (et : TypeId) (ev : Value) (w : World) (h : PS pb (.pointer none) (bs G) w) (hG : GT G N T aas) (hl : G.length ≤ 4294967296) (hal : aas.length ≤ 1048576)
    (hT : Lib.Utf8Tabs 0 1 w) (he : w.cell? ⟨2, 0, none⟩ = some (.iface et ev)) (hgp : pb ≠ 0 ∧ pb ≠ 1 ∧ pb ≠ 2) :
    Calls Tryz.prog 33 #[.pointer (some ⟨pb, 0, none⟩), .bool true] w fun x w' => (∃ qs v, x = .returned (.tuple #[v, .nilIface]) ∧ PLW w aas qs v w') ∧ PS pb (.pointer none) (bs []) w' ∧ Fr (fun k => k ≠ pb ∧ k < w.heap.size) w w' := by
  have hpb := h.cells.2.2.2
  obtain ⟨us, l, htk, hlt⟩ := group_tokens hG
  obtain ⟨c, N', hN⟩ : ∃ c N', N = c :: N' := by
    cases hh : N with
    | nil => exact absurd hh hG.ne
    | cons c t => exact ⟨c, t, rfl⟩
  have hca : atomB c = true := (hG.atom c (by rw [hN]; simp)).1
  have hcs : isSp c = false := atom_neSp hca
  obtain ⟨t, hGc⟩ : ∃ t, G = c :: t := ⟨_, by rw [hG.text, hN]; rfl⟩
  have hD : DotsT false N := by
    have := DotsT.atom N [] hG.ne (fun c hc => (hG.atom c hc).1) .nil
    rwa [List.append_nil] at this
  have hwh := dots_while (r := 58 :: (T ++ [59])) hD (fun c t e => by cases e; decide)
  have hCA : CA G none := .atom N hG.ne (fun c hc => (hG.atom c hc).1) (by rw [hG.text]; exact hwh.1) (by rw [hG.text, hwh.2]; exact fun t e => by cases e)
  have hnm : nameG [⟨97, N, false⟩] 0 true false [] = (true, N) := by
    rw [nameG, nameG]
    simp [nBad, nDec, nCode, nText, hG.mark]
  have HQ0 := Lib.hid (PQ.start h); have HGG := Lib.hid hG.good; have HTK := Lib.hid htk; have HLT := Lib.hid hlt; have HCA := Lib.hid hCA; have HNM := Lib.hid hnm; have HGC := Lib.hid hGc; have HT := Lib.hid hT; have HE := Lib.hid he; have HGP := Lib.hid hgp
  clear h hG htk hlt hN hGc hD hwh hCA hnm hT he hgp
  go_enter Tryz.func33, Tryz.ntmps33
  go_wp2_with fail
  refine (skipL pb G _ HQ0.out.ps (by omega)).mono ?_
  rintro x w1 ⟨rfl, hp1, hf1⟩
  rw [HGC.out, nosp_drop hcs, ← HGC.out] at hp1
  have HQ1 := Lib.hid (HQ0.out.step hp1 hf1)
  clear hp1 hf1
  go_wp2_with fail
  refine (pempty_any pb (.pointer none) (bs G) _ HQ1.out.ps).mono ?_
  rintro x w2 ⟨rfl, hw2⟩
  subst hw2
  rw [show decide ((bs G).size = 0) = false by rw [bs_size, HGC.out]; simp]
  have HT1 := Lib.hid (tabs_b HT.out HQ1.out.fr HGP.out.1 HGP.out.2.1)
  go_wp2_with fail
  refine (caddr_any pb G none w2 HQ1.out.ps (by omega) HGG.out HCA.out HT1.out ⟨HGP.out.1, HGP.out.2.1⟩).mono ?_
  rintro y w3 ⟨⟨⟨et3, ev3, rfl⟩, hp3⟩, hf3⟩
  have HQ3 := Lib.hid (HQ1.out.step hp3 hf3)
  clear hp3 hf3
  obtain ⟨p0, pc⟩ : ∃ h0 : 0 < (bs G).size, (bs G)[0] = c := by rw [HGC.out]; exact bs_cons c t
  have z60 : ((c.toNat : Int) == 60) = false := cneq (x := 60) (fun e => by rw [e] at hca; exact absurd hca (by decide))
  go_wp2_with fail
  refine (ppeek_any pb (.pointer none) _ c _ HQ3.out.ps p0 pc).mono ?_
  rintro y w4 ⟨rfl, m4, rfl⟩
  have HQ4 := Lib.hid (HQ3.out.drewN m4)
  clear p0 pc
  generalize w3.drewN m4 = w5 at HQ4 ⊢
  have HT5 := Lib.hid (tabs_b HT.out HQ4.out.fr HGP.out.1 HGP.out.2.1)
  go_wp2_with fail
  refine (cphrase_gen pb G N [⟨97, N, false⟩] (⟨58, [], false⟩ :: (us ++ [⟨59, [], l⟩])) false false et ev _ HQ4.out.ps HGG.out (by omega) (EndZ.cons _ rfl) HTK.out (fun u hu => by rw [List.mem_singleton.1 hu]; rfl) HNM.out (by simp) HT5.out ?ce HGP.out).mono ?_
  case ce => rw [HQ4.out.fr.cell ⟨HGP.out.2.2.symm, cell_lt HE.out⟩]; exact HE.out
  rintro y w6 ⟨rfl, ⟨Re, be, hp6, hre, hte, hge, hle⟩, hf6⟩
  have HQ6 := Lib.hid (HQ4.out.step hp6 hf6)
  obtain ⟨U, hU0, htU⟩ := toks_sign hte rfl
  rw [hre] at hU0
  subst hU0
  have HR := Lib.hid (show RestS U aas from ⟨hge.tail (by decide), false, us, [], l, false, htU, HLT.out⟩)
  have hUl : U.length + 1 ≤ G.length := by simpa using hle
  clear hp6 hf6 hre hte hge hle htU
  go_wp2_with fail
  refine (skipL pb (58 :: U) _ HQ6.out.ps (by simp; omega)).mono ?_
  rintro y w7 ⟨rfl, hp7, hf7⟩
  rw [nosp_drop (show isSp 58 = false by decide)] at hp7
  have HQ7 := Lib.hid (HQ6.out.step hp7 hf7)
  clear hp7 hf7
  go_wp2_with fail
  refine (consL_yes pb 58 U _ HQ7.out.ps).mono ?_
  rintro y w8 ⟨rfl, hp8, hf8⟩
  have HQ8 := Lib.hid (HQ7.out.fr1 hp8 hf8)
  have HT8 := Lib.hid (tabs_b HT.out HQ8.out.fr HGP.out.1 HGP.out.2.1)
  clear hp8 hf8
  go_wp2_with fail
  refine (cgroup_yes pb U aas et ev _ HQ8.out.ps HR.out (by omega) hal HT8.out ?ce HGP.out).mono ?_
  case ce => rw [HQ8.out.fr.cell ⟨HGP.out.2.2.symm, cell_lt HE.out⟩]; exact HE.out
  rintro y w9 ⟨⟨qs, v, rfl, hpl⟩, hp9, hf9⟩
  have HQ9 := Lib.hid (HQ8.out.step hp9 hf9)
  have HPL := Lib.hid (hpl.base HQ8.out.fr.size)
  clear hpl hp9 hf9
  go_wp2
  go_ret2
  exact ⟨⟨qs, v, rfl, HPL.out⟩, HQ9.out.ps, HQ9.out.fr⟩

set_option maxHeartbeats 4000000 in
set_option maxRecDepth 100000 in
theorem plist_group (G N T : List UInt8) (aas : List (List UInt8 × List UInt8)) (hG : GT G N T aas) (hl : G.length ≤ 4294967296) (hal : aas.length ≤ 1048576) (h0 : aas ≠ []) : ListOf G aas := by
  intro pb et ev w h hT he hgp
  have hpb := h.cells.2.2.2
  obtain ⟨c, t, hGc, hca⟩ : ∃ c t, G = c :: t ∧ atomB c = true := by
    cases hh : N with
    | nil => exact absurd hh hG.ne
    | cons c t => exact ⟨c, _, by rw [hG.text, hh]; rfl, (hG.atom c (by rw [hh]; simp)).1⟩
  have hcs : isSp c = false := atom_neSp hca
  have HQ0 := Lib.hid (PQ.start h); have HG := Lib.hid hG; have HT := Lib.hid hT; have HE := Lib.hid he; have HGP := Lib.hid hgp; have HGC := Lib.hid hGc
  clear h hG hT he hgp hGc
  go_enter Tryz.func20, Tryz.ntmps20
  go_wp2
  go_loopw [2, 3, 4] (fun r0 r1 v wr => r0 = .slice none 0 0 ∧ r1 = .nilIface ∧ v = .slice none 0 0 ∧ PQ pb w (bs G) wr) (fun _ _ _ _ => 0)
  case atStart => exact ⟨rfl, rfl, rfl, HQ0.out⟩
  case round =>
    obtain ⟨rfl, rfl, rfl, hq⟩ := hrel
    have HQ := Lib.hid hq
    clear hq HQ0
    go_wp2_with fail
    refine (skipL pb G _ HQ.out.ps (by omega)).mono ?_
    rintro x w1 ⟨rfl, hp1, hf1⟩
    rw [HGC.out, nosp_drop hcs, ← HGC.out] at hp1
    have HQ1 := Lib.hid (HQ.out.step hp1 hf1)
    clear hp1 hf1
    go_wp2_with fail
    refine (consL_no pb 44 G _ HQ1.out.ps (fun t e => by rw [HGC.out] at e; injection e with e _; rw [e] at hca; exact absurd hca (by decide))).mono ?_
    rintro x w2 ⟨rfl, m2, rfl⟩
    have HQ2 := Lib.hid (HQ1.out.drewN m2)
    generalize w1.drewN m2 = w2 at HQ2 ⊢
    have HT2 := Lib.hid (tabs_b HT.out HQ2.out.fr HGP.out.1 HGP.out.2.1)
    go_wp2_with fail
    refine (paddr_group pb G N T aas et ev w2 HQ2.out.ps HG.out hl hal HT2.out ?ce HGP.out).mono ?_
    case ce => rw [HQ2.out.fr.cell ⟨HGP.out.2.2.symm, cell_lt HE.out⟩]; exact HE.out
    rintro x w3 ⟨⟨qs, v, rfl, hpl⟩, hp3, hf3⟩
    have HQ3 := Lib.hid (HQ2.out.step hp3 hf3)
    have hplw := hpl.base HQ2.out.fr.size
    have hq0 : qs ≠ [] := by
      rintro rfl
      have := hplw.ptr.len
      exact h0 (List.eq_nil_of_length_eq_zero (by rw [← this]; rfl))
    obtain ⟨g, cc, rfl, hcell⟩ := hplw.own.at hq0
    have HPL := Lib.hid hplw; have HCELL := Lib.hid hcell
    have hB3 := HQ3.out.fr.size
    have HQN := Lib.hid hplw.ptr.len
    clear hpl hp3 hf3 hplw hcell
    go_wp2_with (at_builtin; refine wpList_push_ptrs rfl _ _ rfl w.heap.size qs g cc w3 hB3 ?c4 hq0 rfl rfl HCELL.out ?_)
    case c4 => rw [HQN.out]; exact hal
    intro v' w4 hown' hg'
    have hf : Fr (fun k => k < w3.heap.size) w3 w4 := (Fr.refl _ w3).grown hg' (fun k hk => hk) (fun k e => by cases e)
    have HQ4 := Lib.hid (show PQ pb w (bs []) w4 from ⟨HQ3.out.ps.fr (hf.block pb (heap_lt HQ3.out.ps)), HQ3.out.fr.trans (hf.mono (fun k hk => Nat.lt_of_lt_of_le hk.2 hB3))⟩)
    have HPL4 := Lib.hid (show PLW w aas qs v' w4 from ⟨hown', HPL.out.ptr.fr (fun q _ ⟨_, hq⟩ => hf.block q (heap_lt hq))⟩)
    obtain ⟨qa', qc', hv'⟩ := hown'.form
    subst hv'
    clear hown' hg' hf
    go_wp2_with fail
    refine (cfwsL pb [] _ HQ4.out.ps (by simp) (fun t e => by cases e)).mono ?_
    rintro x w5 ⟨rfl, hp5, hf5⟩
    have HQ5 := Lib.hid (HQ4.out.step hp5 hf5)
    have HPL5 := Lib.hid (HPL4.out.step hpb hf5)
    clear hp5 hf5
    go_wp2_with fail
    refine (pempty_any pb (.pointer none) _ _ HQ5.out.ps).mono ?_
    rintro x w6 ⟨rfl, hw6⟩
    subst hw6
    rw [show decide ((bs (List.dropWhile isSp [])).size = 0) = true by rfl]
    go_wp2
    go_ret2
    exact ⟨⟨qs, _, rfl, HPL5.out⟩, HQ5.out.fr⟩
end Go.Proofs.YtpoglombagmhmaaGreatDoor
