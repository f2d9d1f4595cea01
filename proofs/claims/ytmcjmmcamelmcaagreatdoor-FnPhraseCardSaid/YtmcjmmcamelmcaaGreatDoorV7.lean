/- spec.parser: address, a name and an address in angles: the walk. -/
import Derived.Test.YtmcjmmcamelmcaaGreatDoorV6
namespace Go.Proofs.YtmcjmmcamelmcaaGreatDoor
open Go Go.RowKit

theorem localG_len : ∀ (us : List Tok) (k : Nat) (ok : Bool) (out : List UInt8), (localG us k ok out).2.1.length ≤ out.length + 2 * tlen us
  | [], k, ok, out => by simp [localG]
  | t :: r, k, ok, out => by
    rw [localG]
    have ht : tlen (t :: r) = t.text.length + 1 + tlen r := by simp [tlen]
    split
    · simp
    · have h := localG_len r (k + 1) (ok && !(decide (0 < k) && t.space) && !(t.kind == 113)) (out ++ (if t.kind = 46 then [46] else []) ++ t.text)
      have h2 : (if t.kind = 46 then [46] else ([] : List UInt8)).length ≤ 1 := by split <;> simp
      simp only [List.length_append] at h
      omega
theorem domainG_len : ∀ (n : Nat) (us : List Tok) (ok : Bool) (out : List UInt8), us.length ≤ n → (domainG us ok out).2.2.1.length ≤ out.length + 2 * tlen us
  | _, [], ok, out, _ => by simp [domainG]
  | _, [t], ok, out, _ => by
    rw [domainG]
    split
    · simp [tlen]; omega
    · simp
  | 0, t :: d :: r, ok, out, h => by simp at h
  | n + 1, t :: d :: r, ok, out, h => by
    rw [domainG]
    have ht : tlen (t :: d :: r) = t.text.length + 1 + (d.text.length + 1 + tlen r) := by simp [tlen]
    split
    · split
      · have h := domainG_len n r (ok && !t.space && !d.space) (out ++ t.text ++ [46]) (by simp at h; omega)
        simp only [List.length_append, List.length_cons, List.length_nil] at h
        omega
      · simp; omega
    · simp
theorem tlen_drop (ts : List Tok) (n : Nat) : tlen (ts.drop n) ≤ tlen ts := by
  have h := tlen_app (ts.take n) (ts.drop n)
  rw [List.take_append_drop] at h
  omega
theorem tlen_while (p : Tok → Bool) : ∀ ts : List Tok, tlen (ts.takeWhile p) ≤ tlen ts
  | [] => by simp
  | t :: r => by
    have := tlen_while p r
    rw [List.takeWhile_cons]
    split
    · simp only [tlen, List.map_cons, List.sum_cons] at this ⊢; omega
    · simp [tlen]

theorem tabs_par {pb : Nat} {w w' : World} (h : Lib.Utf8Tabs 0 1 w) (hf : Fr (· ≠ pb) w w') (hgb : pb ≠ 0 ∧ pb ≠ 1) : Lib.Utf8Tabs 0 1 w' :=
  tabs_frk (K := fun b => b ≠ pb) h hf (fun _ e => hgb.1 e.symm) (fun _ e => hgb.2 e.symm)

/-- The parser, and the address at hand in block ab. -/
structure AW (pb : Nat) (tv : Value) (ts : List Tok) (ab : Nat) (nm : List UInt8) (w : World) (m : Nat) (ok : Bool) (wx : World) : Prop where
  par : Par pb tv ts m ok wx
  fr : Fr (fun b => b ≠ pb ∧ b < w.heap.size) w wx
  blk : wx.heap[ab]? = some (.cells #[.string (bs nm), .string ⟨#[]⟩] 23 (0, 0))
  ne : ab ≠ pb
theorem AW.step {pb : Nat} {tv : Value} {ts : List Tok} {ab : Nat} {nm : List UInt8} {w : World} {m m' : Nat} {ok ok' : Bool} {wx wy : World} (h : AW pb tv ts ab nm w m ok wx) (hp : Par pb tv ts m' ok' wy) (hf : Fr (fun b => b ≠ pb ∧ b < wx.heap.size) wx wy) : AW pb tv ts ab nm w m' ok' wy :=
  ⟨hp, h.fr.trans (hf.mono (fun _ hk => ⟨hk.1, Nat.lt_of_lt_of_le hk.2 h.fr.size⟩)), (hf.block ab ⟨h.ne, (Array.getElem?_eq_some_iff.1 h.blk).1⟩).trans h.blk, h.ne⟩
theorem AW.step' {pb : Nat} {tv : Value} {ts : List Tok} {ab : Nat} {nm : List UInt8} {w : World} {m m' : Nat} {ok ok' : Bool} {wx wy : World} (h : AW pb tv ts ab nm w m ok wx) (hp : Par pb tv ts m' ok' wy) (hf : Fr (· ≠ pb) wx wy) : AW pb tv ts ab nm w m' ok' wy := h.step hp (hf.mono (fun _ hk => hk.1))
theorem AW.drewN {pb : Nat} {tv : Value} {ts : List Tok} {ab : Nat} {nm : List UInt8} {w : World} {m : Nat} {ok : Bool} {wx : World} (h : AW pb tv ts ab nm w m ok wx) (q : Nat) : AW pb tv ts ab nm w m ok (wx.drewN q) := h.step' (h.par.drewN q) ((Fr.refl _ wx).drewN q)

theorem own_other {w : World} {B sz : Nat} {e T : TypeId} {v : Value} {n : Nat} {xs : List Value} {b : Nat} {cs : Array Value} {fr : Nat × Nat} (hown : w.ownsRow B e sz v n xs) (hb : w.heap[b]? = some (.cells cs T fr)) (hTe : T ≠ e) : v.ownBlock ≠ some b := by
  rcases hown.2 with ⟨rfl, _⟩ | ⟨g, cap, cur, rfl, _, hg, _⟩
  · simp [Value.ownBlock]
  · intro h
    simp only [Value.ownBlock, Option.some.injEq] at h
    subst h
    rw [hg] at hb
    cases hb
    exact hTe rfl
theorem AW.put {pb : Nat} {tv : Value} {ts : List Tok} {ab : Nat} {nm : List UInt8} {w : World} {m : Nat} {ok : Bool} {wx : World} (h : AW pb tv ts ab nm w m ok wx) (hab : w.heap.size ≤ ab) (u : Value) : Par pb tv ts m ok (wx.setCell ⟨ab, 1, none⟩ u) ∧ Fr (fun b => b ≠ pb ∧ b < w.heap.size) w (wx.setCell ⟨ab, 1, none⟩ u) := by
  have hne : tv.ownBlock ≠ some ab := own_other h.par.own h.blk (by decide)
  exact ⟨⟨(Below.heap_setCell wx ⟨ab, 1, none⟩ u pb (fun e => h.ne e.symm)).trans h.par.blk, own_fr h.par.own (fun k hk _ => Below.heap_setCell wx ⟨ab, 1, none⟩ u k (fun e => hne (by rw [hk, e]))), h.par.ne, h.par.le, h.par.tl⟩,
    h.fr.setCell (p := ⟨ab, 1, none⟩) (fun e => by have := e.2; simp at this; omega) u⟩

set_option maxHeartbeats 4000000 in
set_option maxRecDepth 100000 in
theorem address_plain (pb : Nat) (tv : Value) (ts us vs : List Tok) (n n1 n2 : Nat) (ok ok2 ok3 b4 b6 ok7 : Bool) (nm lc dm : List UInt8) (r4 : List Tok) (w : World) (h : Par pb tv ts n ok w) (hT : Lib.Utf8Tabs 0 1 w) (hgb : pb ≠ 0 ∧ pb ≠ 1)
    (hus : (ts.drop n).takeWhile wordK = us) (hn1 : n + wordsN ts n = n1) (h1 : isH 60 (ts.drop n1) = true) (h2 : isH 64 (ts.drop (n1 + 1)) = false)
    (hnm : nameG us 0 ok false [] = (ok2, nm))
    (hvs : (ts.drop (n1 + 1)).takeWhile wordK = vs) (hn2 : n1 + 1 + wordsN ts (n1 + 1) = n2)
    (hlc : localG vs 0 (ok2 && !spaceH (ts.drop (n1 + 1))) [] = (ok3, lc, b4)) (hb4 : b4 = true) (h3 : isH 64 (ts.drop n2) = true)
    (hdm : domainG (ts.drop (n2 + 1)) (ok3 && !spaceH (ts.drop n2)) [] = (r4, ok7, dm, b6)) (hb6 : b6 = true) (h4 : isH 62 r4 = true) :
    Calls Tryz.prog 15 #[.pointer (some ⟨pb, 0, none⟩)] w fun x w' => (∃ g, x = .returned (.tuple #[.slice (some ⟨g, 0, none⟩) 1 1, .bool true]) ∧ w'.cell? ⟨g, 0, none⟩ = some (.string (bs nm)) ∧ w'.cell? ⟨g, 1, none⟩ = some (.string (bs (lc ++ [64] ++ dm)))) ∧ (∃ m, r4 = ts.drop m ∧ Par pb tv ts (m + 1) (ok7 && !spaceH r4) w') ∧ Fr (fun b => b ≠ pb ∧ b < w.heap.size) w w' := by
  subst hb4 hb6
  have HP := Lib.hid h; have HTB := Lib.hid hT; have HGB := Lib.hid hgb
  have HUS := Lib.hid hus; have HN1 := Lib.hid hn1; have H1 := Lib.hid h1; have h1k := Lib.hid h1; have H2 := Lib.hid h2; have HNM := Lib.hid hnm; have HVS := Lib.hid hvs; have HN2 := Lib.hid hn2; have HLC := Lib.hid hlc; have H3 := Lib.hid h3; have HDM := Lib.hid hdm; have H4 := Lib.hid h4
  have htl := h.tl
  have hul : tlen us ≤ 4398046511104 := by rw [← hus]; exact Nat.le_trans (tlen_while _ _) (Nat.le_trans (tlen_drop _ _) htl)
  have hvl : tlen vs ≤ 4398046511104 := by rw [← hvs]; exact Nat.le_trans (tlen_while _ _) (Nat.le_trans (tlen_drop _ _) htl)
  have hll : lc.length ≤ 8796093022208 := by
    have h5 := localG_len vs 0 (ok2 && !spaceH (ts.drop (n1 + 1))) []
    rw [hlc] at h5; simp at h5; omega
  have hdl : dm.length ≤ 8796093022208 := by
    have h5 := domainG_len _ (ts.drop (n2 + 1)) (ok3 && !spaceH (ts.drop n2)) [] (Nat.le_refl _)
    have h6 := tlen_drop ts (n2 + 1)
    rw [hdm] at h5; simp at h5; omega
  clear h hT hgb hus hn1 h1 h2 hnm hvs hn2 hlc h3 hdm h4
  go_enter Tryz.func15, Tryz.ntmps15
  go_wp2_with fail
  refine (words_any pb tv ts n ok _ HP.out).mono ?_
  rintro x w1 ⟨⟨v, rfl, hv⟩, hp, hf⟩
  rw [HUS.out] at hv
  rw [HN1.out] at hp
  have HV := Lib.hid hv; have HP1 := Lib.hid hp; have HF1 := Lib.hid hf
  clear hv hp hf
  go_wp2_with fail
  refine (is_any pb tv ts n1 ok 60 _ HP1.out).mono ?_
  rintro x w2 ⟨rfl, m2, rfl⟩
  rw [H1.out]
  have HP2 := Lib.hid (HP1.out.drewN m2)
  have HF2 := Lib.hid (HF1.out.drewN m2)
  have HV2 := Lib.hid (HV.out.fr (w' := w1.drewN m2) (by rw [hsize_drewN]; exact Nat.le_refl _) (fun k _ _ => by rw [heap_drewN]))
  generalize w1.drewN m2 = w2 at HP2 HF2 HV2 ⊢
  clear HP1 HF1 HV H1
  go_wp2_with fail
  refine (name_any pb tv ts us n1 ok v _ HP2.out HV2.out hul (tabs_par HTB.out HF2.out HGB.out) HGB.out).mono ?_
  rintro x w3 ⟨rfl, hp, hf⟩
  rw [HNM.out] at hp ⊢
  have HP3 := Lib.hid hp
  have HF3 := Lib.hid ((HF2.out.mono (fun k (hk : k ≠ pb ∧ k < w.heap.size) => hk.1)).trans (hf.mono (fun k (hk : k ≠ pb ∧ k < w.heap.size) => ⟨hk.1, Nat.lt_of_lt_of_le hk.2 HF2.out.size⟩)))
  clear hp hf HP2 HF2 HV2
  obtain ⟨ab, hab⟩ : ∃ ab, w3.heap.size = ab := ⟨_, rfl⟩
  have HP4 := Lib.hid (HP3.out.frk ((Fr.refl _ w3).alloc (fun k hk => hk) (.cells #[.string (bs nm), .string ⟨#[]⟩] 23)))
  have HF4 := Lib.hid (HF3.out.alloc (fun k hk => Nat.lt_of_lt_of_le hk.2 HF3.out.size) (.cells #[.string (bs nm), .string ⟨#[]⟩] 23))
  have HA4 : Hid ((w3.alloc (.cells #[.string (bs nm), .string ⟨#[]⟩] 23)).heap[ab]? = some (.cells #[.string (bs nm), .string ⟨#[]⟩] 23 (0, 0))) := Lib.hid (by rw [← hab]; exact heap_alloc_new w3 _)
  have hne : ab ≠ pb := fun e => by have := HP3.out.lt; omega
  have habw : w.heap.size ≤ ab := by rw [← hab]; exact HF3.out.size
  have c1 := HP4.out.cells.2.1
  have hfz := HP4.out.frozen 1
  have hn1l : n1 + 1 ≤ ts.length := by
    obtain ⟨t, ht, -⟩ := isH_some h1k.out
    have := (List.getElem?_eq_some_iff.1 ht).1; omega
  have HP5 := Lib.hid (HP4.out.setAt (n1 + 1) hn1l)
  have HF5 := Lib.hid (HF4.out.setCell (p := ⟨pb, 1, none⟩) (fun e => e.1 rfl) (.int .i64 ((n1 + 1 : Nat) : Int)))
  have HA5 := Lib.hid ((Below.heap_setCell (w3.alloc (.cells #[.string (bs nm), .string ⟨#[]⟩] 23)) ⟨pb, 1, none⟩ (.int .i64 ((n1 + 1 : Nat) : Int)) ab hne).trans HA4.out)
  rw [show ((n1 + 1 : Nat) : Int) = (n1 : Int) + 1 by omega] at HP5 HF5 HA5
  clear HP3 HF3 HP4 HF4 HA4
  have hn1b : n1 + 1 ≤ 4398046511104 := Nat.le_trans hn1l HP.out.len
  go_wp2_with fail
  have HW0 := Lib.hid (AW.mk (nm := nm) HP5.out HF5.out HA5.out hne)
  generalize (w3.alloc (.cells #[.string (bs nm), .string ⟨#[]⟩] 23)).setCell ⟨pb, 1, none⟩ (.int .i64 ((n1 : Int) + 1)) = w5 at HW0 ⊢
  clear HP5 HF5 HA5 c1 hfz
  refine (is_any pb tv ts (n1 + 1) ok2 64 _ HW0.out.par).mono ?_
  rintro x w6 ⟨rfl, m6, rfl⟩
  rw [H2.out]
  have HW1 := Lib.hid (HW0.out.drewN m6)
  generalize w5.drewN m6 = w6 at HW1 ⊢
  clear HW0 H2
  go_wp2_with fail
  refine (near_any pb tv ts (n1 + 1) ok2 _ HW1.out.par).mono ?_
  rintro x w7 ⟨rfl, hp, hf⟩
  have HW2 := Lib.hid (HW1.out.step' hp hf)
  clear HW1 hp hf
  go_wp2_with fail
  refine (words_any pb tv ts (n1 + 1) _ _ HW2.out.par).mono ?_
  rintro x w8 ⟨⟨v2, rfl, hv⟩, hp, hf⟩
  rw [HVS.out] at hv
  rw [HN2.out] at hp
  have HV := Lib.hid hv
  have HW3 := Lib.hid (HW2.out.step' hp hf)
  clear HW2 hp hf hv
  go_wp2_with fail
  refine (local_any pb tv ts vs n2 _ v2 _ HW3.out.par HV.out hvl).mono ?_
  rintro x w9 ⟨rfl, hp, hf⟩
  rw [HLC.out] at hp ⊢
  have HW4 := Lib.hid (HW3.out.step hp hf)
  clear HW3 hp hf HV
  go_wp2_with fail
  refine (near_any pb tv ts n2 _ _ HW4.out.par).mono ?_
  rintro x w10 ⟨rfl, hp, hf⟩
  have HW5 := Lib.hid (HW4.out.step' hp hf)
  clear HW4 hp hf
  go_wp2_with fail
  refine (take_yes pb tv ts n2 _ 64 _ HW5.out.par H3.out).mono ?_
  rintro x w11 ⟨rfl, hp, hf⟩
  have HW6 := Lib.hid (HW5.out.step' hp hf)
  clear HW5 hp hf
  go_wp2_with fail
  refine (domain_any pb tv ts (n2 + 1) _ _ HW6.out.par).mono ?_
  rintro x w12 ⟨rfl, ⟨m, hm, hp⟩, hf⟩
  rw [HDM.out] at hp hm ⊢
  obtain rfl : r4 = ts.drop m := congrArg (·.1) hm
  have HW7 := Lib.hid (HW6.out.step' hp hf)
  clear HW6 hp hf hm
  simp only [DRet]
  go_wp2_with fail
  refine (near_any pb tv ts m _ _ HW7.out.par).mono ?_
  rintro x w13 ⟨rfl, hp, hf⟩
  have HW8 := Lib.hid (HW7.out.step' hp hf)
  clear HW7 hp hf
  go_wp2_with fail
  refine (take_yes pb tv ts m _ 62 _ HW8.out.par H4.out).mono ?_
  rintro x w14 ⟨rfl, hp, hf⟩
  have HW9 := Lib.hid (HW8.out.step' hp hf)
  clear HW8 hp hf
  have q1 : (bs lc).size + 1 ≤ 9223372036854775807 := by rw [bs_size]; omega
  have q2 : (bs lc ++ (⟨#[64]⟩ : ByteArray)).size + (bs dm).size ≤ 9223372036854775807 := by
    rw [ByteArray.size_append, bs_size, bs_size]
    show lc.length + 1 + _ ≤ _
    omega
  have k0 : w14.cell? ⟨ab, 0, none⟩ = some (.string (bs nm)) := by rw [Lib.cell_of_heap HW9.out.blk]; rfl
  have k1 : w14.cell? ⟨ab, 1, none⟩ = some (.string ⟨#[]⟩) := by rw [Lib.cell_of_heap HW9.out.blk]; rfl
  have kz : w14.frozen? ⟨ab, 1, none⟩ = false := Lib.frozen_of_heap HW9.out.blk 1
  have hbs : bs (lc ++ [64] ++ dm) = bs lc ++ (⟨#[64]⟩ : ByteArray) ++ bs dm := by rw [← bs_app, ← bs_app]; rfl
  have HBS := Lib.hid hbs
  clear hbs
  obtain ⟨X, hX⟩ : ∃ X, bs lc ++ (⟨#[64]⟩ : ByteArray) ++ bs dm = X := ⟨_, rfl⟩
  have HX := Lib.hid hX
  have hblk : (w14.setCell ⟨ab, 1, none⟩ (.string X)).heap[ab]? = some (.cells #[.string (bs nm), .string X] 23 (0, 0)) := heap_setCell_row HW9.out.blk
  have k0' : (w14.setCell ⟨ab, 1, none⟩ (.string X)).cell? ⟨ab, 0, none⟩ = some (.string (bs nm)) := by rw [Lib.cell_of_heap hblk]; rfl
  have k1' : (w14.setCell ⟨ab, 1, none⟩ (.string X)).cell? ⟨ab, 1, none⟩ = some (.string X) := by rw [Lib.cell_of_heap hblk]; rfl
  have HPUT := Lib.hid (HW9.out.put habw (.string X))
  clear hblk
  go_wp2
  go_ret2
  obtain ⟨hp9, hf9⟩ := HPUT.out
  have hz : (w14.setCell ⟨ab, 1, none⟩ (.string X)).heap.size = w14.heap.size := by simp [World.setCell]
  generalize w14.setCell ⟨ab, 1, none⟩ (.string X) = w15 at hp9 hf9 hz ⊢
  have hnb := heap_alloc_new w15 (.cells #[.string (bs nm), .string X] 23)
  rw [hz] at hnb
  refine ⟨⟨w14.heap.size, rfl, ?_, ?_⟩, ⟨m, rfl, hp9.frk ((Fr.refl _ w15).alloc (fun k hk => hk) _)⟩, hf9.alloc (fun k hk => Nat.lt_of_lt_of_le hk.2 hf9.size) _⟩
  · rw [Lib.cell_of_heap hnb]; rfl
  · rw [Lib.cell_of_heap hnb, HBS.out, HX.out]; rfl
end Go.Proofs.YtmcjmmcamelmcaaGreatDoor
