/- spec.address, whatever the tokens: the walk. What it answers is told where no obsolete form was met. -/
import Derived.Test.YtpoglombagmhmaaGreatDoorV8
import Derived.Deep.Cut
import Derived.Laws.AppendOwnNone
namespace Go.Proofs.YtpoglombagmhmaaGreatDoor
open Go Go.RowKit

theorem nameG_ok : ∀ (us : List Tok) (k : Nat) (ok coded : Bool) (out : List UInt8), (nameG us k ok coded out).1 = true → ok = true
  | [], _, _, _, _, h => h
  | t :: r, k, ok, coded, out, h => by
    rw [nameG] at h
    have := nameG_ok r _ _ _ _ h
    rw [Bool.and_eq_true, Bool.and_eq_true] at this
    exact this.1.1
theorem localG_ok : ∀ (us : List Tok) (k : Nat) (ok : Bool) (out : List UInt8), (localG us k ok out).1 = true → ok = true
  | [], _, _, _, h => h
  | t :: r, k, ok, out, h => by
    rw [localG] at h
    split at h
    · rw [Bool.and_eq_true] at h; exact h.1
    · have := localG_ok r _ _ _ h
      rw [Bool.and_eq_true, Bool.and_eq_true] at this
      exact this.1.1
theorem domainG_ok : ∀ (n : Nat) (us : List Tok) (ok : Bool) (out : List UInt8), us.length ≤ n → ((domainG us ok out).2.1 = true → ok = true) ∧ (domainG us ok out).1.length ≤ us.length
  | _, [], ok, out, _ => ⟨fun h => by simpa [domainG] using h, by simp [domainG]⟩
  | _, [t], ok, out, _ => by
    rw [domainG]
    split
    · exact ⟨fun h => by rw [Bool.and_eq_true] at h; exact h.1, by simp⟩
    · exact ⟨fun h => by rw [Bool.and_eq_true] at h; exact h.1, by simp⟩
  | 0, _ :: _ :: _, _, _, h => by simp at h
  | n + 1, t :: d :: r, ok, out, h => by
    rw [domainG]
    split
    · split
      · have ih := domainG_ok n r (ok && !t.space && !d.space) (out ++ t.text ++ [46]) (by simp at h; omega)
        refine ⟨fun h => ?_, by have := ih.2; simp only [List.length_cons]; omega⟩
        have := ih.1 h
        rw [Bool.and_eq_true, Bool.and_eq_true] at this
        exact this.1.1
      · exact ⟨fun h => by rw [Bool.and_eq_true] at h; exact h.1, by simp⟩
    · exact ⟨fun h => by rw [Bool.and_eq_true] at h; exact h.1, by simp⟩

/-- One address, no obsolete form met: a name and an address in angles, or an address alone. -/
def AngleOk (ts : List Tok) (n : Nat) (ok : Bool) (nm ad : List UInt8) (m : Nat) : Prop :=
  ∃ (us vs : List Tok) (n1 n2 m' : Nat) (ok2 ok3 ok7 : Bool) (lc dm : List UInt8), (ts.drop n).takeWhile wordK = us ∧ n + wordsN ts n = n1 ∧ isH 60 (ts.drop n1) = true ∧ isH 64 (ts.drop (n1 + 1)) = false ∧ nameG us 0 ok false [] = (ok2, nm) ∧
    (ts.drop (n1 + 1)).takeWhile wordK = vs ∧ n1 + 1 + wordsN ts (n1 + 1) = n2 ∧ localG vs 0 (ok2 && !spaceH (ts.drop (n1 + 1))) [] = (ok3, lc, true) ∧ isH 64 (ts.drop n2) = true ∧
    domainG (ts.drop (n2 + 1)) (ok3 && !spaceH (ts.drop n2)) [] = (ts.drop m', ok7, dm, true) ∧ isH 62 (ts.drop m') = true ∧ (ok7 && !spaceH (ts.drop m')) = true ∧ m = m' + 1 ∧ ad = lc ++ [64] ++ dm
def AloneOk (ts : List Tok) (n : Nat) (ok : Bool) (nm ad : List UInt8) (m : Nat) : Prop :=
  ∃ (us : List Tok) (n1 : Nat) (ok3 ok7 : Bool) (lc dm : List UInt8), (ts.drop n).takeWhile wordK = us ∧ n + wordsN ts n = n1 ∧ isH 64 (ts.drop n1) = true ∧ localG us 0 (ok && !spaceH (ts.drop n1)) [] = (ok3, lc, true) ∧
    domainG (ts.drop (n1 + 1)) ok3 [] = (ts.drop m, ok7, dm, true) ∧ ok7 = true ∧ nm = [] ∧ ad = lc ++ [64] ++ dm
def AddrOk (ts : List Tok) (n : Nat) (ok : Bool) (nm ad : List UInt8) (m : Nat) : Prop := AngleOk ts n ok nm ad m ∨ AloneOk ts n ok nm ad m

/-- A row of addresses. -/
def OwnA (B cnt : Nat) (v : Value) (w : World) : Prop := ∃ xs, w.ownsRow B 38 2 v cnt xs ∧ ∀ u ∈ xs, u.oneCell' = true
theorem OwnA.nil (B : Nat) (w : World) : OwnA B 0 (.slice none 0 0) w := ⟨[], World.ownsRow_nil _ _ _ _, by simp⟩
theorem OwnA.fr {B cnt : Nat} {v : Value} {w w' : World} (h : OwnA B cnt v w) (hk : ∀ k, v.ownBlock = some k → k < w.heap.size → w'.heap[k]? = w.heap[k]?) : OwnA B cnt v w' := by
  obtain ⟨xs, h1, h2⟩ := h
  exact ⟨xs, own_fr h1 hk, h2⟩
theorem OwnA.one {B : Nat} {w : World} {x y : ByteArray} (hB : B ≤ w.heap.size) : OwnA B 1 (.slice (some ⟨w.heap.size, 0, none⟩) 1 1) (w.alloc (.cells #[.string x, .string y] 38)) := by
  refine ⟨[.string x, .string y], ?_, by simp [Value.oneCell']⟩
  exact ⟨rfl, .inr ⟨w.heap.size, 1, _, rfl, hB, heap_alloc_new w _, Nat.le_refl _, by decide, rfl, rfl⟩⟩
theorem infoAdr : (Tryz.prog.info? 38).map (fun i => (i.zero, i.size, i.bytes)) = some (some (.agg #[.string ⟨#[]⟩, .string ⟨#[]⟩]), 2, 32) := by kernel_rfl
theorem Par.only {pb : Nat} {tv : Value} {ts : List Tok} {n : Nat} {ok : Bool} {w w' : World} (h : Par pb tv ts n ok w) (hb : w'.heap[pb]? = w.heap[pb]?) (ht : ∀ k, tv.ownBlock = some k → k < w.heap.size → w'.heap[k]? = w.heap[k]?) : Par pb tv ts n ok w' :=
  ⟨hb.trans h.blk, own_fr h.own ht, h.ne, h.le, h.tl⟩
/-- The same parser, a group's addresses in a row of the call's own. -/
structure GW (pb : Nat) (tv : Value) (ts : List Tok) (n : Nat) (w : World) (m c : Nat) (ov : Value) (wx : World) : Prop where
  par : Par pb tv ts m false wx
  fr : Fr (fun b => b ≠ pb ∧ b < w.heap.size) w wx
  own : OwnA w.heap.size c ov wx
  cnt : n + c ≤ m
theorem OwnA.block {B c : Nat} {v : Value} {w : World} (h : OwnA B c v w) : ∀ k, v.ownBlock = some k → B ≤ k ∧ k < w.heap.size := by
  obtain ⟨xs, h1, _⟩ := h
  exact h1.lt
theorem GW.step {pb : Nat} {tv : Value} {ts : List Tok} {n : Nat} {w : World} {m c m' : Nat} {ov : Value} {wx wy : World} (h : GW pb tv ts n w m c ov wx) (hpb : pb < w.heap.size) (hp : Par pb tv ts m' false wy) (hf : Fr (· ≠ pb) wx wy) (hm : m ≤ m') : GW pb tv ts n w m' c ov wy :=
  ⟨hp, h.fr.trans (hf.mono (fun _ hk => hk.1)), h.own.fr (fun k e hk => hf.block k (fun e2 => by have := (h.own.block k e).1; omega)), by have := h.cnt; omega⟩
theorem GW.drewN {pb : Nat} {tv : Value} {ts : List Tok} {n : Nat} {w : World} {m c : Nat} {ov : Value} {wx : World} (h : GW pb tv ts n w m c ov wx) (hpb : pb < w.heap.size) (q : Nat) : GW pb tv ts n w m c ov (wx.drewN q) := h.step hpb (h.par.drewN q) ((Fr.refl _ wx).drewN q) (Nat.le_refl _)
theorem tabs_grp {pb : Nat} {w w' : World} (h : Lib.Utf8Tabs 0 1 w) (hf : Fr (fun b => b ≠ pb ∧ b < w.heap.size) w w') (hgb : pb ≠ 0 ∧ pb ≠ 1) : Lib.Utf8Tabs 0 1 w' :=
  tabs_frk h hf (fun q => ⟨fun e => hgb.1 e.symm, q⟩) (fun q => ⟨fun e => hgb.2 e.symm, q⟩)
/-- What address leaves. -/
structure ARes (pb : Nat) (tv : Value) (ts : List Tok) (n : Nat) (ok : Bool) (w : World) (x : Ending) (w' : World) : Prop where
  res : ∃ v b m ok' cnt, x = .returned (.tuple #[v, .bool b]) ∧ Par pb tv ts m ok' w' ∧ n + cnt ≤ m ∧ (b = true → n < m) ∧ (ok' = true → ok = true) ∧ OwnA w.heap.size cnt v w' ∧
    (b = true → ok' = true → ∃ nm ad g, AddrOk ts n ok nm ad m ∧ v = .slice (some ⟨g, 0, none⟩) 1 1 ∧ w'.cell? ⟨g, 0, none⟩ = some (.string (bs nm)) ∧ w'.cell? ⟨g, 1, none⟩ = some (.string (bs ad)))
  fr : Fr (fun b => b ≠ pb ∧ b < w.heap.size) w w'
theorem ARes.no {pb : Nat} {tv : Value} {ts : List Tok} {n m : Nat} {ok ok' : Bool} {w w' : World} (hp : Par pb tv ts m ok' w') (hm : n ≤ m) (ho : ok' = true → ok = true) (hf : Fr (fun b => b ≠ pb ∧ b < w.heap.size) w w') :
    ARes pb tv ts n ok w (.returned (.tuple #[.slice none 0 0, .bool false])) w' :=
  ⟨⟨_, false, m, ok', 0, rfl, hp, hm, fun e => by (exact absurd e (by decide)), ho, OwnA.nil _ _, fun e => by (exact absurd e (by decide))⟩, hf⟩
theorem AW.setOk {pb : Nat} {tv : Value} {ts : List Tok} {ab : Nat} {nm : List UInt8} {w : World} {m : Nat} {ok : Bool} {wx : World} (h : AW pb tv ts ab nm w m ok wx) (b : Bool) : AW pb tv ts ab nm w m b (wx.setCell ⟨pb, 2, none⟩ (.bool b)) :=
  ⟨h.par.setOk b, h.fr.setCell (p := ⟨pb, 2, none⟩) (fun e => e.1 rfl) _, (Below.heap_setCell wx ⟨pb, 2, none⟩ _ ab h.ne).trans h.blk, h.ne⟩
theorem AW.setAt {pb : Nat} {tv : Value} {ts : List Tok} {ab : Nat} {nm : List UInt8} {w : World} {m : Nat} {ok : Bool} {wx : World} (h : AW pb tv ts ab nm w m ok wx) (k : Nat) (hk : k ≤ ts.length) : AW pb tv ts ab nm w k ok (wx.setCell ⟨pb, 1, none⟩ (.int .i64 k)) :=
  ⟨h.par.setAt k hk, h.fr.setCell (p := ⟨pb, 1, none⟩) (fun e => e.1 rfl) _, (Below.heap_setCell wx ⟨pb, 1, none⟩ _ ab h.ne).trans h.blk, h.ne⟩
theorem dom_len {ts : List Tok} {k m : Nat} {ok : Bool} {r : Bool × List UInt8 × Bool} (hk : k ≤ ts.length) (hm : m ≤ ts.length) (h : domainG (ts.drop k) ok [] = (ts.drop m, r)) : k ≤ m := by
  have h2 := (domainG_ok _ (ts.drop k) ok [] (Nat.le_refl _)).2
  rw [h] at h2
  simp only [List.length_drop] at h2
  omega
theorem isH_ne {a b : UInt8} {xs : List Tok} (h : isH a xs = true) (hab : a ≠ b) : isH b xs = false := by
  cases xs with
  | nil => rfl
  | cons t r =>
    have h2 : t.kind = a := by simpa [isH] using h
    show (t.kind == b) = false
    rw [h2, beq_eq_false_iff_ne]; exact hab
theorem dom_false (us : List Tok) (out : List UInt8) : (domainG us false out).2.1 = false := by
  cases h : (domainG us false out).2.1 with
  | false => rfl
  | true => exact absurd ((domainG_ok _ us false out (Nat.le_refl _)).1 h) (by decide)
theorem isH_lt {k : UInt8} {ts : List Tok} {n : Nat} (h : isH k (ts.drop n) = true) : n < ts.length := by
  obtain ⟨t, ht, _⟩ := isH_some h
  exact (List.getElem?_eq_some_iff.1 ht).1

set_option maxHeartbeats 16000000 in
set_option maxRecDepth 100000 in
theorem address_any : ∀ (N pb : Nat) (tv : Value) (ts : List Tok) (n : Nat) (ok : Bool) (w : World), ts.length < n + N → Par pb tv ts n ok w → Lib.Utf8Tabs 0 1 w → (pb ≠ 0 ∧ pb ≠ 1) →
    Calls Tryz.prog 19 #[.pointer (some ⟨pb, 0, none⟩)] w fun x w' => ARes pb tv ts n ok w x w' := by
  intro N
  induction N with
  | zero => intro pb tv ts n ok w hN h; exact absurd h.le (by omega)
  | succ N ih =>
  intro pb tv ts n ok w hN h hT hgb
  have HP := Lib.hid h; have HTB := Lib.hid hT; have HGB := Lib.hid hgb; have IH := Lib.hid ih; have HNN := Lib.hid hN
  have htl := h.tl; have hle := h.le; have hlen := h.len
  clear h hT hgb ih hN
  go_enter Tryz.func19, Tryz.ntmps19
  go_wp2_with fail
  refine (words_any pb tv ts n ok _ HP.out).mono ?_
  rintro x w1 ⟨⟨v, rfl, hv⟩, hp, hf⟩
  obtain ⟨us, hus⟩ : ∃ us, (ts.drop n).takeWhile wordK = us := ⟨_, rfl⟩
  obtain ⟨n1, hn1⟩ : ∃ n1, n + wordsN ts n = n1 := ⟨_, rfl⟩
  have hn1l : n ≤ n1 := by omega
  have hul : tlen us ≤ 4398046511104 := by rw [← hus]; exact Nat.le_trans (tlen_while _ _) (Nat.le_trans (tlen_drop _ _) htl)
  have husl : us.length = wordsN ts n := by rw [← hus]; rfl
  rw [hus] at hv
  rw [hn1] at hp
  have HV := Lib.hid hv; have HP1 := Lib.hid hp; have HF1 := Lib.hid hf; have HUS := Lib.hid hus; have HN1 := Lib.hid hn1; have HUSL := Lib.hid husl
  clear hv hp hf hus hn1 husl
  go_wp2_with fail
  refine (is_any pb tv ts n1 ok 60 _ HP1.out).mono ?_
  rintro x w2 ⟨rfl, m2, rfl⟩
  have HP2 := Lib.hid (HP1.out.drewN m2)
  have HF2 := Lib.hid (HF1.out.drewN m2)
  have HV2 := Lib.hid (HV.out.fr (w' := w1.drewN m2) (by rw [hsize_drewN]; exact Nat.le_refl _) (fun k _ _ => by rw [heap_drewN]))
  generalize w1.drewN m2 = w2 at HP2 HF2 HV2 ⊢
  clear HP1 HF1 HV
  cases h1 : isH 60 (ts.drop n1) with
  | true =>
    as_aux_lemma =>
    have H1 := Lib.hid h1
    have hn1t := isH_lt h1
    clear h1
    go_wp2_with fail
    refine (name_any pb tv ts us n1 ok v _ HP2.out HV2.out hul (tabs_par HTB.out HF2.out HGB.out) HGB.out).mono ?_
    rintro x w3 ⟨rfl, hp, hf⟩
    obtain ⟨ok2, nm, hnm⟩ : ∃ ok2 nm, nameG us 0 ok false [] = (ok2, nm) := ⟨_, _, rfl⟩
    have ho2 : ok2 = true → ok = true := fun e => nameG_ok us 0 ok false [] (by rw [hnm]; exact e)
    rw [hnm] at hp ⊢
    have HNM := Lib.hid hnm; have HO2 := Lib.hid ho2
    have HP3 := Lib.hid hp
    have HF3 := Lib.hid ((HF2.out.mono (fun k (hk : k ≠ pb ∧ k < w.heap.size) => hk.1)).trans (hf.mono (fun k (hk : k ≠ pb ∧ k < w.heap.size) => ⟨hk.1, Nat.lt_of_lt_of_le hk.2 HF2.out.size⟩)))
    clear hp hf HP2 HF2 HV2 hnm ho2
    obtain ⟨ab, hab⟩ : ∃ ab, w3.heap.size = ab := ⟨_, rfl⟩
    have HP4 := Lib.hid (HP3.out.frk ((Fr.refl _ w3).alloc (fun k hk => hk) (.cells #[.string (bs nm), .string ⟨#[]⟩] 38)))
    have HF4 := Lib.hid (HF3.out.alloc (fun k hk => Nat.lt_of_lt_of_le hk.2 HF3.out.size) (.cells #[.string (bs nm), .string ⟨#[]⟩] 38))
    have HA4 : Hid ((w3.alloc (.cells #[.string (bs nm), .string ⟨#[]⟩] 38)).heap[ab]? = some (.cells #[.string (bs nm), .string ⟨#[]⟩] 38 (0, 0))) := Lib.hid (by rw [← hab]; exact heap_alloc_new w3 _)
    have hne : ab ≠ pb := fun e => by have := HP3.out.lt; omega
    have habw : w.heap.size ≤ ab := by rw [← hab]; exact HF3.out.size
    have c1 := HP4.out.cells.2.1
    have hfz := HP4.out.frozen 1
    have hn1l2 : n1 + 1 ≤ ts.length := hn1t
    have HP5 := Lib.hid (HP4.out.setAt (n1 + 1) hn1l2)
    have HF5 := Lib.hid (HF4.out.setCell (p := ⟨pb, 1, none⟩) (fun e => e.1 rfl) (.int .i64 ((n1 + 1 : Nat) : Int)))
    have HA5 := Lib.hid ((Below.heap_setCell (w3.alloc (.cells #[.string (bs nm), .string ⟨#[]⟩] 38)) ⟨pb, 1, none⟩ (.int .i64 ((n1 + 1 : Nat) : Int)) ab hne).trans HA4.out)
    rw [show ((n1 + 1 : Nat) : Int) = (n1 : Int) + 1 by omega] at HP5 HF5 HA5
    clear HP3 HF3 HP4 HF4 HA4
    have hn1b : n1 + 1 ≤ 4398046511104 := by omega
    go_wp2_with fail
    have HW0 := Lib.hid (AW.mk (nm := nm) HP5.out HF5.out HA5.out hne)
    generalize (w3.alloc (.cells #[.string (bs nm), .string ⟨#[]⟩] 38)).setCell ⟨pb, 1, none⟩ (.int .i64 ((n1 : Int) + 1)) = w5 at HW0 ⊢
    clear HP5 HF5 HA5 c1 hfz
    refine (is_any pb tv ts (n1 + 1) ok2 64 _ HW0.out.par).mono ?_
    rintro x w6 ⟨rfl, m6, rfl⟩
    have HW1 := Lib.hid (HW0.out.drewN m6)
    generalize w5.drewN m6 = w6 at HW1 ⊢
    clear HW0
    cases h2 : isH 64 (ts.drop (n1 + 1)) with
    | false =>
      as_aux_lemma =>
      have H2 := Lib.hid h2
      have HWS := Lib.hid HW1.out
      clear h2 HW1
      go_wp2_with fail
      refine (near_any pb tv ts (n1 + 1) ok2 _ HWS.out.par).mono ?_
      rintro x w7 ⟨rfl, hp, hf⟩
      have HW2 := Lib.hid (HWS.out.step' hp hf)
      clear HWS hp hf
      obtain ⟨okA, hokA⟩ : ∃ okA, (ok2 && !spaceH (ts.drop (n1 + 1))) = okA := ⟨_, rfl⟩
      have HOKA := Lib.hid hokA
      rw [hokA] at HW2
      clear hokA
      go_wp2_with fail
      refine (words_any pb tv ts (n1 + 1) _ _ HW2.out.par).mono ?_
      rintro x w8 ⟨⟨v2, rfl, hv⟩, hp, hf⟩
      obtain ⟨vs, hvs⟩ : ∃ vs, (ts.drop (n1 + 1)).takeWhile wordK = vs := ⟨_, rfl⟩
      obtain ⟨n2, hn2⟩ : ∃ n2, n1 + 1 + wordsN ts (n1 + 1) = n2 := ⟨_, rfl⟩
      have hn2l : n1 + 1 ≤ n2 := by omega
      have hvl : tlen vs ≤ 4398046511104 := by rw [← hvs]; exact Nat.le_trans (tlen_while _ _) (Nat.le_trans (tlen_drop _ _) HP.out.tl)
      rw [hvs] at hv
      rw [hn2] at hp
      have HV := Lib.hid hv; have HVS := Lib.hid hvs; have HN2 := Lib.hid hn2
      have HW3 := Lib.hid (HW2.out.step' hp hf)
      clear HW2 hp hf hv hvs hn2
      go_wp2_with fail
      refine (local_any pb tv ts vs n2 _ v2 _ HW3.out.par HV.out hvl).mono ?_
      rintro x w9 ⟨rfl, hp, hf⟩
      obtain ⟨ok3, lc, b4, hlc⟩ : ∃ ok3 lc b4, localG vs 0 okA [] = (ok3, lc, b4) := ⟨_, _, _, rfl⟩
      have hll : lc.length ≤ 8796093022208 := by
        have h5 := localG_len vs 0 okA []
        rw [hlc] at h5; simp at h5; omega
      have hok3 : ok3 = true → okA = true := fun e => localG_ok vs 0 okA [] (by rw [hlc]; exact e)
      rw [hlc] at hp ⊢
      have HLC := Lib.hid hlc; have HOK3 := Lib.hid hok3
      have HW4 := Lib.hid (HW3.out.step hp hf)
      clear HW3 hp hf HV hlc hok3
      go_wp2_with fail
      refine (near_any pb tv ts n2 _ _ HW4.out.par).mono ?_
      rintro x w10 ⟨rfl, hp, hf⟩
      obtain ⟨ok4, hok4⟩ : ∃ ok4, (ok3 && !spaceH (ts.drop n2)) = ok4 := ⟨_, rfl⟩
      have HW5 := Lib.hid (HW4.out.step' hp hf)
      rw [show ((ok3, lc, b4).1 && !spaceH (ts.drop n2)) = ok4 from hok4] at HW5
      have HOK4 := Lib.hid hok4
      have ho4 : ok4 = true → ok = true := fun e => by
        rw [← HOK4.out, Bool.and_eq_true] at e
        have e2 := HOK3.out e.1
        rw [← HOKA.out, Bool.and_eq_true] at e2
        exact HO2.out e2.1
      have HO4 := Lib.hid ho4
      clear HW4 hp hf hok4 ho4
      cases b4 with
      | false =>
        go_wp2
        go_ret2
        exact ARes.no HW5.out.par (by omega) HO4.out HW5.out.fr
      | true =>
        cases h3 : isH 64 (ts.drop n2) with
        | false =>
          have H3 := Lib.hid h3
          clear h3
          go_wp2_with fail
          refine (take_no pb tv ts n2 _ 64 _ HW5.out.par H3.out).mono ?_
          rintro x w11 ⟨rfl, q11, rfl⟩
          have HW6 := Lib.hid (HW5.out.drewN q11)
          go_wp2
          go_ret2
          exact ARes.no HW6.out.par (by omega) HO4.out HW6.out.fr
        | true =>
          have H3 := Lib.hid h3
          have hn2t := isH_lt h3
          clear h3
          go_wp2_with fail
          refine (take_yes pb tv ts n2 _ 64 _ HW5.out.par H3.out).mono ?_
          rintro x w11 ⟨rfl, hp, hf⟩
          have HW6 := Lib.hid (HW5.out.step' hp hf)
          clear HW5 hp hf
          go_wp2_with fail
          refine (domain_any pb tv ts (n2 + 1) _ _ HW6.out.par).mono ?_
          rintro x w12 ⟨rfl, ⟨m, hm, hp⟩, hf⟩
          obtain ⟨r4, ok7, dm, b6, hdm⟩ : ∃ r4 ok7 dm b6, domainG (ts.drop (n2 + 1)) ok4 [] = (r4, ok7, dm, b6) := ⟨_, _, _, _, rfl⟩
          have hdl : dm.length ≤ 8796093022208 := by
            have h5 := domainG_len _ (ts.drop (n2 + 1)) ok4 [] (Nat.le_refl _)
            have h6 := tlen_drop ts (n2 + 1)
            have h7 := HP.out.tl
            rw [hdm] at h5; simp at h5; omega
          have ho7 : ok7 = true → ok4 = true := fun e => (domainG_ok _ (ts.drop (n2 + 1)) ok4 [] (Nat.le_refl _)).1 (by rw [hdm]; exact e)
          rw [hdm] at hp hm ⊢
          obtain rfl : r4 = ts.drop m := congrArg (·.1) hm
          have hml := dom_len (by omega) hp.le hdm
          have HO7 := Lib.hid ho7; have HDM := Lib.hid hdm
          have HW7 := Lib.hid (HW6.out.step' hp hf)
          clear HW6 hp hf hm hdm ho7
          simp only [DRet]
          go_wp2_with fail
          refine (near_any pb tv ts m _ _ HW7.out.par).mono ?_
          rintro x w13 ⟨rfl, hp, hf⟩
          obtain ⟨ok8, hok8⟩ : ∃ ok8, (ok7 && !spaceH (ts.drop m)) = ok8 := ⟨_, rfl⟩
          have HW8 := Lib.hid (HW7.out.step' hp hf)
          rw [show ((ts.drop m, ok7, dm, b6).2.1 && !spaceH (ts.drop m)) = ok8 from hok8] at HW8
          have HOK8 := Lib.hid hok8
          have ho8 : ok8 = true → ok = true := fun e => by
            rw [← HOK8.out, Bool.and_eq_true] at e
            exact HO4.out (HO7.out e.1)
          have HO8 := Lib.hid ho8
          clear HW7 hp hf hok8 ho8
          cases b6 with
          | false =>
            go_wp2
            go_ret2
            exact ARes.no HW8.out.par (by omega) HO8.out HW8.out.fr
          | true =>
            cases h4 : isH 62 (ts.drop m) with
            | false =>
              have H4 := Lib.hid h4
              clear h4
              go_wp2_with fail
              refine (take_no pb tv ts m _ 62 _ HW8.out.par H4.out).mono ?_
              rintro x w14 ⟨rfl, q14, rfl⟩
              have HW9 := Lib.hid (HW8.out.drewN q14)
              go_wp2
              go_ret2
              exact ARes.no HW9.out.par (by omega) HO8.out HW9.out.fr
            | true =>
              have H4 := Lib.hid h4
              clear h4
              go_wp2_with fail
              refine (take_yes pb tv ts m _ 62 _ HW8.out.par H4.out).mono ?_
              rintro x w14 ⟨rfl, hp, hf⟩
              have HW9 := Lib.hid (HW8.out.step' hp hf)
              clear HW8 hp hf
              have q1 : (bs lc).size + 1 ≤ 9223372036854775807 := by rw [bs_size]; omega
              have q2 : (bs lc ++ (⟨#[64]⟩ : ByteArray)).size + (bs dm).size ≤ 9223372036854775807 := by
                rw [ByteArray.size_append, bs_size, bs_size]
                show lc.length + 1 + _ ≤ _
                omega
              have k0 : w14.cell? ⟨ab, 0, none⟩ = some (.string (bs nm)) := by rw [Lib.cell_of_heap HW9.out.blk]; rfl
              have k1 : w14.cell? ⟨ab, 1, none⟩ = some (.string ⟨#[]⟩) := by rw [Lib.cell_of_heap HW9.out.blk]; rfl
              have kz : w14.frozen? ⟨ab, 1, none⟩ = false := Lib.frozen_of_heap HW9.out.blk 1
              have hbs : bs (lc ++ [64] ++ dm) = bs lc ++ (⟨#[64]⟩ : ByteArray) ++ bs dm := by rw [← bs_app, ← bs_app]; rfl
              have HBS := Lib.hid hbs
              clear hbs
              obtain ⟨X, hX⟩ : ∃ X, bs lc ++ (⟨#[64]⟩ : ByteArray) ++ bs dm = X := ⟨_, rfl⟩
              have HX := Lib.hid hX
              have hblk : (w14.setCell ⟨ab, 1, none⟩ (.string X)).heap[ab]? = some (.cells #[.string (bs nm), .string X] 38 (0, 0)) := heap_setCell_row HW9.out.blk
              have k0' : (w14.setCell ⟨ab, 1, none⟩ (.string X)).cell? ⟨ab, 0, none⟩ = some (.string (bs nm)) := by rw [Lib.cell_of_heap hblk]; rfl
              have k1' : (w14.setCell ⟨ab, 1, none⟩ (.string X)).cell? ⟨ab, 1, none⟩ = some (.string X) := by rw [Lib.cell_of_heap hblk]; rfl
              have HPUT := Lib.hid (HW9.out.put habw (.string X))
              clear hblk
              go_wp2
              go_ret2
              obtain ⟨hp9, hf9⟩ := HPUT.out
              have hz : (w14.setCell ⟨ab, 1, none⟩ (.string X)).heap.size = w14.heap.size := by simp [World.setCell]
              generalize w14.setCell ⟨ab, 1, none⟩ (.string X) = w15 at hp9 hf9 hz ⊢
              have hnb := heap_alloc_new w15 (.cells #[.string (bs nm), .string X] 38)
              have hone := OwnA.one (B := w.heap.size) (w := w15) (x := bs nm) (y := X) hf9.size
              rw [hz] at hnb hone
              refine ⟨⟨_, true, m + 1, ok8, 1, rfl, hp9.frk ((Fr.refl _ w15).alloc (fun k hk => hk) _), by omega, fun _ => by omega, HO8.out, hone, fun _ he => ?_⟩, hf9.alloc (fun k hk => Nat.lt_of_lt_of_le hk.2 hf9.size) _⟩
              exact ⟨nm, _, w14.heap.size, .inl ⟨us, vs, n1, n2, m, ok2, ok3, ok7, lc, dm, HUS.out, HN1.out, H1.out, H2.out, HNM.out, HVS.out, HN2.out, by rw [HOKA.out]; exact HLC.out, H3.out, by rw [HOK4.out]; exact HDM.out, H4.out, by rw [HOK8.out]; exact he, rfl, rfl⟩, rfl, by rw [Lib.cell_of_heap hnb]; rfl, by rw [Lib.cell_of_heap hnb, HBS.out, HX.out]; rfl⟩
    | true =>
      as_aux_lemma =>
      have c2 := HW1.out.par.cells.2.2
      have hfz2 := HW1.out.par.frozen 2
      have HW2 := Lib.hid (HW1.out.setOk false)
      clear h2 HW1
      go_wp2_with fail
      generalize w6.setCell ⟨pb, 2, none⟩ (.bool false) = w7 at HW2 ⊢
      clear c2 hfz2
      go_loopw [2, 3] (fun r2 r3 wr => r2 = .slice none 0 0 ∧ r3 = .bool false ∧ ∃ m, n1 + 1 ≤ m ∧ AW pb tv ts ab nm w m false wr) (fun _ _ wr => ts.length - atOf pb wr)
      case atStart => exact ⟨rfl, rfl, n1 + 1, Nat.le_refl _, HW2.out⟩
      case round =>
        obtain ⟨rfl, rfl, m, hm, hw⟩ := hrel
        have HWR := Lib.hid hw
        have hml := hw.par.le
        have hat := hw.par.at
        have HAT := Lib.hid hat
        clear hw hat
        go_wp2_with fail
        refine (is_any pb tv ts m false 64 _ HWR.out.par).mono ?_
        rintro x w8 ⟨rfl, q, rfl⟩
        have HWX := Lib.hid (HWR.out.drewN q)
        generalize wr.drewN q = w8 at HWX ⊢
        cases h64 : isH 64 (ts.drop m) with
        | true =>
          have H64 := Lib.hid h64
          have hmt := isH_lt h64
          clear h64
          go_wp2_with fail
          refine (take_no pb tv ts m false 44 _ HWX.out.par (isH_ne H64.out (by decide))).mono ?_
          rintro x w9 ⟨rfl, q2, rfl⟩
          have HWY := Lib.hid (HWX.out.drewN q2)
          generalize w8.drewN q2 = w9 at HWY ⊢
          have c1 := HWY.out.par.cells.2.1
          have hfz := HWY.out.par.frozen 1
          have HWZ := Lib.hid (HWY.out.setAt (m + 1) hmt)
          rw [show ((m + 1 : Nat) : Int) = (m : Int) + 1 by omega] at HWZ
          have hmb : m + 1 ≤ 4398046511104 := by omega
          clear HWX HWY
          go_wp2_with fail
          generalize w9.setCell ⟨pb, 1, none⟩ (.int .i64 ((m : Int) + 1)) = w10 at HWZ ⊢
          clear c1 hfz
          refine (domain_any pb tv ts (m + 1) false _ HWZ.out.par).mono ?_
          rintro x w11 ⟨rfl, ⟨m9, hm9, hp⟩, hf⟩
          rw [dom_false] at hp
          have HWQ := Lib.hid (HWZ.out.step' hp hf)
          have hmm : m + 1 ≤ m9 := dom_len (by omega) hp.le hm9
          obtain ⟨r4, ok7, dm, b6, hdm⟩ : ∃ r4 ok7 dm b6, domainG (ts.drop (m + 1)) false [] = (r4, ok7, dm, b6) := ⟨_, _, _, _, rfl⟩
          rw [hdm]
          clear HWZ hp hf hm9 hdm
          simp only [DRet]
          cases b6 with
          | false =>
            go_wp2
            go_ret2
            exact ARes.no HWQ.out.par (by omega) (fun e => absurd e (by decide)) HWQ.out.fr
          | true =>
            go_wp2
            go_roundw
            case rel => exact ⟨rfl, rfl, m9, by omega, HWQ.out⟩
            case measure =>
              have e1 := HAT.out; have e2 := HWQ.out.par.at
              have e3 := HWQ.out.par.le
              rw [e1, e2]; omega
        | false =>
          have H64 := Lib.hid h64
          clear h64
          go_wp2_with fail
          refine (is_any pb tv ts m false 44 _ HWX.out.par).mono ?_
          rintro x w9 ⟨rfl, q2, rfl⟩
          have HWY := Lib.hid (HWX.out.drewN q2)
          generalize w8.drewN q2 = w9 at HWY ⊢
          clear HWX
          cases h44 : isH 44 (ts.drop m) with
          | true =>
            have H44 := Lib.hid h44
            have hmt := isH_lt h44
            clear h44
            go_wp2_with fail
            refine (take_yes pb tv ts m false 44 _ HWY.out.par H44.out).mono ?_
            rintro x w10 ⟨rfl, hp, hf⟩
            have HWZ := Lib.hid (HWY.out.step' hp hf)
            clear HWY hp hf
            go_wp2
            go_roundw
            case rel => exact ⟨rfl, rfl, m + 1, by omega, HWZ.out⟩
            case measure =>
              have e1 := HAT.out; have e2 := HWZ.out.par.at
              rw [e1, e2]; omega
          | false =>
            as_aux_lemma =>
            clear h44
            cases h58 : isH 58 (ts.drop m) with
            | false =>
              have H58 := Lib.hid h58
              clear h58
              go_wp2_with fail
              refine (take_no pb tv ts m false 58 _ HWY.out.par H58.out).mono ?_
              rintro x w10 ⟨rfl, q3, rfl⟩
              have HWZ := Lib.hid (HWY.out.drewN q3)
              go_wp2
              go_ret2
              exact ARes.no HWZ.out.par (by omega) (fun e => absurd e (by decide)) HWZ.out.fr
            | true =>
              have H58 := Lib.hid h58
              have hmt := isH_lt h58
              clear h58
              go_wp2_with fail
              refine (take_yes pb tv ts m false 58 _ HWY.out.par H58.out).mono ?_
              rintro x w10 ⟨rfl, hp, hf⟩
              have HWS := Lib.hid (HWY.out.step' hp hf)
              clear HWY hp hf
              go_wp2_with fail
              refine (near_any pb tv ts ((m + 1)) false _ HWS.out.par).mono ?_
              rintro x w7 ⟨rfl, hp, hf⟩
              have HW2 := Lib.hid (HWS.out.step' hp hf)
              clear HWS hp hf
              obtain ⟨okA, hokA⟩ : ∃ okA, (false && !spaceH (ts.drop ((m + 1)))) = okA := ⟨_, rfl⟩
              have HOKA := Lib.hid hokA
              rw [hokA] at HW2
              clear hokA
              go_wp2_with fail
              refine (words_any pb tv ts ((m + 1)) _ _ HW2.out.par).mono ?_
              rintro x w8 ⟨⟨v2, rfl, hv⟩, hp, hf⟩
              obtain ⟨vs, hvs⟩ : ∃ vs, (ts.drop ((m + 1))).takeWhile wordK = vs := ⟨_, rfl⟩
              obtain ⟨n2, hn2⟩ : ∃ n2, (m + 1) + wordsN ts ((m + 1)) = n2 := ⟨_, rfl⟩
              have hn2l : (m + 1) ≤ n2 := by omega
              have hvl : tlen vs ≤ 4398046511104 := by rw [← hvs]; exact Nat.le_trans (tlen_while _ _) (Nat.le_trans (tlen_drop _ _) HP.out.tl)
              rw [hvs] at hv
              rw [hn2] at hp
              have HV := Lib.hid hv; have HVS := Lib.hid hvs; have HN2 := Lib.hid hn2
              have HW3 := Lib.hid (HW2.out.step' hp hf)
              clear HW2 hp hf hv hvs hn2
              go_wp2_with fail
              refine (local_any pb tv ts vs n2 _ v2 _ HW3.out.par HV.out hvl).mono ?_
              rintro x w9 ⟨rfl, hp, hf⟩
              obtain ⟨ok3, lc, b4, hlc⟩ : ∃ ok3 lc b4, localG vs 0 okA [] = (ok3, lc, b4) := ⟨_, _, _, rfl⟩
              have hll : lc.length ≤ 8796093022208 := by
                have h5 := localG_len vs 0 okA []
                rw [hlc] at h5; simp at h5; omega
              have hok3 : ok3 = true → okA = true := fun e => localG_ok vs 0 okA [] (by rw [hlc]; exact e)
              rw [hlc] at hp ⊢
              have HLC := Lib.hid hlc; have HOK3 := Lib.hid hok3
              have HW4 := Lib.hid (HW3.out.step hp hf)
              clear HW3 hp hf HV hlc hok3
              go_wp2_with fail
              refine (near_any pb tv ts n2 _ _ HW4.out.par).mono ?_
              rintro x w10 ⟨rfl, hp, hf⟩
              obtain ⟨ok4, hok4⟩ : ∃ ok4, (ok3 && !spaceH (ts.drop n2)) = ok4 := ⟨_, rfl⟩
              have HW5 := Lib.hid (HW4.out.step' hp hf)
              rw [show ((ok3, lc, b4).1 && !spaceH (ts.drop n2)) = ok4 from hok4] at HW5
              have HOK4 := Lib.hid hok4
              have ho4 : ok4 = true → ok = true := fun e => by
                rw [← HOK4.out, Bool.and_eq_true] at e
                have e2 := HOK3.out e.1
                rw [← HOKA.out, Bool.and_eq_true] at e2
                exact (fun e => absurd e (by decide)) e2.1
              have HO4 := Lib.hid ho4
              clear HW4 hp hf hok4 ho4
              cases b4 with
              | false =>
                go_wp2
                go_ret2
                exact ARes.no HW5.out.par (by omega) HO4.out HW5.out.fr
              | true =>
                cases h3 : isH 64 (ts.drop n2) with
                | false =>
                  have H3 := Lib.hid h3
                  clear h3
                  go_wp2_with fail
                  refine (take_no pb tv ts n2 _ 64 _ HW5.out.par H3.out).mono ?_
                  rintro x w11 ⟨rfl, q11, rfl⟩
                  have HW6 := Lib.hid (HW5.out.drewN q11)
                  go_wp2
                  go_ret2
                  exact ARes.no HW6.out.par (by omega) HO4.out HW6.out.fr
                | true =>
                  have H3 := Lib.hid h3
                  have hn2t := isH_lt h3
                  clear h3
                  go_wp2_with fail
                  refine (take_yes pb tv ts n2 _ 64 _ HW5.out.par H3.out).mono ?_
                  rintro x w11 ⟨rfl, hp, hf⟩
                  have HW6 := Lib.hid (HW5.out.step' hp hf)
                  clear HW5 hp hf
                  go_wp2_with fail
                  refine (domain_any pb tv ts (n2 + 1) _ _ HW6.out.par).mono ?_
                  rintro x w12 ⟨rfl, ⟨m, hm, hp⟩, hf⟩
                  obtain ⟨r4, ok7, dm, b6, hdm⟩ : ∃ r4 ok7 dm b6, domainG (ts.drop (n2 + 1)) ok4 [] = (r4, ok7, dm, b6) := ⟨_, _, _, _, rfl⟩
                  have hdl : dm.length ≤ 8796093022208 := by
                    have h5 := domainG_len _ (ts.drop (n2 + 1)) ok4 [] (Nat.le_refl _)
                    have h6 := tlen_drop ts (n2 + 1)
                    have h7 := HP.out.tl
                    rw [hdm] at h5; simp at h5; omega
                  have ho7 : ok7 = true → ok4 = true := fun e => (domainG_ok _ (ts.drop (n2 + 1)) ok4 [] (Nat.le_refl _)).1 (by rw [hdm]; exact e)
                  rw [hdm] at hp hm ⊢
                  obtain rfl : r4 = ts.drop m := congrArg (·.1) hm
                  have hml := dom_len (by omega) hp.le hdm
                  have HO7 := Lib.hid ho7; have HDM := Lib.hid hdm
                  have HW7 := Lib.hid (HW6.out.step' hp hf)
                  clear HW6 hp hf hm hdm ho7
                  simp only [DRet]
                  go_wp2_with fail
                  refine (near_any pb tv ts m _ _ HW7.out.par).mono ?_
                  rintro x w13 ⟨rfl, hp, hf⟩
                  obtain ⟨ok8, hok8⟩ : ∃ ok8, (ok7 && !spaceH (ts.drop m)) = ok8 := ⟨_, rfl⟩
                  have HW8 := Lib.hid (HW7.out.step' hp hf)
                  rw [show ((ts.drop m, ok7, dm, b6).2.1 && !spaceH (ts.drop m)) = ok8 from hok8] at HW8
                  have HOK8 := Lib.hid hok8
                  have ho8 : ok8 = true → ok = true := fun e => by
                    rw [← HOK8.out, Bool.and_eq_true] at e
                    exact HO4.out (HO7.out e.1)
                  have HO8 := Lib.hid ho8
                  clear HW7 hp hf hok8 ho8
                  cases b6 with
                  | false =>
                    go_wp2
                    go_ret2
                    exact ARes.no HW8.out.par (by omega) HO8.out HW8.out.fr
                  | true =>
                    cases h4 : isH 62 (ts.drop m) with
                    | false =>
                      have H4 := Lib.hid h4
                      clear h4
                      go_wp2_with fail
                      refine (take_no pb tv ts m _ 62 _ HW8.out.par H4.out).mono ?_
                      rintro x w14 ⟨rfl, q14, rfl⟩
                      have HW9 := Lib.hid (HW8.out.drewN q14)
                      go_wp2
                      go_ret2
                      exact ARes.no HW9.out.par (by omega) HO8.out HW9.out.fr
                    | true =>
                      have H4 := Lib.hid h4
                      clear h4
                      go_wp2_with fail
                      refine (take_yes pb tv ts m _ 62 _ HW8.out.par H4.out).mono ?_
                      rintro x w14 ⟨rfl, hp, hf⟩
                      have HW9 := Lib.hid (HW8.out.step' hp hf)
                      clear HW8 hp hf
                      have q1 : (bs lc).size + 1 ≤ 9223372036854775807 := by rw [bs_size]; omega
                      have q2 : (bs lc ++ (⟨#[64]⟩ : ByteArray)).size + (bs dm).size ≤ 9223372036854775807 := by
                        rw [ByteArray.size_append, bs_size, bs_size]
                        show lc.length + 1 + _ ≤ _
                        omega
                      have k0 : w14.cell? ⟨ab, 0, none⟩ = some (.string (bs nm)) := by rw [Lib.cell_of_heap HW9.out.blk]; rfl
                      have k1 : w14.cell? ⟨ab, 1, none⟩ = some (.string ⟨#[]⟩) := by rw [Lib.cell_of_heap HW9.out.blk]; rfl
                      have kz : w14.frozen? ⟨ab, 1, none⟩ = false := Lib.frozen_of_heap HW9.out.blk 1
                      have hbs : bs (lc ++ [64] ++ dm) = bs lc ++ (⟨#[64]⟩ : ByteArray) ++ bs dm := by rw [← bs_app, ← bs_app]; rfl
                      have HBS := Lib.hid hbs
                      clear hbs
                      obtain ⟨X, hX⟩ : ∃ X, bs lc ++ (⟨#[64]⟩ : ByteArray) ++ bs dm = X := ⟨_, rfl⟩
                      have HX := Lib.hid hX
                      have hblk : (w14.setCell ⟨ab, 1, none⟩ (.string X)).heap[ab]? = some (.cells #[.string (bs nm), .string X] 38 (0, 0)) := heap_setCell_row HW9.out.blk
                      have k0' : (w14.setCell ⟨ab, 1, none⟩ (.string X)).cell? ⟨ab, 0, none⟩ = some (.string (bs nm)) := by rw [Lib.cell_of_heap hblk]; rfl
                      have k1' : (w14.setCell ⟨ab, 1, none⟩ (.string X)).cell? ⟨ab, 1, none⟩ = some (.string X) := by rw [Lib.cell_of_heap hblk]; rfl
                      have HPUT := Lib.hid (HW9.out.put habw (.string X))
                      clear hblk
                      go_wp2
                      go_ret2
                      obtain ⟨hp9, hf9⟩ := HPUT.out
                      have hz : (w14.setCell ⟨ab, 1, none⟩ (.string X)).heap.size = w14.heap.size := by simp [World.setCell]
                      generalize w14.setCell ⟨ab, 1, none⟩ (.string X) = w15 at hp9 hf9 hz ⊢
                      have hnb := heap_alloc_new w15 (.cells #[.string (bs nm), .string X] 38)
                      have hone := OwnA.one (B := w.heap.size) (w := w15) (x := bs nm) (y := X) hf9.size
                      rw [hz] at hnb hone
                      refine ⟨⟨_, true, m + 1, ok8, 1, rfl, hp9.frk ((Fr.refl _ w15).alloc (fun k hk => hk) _), by omega, fun _ => by omega, HO8.out, hone, fun _ he => ?_⟩, hf9.alloc (fun k hk => Nat.lt_of_lt_of_le hk.2 hf9.size) _⟩
                      exfalso
                      rw [← HOK8.out, Bool.and_eq_true] at he
                      have e4 := HO7.out he.1
                      rw [← HOK4.out, Bool.and_eq_true] at e4
                      have e3 := HOK3.out e4.1
                      rw [← HOKA.out, Bool.false_and] at e3
                      cases e3
  | false =>
    have H1 := Lib.hid h1
    clear h1
    go_wp2_with fail
    refine (is_any pb tv ts n1 ok 64 _ HP2.out).mono ?_
    rintro x w3 ⟨rfl, m3, rfl⟩
    have HP3 := Lib.hid (HP2.out.drewN m3)
    have HF3 := Lib.hid (HF2.out.drewN m3)
    have HV3 := Lib.hid (HV2.out.fr (w' := w2.drewN m3) (by rw [hsize_drewN]; exact Nat.le_refl _) (fun k _ _ => by rw [heap_drewN]))
    generalize w2.drewN m3 = w3 at HP3 HF3 HV3 ⊢
    clear HP2 HF2 HV2
    cases h2 : isH 64 (ts.drop n1) with
    | true =>
      as_aux_lemma =>
      have H2 := Lib.hid h2
      have hn1t := isH_lt h2
      clear h2
      go_wp2_with fail
      refine (near_any pb tv ts n1 ok _ HP3.out).mono ?_
      rintro x w4 ⟨rfl, hp, hf⟩
      obtain ⟨okA, hokA⟩ : ∃ okA, (ok && !spaceH (ts.drop n1)) = okA := ⟨_, rfl⟩
      rw [hokA] at hp
      have HOKA := Lib.hid hokA
      have HP4 := Lib.hid hp
      have HF4 := Lib.hid (HF3.out.trans hf)
      have HV4 := Lib.hid (HV3.out.fr hf.size (fun k hk _ => hf.block k hk))
      clear hp hf HP3 HF3 HV3 hokA
      have c1 := HP4.out.cells.2.1
      have hfz := HP4.out.frozen 1
      have HP5 := Lib.hid (HP4.out.setAt (n1 + 1) hn1t)
      have hFS : Fr (· ≠ pb) w4 (w4.setCell ⟨pb, 1, none⟩ (.int .i64 ((n1 + 1 : Nat) : Int))) := (Fr.refl _ w4).setCell (p := ⟨pb, 1, none⟩) (fun e => e rfl) _
      have HF5 := Lib.hid (HF4.out.trans hFS)
      have HV5 := Lib.hid (HV4.out.fr hFS.size (fun k hk _ => hFS.block k hk))
      rw [show ((n1 + 1 : Nat) : Int) = (n1 : Int) + 1 by omega] at HP5 HF5 HV5
      have hn1b : n1 + 1 ≤ 4398046511104 := by omega
      clear HP4 HF4 HV4 hFS
      go_wp2_with fail
      generalize w4.setCell ⟨pb, 1, none⟩ (.int .i64 ((n1 : Int) + 1)) = w5 at HP5 HF5 HV5 ⊢
      clear c1 hfz
      refine (local_any pb tv ts us (n1 + 1) okA v _ HP5.out HV5.out hul).mono ?_
      rintro x w6 ⟨rfl, hp, hf⟩
      obtain ⟨ok3, lc, b4, hlc⟩ : ∃ ok3 lc b4, localG us 0 okA [] = (ok3, lc, b4) := ⟨_, _, _, rfl⟩
      have hll : lc.length ≤ 8796093022208 := by
        have h5 := localG_len us 0 okA []
        rw [hlc] at h5; simp at h5; omega
      have hok3 : ok3 = true → ok = true := fun e => by
        have e2 := localG_ok us 0 okA [] (by rw [hlc]; exact e)
        rw [← HOKA.out, Bool.and_eq_true] at e2
        exact e2.1
      rw [hlc] at hp ⊢
      have HLC := Lib.hid hlc; have HOK3 := Lib.hid hok3
      have HP6 := Lib.hid hp
      have HF6 := Lib.hid ((HF5.out.mono (fun k (hk : k ≠ pb ∧ k < w.heap.size) => hk.1)).trans (hf.mono (fun k (hk : k ≠ pb ∧ k < w.heap.size) => ⟨hk.1, Nat.lt_of_lt_of_le hk.2 HF5.out.size⟩)))
      clear hp hf HP5 HF5 HV5 hlc hok3
      go_wp2_with fail
      refine (domain_any pb tv ts (n1 + 1) _ _ HP6.out).mono ?_
      rintro x w7 ⟨rfl, ⟨m, hm, hp⟩, hf⟩
      obtain ⟨r4, ok7, dm, b6, hdm⟩ : ∃ r4 ok7 dm b6, domainG (ts.drop (n1 + 1)) ok3 [] = (r4, ok7, dm, b6) := ⟨_, _, _, _, rfl⟩
      have hdl : dm.length ≤ 8796093022208 := by
        have h5 := domainG_len _ (ts.drop (n1 + 1)) ok3 [] (Nat.le_refl _)
        have h6 := tlen_drop ts (n1 + 1)
        rw [hdm] at h5; simp at h5; omega
      have ho7 : ok7 = true → ok = true := fun e => HOK3.out ((domainG_ok _ (ts.drop (n1 + 1)) ok3 [] (Nat.le_refl _)).1 (by rw [hdm]; exact e))
      rw [show domainG (ts.drop (n1 + 1)) (ok3, lc, b4).1 [] = (r4, ok7, dm, b6) from hdm] at hp hm ⊢
      obtain rfl : r4 = ts.drop m := congrArg (·.1) hm
      have hml := dom_len (by omega) hp.le hdm
      have HO7 := Lib.hid ho7; have HDM := Lib.hid hdm
      have HP7 := Lib.hid hp
      have HF7 := Lib.hid (HF6.out.trans (hf.mono (fun k hk => hk.1)))
      clear HP6 HF6 hp hf hm hdm ho7
      simp only [DRet]
      have q1 : (bs lc).size + 1 ≤ 9223372036854775807 := by rw [bs_size]; omega
      have q2 : (bs lc ++ (⟨#[64]⟩ : ByteArray)).size + (bs dm).size ≤ 9223372036854775807 := by
        rw [ByteArray.size_append, bs_size, bs_size]
        show lc.length + 1 + _ ≤ _
        omega
      have hbs : bs (lc ++ [64] ++ dm) = bs lc ++ (⟨#[64]⟩ : ByteArray) ++ bs dm := by rw [← bs_app, ← bs_app]; rfl
      have HBS := Lib.hid hbs
      clear hbs
      have hnb := Lib.hid (heap_alloc_new w7 (.cells #[.string ⟨#[]⟩, .string (bs lc ++ (⟨#[64]⟩ : ByteArray) ++ bs dm)] 38))
      have hone := Lib.hid (OwnA.one (B := w.heap.size) (w := w7) (x := ⟨#[]⟩) (y := bs lc ++ (⟨#[64]⟩ : ByteArray) ++ bs dm) HF7.out.size)
      cases b4 with
      | false =>
        go_wp2
        go_ret2
        exact ⟨⟨_, false, m, ok7, 1, rfl, HP7.out.frk ((Fr.refl _ w7).alloc (fun k hk => hk) _), by omega, fun e => absurd e (by decide), HO7.out, hone.out, fun e => absurd e (by decide)⟩, HF7.out.alloc (fun k hk => Nat.lt_of_lt_of_le hk.2 HF7.out.size) _⟩
      | true =>
        cases b6 with
        | false =>
          go_wp2
          go_ret2
          exact ⟨⟨_, false, m, ok7, 1, rfl, HP7.out.frk ((Fr.refl _ w7).alloc (fun k hk => hk) _), by omega, fun e => absurd e (by decide), HO7.out, hone.out, fun e => absurd e (by decide)⟩, HF7.out.alloc (fun k hk => Nat.lt_of_lt_of_le hk.2 HF7.out.size) _⟩
        | true =>
          go_wp2
          go_ret2
          refine ⟨⟨_, true, m, ok7, 1, rfl, HP7.out.frk ((Fr.refl _ w7).alloc (fun k hk => hk) _), by omega, fun _ => by omega, HO7.out, hone.out, fun _ he => ?_⟩, HF7.out.alloc (fun k hk => Nat.lt_of_lt_of_le hk.2 HF7.out.size) _⟩
          exact ⟨[], _, w7.heap.size, .inr ⟨us, n1, ok3, ok7, lc, dm, HUS.out, HN1.out, H2.out, by rw [HOKA.out]; exact HLC.out, HDM.out, he, rfl, rfl⟩, rfl, by rw [Lib.cell_of_heap hnb.out]; rfl, by rw [Lib.cell_of_heap hnb.out, HBS.out]; rfl⟩
    | false =>
      as_aux_lemma =>
      clear h2
      obtain ⟨va, vcap, hv0, -, hvb, -⟩ := HV3.out
      have hpbw : pb < w.heap.size := HP.out.lt
      have HF4 := Lib.hid (HF3.out.mono (fun k (hk : k ≠ pb ∧ k < w.heap.size) => hk.1))
      clear HV3
      subst hv0
      by_cases hu0 : us.length = 0
      · have z0 : ¬ (0 : Int) < (us.length : Int) := by omega
        clear hu0
        go_wp2
        go_ret2
        exact ARes.no HP3.out hn1l id HF4.out
      · have z0 : (0 : Int) < (us.length : Int) := by omega
        have hn1k : n + 1 ≤ n1 := by have := HN1.out; have := HUSL.out; omega
        clear hu0
        cases h58 : isH 58 (ts.drop n1) with
        | false =>
          have H58 := Lib.hid h58
          clear h58
          go_wp2_with fail
          refine (take_no pb tv ts n1 ok 58 _ HP3.out H58.out).mono ?_
          rintro x w4 ⟨rfl, q4, rfl⟩
          have HP4 := Lib.hid (HP3.out.drewN q4); have HF5 := Lib.hid (HF4.out.drewN q4)
          go_wp2
          go_ret2
          exact ARes.no HP4.out hn1l id HF5.out
        | true =>
          have H58 := Lib.hid h58
          have hn1t := isH_lt h58
          clear h58
          go_wp2_with fail
          refine (take_yes pb tv ts n1 ok 58 _ HP3.out H58.out).mono ?_
          rintro x w4 ⟨rfl, hp, hf⟩
          have c2 := hp.cells.2.2
          have hfz := hp.frozen 2
          have hFS : Fr (· ≠ pb) w4 (w4.setCell ⟨pb, 2, none⟩ (.bool false)) := (Fr.refl _ w4).setCell (p := ⟨pb, 2, none⟩) (fun e => e rfl) _
          have HG := Lib.hid (GW.mk (n := n) (c := 0) (ov := .slice none 0 0) (hp.setOk false) ((HF4.out.trans (hf.mono (fun _ hk => hk.1))).trans (hFS.mono (fun _ hk => hk.1))) (OwnA.nil _ _) (by omega))
          clear HP3 HF3 HF4 hp hf hFS
          go_wp2_with fail
          generalize w4.setCell ⟨pb, 2, none⟩ (.bool false) = w5 at HG ⊢
          clear c2 hfz
          go_loopw [2, 3, 15] (fun r2 r3 ov wr => r2 = .slice none 0 0 ∧ r3 = .bool false ∧ ∃ m c oa on ocap, ov = .slice oa on ocap ∧ n1 + 1 ≤ m ∧ GW pb tv ts n w m c ov wr) (fun _ _ _ wr => ts.length - atOf pb wr)
          case atStart => exact ⟨rfl, rfl, n1 + 1, 0, _, _, _, rfl, Nat.le_refl _, HG.out⟩
          case round =>
            obtain ⟨rfl, rfl, m, c, oa, on, ocap, rfl, hm, hg⟩ := hrel
            have HGR := Lib.hid hg
            have hml := hg.par.le
            have HAT := Lib.hid hg.par.at
            clear hg
            cases h59 : isH 59 (ts.drop m) with
            | true =>
              have H59 := Lib.hid h59
              clear h59
              go_wp2_with fail
              refine (take_yes pb tv ts m false 59 _ HGR.out.par H59.out).mono ?_
              rintro x w6 ⟨rfl, hp, hf⟩
              have HGX := Lib.hid (HGR.out.step hpbw hp hf (by omega))
              clear hp hf
              go_wp2
              go_ret2
              exact ⟨⟨_, true, m + 1, false, c, rfl, HGX.out.par, HGX.out.cnt, fun _ => by omega, fun e => absurd e (by decide), HGX.out.own, fun _ e => absurd e (by decide)⟩, HGX.out.fr⟩
            | false =>
              have H59 := Lib.hid h59
              clear h59
              go_wp2_with fail
              refine (take_no pb tv ts m false 59 _ HGR.out.par H59.out).mono ?_
              rintro x w6 ⟨rfl, q6, rfl⟩
              have HGX := Lib.hid (HGR.out.drewN hpbw q6)
              generalize wr.drewN q6 = w6 at HGX ⊢
              cases h44 : isH 44 (ts.drop m) with
              | true =>
                have H44 := Lib.hid h44
                have hmt := isH_lt h44
                clear h44
                go_wp2_with fail
                refine (take_yes pb tv ts m false 44 _ HGX.out.par H44.out).mono ?_
                rintro x w7 ⟨rfl, hp, hf⟩
                have HGY := Lib.hid (HGX.out.step hpbw hp hf (Nat.le_succ m))
                clear hp hf
                go_wp2
                go_roundw
                case rel => exact ⟨rfl, rfl, m + 1, c, _, _, _, rfl, by omega, HGY.out⟩
                case measure =>
                  have e1 := HAT.out; have e2 := HGY.out.par.at
                  rw [e1, e2]; omega
              | false =>
                have H44 := Lib.hid h44
                clear h44
                go_wp2_with fail
                refine (take_no pb tv ts m false 44 _ HGX.out.par H44.out).mono ?_
                rintro x w7 ⟨rfl, q7, rfl⟩
                have HGY := Lib.hid (HGX.out.drewN hpbw q7)
                generalize w6.drewN q7 = w7 at HGY ⊢
                go_wp2_with fail
                refine (IH.out pb tv ts m false _ (by have := HNN.out; omega) HGY.out.par (tabs_grp HTB.out HGY.out.fr HGB.out) HGB.out).mono ?_
                rintro x w8 ⟨⟨lv, b, m', ok', cnt, rfl, hp, hcm, hbm, hok, hown, -⟩, hf⟩
                have hok' : ok' = false := by cases ok' with | false => rfl | true => exact absurd (hok rfl) (by decide)
                subst hok'
                have hFw := HGY.out.fr.trans (hf.mono (fun k (hk : k ≠ pb ∧ k < w.heap.size) => ⟨hk.1, Nat.lt_of_lt_of_le hk.2 HGY.out.fr.size⟩))
                have hGo := HGY.out.own.fr (w' := w8) (fun k e hk => hf.block k ⟨fun e2 => by have := (HGY.out.own.block k e).1; omega, hk⟩)
                have HPP := Lib.hid hp; have HFW := Lib.hid hFw; have HGO := Lib.hid hGo; have HLO := Lib.hid hown; have HBM := Lib.hid hbm
                have hcnt := HGY.out.cnt
                have hml' := hp.le
                have hw78 := hf.size
                have hwz := HGY.out.fr.size
                clear hp hFw hGo hown hf hok hbm HGX HGR
                obtain ⟨la, ln, lcap, hlv⟩ : ∃ la ln lcap, lv = .slice la ln lcap := by
                  obtain ⟨xs, h1, _⟩ := HLO.out
                  rcases h1.2 with ⟨hv, _⟩ | ⟨g, cap, cur, hv, _⟩
                  · exact ⟨_, _, _, hv⟩
                  · exact ⟨_, _, _, hv⟩
                subst hlv
                cases b with
                | false =>
                  go_wp2
                  go_ret2
                  exact ARes.no HPP.out (by omega) (fun e => absurd e (by decide)) HFW.out
                | true =>
                  have hmm : m < m' := HBM.out (by first | rfl | trivial)
                  go_upto_region 40 with fail
                  go_cut [15] from 159 to 161 (fun ov wx => ∃ c oa on ocap, ov = .slice oa on ocap ∧ GW pb tv ts n w m' c ov wx)
                  case first =>
                    obtain ⟨xs, hxs, hx1⟩ := HGO.out
                    obtain ⟨ys, hys, hy1⟩ := HLO.out
                    obtain ⟨i0, hi, hz0, hz1, hz2⟩ := info_parts3 infoAdr
                    have HX1 := Lib.hid hx1; have HY1 := Lib.hid hy1
                    clear hx1 hy1
                    rcases hys.2 with ⟨hnil, hc0⟩ | ⟨g, cap, cur, hsl, hrest⟩
                    · have e1 : la = none := by injection hnil
                      have e2 : ln = 0 := by injection hnil
                      have e3 : lcap = 0 := by injection hnil
                      subst e1 e2 e3
                      clear hys hnil
                      go_wp2_with (at_builtin; refine wpList_append_own_none rfl _ _ 24 rfl w.heap.size 38 i0 2 Tryz.underlying24 hi _ c xs rfl hxs rfl ?_)
                      go_wp2
                      go_meet
                      exact ⟨c, _, _, _, rfl, ⟨HPP.out, HFW.out, ⟨xs, hxs, HX1.out⟩, by omega⟩⟩
                    · have e1 : la = some ⟨g, 0, none⟩ := by injection hsl
                      have e2 : ln = cnt := by injection hsl
                      have e3 : lcap = cap := by injection hsl
                      subst e1 e2 e3
                      have HYN := Lib.hid (hys.cells (g := g) rfl)
                      have HYL := Lib.hid hys.1
                      clear hys hsl hrest
                      go_wp2_with (at_builtin; refine wpList_append_own_at _ rfl _ _ 24 rfl w.heap.size 38 i0 _ 2 32 Tryz.underlying24 hi hz0 hz1 hz2 rfl (by decide) _ c xs rfl hxs ⟨g, 0, none⟩ _ _ ys rfl HYL.out HYN.out HY1.out ?c3 ?c4 ?c5 ?_)
                      case c3 => unfold maxLen; omega
                      case c4 => omega
                      case c5 => omega
                      intro v' w9 hown' hgrow _ hat
                      obtain ⟨ao, an, acap, rfl⟩ : ∃ ao an acap, v' = .slice ao an acap := by
                        rcases hown'.2 with ⟨hv, _⟩ | ⟨g', cap', cur', hv, _⟩
                        · exact ⟨_, _, _, hv⟩
                        · exact ⟨_, _, _, hv⟩
                      have hblk : ∀ k, k < w.heap.size → w9.heap[k]? = w8.heap[k]? := fun k hk => hgrow.block k (by omega) (fun e => by have := (hxs.lt k e.symm).1; omega)
                      have HGN := Lib.hid (GW.mk (n := n) (c := c + ln) (ov := .slice ao an acap) (HPP.out.only (hblk pb hpbw) (fun k e _ => by
                          have h1 := HP.out.own.lt k e
                          exact hblk k h1.2)) (HFW.out.trans ⟨hgrow.os, hgrow.tape, hgrow.output, hgrow.size, fun k hk => hblk k hk.2⟩) ⟨xs ++ ys, hown', fun u hu => (List.mem_append.1 hu).elim (HX1.out u) (HY1.out u)⟩ (by omega))
                      clear hown' hgrow hat hblk
                      go_wp2
                      go_meet
                      exact ⟨c + ln, _, _, _, rfl, HGN.out⟩
                  case rest =>
                    obtain ⟨c', oa', on', ocap', rfl, hg⟩ := hcut
                    have HGZ := Lib.hid hg
                    clear hg
                    go_wp2_with fail
                    refine (is_any pb tv ts m' false 44 _ HGZ.out.par).mono ?_
                    rintro x w9 ⟨rfl, q9, rfl⟩
                    have HGA := Lib.hid (HGZ.out.drewN hpbw q9)
                    generalize wc.drewN q9 = w9 at HGA ⊢
                    cases h44 : isH 44 (ts.drop m') with
                    | true =>
                      go_wp2
                      go_roundw
                      case rel => exact ⟨rfl, rfl, m', c', _, _, _, rfl, by omega, HGA.out⟩
                      case measure =>
                        have e1 := HAT.out; have e2 := HGA.out.par.at
                        rw [e1, e2]; omega
                    | false =>
                      go_wp2_with fail
                      refine (is_any pb tv ts m' false 59 _ HGA.out.par).mono ?_
                      rintro x w10 ⟨rfl, q10, rfl⟩
                      have HGB2 := Lib.hid (HGA.out.drewN hpbw q10)
                      generalize w9.drewN q10 = w10 at HGB2 ⊢
                      cases h59 : isH 59 (ts.drop m') with
                      | true =>
                        go_wp2
                        go_roundw
                        case rel => exact ⟨rfl, rfl, m', c', _, _, _, rfl, by omega, HGB2.out⟩
                        case measure =>
                          have e1 := HAT.out; have e2 := HGB2.out.par.at
                          rw [e1, e2]; omega
                      | false =>
                        go_wp2
                        go_ret2
                        exact ARes.no HGB2.out.par (by omega) (fun e => absurd e (by decide)) HGB2.out.fr
end Go.Proofs.YtpoglombagmhmaaGreatDoor
