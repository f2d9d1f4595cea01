/- netmail.parseSingleAddress, ParseAddress, impl.Parse, on a text that is one address: the walks. -/
import Derived.Test.YtmcjmmcamelmcaaGreatDoorOD
import Derived.Test.YtmcjmmcamelmcaaGreatDoorW9
import Derived.Test.YtmcjmmcamelmcaaGreatDoorRL
import Derived.Laws.ResultCell
import Derived.Deep.Cut
import Derived.Deep.RegionWith
import Derived.Deep.RegionHeld3
namespace Go.Proofs.YtmcjmmcamelmcaaGreatDoor
open Go Go.RowKit

/-- The address that the parser answers. -/
def SARes (pb : Nat) (nm ad : List UInt8) (w : World) (x : Ending) (w' : World) : Prop :=
  (∃ q, x = .returned (.tuple #[.pointer (some ⟨q, 0, none⟩), .nilIface]) ∧ w'.heap[q]? = some (.cells #[.string (bs nm), .string (bs ad)] 60 (0, 0))) ∧ Fr (fun k => k ≠ pb ∧ k < w.heap.size) w w'
set_option maxHeartbeats 1000000 in
set_option maxRecDepth 100000 in
theorem single_yes (pb : Nat) (l : Bool) (R nm ad : List UInt8) (et : TypeId) (ev : Value) (w : World) (h : PS pb (.pointer none) (bs R) w) (hg : GoodS R) (hl : R.length ≤ 4194304) (ha : AddrT [] l (R.dropWhile isSp) nm ad)
    (hT : Lib.Utf8Tabs 0 1 w) (he : w.cell? ⟨2, 0, none⟩ = some (.iface et ev)) (hgp : pb ≠ 0 ∧ pb ≠ 1 ∧ pb ≠ 2) :
    Calls Tryz.prog 31 #[.pointer (some ⟨pb, 0, none⟩)] w fun x w' => SARes pb nm ad w x w' := by
  have hpb := h.cells.2.2.2
  have HP := Lib.hid h; have HG := Lib.hid hg; have HA := Lib.hid ha; have HT := Lib.hid hT; have HE := Lib.hid he; have HGP := Lib.hid hgp
  clear h hg ha hT he hgp
  go_enter Tryz.func31, Tryz.ntmps31
  go_wp2_with fail
  refine (paddr_yes pb [] l true R nm ad et ev w HP.out HG.out hl HA.out HT.out HE.out HGP.out).mono ?_
  rintro x w1 ⟨⟨g, q, rfl, hadr⟩, ⟨R5, b5, hp5, ht5, hg5, hl5⟩, hf⟩
  have hlt : ∀ {k : Nat} {o : Obj}, w1.heap[k]? = some o → k < w1.heap.size := fun h => (Array.getElem?_eq_some_iff.1 h).1
  have hgl := hlt hadr.row
  have hql := hlt hadr.adr
  have hgp : g ≠ pb := by have := hadr.hg; omega
  have hqp : q ≠ pb := by have := hadr.hq; omega
  have hR5 := toks_none ht5
  have HQ1 := Lib.hid (show PQ pb w (bs R5) w1 from ⟨hp5, hf⟩)
  have HADR := Lib.hid hadr; have HR5 := Lib.hid hR5
  have hrl : R5.length ≤ 4194304 := by omega
  clear hp5 ht5 hg5 hf hadr hlt hR5
  go_wp2_with fail
  refine (cfwsL pb R5 _ HQ1.out.ps (by omega) (fun t e => by rw [HR5.out] at e; cases e)).mono ?_
  rintro x w2 ⟨rfl, hp2, hf2⟩
  rw [HR5.out] at hp2
  have hA2 := (hf2.block g ⟨hgp, hgl⟩).trans HADR.out.row
  have HD2 := Lib.hid ((hf2.block q ⟨hqp, hql⟩).trans HADR.out.adr)
  have HQ2 := Lib.hid (HQ1.out.step hp2 hf2)
  have c0 : w2.cell? ⟨g, 0, none⟩ = some (.pointer (some ⟨q, 0, none⟩)) := by rw [Lib.cell_of_heap hA2]; rfl
  clear hp2 hf2 hA2
  go_wp2_with fail
  refine (pempty_any pb (.pointer none) (bs []) _ HQ2.out.ps).mono ?_
  rintro x w3 ⟨rfl, rfl⟩
  rw [show decide ((bs []).size = 0) = true by rfl]
  go_wp2
  go_ret2
  exact ⟨⟨q, rfl, HD2.out⟩, HQ2.out.fr⟩

set_option maxRecDepth 100000 in
theorem parse_addr (l : Bool) (R nm ad : List UInt8) (et : TypeId) (ev : Value) (w : World) (hg : GoodS R) (hl : R.length ≤ 4194304) (ha : AddrT [] l (R.dropWhile isSp) nm ad)
    (hT : Lib.Utf8Tabs 0 1 w) (he : w.cell? ⟨2, 0, none⟩ = some (.iface et ev)) :
    Calls Tryz.prog 20 #[.string (bs R)] w fun x w' => (∃ q, x = .returned (.tuple #[.pointer (some ⟨q, 0, none⟩), .nilIface]) ∧ w'.heap[q]? = some (.cells #[.string (bs nm), .string (bs ad)] 60 (0, 0))) ∧ Below w.heap.size w w' := by
  obtain ⟨pb, hpb⟩ : ∃ pb, w.heap.size = pb := ⟨_, rfl⟩
  have hb := (Below.refl w.heap.size w).alloc (Nat.le_refl _) (.cells #[.string (bs R), .pointer none] 74)
  have hp := heap_alloc_new w (.cells #[.string (bs R), .pointer none] 74)
  rw [hpb] at hb hp
  have hT1 := Utf8Tabs_below hT (hpb ▸ hb)
  have he1 := (hb.cell (p := ⟨2, 0, none⟩) (by rw [← hpb]; exact cell_lt he)).trans he
  have hgp : pb ≠ 0 ∧ pb ≠ 1 ∧ pb ≠ 2 := by
    have h1 := tabs_lt2 hT
    have h2 := cell_lt he
    simp only at h2
    omega
  have HB := Lib.hid hb; have HP := Lib.hid hp; have HG := Lib.hid hg; have HA := Lib.hid ha; have HT1 := Lib.hid hT1; have HE1 := Lib.hid he1; have HGP := Lib.hid hgp; have HPB := Lib.hid hpb
  clear hb hp hg ha hT he hT1 he1 hgp
  go_enter Tryz.func20, Tryz.ntmps20
  go_wp2_with fail
  generalize w.alloc (.cells #[.string (bs R), .pointer none] 74) = w1 at HB HP HT1 HE1 ⊢
  refine (single_yes pb l R nm ad et ev w1 HP.out HG.out hl HA.out HT1.out HE1.out HGP.out).mono ?_
  rintro x w2 ⟨⟨q, rfl, hd⟩, hf⟩
  have HD := Lib.hid hd
  have HB2 := Lib.hid (HB.out.trans (hf.mono (K' := fun k => k < pb) (fun k hk => ⟨by omega, by have h1 := HB.out.size; have h2 := HPB.out; omega⟩)).below)
  clear hd hf
  go_wp2
  go_ret2
  refine ⟨⟨q, rfl, HD.out⟩, ?_⟩
  first | exact HB2.out | (rw [HPB.out]; exact HB2.out)

set_option maxRecDepth 100000 in
theorem parse_one (l : Bool) (R nm ad : List UInt8) (et : TypeId) (ev : Value) (w : World) (hg : GoodS R) (hl : R.length ≤ 4194304) (ha : AddrT [] l (R.dropWhile isSp) nm ad)
    (hT : Lib.Utf8Tabs 0 1 w) (he : w.cell? ⟨2, 0, none⟩ = some (.iface et ev)) :
    Calls Tryz.prog 13 #[.string (bs R)] w fun x w' => x = .returned (.tuple #[.agg #[.string (bs nm), .string (bs ad)], .bool true]) ∧ Below w.heap.size w w' := by
  have hb := (Below.refl w.heap.size w).alloc (Nat.le_refl _) (.cells #[.string ⟨#[]⟩, .string ⟨#[]⟩] 33)
  have hA := heap_alloc_new w (.cells #[.string ⟨#[]⟩, .string ⟨#[]⟩] 33)
  have hT1 := Utf8Tabs_below hT hb
  have he1 := (hb.cell (p := ⟨2, 0, none⟩) (cell_lt he)).trans he
  have HG := Lib.hid hg; have HA := Lib.hid ha; have HT1 := Lib.hid hT1; have HE1 := Lib.hid he1; have HB := Lib.hid hb; have HAL := Lib.hid hA
  clear hg ha hT he hb hA hT1 he1
  go_enter Tryz.func13, Tryz.ntmps13
  go_wp2_with fail
  obtain ⟨N, hN⟩ : ∃ N, w.heap.size = N := ⟨_, rfl⟩
  have HN := Lib.hid hN
  rw [hN] at HB HAL ⊢
  clear hN
  generalize w.alloc (.cells #[.string ⟨#[]⟩, .string ⟨#[]⟩] 33) = w1 at HB HAL HT1 HE1 ⊢
  refine (parse_addr l R nm ad et ev w1 HG.out hl HA.out HT1.out HE1.out).mono ?_
  rintro x w2 ⟨⟨q, rfl, hd⟩, hb2⟩
  have hlt : N < w1.heap.size := (Array.getElem?_eq_some_iff.1 HAL.out).1
  have HA2 := Lib.hid ((hb2.block N hlt).trans HAL.out)
  have HB2 := Lib.hid (HB.out.trans (hb2.mono (by omega)))
  have c0 : w2.cell? ⟨q, 0, none⟩ = some (.string (bs nm)) := by rw [Lib.cell_of_heap hd]; rfl
  have c1 : w2.cell? ⟨q, 1, none⟩ = some (.string (bs ad)) := by rw [Lib.cell_of_heap hd]; rfl
  have a0 : w2.cell? ⟨N, 0, none⟩ = some (.string ⟨#[]⟩) := by rw [Lib.cell_of_heap HA2.out]; rfl
  have a1 : w2.cell? ⟨N, 1, none⟩ = some (.string ⟨#[]⟩) := by rw [Lib.cell_of_heap HA2.out]; rfl
  have f0 : w2.frozen? ⟨N, 0, none⟩ = false := Lib.frozen_of_heap HA2.out 0
  have f1 : w2.frozen? ⟨N, 1, none⟩ = false := Lib.frozen_of_heap HA2.out 1
  clear hd hb2 hlt
  go_wp2
  have hE := made_end (v0 := .string (bs nm)) (v1 := .string (bs ad)) HA2.out HB2.out
  generalize (w2.setCell ⟨N, 0, none⟩ (.string (bs nm))).setCell ⟨N, 1, none⟩ (.string (bs ad)) = w9 at hE ⊢
  have u0 : w9.cell? ⟨N, 0, none⟩ = some (.string (bs nm)) := by rw [Lib.cell_of_heap hE.1]; rfl
  have u1 : w9.cell? ⟨N, 1, none⟩ = some (.string (bs ad)) := by rw [Lib.cell_of_heap hE.1]; rfl
  (try simp only [Exit.inBlock, Exit.then])
  refine bodyPost_ret (v := .tuple #[.agg #[.string (bs nm), .string (bs ad)], .bool true]) ?_ rfl ⟨rfl, by rw [HN.out]; exact hE.2⟩
  rw [results_cell_tmp rfl]
  go_simp
end Go.Proofs.YtmcjmmcamelmcaaGreatDoor
/- laws.FnEncodedNameIsRead: the walk. -/
namespace Go.Proofs.YtmcjmmcamelmcaaGreatDoor
open Go Go.RowKit

theorem AddrT.skip {Z : List Tok} {l : Bool} {R nm ad : List UInt8} (h : AddrT Z l R nm ad) : AddrT Z l (R.dropWhile isSp) nm ad := by
  cases h with
  | angle b sp x us X ht hw hn hX =>
    obtain ⟨b', hb, _⟩ := ph_skip R b
    exact .angle b' sp x us X (by rw [← hb]; exact ht) hw hn hX
  | alone L D R4 hR hL hD h4 ht hn ha =>
    obtain ⟨c, t, hLc, hc⟩ := hL.head
    have : R.dropWhile isSp = R := by rw [hR, hLc]; exact nosp_drop (atom_neSp hc)
    rw [this]
    exact .alone L D R4 hR hL hD h4 ht hn ha
theorem ascii_valid : ∀ {l : List UInt8}, (∀ c ∈ l, c.toNat < 128) → Lib.validD l = true
  | [], _ => Lib.validD_nil
  | c :: t, h => by
    rw [Lib.validD_cons c t (h c (by simp))]
    exact ascii_valid (fun d hd => h d (by simp [hd]))
theorem dots_ctl {l : List UInt8} (h : Dots l) : ∀ c ∈ l, c.toNat < 128 ∧ ctlB c = false := by
  induction h with
  | one a h0 h => exact fun c hc => atom_ctl (h c hc)
  | more a l h0 h hl ih =>
    intro c hc
    rcases List.mem_append.1 hc with hc | hc
    · exact atom_ctl (h c hc)
    · rcases List.mem_cons.1 hc with rfl | hc
      · decide
      · exact ih c hc
theorem nmw_addr {s nm l d : List UInt8} {ts : List Tok} (h : NmW s ts nm) (hl : Dots l) (hd : Dots d) : AddrT [] false (s ++ angleL l d) nm (l ++ 64 :: d) ∧ GoodS (s ++ angleL l d) := by
  obtain ⟨ls, hls, hlt⟩ := toks_dots hl
  obtain ⟨ds, hds, hdt⟩ := toks_dots hd
  have hpl : ∀ c ∈ s ++ angleL l d, c.toNat < 128 ∧ ctlB c = false := by
    intro c hc
    rcases List.mem_append.1 hc with hc | hc
    · exact h.plain c hc
    · unfold angleL at hc
      simp only [List.mem_append, List.mem_singleton] at hc
      rcases hc with (((rfl | hc) | rfl) | hc) | rfl
      · decide
      · exact dots_ctl hl c hc
      · decide
      · exact dots_ctl hd c hc
      · decide
  refine ⟨.angle false (!ts.isEmpty) [] ts (ls ++ ⟨64, [], false⟩ :: (ds ++ [⟨62, [], false⟩])) ?_ h.word ?_ ?_, ascii_valid (fun c hc => (hpl c hc).1), fun c hc => (hpl c hc).2⟩
  · rw [h.toks, toks_angle hlt hdt]
    rfl
  · have := h.name []
    rw [List.append_nil, nameG] at this
    exact this
  · have h1 := (hls.head []).2
    rw [List.append_nil] at h1
    exact angle_hX hls.words (by have := hls.local 0 [] rfl; rwa [List.nil_append] at this) h1 (by have := hds.domain ⟨62, [], false⟩ (by decide) []; rwa [List.nil_append] at this)
theorem encL_len {b : Bool} {cs t : List UInt8} (hcs : CS cs) : t.length ≤ (encL b cs t).length := by
  unfold encL
  cases b with
  | true =>
    rw [if_pos rfl, wdC_length hcs, b64_length]; omega
  | false =>
    rw [if_neg (by simp), wdC_length hcs]
    have : ∀ l : List UInt8, l.length ≤ (eqL l).length := by
      intro l
      induction l with
      | nil => simp
      | cons c t ih =>
        rw [show eqL (c :: t) = eqB c ++ eqL t from by simp [eqL], List.length_append, List.length_cons]
        have : 1 ≤ (eqB c).length := by unfold eqB; split <;> (try split) <;> simp
        omega
    have := this t
    omega
theorem enc_any (b : Bool) (cl : List UInt8) (t : ByteArray) (w : World) (hc : cl.length ≤ 1024) (ht : t.size ≤ 2147483647) :
    Calls Tryz.prog 10 #[.bool b, .string (bs cl), .string t] w fun x w' => x = .returned (.string (bs (encL b cl t.data.toList))) ∧ Below w.heap.size w w' := by
  cases b with
  | true => exact encb_any cl t w hc ht
  | false => exact encq_any cl t w hc ht

/-- A row of texts that came in. -/
structure StrArg (v : Value) (n : Nat) (f : Nat → ByteArray) (B : Nat) (w : World) : Prop where
  form : (v = .slice none 0 0 ∧ n = 0) ∨ ∃ a cap, v = .slice (some a) n cap ∧ n ≤ cap ∧ cap ≤ maxLen ∧ ∀ j, j < n → w.cell? (a.add j) = some (.string (f j)) ∧ (a.add j).block < B
  size : ∀ j, j < n → (f j).size ≤ maxLen
theorem StrArg.below {v : Value} {n : Nat} {f : Nat → ByteArray} {B : Nat} {w w' : World} (h : StrArg v n f B w) (hb : Below B w w') : StrArg v n f B w' := by
  refine ⟨?_, h.size⟩
  rcases h.form with h | ⟨a, cap, h1, h2, h3, h4⟩
  · exact .inl h
  · exact .inr ⟨a, cap, h1, h2, h3, fun j hj => ⟨by rw [hb.cell (h4 j hj).2]; exact (h4 j hj).1, (h4 j hj).2⟩⟩
structure IntArg (v : Value) (n : Nat) (f : Nat → Int) (B : Nat) (w : World) : Prop where
  form : (v = .slice none 0 0 ∧ n = 0) ∨ ∃ a cap, v = .slice (some a) n cap ∧ n ≤ cap ∧ cap ≤ maxLen ∧ ∀ j, j < n → w.cell? (a.add j) = some (.int .i64 (f j)) ∧ (a.add j).block < B
  size : ∀ j, j < n → -9223372036854775808 ≤ f j ∧ f j ≤ 9223372036854775807
theorem IntArg.below {v : Value} {n : Nat} {f : Nat → Int} {B : Nat} {w w' : World} (h : IntArg v n f B w) (hb : Below B w w') : IntArg v n f B w' := by
  refine ⟨?_, h.size⟩
  rcases h.form with h | ⟨a, cap, h1, h2, h3, h4⟩
  · exact .inl h
  · exact .inr ⟨a, cap, h1, h2, h3, fun j hj => ⟨by rw [hb.cell (h4 j hj).2]; exact (h4 j hj).1, (h4 j hj).2⟩⟩
theorem blank_arg {v : Value} {n : Nat} {f : Nat → Int} {B : Nat} {w : World} (h : IntArg v n f B w) (hB : B ≤ w.heap.size) (i : Nat) (hi : i ≤ 9223372036854775807) (hn : n ≤ 9223372036854775807) :
    Calls Tryz.prog 11 #[v, .int .i64 i] w fun x w' => BlankRet x ∧ Below w.heap.size w w' := by
  rcases h.form with ⟨rfl, rfl⟩ | ⟨a, cap, rfl, h2, h3, h4⟩
  · exact blank_out i 0 _ w ⟨none, 0, rfl⟩ hi hn (by omega)
  · by_cases hlt : i < n
    · obtain ⟨h5, h6⟩ := h4 i hlt
      obtain ⟨h7, h8⟩ := h.size i hlt
      exact blank_in i n cap a (f i) w h2 h3 hlt h5 (by omega) h7 h8
    · exact blank_out i n _ w ⟨some a, cap, rfl⟩ hi hn hlt
theorem fits_arg {v : Value} {n : Nat} {f : Nat → ByteArray} {B : Nat} {w : World} (h : StrArg v n f B w) :
    Calls Tryz.prog 8 #[v] w fun x w' => FitRet n f x ∧ w' = w := by
  rcases h.form with ⟨rfl, rfl⟩ | ⟨a, cap, rfl, h2, h3, h4⟩
  · exact fits_nil f w
  · exact fits_any n cap a f w h2 h3 (fun j hj => ⟨(h4 j hj).1, h.size j hj⟩)
end Go.Proofs.YtmcjmmcamelmcaaGreatDoor
/- laws.FnEncodedNameIsRead: for every input the law returns true. -/
namespace Go.Proofs.YtmcjmmcamelmcaaGreatDoor
open Go Go.RowKit

/-- One of the charsets' names, taken by its number. -/
theorem enc_pick (b : Bool) (j : Nat) (h : j < [Value.string ⟨#[85, 84, 70, 45, 56]⟩, .string ⟨#[117, 116, 102, 45, 56]⟩, .string ⟨#[85, 116, 102, 45, 56]⟩].length) (t : ByteArray) (w : World) (ht : t.size ≤ 2147483647) :
    Calls Tryz.prog 10 #[.bool b, [Value.string ⟨#[85, 84, 70, 45, 56]⟩, .string ⟨#[117, 116, 102, 45, 56]⟩, .string ⟨#[85, 116, 102, 45, 56]⟩][j], .string t] w fun x w' => (∃ cs, CS cs ∧ x = .returned (.string (bs (encL b cs t.data.toList)))) ∧ Below w.heap.size w w' := by
  simp only [List.length_cons, List.length_nil] at h
  have hj : j = 0 ∨ j = 1 ∨ j = 2 := by omega
  rcases hj with rfl | rfl | rfl
  · exact (enc_any b [85, 84, 70, 45, 56] t w (by decide) ht).mono (fun x w' h => ⟨⟨_, .inl rfl, h.1⟩, h.2⟩)
  · exact (enc_any b [117, 116, 102, 45, 56] t w (by decide) ht).mono (fun x w' h => ⟨⟨_, .inr (.inl rfl), h.1⟩, h.2⟩)
  · exact (enc_any b [85, 116, 102, 45, 56] t w (by decide) ht).mono (fun x w' h => ⟨⟨_, .inr (.inr rfl), h.1⟩, h.2⟩)

/-- The law's state: the address so far, the words so far. -/
structure LW (w : World) (ab : Nat) (X : ByteArray) (k : Nat) (sl nm : List UInt8) (wx : World) : Prop where
  blk : wx.heap[ab]? = some (.cells #[.string (bs nm), .string X] 33 (0, 0))
  bel : Below w.heap.size w wx
  nw : ∃ ts, NmW sl ts nm
  sll : sl.length ≤ 79 * k
  nml : nm.length ≤ 75 * k
theorem LW.lt {w : World} {ab : Nat} {X : ByteArray} {k : Nat} {sl nm : List UInt8} {wx : World} (h : LW w ab X k sl nm wx) : ab < wx.heap.size := (Array.getElem?_eq_some_iff.1 h.blk).1
theorem LW.below {w : World} {ab : Nat} {X : ByteArray} {k : Nat} {sl nm : List UInt8} {wx wy : World} (h : LW w ab X k sl nm wx) (hb : Below wx.heap.size wx wy) : LW w ab X k sl nm wy :=
  ⟨(hb.block ab h.lt).trans h.blk, h.bel.trans (hb.mono h.bel.size), h.nw, h.sll, h.nml⟩
theorem LW.cells {w : World} {ab : Nat} {X : ByteArray} {k : Nat} {sl nm : List UInt8} {wx : World} (h : LW w ab X k sl nm wx) : wx.cell? ⟨ab, 0, none⟩ = some (.string (bs nm)) ∧ wx.cell? ⟨ab, 1, none⟩ = some (.string X) ∧ wx.frozen? ⟨ab, 0, none⟩ = false := ⟨by rw [Lib.cell_of_heap h.blk]; rfl, by rw [Lib.cell_of_heap h.blk]; rfl, Lib.frozen_of_heap h.blk 0⟩
theorem LW.put {w : World} {ab : Nat} {X : ByteArray} {k : Nat} {sl nm : List UInt8} {wx : World} (h : LW w ab X k sl nm wx) (hab : w.heap.size ≤ ab) {cw t bl : List UInt8} (he : EW cw t) (hb : ∀ c ∈ bl, isSp c = true) (hl : (cw ++ 32 :: bl).length ≤ 79) (ht : t.length ≤ 75) : LW w ab X (k + 1) (sl ++ (cw ++ 32 :: bl)) (nm ++ t) (wx.setCell ⟨ab, 0, none⟩ (.string (bs (nm ++ t)))) := by
  obtain ⟨ts, hn⟩ := h.nw
  have h1 := h.sll; have h2 := h.nml
  refine ⟨heap_setCell_row h.blk, ((Fr.of_below h.bel).setCell (p := ⟨ab, 0, none⟩) (by show ¬ ab < w.heap.size; omega) _).below, ⟨_, hn.snoc he hb⟩, ?_, ?_⟩
  · rw [List.length_append]; omega
  · rw [List.length_append]; omega
theorem StrArg.slice {v : Value} {n : Nat} {f : Nat → ByteArray} {B : Nat} {w : World} (h : StrArg v n f B w) : ∃ p c, v = .slice p n c ∧ n ≤ maxLen := by
  rcases h.form with ⟨rfl, rfl⟩ | ⟨a, cap, rfl, h2, h3, _⟩
  · exact ⟨none, 0, rfl, Nat.zero_le _⟩
  · exact ⟨_, _, rfl, by omega⟩
theorem IntArg.slice {v : Value} {n : Nat} {f : Nat → Int} {B : Nat} {w : World} (h : IntArg v n f B w) : ∃ p c, v = .slice p n c ∧ n ≤ maxLen := by
  rcases h.form with ⟨rfl, rfl⟩ | ⟨a, cap, rfl, h2, h3, _⟩
  · exact ⟨none, 0, rfl, Nat.zero_le _⟩
  · exact ⟨_, _, rfl, by omega⟩

theorem blank_z {v : Value} {n : Nat} {f : Nat → Int} {B : Nat} {w : World} (h : IntArg v n f B w) (hB : B ≤ w.heap.size) (z : Int) (i : Nat) (hz : z = i) (hi : i ≤ 9223372036854775807) (hn : n ≤ 9223372036854775807) :
    Calls Tryz.prog 11 #[v, .int .i64 z] w fun x w' => BlankRet x ∧ Below w.heap.size w w' := by
  subst hz
  exact blank_arg h hB i hi hn
theorem isEmpty_ba (T : ByteArray) : T.toList.isEmpty = T.data.toList.isEmpty := by rw [ByteArray.toList_eq]
set_option maxHeartbeats 8000000 in
set_option maxRecDepth 100000 in
theorem FnEncodedNameIsRead_true (v0 v1 : Value) (n0 n1 : Nat) (f : Nat → ByteArray) (g : Nat → Int) (l d : ByteArray) (et : TypeId) (ev : Value) (w : World) (h0 : StrArg v0 n0 f w.heap.size w) (h1 : IntArg v1 n1 g w.heap.size w) (hl : l.size ≤ 9223372036854775807) (hd : d.size ≤ 9223372036854775807) (hT : Lib.Utf8Tabs 0 1 w) (he : w.cell? ⟨2, 0, none⟩ = some (.iface et ev)) :
    Calls Tryz.prog 4 #[v0, v1, .string l, .string d] w fun x w' => x = .returned (.bool true) ∧ Below w.heap.size w w' := by
  obtain ⟨p0, c0, rfl, hm0⟩ := h0.slice
  obtain ⟨p1, c1, rfl, hm1⟩ := h1.slice
  unfold maxLen at hm0 hm1
  have H0 := Lib.hid h0; have H1 := Lib.hid h1; have HT := Lib.hid hT; have HE := Lib.hid he
  clear h0 h1 hT he
  go_enter Tryz.func4, Tryz.ntmps4
  go_wp2_with fail
  refine (fits_arg H0.out).mono ?_
  rintro x w1 ⟨⟨b, rfl, hb⟩, rfl⟩
  cases b with
  | false =>
    go_wp2
    go_ret
    exact ⟨rfl, Below.refl _ _⟩
  | true =>
    obtain ⟨hn0, hf0⟩ := hb rfl
    have HF := Lib.hid hf0
    clear hb hf0
    by_cases z1 : (2147483647 : Int) < (n1 : Int)
    · go_wp2
      go_ret
      exact ⟨rfl, Below.refl _ _⟩
    by_cases z2 : (2147483647 : Int) < (l.size : Int)
    · go_wp2
      go_ret
      exact ⟨rfl, Below.refl _ _⟩
    by_cases z3 : (2147483647 : Int) < (d.size : Int)
    · go_wp2
      go_ret
      exact ⟨rfl, Below.refl _ _⟩
    cases hm : madeG [] l.data.toList d.data.toList with
    | false =>
      have HM := Lib.hid hm
      clear hm
      go_wp2_with fail
      refine (made_any ⟨#[]⟩ l d _ (by decide) (by omega) (by omega) HT.out).mono ?_
      rintro x w2 ⟨hx, hb1⟩
      unfold MadeRet at hx
      rw [show ((⟨#[]⟩ : ByteArray).data.toList) = [] from rfl, HM.out] at hx
      subst hx
      have HB1 := Lib.hid hb1
      clear hb1
      go_wp2
      go_ret
      exact ⟨rfl, HB1.out.alloc HB1.out.size _⟩
    | true =>
      have HM := Lib.hid hm
      clear hm
      go_wp2_with fail
      refine (made_any ⟨#[]⟩ l d _ (by decide) (by omega) (by omega) HT.out).mono ?_
      rintro x w2 ⟨hx, hb1⟩
      unfold MadeRet at hx
      rw [show ((⟨#[]⟩ : ByteArray).data.toList) = [] from rfl, HM.out] at hx
      subst hx
      have HB1 := Lib.hid hb1
      clear hb1
      have hm := HM.out
      unfold madeG at hm
      rw [Bool.and_eq_true, Bool.and_eq_true, Bool.and_eq_true, Bool.and_eq_true] at hm
      obtain ⟨⟨⟨_, m3⟩, m4⟩, m5⟩ := hm
      have hll : l.data.toList.length = l.size := Array.length_toList
      have hdl : d.data.toList.length = d.size := Array.length_toList
      have hz : l.size + d.size ≤ 4096 := by have := of_decide_eq_true m5; simp only [List.length_nil] at this; omega
      have HDL := Lib.hid (dots_dotted m3); have HDD := Lib.hid (dots_dotted m4)
      obtain ⟨X, hX⟩ : ∃ X : ByteArray, (l ++ ⟨#[64]⟩ ++ d : ByteArray) = X := ⟨_, rfl⟩
      have hXL : X.data.toList = l.data.toList ++ [64] ++ d.data.toList := by rw [← hX]; simp
      have hXs : X.size ≤ 4100 := by
        have h9 : X.data.toList.length = X.size := Array.length_toList
        rw [← h9, hXL, List.length_append, List.length_append, hll, hdl]; simp; omega
      rw [hX]
      have HXL := Lib.hid hXL
      have hA1 := heap_alloc_new w2 (.cells #[.string ⟨#[]⟩, .string X] 33)
      have hB2 := HB1.out.alloc HB1.out.size (.cells #[.string ⟨#[]⟩, .string X] 33)
      have HB2 := Lib.hid hB2; have HA1 := Lib.hid hA1
      clear m3 m4 m5 hX hXL hA1 hB2 hll hdl
      by_cases y1 : n0 = 0
      · have t1 : ((n0 : Int) == 0) = true := by rw [beq_iff_eq]; omega
        go_wp2
        go_ret
        exact ⟨rfl, HB2.out⟩
      have t1 : ((n0 : Int) == 0) = false := by rw [beq_eq_false_iff_ne]; omega
      by_cases y2 : (50 : Int) < (n0 : Int)
      · go_wp2
        go_ret
        exact ⟨rfl, HB2.out⟩
      obtain ⟨a, rfl⟩ : ∃ a, p0 = some a := by
        rcases H0.out.form with ⟨h, h2⟩ | ⟨a, cap, h, _⟩
        · exact absurd h2 y1
        · cases h; exact ⟨a, rfl⟩
      have hcs : ∀ j, j < n0 → w1.cell? (a.add j) = some (.string (f j)) ∧ (a.add j).block < w1.heap.size := by
        rcases H0.out.form with ⟨h, h2⟩ | ⟨a', cap, h, _, _, h4⟩
        · exact absurd h2 y1
        · cases h; exact h4
      have HCS := Lib.hid hcs
      obtain ⟨ab, hab⟩ : ∃ ab, w2.heap.size = ab := ⟨_, rfl⟩
      have hwab : w1.heap.size ≤ ab := by rw [← hab]; exact HB1.out.size
      rw [hab] at HA1
      have HLW := Lib.hid (show LW w1 ab X 0 [] [] (w2.alloc (.cells #[.string ⟨#[]⟩, .string X] 33)) from ⟨HA1.out, HB2.out, ⟨[], NmW.nil⟩, by simp, by simp⟩)
      have HAB := Lib.hid hab
      clear hcs y1 hab
      go_wp2
      rw [HAB.out]
      clear HB2 HA1 HAB
      generalize w2.alloc (.cells #[.string ⟨#[]⟩, .string X] 33) = w3 at HLW ⊢
      go_loopw [8, 11, 54] (fun r8 s i wr => r8 = .bool false ∧ ∃ (k : Nat) (sl nm : List UInt8), i = .int .i64 k ∧ k ≤ n0 ∧ s = .string (bs sl) ∧ LW w1 ab X k sl nm wr) (fun _ _ i _ => n0 - (intOf i).toNat)
      case atStart => exact ⟨rfl, 0, [], [], rfl, Nat.zero_le _, rfl, HLW.out⟩
      case round =>
        obtain ⟨rfl, k, sl, nm, rfl, hk, rfl, hlw⟩ := hrel
        have HLWR := Lib.hid hlw
        have hsl := hlw.sll
        have hnl := hlw.nml
        have hbel := hlw.bel
        have HTR := Lib.hid (Utf8Tabs_below HT.out hbel)
        have HBE := Lib.hid hbel
        have hsz := hbel.size
        clear hlw hbel
        by_cases hlt : k < n0
        · obtain ⟨hc, hblk⟩ := HCS.out k hlt
          have hcw : wr.cell? (a.add k) = some (.string (f k)) := by rw [HBE.out.cell hblk]; exact hc
          obtain ⟨T, hTk⟩ : ∃ T, f k = T := ⟨_, rfl⟩
          have hTs := HF.out k hlt
          rw [hTk] at hcw hTs
          have H1R := Lib.hid (H1.out.below HBE.out)
          clear hc hblk hTk
          go_upto_region 10 with fail
          go_cut [14] from 59 to 72 (fun r14 wx => (∃ b cs, CS cs ∧ r14 = .string (bs (encL b cs T.data.toList))) ∧ LW w1 ab X k sl nm wx)
          case first =>
            obtain ⟨i2, hi2⟩ : ∃ i2 : Nat, 2 * k = i2 := ⟨_, rfl⟩
            have hwr : IntKind.i64.wrap (2 * (k : Int)) = (i2 : Int) := by rw [IntKind.wrap_i64]; omega
            have hi2s : i2 ≤ 100 := by omega
            have m0 : 0 ≤ (T.size : Int).tmod 3 := Int.tmod_nonneg _ (by omega)
            have m1 : (T.size : Int).tmod 3 < 3 := Int.tmod_lt_of_pos _ (by omega)
            clear hi2
            go_region_with (first
              | (go_at_call 11; refine (blank_arg (B := w1.heap.size) (H1R.out.below ?hb) ?hB i2 ?h1 ?h2).mono ?_; (case h1 => omega); (case h2 => omega); (case hb => first | exact (Below.refl _ _).drew | exact ((Below.refl _ _).alloc hsz _).drew); (case hB => first | exact hsz | (simp; omega)); rintro x wy ⟨⟨b, hb, rfl⟩, hby⟩; have hky := fun (p : Addr) hp => hby.cell (p := p) hp)
              | (go_at_call 10; refine (enc_pick _ _ _ T _ hTs).mono ?_; rintro x wz ⟨⟨cs, hcx, rfl⟩, hbz⟩))
            all_goals
              have hsy := hby.size
              have hsz2 := hbz.size
              simp at hsy hsz2
              go_wp2_with fail
              go_meet
              refine ⟨⟨_, cs, hcx, rfl⟩, HLWR.out.below ?_⟩
              repeat' first
                | exact Below.refl _ _
                | refine Below.drew ?_
                | refine Below.alloc ?_ ?_ _
                | refine Below.trans ?_ (Below.mono hbz ?_)
                | refine Below.trans ?_ (Below.mono hby ?_)
                | omega
                | (simp; done)
                | (simp; omega)
          case rest =>
            obtain ⟨⟨b, cs, hcx, rfl⟩, hlw2⟩ := hcut
            have HL2 := Lib.hid hlw2
            have hsz2 := hlw2.bel.size
            obtain ⟨tl, htl⟩ : ∃ tl, T.data.toList = tl := ⟨_, rfl⟩
            have htll : tl.length = T.size := by rw [← htl, Array.length_toList]; rfl
            obtain ⟨W, hW⟩ : ∃ W, encL b cs tl = W := ⟨_, rfl⟩
            have hWl := encL_len (b := b) (t := tl) hcx
            rw [hW] at hWl
            rw [htl, hW]
            have HTL := Lib.hid htl; have HW := Lib.hid hW
            have HT2 := Lib.hid (Utf8Tabs_below HT.out hlw2.bel)
            clear hlw2 htl hW HLWR HTR HBE hcw H1R hsz
            go_wp2_with fail
            refine (Tryz.utf8_ValidString T _ (by omega) HT2.out).mono ?_
            rintro x w5 ⟨rfl, hb5⟩
            rw [HTL.out]
            have HL5 := Lib.hid (HL2.out.below hb5)
            have hsz5 := HL5.out.bel.size
            clear hb5
            cases hv : Lib.validD tl with
            | false =>
              go_wp2
              go_ret
              exact ⟨rfl, HL5.out.bel⟩
            | true =>
              have HV := Lib.hid hv
              clear hv
              by_cases hT0 : tl = []
              · have te : T.toList.isEmpty = true := by rw [isEmpty_ba, HTL.out, hT0]; rfl
                clear hT0
                go_wp2
                go_ret
                exact ⟨rfl, HL5.out.bel⟩
              · have te : T.toList.isEmpty = false := by
                  rw [isEmpty_ba, HTL.out]
                  cases tl with
                  | nil => exact absurd rfl hT0
                  | cons a b => rfl
                have HT0 := Lib.hid hT0
                clear hT0
                by_cases h75 : (75 : Int) < ((bs W).size : Int)
                · go_wp2
                  go_ret
                  exact ⟨rfl, HL5.out.bel⟩
                · have hW75 : W.length ≤ 75 := by rw [bs_size] at h75; omega
                  have hew : EW W tl := by
                    have := enc_ew (b := b) hcx HT0.out HV.out (by rw [HW.out]; exact hW75)
                    rwa [HW.out] at this
                  obtain ⟨NM, hNM⟩ : ∃ NM, bs (nm ++ tl) = NM := ⟨_, rfl⟩
                  have hcat : bs nm ++ T = NM := by rw [← hNM, ← bs_app, ← HTL.out, bs_of]
                  have hnms : (bs nm).size ≤ 75 * k := by rw [bs_size]; exact hnl
                  have hTs2 : T.size ≤ 75 := by omega
                  have hput : ∀ bl ∈ blanksL, LW w1 ab X (k + 1) (sl ++ (W ++ 32 :: bl)) (nm ++ tl) (w5.setCell ⟨ab, 0, none⟩ (.string NM)) := by
                    intro bl hbl
                    obtain ⟨q1, q2⟩ := blanks_sp bl hbl
                    rw [← hNM]
                    exact HL5.out.put hwab hew q1 (by rw [List.length_append, List.length_cons]; omega) (by omega)
                  have HPUT := Lib.hid hput
                  obtain ⟨a0, a1, f0⟩ := HL5.out.cells
                  clear hew hput hNM
                  go_wp2_with fail
                  clear a0 a1 f0
                  generalize w5.setCell ⟨ab, 0, none⟩ (.string NM) = w6 at HPUT ⊢
                  have hbel6 := (HPUT.out [] (by decide)).bel
                  have hsz6 := hbel6.size
                  refine (blank_z (H1.out.below hbel6) hsz6 _ (2 * k + 1) ?hz ?h1 ?h2).mono ?_
                  case h1 => omega
                  case h2 => omega
                  case hz => first | (push_cast; rfl) | omega
                  rintro x w7 ⟨⟨b2, hb2, rfl⟩, hb7⟩
                  have HL7 := Lib.hid ((HPUT.out b2 hb2).below hb7)
                  have hb2s : (bs b2).size ≤ 3 := by rw [bs_size]; exact (blanks_sp b2 hb2).2
                  have hWs : (bs W).size ≤ 75 := by rw [bs_size]; exact hW75
                  have hsls : (bs sl).size ≤ 79 * k := by rw [bs_size]; exact hsl
                  obtain ⟨SN, hSN⟩ : ∃ SN, bs (sl ++ (W ++ 32 :: b2)) = SN := ⟨_, rfl⟩
                  have hcat2 : bs sl ++ (bs W ++ ⟨#[32]⟩ ++ bs b2) = SN := by
                    rw [← hSN, show (⟨#[32]⟩ : ByteArray) = bs [32] from rfl, bs_app, bs_app, bs_app]
                    simp
                  have HSN := Lib.hid hSN
                  clear hSN hbel6 hb7
                  go_wp2
                  go_roundw
                  case rel => exact ⟨rfl, k + 1, _, _, by go_num, by omega, by rw [HSN.out], HL7.out⟩
                  case measure => simp [intOf]; omega
        · have hkn : k = n0 := by omega
          have hk50 : k ≤ 50 := by omega
          have htl : ¬ (k : Int) < (n0 : Int) := by omega
          obtain ⟨ts, hnw⟩ := HLWR.out.nw
          obtain ⟨haddr, hgood⟩ := nmw_addr hnw HDL.out HDD.out
          obtain ⟨R, hR⟩ : ∃ R, sl ++ angleL l.data.toList d.data.toList = R := ⟨_, rfl⟩
          have hXB : bs (l.data.toList ++ 64 :: d.data.toList) = X := by
            rw [show l.data.toList ++ 64 :: d.data.toList = l.data.toList ++ [64] ++ d.data.toList by simp, ← HXL.out, bs_of]
          have hcat3 : bs sl ++ ⟨#[60]⟩ ++ X ++ ⟨#[62]⟩ = bs R := by
            rw [← hR, ← hXB, show (⟨#[60]⟩ : ByteArray) = bs [60] from rfl, show (⟨#[62]⟩ : ByteArray) = bs [62] from rfl, bs_app, bs_app, bs_app]
            unfold angleL
            simp
          have hRl : R.length ≤ 8192 := by
            have h9 := congrArg ByteArray.size hcat3
            rw [bs_size, ByteArray.size_append, ByteArray.size_append, ByteArray.size_append, bs_size] at h9
            have e1 : (⟨#[60]⟩ : ByteArray).size = 1 := rfl
            have e2 : (⟨#[62]⟩ : ByteArray).size = 1 := rfl
            omega
          rw [hR] at haddr hgood
          have HAD := Lib.hid haddr.skip; have HGO := Lib.hid hgood; have HXB := Lib.hid hXB
          obtain ⟨a0, a1, f0⟩ := HLWR.out.cells
          have hsls : (bs sl).size ≤ 79 * k := by rw [bs_size]; exact hsl
          have HER := Lib.hid ((HBE.out.cell (p := ⟨2, 0, none⟩) (cell_lt HE.out)).trans HE.out)
          clear hnw haddr hgood hR hXB hkn hk hlt
          go_wp2_with fail
          refine (parse_one false R nm (l.data.toList ++ 64 :: d.data.toList) et ev wr HGO.out (by omega) HAD.out HTR.out HER.out).mono ?_
          rintro x w5 ⟨rfl, hb5⟩
          rw [HXB.out]
          have HL5 := Lib.hid (HLWR.out.below hb5)
          obtain ⟨a0, a1, f0⟩ := HL5.out.cells
          have hb6 := (Below.refl w5.heap.size w5).alloc (Nat.le_refl _) (.cells #[.string (bs nm), .string X] 33)
          have HL6 := Lib.hid (HL5.out.below hb6)
          obtain ⟨b0, b1, f1⟩ := HL6.out.cells
          clear hb5 hb6
          go_wp2
          go_ret
          exact ⟨by first | rfl | simp, HL6.out.bel⟩
end Go.Proofs.YtmcjmmcamelmcaaGreatDoor
