/- netmail.ParseAddressList, impl.addresses, impl.ParseList; laws.told, laws.same: the walks. -/
import Derived.Test.YtpoglombagmhmaaGreatDoorJ4
namespace Go.Proofs.YtpoglombagmhmaaGreatDoor
open Go Go.RowKit

/-- The parser reads a text as a list of addresses. -/
def ListOf (T : List UInt8) (aas : List (List UInt8 × List UInt8)) : Prop :=
  ∀ (pb : Nat) (et : TypeId) (ev : Value) (w : World), PS pb (.pointer none) (bs T) w → Lib.Utf8Tabs 0 1 w → w.cell? ⟨2, 0, none⟩ = some (.iface et ev) → (pb ≠ 0 ∧ pb ≠ 1 ∧ pb ≠ 2) →
    Calls Tryz.prog 20 #[.pointer (some ⟨pb, 0, none⟩)] w fun x w' => (∃ qs v, x = .returned (.tuple #[v, .nilIface]) ∧ PLW w aas qs v w') ∧ Fr (fun k => k ≠ pb ∧ k < w.heap.size) w w'
theorem listOf_joined {T : List UInt8} {aas : List (List UInt8 × List UInt8)} (hJ : JT T aas) (hl : T.length ≤ 4294967296) (hal : aas.length ≤ 1048576) : ListOf T aas :=
  fun pb et ev w h hT he hgp => plist_yes pb T aas et ev w h hJ hl hal hT he hgp
set_option maxRecDepth 100000 in
theorem parse_list (T : List UInt8) (aas : List (List UInt8 × List UInt8)) (et : TypeId) (ev : Value) (w : World) (hJ : ListOf T aas)
    (hT : Lib.Utf8Tabs 0 1 w) (he : w.cell? ⟨2, 0, none⟩ = some (.iface et ev)) :
    Calls Tryz.prog 15 #[.string (bs T)] w fun x w' => (∃ B qs v, x = .returned (.tuple #[v, .nilIface]) ∧ OwnP B qs v w' ∧ Ptrs B qs aas w') ∧ Below w.heap.size w w' := by
  obtain ⟨pb, hpb⟩ : ∃ pb, w.heap.size = pb := ⟨_, rfl⟩
  have hb := (Below.refl w.heap.size w).alloc (Nat.le_refl _) (.cells #[.string (bs T), .pointer none] 64)
  have hp := heap_alloc_new w (.cells #[.string (bs T), .pointer none] 64)
  rw [hpb] at hb hp
  have hT1 := Utf8Tabs_below hT (hpb ▸ hb)
  have he1 := (hb.cell (p := ⟨2, 0, none⟩) (by rw [← hpb]; exact cell_lt he)).trans he
  have hgp : pb ≠ 0 ∧ pb ≠ 1 ∧ pb ≠ 2 := by
    have h1 := tabs_lt2 hT
    have h2 := cell_lt he
    simp only at h2
    omega
  have HB := Lib.hid hb; have HP := Lib.hid hp; have HJ := Lib.hid hJ; have HT1 := Lib.hid hT1; have HE1 := Lib.hid he1; have HGP := Lib.hid hgp; have HPB := Lib.hid hpb
  clear hb hp hJ hT he hT1 he1 hgp
  go_enter Tryz.func15, Tryz.ntmps15
  go_wp2_with fail
  generalize w.alloc (.cells #[.string (bs T), .pointer none] 64) = w1 at HB HP HT1 HE1 ⊢
  refine (HJ.out pb et ev w1 HP.out HT1.out HE1.out HGP.out).mono ?_
  rintro x w2 ⟨⟨qs, v, rfl, hpl⟩, hf⟩
  have HPL := Lib.hid hpl
  have HB2 := Lib.hid (HB.out.trans (hf.mono (K' := fun k => k < pb) (fun k hk => ⟨by omega, by have h1 := HB.out.size; have h2 := HPB.out; omega⟩)).below)
  clear hpl hf
  go_wp2
  go_ret2
  refine ⟨⟨w1.heap.size, qs, v, rfl, HPL.out.own, HPL.out.ptr⟩, ?_⟩
  first | exact HB2.out | (rw [HPB.out]; exact HB2.out)

/-- Pointers, read while a row grows. -/
theorem Ptrs.below {B : Nat} {qs : List Nat} {aas : List (List UInt8 × List UInt8)} {w w' : World} (h : Ptrs B qs aas w) (hb : Below w.heap.size w w') : Ptrs B qs aas w' := h.fr (fun q _ ⟨_, hq⟩ => hb.block q (heap_lt hq))
theorem take_get {aas : List (List UInt8 × List UInt8)} {k : Nat} {p : List UInt8 × List UInt8} (h : aas[k]? = some p) : aas.take (k + 1) = aas.take k ++ [(p.1, p.2)] := by rw [List.take_add_one, h]; rfl
/-- A row that grows beside what was there. -/
theorem push_below {B : Nat} {w wx wy : World} {v : Value} (hb : Below B w wx) (hB : B ≤ wx.heap.size) (hv : ∀ k, v.ownBlock = some k → B ≤ k) (hg : wx.grownBy wy v.ownBlock) : Below B w wy := hb.grown hg hB hv

set_option maxHeartbeats 2000000 in
set_option maxRecDepth 100000 in
theorem addresses_any (B : Nat) (qs : List Nat) (aas : List (List UInt8 × List UInt8)) (v : Value) (w : World) (h : OwnP B qs v w) (hp : Ptrs B qs aas w) (hal : aas.length ≤ 1048576) (h0 : aas ≠ []) :
    Calls Tryz.prog 16 #[v] w fun x w' => (∃ v', x = .returned v' ∧ OwnId w.heap.size aas v' w') ∧ Below w.heap.size w w' := by
  have hq0 : qs ≠ [] := by
    rintro rfl
    have := hp.len
    exact h0 (List.eq_nil_of_length_eq_zero (by rw [← this]; rfl))
  obtain ⟨g, c, rfl, hcell⟩ := h.at hq0
  obtain ⟨n, hn⟩ : ∃ n, qs.length = n := ⟨_, rfl⟩
  have HNA := Lib.hid (show n = aas.length by rw [← hn]; exact hp.len)
  rw [hn]
  have hnl : n ≤ 1048576 := by rw [HNA.out]; exact hal
  have HC := Lib.hid hcell; have HPT := Lib.hid hp; have HN := Lib.hid hn
  clear h hcell hp hn h0 hq0
  go_enter Tryz.func16, Tryz.ntmps16
  go_wp2
  go_loopw [3, 8] (fun o i wr => ∃ (k : Nat) (qa : Option Addr) (qc : Nat), i = .int .i64 k ∧ k ≤ n ∧ o = .slice qa k qc ∧ OwnId w.heap.size (aas.take k) (.slice qa k qc) wr ∧ Below w.heap.size w wr) (fun _ i _ => n - (intOf i).toNat)
  case atStart => exact ⟨0, none, 0, rfl, Nat.zero_le _, rfl, OwnId.nil _ _, Below.refl _ _⟩
  case round =>
    obtain ⟨k, qa, qc, rfl, hk, rfl, hown, hb⟩ := hrel
    have HO := Lib.hid hown; have HB := Lib.hid hb
    have hsz := hb.size
    clear hown hb
    by_cases hlt : k < n
    · obtain ⟨q, hq⟩ : ∃ q, qs[k]? = some q := ⟨_, List.getElem?_eq_getElem (by rw [HN.out]; exact hlt)⟩
      obtain ⟨p, hp⟩ : ∃ p, aas[k]? = some p := ⟨_, List.getElem?_eq_getElem (by rw [← HNA.out]; exact hlt)⟩
      have hgq := HC.out k q hq
      have hc0 : wr.cell? ⟨g, k, none⟩ = some (.pointer (some ⟨q, 0, none⟩)) := by rw [HB.out.cell (cell_lt hgq)]; exact hgq
      have hblk := (HB.out.block q (heap_lt (HPT.out.adr k q p hq hp).1)).trans (HPT.out.adr k q p hq hp).1
      have c0 : wr.cell? ⟨q, 0, none⟩ = some (.string (bs p.1)) := by rw [Lib.cell_of_heap hblk]; rfl
      have c1 : wr.cell? ⟨q, 1, none⟩ = some (.string (bs p.2)) := by rw [Lib.cell_of_heap hblk]; rfl
      have htk : (aas.take k).length = k := by rw [List.length_take, ← HNA.out]; omega
      have HTK := Lib.hid (take_get hp)
      clear hq hp hgq hblk
      go_wp2_with (at_builtin; refine wpList_push_Id rfl _ _ rfl w.heap.size (aas.take k) _ p.1 p.2 wr HO.out hsz ?c4 rfl rfl ?_)
      case c4 => rw [htk]; omega
      intro v' w5 hown' hg' hat'
      obtain ⟨qa', qc', hv'⟩ := hown'.form
      rw [List.length_append, htk, List.length_singleton] at hv'
      have HO5 := Lib.hid hown'
      have HB5 := Lib.hid ((HB.out.alloc hsz _).grown hg' (by simp; omega) (fun j e => (HO.out.block j e).1))
      subst hv'
      clear hown' hg' hat' c0 c1 hc0
      go_wp2
      go_roundw
      case rel => exact ⟨k + 1, qa', qc', by go_num, by omega, rfl, by rw [HTK.out]; exact HO5.out, HB5.out⟩
      case measure => simp [intOf]; omega
    · have hkn : k = n := by omega
      have htk : aas.take k = aas := List.take_of_length_le (by rw [← HNA.out]; omega)
      rw [htk] at HO
      clear htk
      go_wp2
      go_ret
      exact ⟨⟨_, rfl, HO.out⟩, HB.out⟩

set_option maxHeartbeats 2000000 in
set_option maxRecDepth 100000 in
theorem told_any (B : Nat) (aas : List (List UInt8 × List UInt8)) (v : Value) (w : World) (h : OwnId B aas v w) (hal : aas.length ≤ 1048576) (h0 : aas ≠ []) :
    Calls Tryz.prog 12 #[v] w fun x w' => (∃ v', x = .returned v' ∧ OwnAd w.heap.size aas v' w') ∧ Below w.heap.size w w' := by
  obtain ⟨g, c, rfl, hcell⟩ := h.at h0
  obtain ⟨n, hn⟩ : ∃ n, aas.length = n := ⟨_, rfl⟩
  rw [hn]
  have HC := Lib.hid hcell; have HN := Lib.hid hn
  rw [hn] at hal
  clear h hcell hn h0
  go_enter Tryz.func12, Tryz.ntmps12
  go_wp2
  go_loopw [3, 8] (fun o i wr => ∃ (k : Nat) (qa : Option Addr) (qc : Nat), i = .int .i64 k ∧ k ≤ n ∧ o = .slice qa k qc ∧ OwnAd w.heap.size (aas.take k) (.slice qa k qc) wr ∧ Below w.heap.size w wr) (fun _ i _ => n - (intOf i).toNat)
  case atStart => exact ⟨0, none, 0, rfl, Nat.zero_le _, rfl, OwnAd.nil _ _, Below.refl _ _⟩
  case round =>
    obtain ⟨k, qa, qc, rfl, hk, rfl, hown, hb⟩ := hrel
    have HO := Lib.hid hown; have HB := Lib.hid hb
    have hsz := hb.size
    clear hown hb
    by_cases hlt : k < n
    · obtain ⟨p, hp⟩ : ∃ p, aas[k]? = some p := ⟨_, List.getElem?_eq_getElem (by rw [HN.out]; exact hlt)⟩
      obtain ⟨h1, h2⟩ := HC.out k p hp
      have c0 : wr.cell? ⟨g, k * 2, none⟩ = some (.string (bs p.1)) := by rw [HB.out.cell (cell_lt h1)]; exact h1
      have c1 : wr.cell? ⟨g, k * 2 + 1, none⟩ = some (.string (bs p.2)) := by rw [HB.out.cell (cell_lt h2)]; exact h2
      have htk : (aas.take k).length = k := by rw [List.length_take, HN.out]; omega
      have HTK := Lib.hid (take_get hp)
      clear hp h1 h2
      go_upto_region 5 with fail
      obtain ⟨ab, hab⟩ : ∃ ab, wr.heap.size = ab := ⟨_, rfl⟩
      have HA := Lib.hid (heap_alloc_new wr (.cells #[.string (bs p.1), .string (bs p.2)] 34))
      have hbw := (Below.refl wr.heap.size wr).alloc (Nat.le_refl _) (.cells #[.string (bs p.1), .string (bs p.2)] 34)
      have HO2 := Lib.hid (HO.out.below hbw)
      have HB2 := Lib.hid (HB.out.trans (hbw.mono hsz))
      clear hbw c0 c1
      rw [hab] at HA ⊢
      clear hab
      generalize wr.alloc (.cells #[.string (bs p.1), .string (bs p.2)] 34) = w2 at HA HO2 HB2 ⊢
      have c0 : w2.cell? ⟨ab, 0, none⟩ = some (.string (bs p.1)) := by rw [Lib.cell_of_heap HA.out]; rfl
      have c1 : w2.cell? ⟨ab, 1, none⟩ = some (.string (bs p.2)) := by rw [Lib.cell_of_heap HA.out]; rfl
      have hsz2 := HB2.out.size
      go_wp2_with (at_builtin; refine wpList_push_Ad rfl _ _ rfl w.heap.size (aas.take k) _ p.1 p.2 w2 HO2.out hsz2 ?c4 rfl rfl ?_)
      case c4 => omega
      intro v' w5 hown' hg' hat'
      obtain ⟨qa', qc', hv'⟩ := hown'.form
      rw [List.length_append, htk, List.length_singleton] at hv'
      have HO5 := Lib.hid hown'
      have HB5 := Lib.hid ((HB2.out.alloc hsz2 _).grown hg' (by simp; omega) (fun j e => (HO2.out.block j e).1))
      subst hv'
      clear hown' hg' hat' c0 c1
      go_wp2
      go_roundw
      case rel => exact ⟨k + 1, qa', qc', by go_num, by omega, rfl, by rw [HTK.out]; exact HO5.out, HB5.out⟩
      case measure => simp [intOf]; omega
    · have hkn : k = n := by omega
      have htk : aas.take k = aas := List.take_of_length_le (by rw [HN.out]; omega)
      rw [htk] at HO
      clear htk
      go_wp2
      go_ret
      exact ⟨⟨_, rfl, HO.out⟩, HB.out⟩

set_option maxHeartbeats 2000000 in
set_option maxRecDepth 100000 in
theorem same_yes (B1 B2 : Nat) (aas : List (List UInt8 × List UInt8)) (v u : Value) (w : World) (h : OwnId B1 aas v w) (hu : OwnAd B2 aas u w) (hal : aas.length ≤ 1048576) (h0 : aas ≠ []) :
    Calls Tryz.prog 10 #[v, u] w fun x w' => x = .returned (.bool true) ∧ Below w.heap.size w w' := by
  obtain ⟨g, c, rfl, hcell⟩ := h.at h0
  obtain ⟨g2, c2, rfl, hcell2⟩ := hu.at h0
  obtain ⟨n, hn⟩ : ∃ n, aas.length = n := ⟨_, rfl⟩
  rw [hn]
  have HC := Lib.hid hcell; have HC2 := Lib.hid hcell2; have HN := Lib.hid hn
  rw [hn] at hal
  clear h hu hcell hcell2 hn h0
  go_enter Tryz.func10, Tryz.ntmps10
  go_wp2
  go_loopw [4, 13] (fun r0 i wr => r0 = .bool false ∧ ∃ (k : Nat), i = .int .i64 k ∧ k ≤ n ∧ Below w.heap.size w wr) (fun _ i _ => n - (intOf i).toNat)
  case atStart => exact ⟨rfl, 0, rfl, Nat.zero_le _, Below.refl _ _⟩
  case round =>
    obtain ⟨rfl, k, rfl, hk, hb⟩ := hrel
    have HB := Lib.hid hb
    clear hb
    by_cases hlt : k < n
    · obtain ⟨p, hp⟩ : ∃ p, aas[k]? = some p := ⟨_, List.getElem?_eq_getElem (by rw [HN.out]; exact hlt)⟩
      obtain ⟨h1, h2⟩ := HC.out k p hp
      obtain ⟨h3, h4⟩ := HC2.out k p hp
      have c0 : wr.cell? ⟨g, k * 2, none⟩ = some (.string (bs p.1)) := by rw [HB.out.cell (cell_lt h1)]; exact h1
      have c1 : wr.cell? ⟨g, k * 2 + 1, none⟩ = some (.string (bs p.2)) := by rw [HB.out.cell (cell_lt h2)]; exact h2
      have d0 : wr.cell? ⟨g2, k * 2, none⟩ = some (.string (bs p.1)) := by rw [HB.out.cell (cell_lt h3)]; exact h3
      have d1 : wr.cell? ⟨g2, k * 2 + 1, none⟩ = some (.string (bs p.2)) := by rw [HB.out.cell (cell_lt h4)]; exact h4
      clear hp h1 h2 h3 h4
      go_upto_region 6 with fail
      go_quiet (fail)
      have HB2 := Lib.hid (below_drewN HB.out nq)
      generalize wr.drewN nq = w2 at HB2 ⊢
      go_wp2
      go_roundw
      case rel => exact ⟨rfl, k + 1, by go_num, by omega, HB2.out⟩
      case measure => simp [intOf]; omega
    · go_wp2
      go_ret
      exact ⟨rfl, HB.out⟩

set_option maxRecDepth 100000 in
theorem iparse_list (T : List UInt8) (aas : List (List UInt8 × List UInt8)) (et : TypeId) (ev : Value) (w : World) (hJ : ListOf T aas) (hal : aas.length ≤ 1048576) (h0 : aas ≠ [])
    (hT : Lib.Utf8Tabs 0 1 w) (he : w.cell? ⟨2, 0, none⟩ = some (.iface et ev)) :
    Calls Tryz.prog 9 #[.string (bs T)] w fun x w' => (∃ B v, x = .returned (.tuple #[v, .bool true]) ∧ OwnId B aas v w') ∧ Below w.heap.size w w' := by
  have HJ := Lib.hid hJ; have HT := Lib.hid hT; have HE := Lib.hid he
  clear hJ hT he
  go_enter Tryz.func9, Tryz.ntmps9
  go_wp2_with fail
  refine (parse_list T aas et ev w HJ.out HT.out HE.out).mono ?_
  rintro x w1 ⟨⟨B, qs, v, rfl, hown, hptr⟩, hb1⟩
  have HO := Lib.hid hown; have HPT := Lib.hid hptr; have HB1 := Lib.hid hb1
  clear hown hptr hb1
  go_wp2_with fail
  refine (addresses_any B qs aas v w1 HO.out HPT.out hal h0).mono ?_
  rintro x w2 ⟨⟨v', rfl, hv'⟩, hb2⟩
  have HV := Lib.hid hv'
  have HB2 := Lib.hid (HB1.out.trans (hb2.mono HB1.out.size))
  clear hv' hb2
  go_wp2
  go_ret2
  exact ⟨⟨w1.heap.size, v', rfl, HV.out⟩, HB2.out⟩
end Go.Proofs.YtpoglombagmhmaaGreatDoor
