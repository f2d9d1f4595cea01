/- laws.FnPhrase: a phrase that the reference reads is read by the package to the same name, and nothing is left: the walks. -/
import Derived.Test.YtmcjmmcamelmcaaGreatDoorNC
import Derived.Test.YtmcjmmcamelmcaaGreatDoorZ2
import Derived.BigQuiet
namespace Go.Proofs.YtmcjmmcamelmcaaGreatDoor
open Go Go.RowKit

theorem Phrase_words (R0 nm : List UInt8) (ts0 : List Tok) (l0 : Bool) (et : TypeId) (ev : Value) (w : World) (hg : GoodS R0) (hl : R0.length ≤ 4096) (ht : toksL false R0 = .good ts0 l0) (hw : ∀ t ∈ ts0, wordK t = true) (hn : nameG ts0 0 true false [] = (true, nm)) (hne : ts0 ≠ [])
    (hT : Lib.Utf8Tabs 0 1 w) (he : w.cell? ⟨2, 0, none⟩ = some (.iface et ev)) :
    Calls Tryz.prog 16 #[.string (bs R0)] w fun r w' => r = .returned (.tuple #[.string (bs nm), .string ⟨#[]⟩, .bool true]) ∧ Below w.heap.size w w' := by
  have hlt := tabs_lt2 hT
  have hle := cell_lt he
  have HCALL := Lib.hid (fun W hPS hT1 he1 hgp => cphrase_words w.heap.size R0 nm ts0 l0 et ev W hPS hg hl ht hw hn hne hT1 he1 hgp)
  have hb1 := (Below.refl w.heap.size w).alloc (Nat.le_refl _) (.cells #[.string (bs R0), .pointer none] 74)
  have HB1 := Lib.hid hb1
  have HPS := Lib.hid (show PS w.heap.size (.pointer none) (bs R0) (w.alloc (.cells #[.string (bs R0), .pointer none] 74)) from heap_alloc_new w _)
  have HT1 := Lib.hid (Utf8Tabs_below hT hb1)
  have HE1 := Lib.hid (show (w.alloc (.cells #[.string (bs R0), .pointer none] 74)).cell? ⟨2, 0, none⟩ = some (.iface et ev) by
    rw [((Fr.of_below hb1).cell (p := ⟨2, 0, none⟩) hle)]; exact he)
  have HGP := Lib.hid (show w.heap.size ≠ 0 ∧ w.heap.size ≠ 1 ∧ w.heap.size ≠ 2 from ⟨fun e => by rw [e] at hlt; exact absurd hlt.1 (Nat.lt_irrefl _), fun e => by rw [e] at hlt; exact absurd hlt.2 (Nat.lt_irrefl _), fun e => by rw [e] at hle; exact absurd hle (Nat.lt_irrefl _)⟩)
  clear hg hl ht hw hn hne hT he hlt hle hb1
  go_enter Tryz.func16, Tryz.ntmps16
  go_wp2_with fail
  refine (HCALL.out _ HPS.out HT1.out HE1.out HGP.out).mono ?_
  rintro r w2 ⟨rfl, hp, hf⟩
  have HB2 := Lib.hid (show Below w.heap.size w w2 from (HB1.out.trans (hf.mono (fun k hk => ⟨fun e => by omega, by simp; omega⟩)).below))
  have hc := hp.cells.1
  have hlt := hp.cells.2.2.2
  rw [show bs ([] : List UInt8) = ⟨#[]⟩ from rfl] at hc
  clear hp hf HPS HT1 HE1 HGP HCALL HB1
  go_upto_region 3 with fail
  go_quiet (fail)
  go_wp2
  go_ret3
  exact ⟨rfl, below_drewN HB2.out _⟩

theorem implPhrase_words (R0 nm : List UInt8) (ts0 : List Tok) (l0 : Bool) (et : TypeId) (ev : Value) (w : World) (hg : GoodS R0) (hl : R0.length ≤ 4096) (ht : toksL false R0 = .good ts0 l0) (hw : ∀ t ∈ ts0, wordK t = true) (hn : nameG ts0 0 true false [] = (true, nm)) (hne : ts0 ≠ [])
    (hT : Lib.Utf8Tabs 0 1 w) (he : w.cell? ⟨2, 0, none⟩ = some (.iface et ev)) :
    Calls Tryz.prog 6 #[.string (bs R0)] w fun r w' => r = .returned (.tuple #[.string (bs nm), .string ⟨#[]⟩, .bool true]) ∧ Below w.heap.size w w' := by
  have HC := Lib.hid (Phrase_words R0 nm ts0 l0 et ev w hg hl ht hw hn hne hT he)
  clear hg hl ht hw hn hne hT he
  go_enter Tryz.func6, Tryz.ntmps6
  go_wp2_with fail
  refine HC.out.mono ?_
  rintro r w2 ⟨rfl, hb⟩
  have HB := Lib.hid hb
  clear hb HC
  go_wp2
  go_ret3
  exact ⟨rfl, HB.out⟩

theorem Trimmed_none (w : World) : Calls Tryz.prog 7 #[.string ⟨#[]⟩] w fun r w' => r = .returned (.string ⟨#[]⟩) ∧ Below w.heap.size w w' := by
  go_enter Tryz.func7, Tryz.ntmps7
  go_wp2
  go_loopw [0] (fun v wr => v = .string ⟨#[]⟩ ∧ Below w.heap.size w wr) (fun _ _ => 0)
  case atStart => exact ⟨rfl, Below.refl _ _⟩
  case round =>
    obtain ⟨rfl, hb⟩ := hrel
    have HB := Lib.hid hb
    clear hb
    go_wp2
    go_loopw [0] (fun v wx => v = .string ⟨#[]⟩ ∧ Below w.heap.size w wx) (fun _ _ => 0)
    case atStart => exact ⟨rfl, HB.out⟩
    case round =>
      obtain ⟨rfl, hb2⟩ := hrel
      have HB2 := Lib.hid hb2
      clear hb2
      go_wp2
      go_ret
      exact ⟨rfl, HB2.out⟩
end Go.Proofs.YtmcjmmcamelmcaaGreatDoor
/- laws.FnPhrase: whatever the text, the law returns true. -/
namespace Go.Proofs.YtmcjmmcamelmcaaGreatDoor
open Go Go.RowKit

theorem valid_prefix : ∀ (n : Nat) (A R : List UInt8), A.length ≤ n → Lib.validD (A ++ R) = true → (∀ c t, R = c :: t → c.toNat < 128) → Lib.validD A = true
  | _, [], R, _, _, _ => rfl
  | 0, _ :: _, _, hn, _, _ => by simp at hn
  | n + 1, c :: A, R, hn, h, hR => by
    by_cases ha : c.toNat < 128
    · rw [List.cons_append, Lib.validD_cons c _ ha] at h
      rw [Lib.validD_cons c _ ha]
      exact valid_prefix n A R (by simp at hn; omega) h hR
    · have hne : c :: A ++ R ≠ [] := by simp
      have hok := valid_ok h hne
      have hd := valid_drop h hne
      have hall := rune_high hok (by simp; omega)
      have hw1 := wd_pos (c :: A ++ R)
      have hle : wd (c :: A ++ R) ≤ (c :: A).length := by
        rcases Nat.lt_or_ge (c :: A).length (wd (c :: A ++ R)) with h9 | h9
        · exfalso
          cases R with
          | nil =>
            have := wd_le (c :: A ++ []) hne
            rw [List.append_nil] at this h9; omega
          | cons d t =>
            have hmem : d ∈ (c :: A ++ d :: t).take (wd (c :: A ++ d :: t)) := by
              rw [List.take_append]
              apply List.mem_append_right
              obtain ⟨j, hj⟩ : ∃ j, wd (c :: A ++ d :: t) - (c :: A).length = j + 1 := ⟨wd (c :: A ++ d :: t) - (c :: A).length - 1, by omega⟩
              rw [hj]; simp
            have h1 := hall d hmem
            have h2 := hR d t rfl
            omega
        · exact h9
      have h1 := valid_one hok
      rw [List.drop_append_of_le_length hle] at hd
      rw [List.take_append_of_le_length hle] at h1
      have h2 := valid_prefix n _ R (by rw [List.length_drop]; omega) hd hR
      have h3 := valid_append _ _ _ (Nat.le_refl _) h1 h2
      rwa [List.take_append_drop] at h3
theorem goodS_of {s : List UInt8} {us : List Tok} {l' : Bool} (h : tokensL (s ++ tailP) = .good us l') : GoodS s := by
  unfold tokensL at h
  split at h
  · cases h
  · rename_i hv
    split at h
    · cases h
    · rename_i hc
      refine ⟨valid_prefix _ s tailP (Nat.le_refl _) (by simpa using hv) (fun c t e => by cases e; decide), fun c hc1 => ?_⟩
      cases hcc : ctlB c with
      | false => rfl
      | true => exact absurd (List.any_eq_true.2 ⟨c, List.mem_append_left _ hc1, hcc⟩) hc
theorem toks_some {c : UInt8} {t : List UInt8} {b : Bool} {ts : List Tok} {l : Bool} (hs : isSp c = false) (h : toksL b (c :: t) = .good ts l) : ts ≠ [] := by
  rcases ph_head hs h with ⟨_, ts', rfl, _⟩ | ⟨_, _, _, ts', _, rfl, _⟩ | ⟨_, _, _, _, ts', rfl, _⟩ <;> simp

set_option maxHeartbeats 2000000 in
set_option maxRecDepth 100000 in
theorem FnPhrase_true (s : ByteArray) (et : TypeId) (ev : Value) (w : World) (hs : s.size ≤ 9223372036854775807) (hT : Lib.Utf8Tabs 0 1 w) (he : w.cell? ⟨2, 0, none⟩ = some (.iface et ev)) :
    Calls Tryz.prog 3 #[.string s] w fun r w' => r = .returned (.bool true) ∧ Below w.heap.size w w' := by
  have HT := Lib.hid hT; have HE := Lib.hid he
  clear hT he
  by_cases z0 : (2147483647 : Int) < (s.size : Int)
  · go_enter Tryz.func3, Tryz.ntmps3
    go_wp2
    go_ret
    exact ⟨rfl, Below.refl _ _⟩
  by_cases h0 : s.size = 0
  · have he0 : s = ⟨#[]⟩ := ByteArray.ext (Array.eq_empty_of_size_eq_zero h0)
    subst he0
    go_enter Tryz.func3, Tryz.ntmps3
    go_wp2
    go_ret
    exact ⟨rfl, Below.refl _ _⟩
  have hlen : s.data.toList.length = s.size := Array.length_toList
  have z2 : s.toList.isEmpty = false := by
    rw [ByteArray.toList_eq]
    cases hh : s.data.toList with
    | nil => rw [hh] at hlen; exact absurd hlen.symm h0
    | cons a r => rfl
  by_cases z3 : (4096 : Int) < (s.size : Int)
  · go_enter Tryz.func3, Tryz.ntmps3
    go_wp2
    go_ret
    exact ⟨rfl, Below.refl _ _⟩
  have hlt0 : 0 < s.size := by omega
  obtain ⟨c, hc⟩ : ∃ c, s[0] = c := ⟨_, rfl⟩
  have hct := c.toNat_lt
  by_cases h32 : c = 32
  · have t1 : ((c.toNat : Int) == 32) = true := ceq h32
    clear h32
    go_enter Tryz.func3, Tryz.ntmps3
    go_wp2
    go_ret
    exact ⟨rfl, Below.refl _ _⟩
  have t1 : ((c.toNat : Int) == 32) = false := cneq h32
  by_cases h9 : c = 9
  · have t2 : ((c.toNat : Int) == 9) = true := ceq h9
    clear h9
    go_enter Tryz.func3, Tryz.ntmps3
    go_wp2
    go_ret
    exact ⟨rfl, Below.refl _ _⟩
  have t2 : ((c.toNat : Int) == 9) = false := cneq h9
  have HSP := Lib.hid (show isSp c = false by unfold isSp; simp [h32, h9])
  clear h32 h9
  have hsl : s.data.toList = c :: s.data.toList.tail := by
    have hd := drop_at s 0 hlt0
    rw [List.drop_zero, hc] at hd
    rw [hd]; rfl
  obtain ⟨X, hX⟩ : ∃ X : ByteArray, (s ++ ⟨#[32, 60, 97, 64, 98, 62]⟩ : ByteArray) = X := ⟨_, rfl⟩
  have hXL : X.data.toList = s.data.toList ++ tailP := by rw [← hX]; simp [tailP]
  have hXs : X.size = s.size + 6 := by
    have h1 : X.data.toList.length = X.size := Array.length_toList
    rw [← h1, hXL, List.length_append, hlen]; rfl
  have HXL := Lib.hid hXL; have HX := Lib.hid hX; have HSL := Lib.hid hsl
  clear hXL hX hsl
  go_enter Tryz.func3, Tryz.ntmps3
  go_wp2_with fail
  rw [HX.out]
  refine (One_any X _ HT.out (by omega)).mono ?_
  rintro r w1 ⟨⟨nm, ad, what, rfl, hone⟩, hb1⟩
  have HB1 := Lib.hid hb1
  have HB2 := Lib.hid (hb1.alloc hb1.size (.cells #[.string (bs nm), .string (bs ad)] 23))
  have HC := Lib.hid (heap_alloc_new w1 (.cells #[.string (bs nm), .string (bs ad)] 23))
  have hnx : w.heap.size ≤ w1.heap.size := hb1.size
  clear hb1
  by_cases hw : what = 0
  case neg =>
    have t3 : (what == 0) = false := by rw [beq_eq_false_iff_ne]; exact hw
    go_wp2
    go_ret
    exact ⟨rfl, HB2.out⟩
  case pos =>
    obtain ⟨us, last, htk, hadr⟩ := hone hw
    clear hone
    subst hw
    by_cases h60 : c = 60
    · have t4 : ((c.toNat : Int) == 60) = true := ceq h60
      clear h60 htk hadr
      go_wp2
      go_ret
      exact ⟨rfl, HB2.out⟩
    · have t4 : ((c.toNat : Int) == 60) = false := cneq h60
      clear h60
      rw [HXL.out] at htk
      have hgs := goodS_of htk
      obtain ⟨ts, l, hts, rfl⟩ := app_good _ s.data.toList false us last (Nat.le_refl _) (tokens_tlen htk).1
      obtain ⟨hw, hn⟩ := phrase_words hadr
      have hts' := hts
      rw [HSL.out] at hts'
      have HCALL := Lib.hid (fun W hT he => implPhrase_words s.data.toList nm ts l et ev W hgs (by omega) hts hw hn (toks_some HSP.out hts') hT he)
      have hbs : bs s.data.toList = s := bs_of s
      rw [hbs] at HCALL
      clear htk hadr hgs hts hts' hw hn hbs
      have HT2 := Lib.hid (Utf8Tabs_below HT.out HB2.out)
      have HE2 := Lib.hid ((HB2.out.cell (p := ⟨2, 0, none⟩) (cell_lt HE.out)).trans HE.out)
      have HC2 := Lib.hid HC.out
      have hsz : (w1.alloc (.cells #[.string (bs nm), .string (bs ad)] 23)).heap.size = w1.heap.size + 1 := by simp
      have HSZ := Lib.hid hsz
      clear hsz HC
      go_wp2_with fail
      refine (HCALL.out _ HT2.out HE2.out).mono ?_
      rintro r w3 ⟨rfl, hb3⟩
      have HB3 := Lib.hid (HB2.out.trans (hb3.mono (by rw [HSZ.out]; omega)))
      have hC3 : w3.heap[w1.heap.size]? = some (.cells #[.string (bs nm), .string (bs ad)] 23 (0, 0)) := by rw [hb3.block _ (by rw [HSZ.out]; omega)]; exact HC2.out
      have k0 : w3.cell? ⟨w1.heap.size, 0, none⟩ = some (.string (bs nm)) := by rw [Lib.cell_of_heap hC3]; rfl
      clear hb3 hC3
      go_wp2_with fail
      refine (Trimmed_none _).mono ?_
      rintro r w4 ⟨rfl, hb4⟩
      have HB4 := Lib.hid (HB3.out.trans (hb4.mono HB3.out.size))
      clear hb4
      go_wp2
      go_ret
      exact ⟨rfl, HB4.out⟩
end Go.Proofs.YtmcjmmcamelmcaaGreatDoor
