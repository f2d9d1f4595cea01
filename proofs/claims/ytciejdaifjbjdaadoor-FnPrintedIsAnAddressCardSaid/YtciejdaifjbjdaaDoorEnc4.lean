/- qEncode: the walk. -/
import Derived.Test.YtciejdaifjbjdaaDoorEnc3
import Derived.Lib.ValidAsc
import Derived.WalkSpells
namespace Go.Proofs.YtciejdaifjbjdaaDoor
open Go Go.RowKit

/-- What parts two words. -/
def sepL (e : UInt8) : List UInt8 := [63, 61, 32, 61, 63] ++ utf8S ++ [63, e, 63]
theorem sepL_length (e : UInt8) : (sepL e).length = 13 := rfl

theorem decodeGo_wd (s : ByteArray) (k : Nat) (h : k < s.size) : (Lib.decodeGo (s.extract k s.size)).2 = wd (s.data.toList.drop k) := by
  have hs : (s.extract k s.size).size = s.size - k := Lib.ext_size s k
  unfold Lib.decodeGo
  rw [if_neg (by omega)]
  unfold wd Lib.decodeL
  rw [← Lib.ext_list]

/-- The relation of qEncode's loop. -/
def QRel (e : UInt8) (s : ByteArray) (b : Nat) (K : Nat → Prop) (l : List UInt8) (w : World) (cl i : Value) (wr : World) : Prop :=
  ∃ (k : Nat) (done : List (List UInt8)) (cur : List UInt8), i = .int .i64 k ∧ cl = .int .i64 (qStr cur).length ∧ QInv (sepL e) s.data.toList k done cur ∧ Bld b K (l ++ qMid (sepL e) done ++ qStr cur) wr ∧ Fr K w wr

/-- What is known at the end. -/
def QEnd (e : UInt8) (s : ByteArray) (b : Nat) (K : Nat → Prop) (l : List UInt8) (w' : World) : Prop :=
  ∃ (done : List (List UInt8)) (cur : List UInt8), (done ++ [cur]).flatten = s.data.toList ∧ (∀ c ∈ done ++ [cur], qGood c) ∧ Bld b K (l ++ qMid (sepL e) done ++ qStr cur) w'

theorem qMid_len (e : UInt8) : ∀ done : List (List UInt8), (∀ c ∈ done, qGood c) → (qMid (sepL e) done).length ≤ 16 * done.flatten.length
  | [], _ => by simp [qMid]
  | c :: t, h => by
    have h1 := h c (by simp)
    have h2 := qMid_len e t (fun x hx => h x (by simp [hx]))
    have h3 := (qStr_le c).2
    have h4 : 0 < c.length := List.length_pos_iff.2 h1.1
    have h5 : qMid (sepL e) (c :: t) = (qStr c ++ sepL e) ++ qMid (sepL e) t := by simp [qMid]
    rw [h5, List.length_append, List.length_append, sepL_length, List.flatten_cons, List.length_append]
    omega
theorem QInv.room {e : UInt8} {s : List UInt8} {k : Nat} {done : List (List UInt8)} {cur : List UInt8} (h : QInv (sepL e) s k done cur) : (qMid (sepL e) done).length ≤ 16 * s.length := by
  have h1 := qMid_len e done h.good
  have h2 := congrArg List.length h.whole
  rw [List.length_append, List.length_take] at h2
  omega

theorem getD_drop0 (s : ByteArray) (k : Nat) (h : k < s.size) : (s.data.toList.drop k).getD 0 0 = s[k] := by
  simp [List.getD, List.getElem?_drop, ByteArray.getElem_eq_getElem_data, h]

theorem extract_list (s : ByteArray) (k n : Nat) : (s.extract k (k + n)).data.toList = (s.data.toList.drop k).take n := by
  rw [ByteArray.data_extract, Array.toList_extract, List.extract_eq_take_drop]
  congr 1; omega

theorem qrel_go {e : UInt8} {s : ByteArray} {b : Nat} {K : Nat → Prop} {l : List UInt8} {w w2 : World} {k n m q : Nat} {done : List (List UInt8)} {cur : List UInt8} (hI : QInv (sepL e) s.data.toList k done cur) (hk : k < s.size)
    (hn : wd (s.data.toList.drop k) = n) (hm : (qStr ((s.data.toList.drop k).take n)).length = m) (hq : (qStr cur).length = q) (hl : q + m ≤ 63)
    (hB : Bld b K (l ++ qMid (sepL e) done ++ qStr cur ++ qStr (s.extract k (k + n)).data.toList) w2) (hF : Fr K w w2) (cl i : Value) (hcl : cl = .int .i64 ((q + m : Nat) : Int)) (hi : i = .int .i64 ((k + n : Nat) : Int)) : QRel e s b K l w cl i w2 := by
  subst hn hm hq
  have hg := hI.go (by simpa using hk) hl
  rw [extract_list, List.append_assoc, ← qStr_append] at hB
  refine ⟨_, done, _, hi, ?_, hg, hB, hF⟩
  rw [hcl, qStr_append, List.length_append]
theorem qrel_cut {e : UInt8} {s : ByteArray} {b : Nat} {K : Nat → Prop} {l : List UInt8} {w w2 : World} {k n m q : Nat} {done : List (List UInt8)} {cur : List UInt8} (hI : QInv (sepL e) s.data.toList k done cur) (hk : k < s.size)
    (hn : wd (s.data.toList.drop k) = n) (hm : (qStr ((s.data.toList.drop k).take n)).length = m) (hq : (qStr cur).length = q) (hl : m ≤ 63) (hp : 63 < q + m)
    (hB : Bld b K (l ++ qMid (sepL e) done ++ qStr cur ++ ([63, 61, 32, 61, 63] ++ utf8B.data.toList ++ [63, e, 63]) ++ qStr (s.extract k (k + n)).data.toList) w2) (hF : Fr K w w2) (cl i : Value) (hcl : cl = .int .i64 (m : Int)) (hi : i = .int .i64 ((k + n : Nat) : Int)) : QRel e s b K l w cl i w2 := by
  subst hn hm hq
  have hc : cur ≠ [] := by
    rintro rfl
    simp only [qStr_nil, List.length_nil] at hp
    omega
  have hg := hI.cut (by simpa using hk) hc hl
  rw [extract_list] at hB
  refine ⟨_, done ++ [cur], _, hi, hcl, hg, ?_, hF⟩
  rw [qMid_snoc]
  simpa [sepL, utf8S] using hB

set_option maxHeartbeats 4000000 in
set_option maxRecDepth 100000 in
theorem qEncode_any (e : UInt8) (s : ByteArray) (b : Nat) (K : Nat → Prop) (l : List UInt8) (w : World) (h : Bld b K l w) (hT : Lib.Utf8Tabs 0 1 w) (hK0 : K 0) (hK1 : K 1)
    (hv : Lib.validD s.data.toList = true) (h0 : 0 < s.size) (hs : s.size ≤ 1099511627776) (hlen : l.length ≤ 1099511627776) :
    Calls Tryd.prog 64 #[.int .u8 e.toNat, .pointer (some ⟨b, 0, none⟩), .string utf8B, .string s] w fun x w' => x = .returned (.tuple #[]) ∧ QEnd e s b K l w' ∧ Fr K w w' := by
  have HV := Lib.hid hv; have HT := Lib.hid hT
  clear hv hT
  go_enter Tryd.func64, Tryd.ntmps64
  go_wp2_with fail
  refine (isUTF8_any _).mono ?_
  rintro x w1 ⟨rfl, rfl⟩
  go_wp2_with fail
  go_loopw [8, 9, 10] (fun cl rl i wr => (∃ r : Int, rl = .int .i64 r) ∧ QRel e s b K l w cl i wr) (fun _ _ i _ => s.size - (intOf i).toNat)
  case atStart => exact ⟨⟨0, rfl⟩, 0, [], [], rfl, rfl, QInv.start _ _ HV.out, by simpa [qMid, qStr] using h, Fr.refl _ _⟩
  case round =>
    obtain ⟨⟨r, rfl⟩, k, done, cur, rfl, rfl, hI, hB, hF⟩ := hrel
    by_cases hlt : k < s.size
    · obtain ⟨n, hn⟩ : ∃ n, wd (s.data.toList.drop k) = n := ⟨_, rfl⟩
      obtain ⟨c, hc⟩ : ∃ c, s[k] = c := ⟨_, rfl⟩
      obtain ⟨q, hq⟩ : ∃ q, (qStr cur).length = q := ⟨_, rfl⟩
      have hgd := getD_drop0 s k hlt
      rw [hc] at hgd
      have hne : s.data.toList.drop k ≠ [] := by rw [Ne, List.drop_eq_nil_iff]; simp; omega
      have n1 : 1 ≤ n := by rw [← hn]; exact wd_pos _
      have n4 : n ≤ 4 := by rw [← hn]; exact wd_le4 _
      have nk : k + n ≤ s.size := by have := wd_le _ hne; rw [hn, List.length_drop] at this; simp at this; omega
      have q63 : q ≤ 63 := by rw [← hq]; exact hI.len
      have hroom := hI.room
      have hsl : s.data.toList.length = s.size := by simp
      rw [hsl] at hroom
      rw [hq]
      have hok := valid_ok hI.rest hne
      have HN := Lib.hid hn; have HQ := Lib.hid hq; have HG := Lib.hid hgd; have HSL := Lib.hid hsl
      have hT2 := tabs_fr HT.out hF hK0 hK1
      have HT2 := Lib.hid hT2
      clear hn hq hgd hsl hne h hT2
      by_cases hraw : c.toNat = 32 ∨ qRaw c = true
      · have hr1 : 32 ≤ c.toNat ∧ c.toNat ≤ 126 ∧ c.toNat ≠ 61 ∧ c.toNat ≠ 63 ∧ c.toNat ≠ 95 := by
          rcases hraw with h | h
          · omega
          · have := of_decide_eq_true h; omega
        obtain ⟨r1, r2, r3, r4, r5⟩ := hr1
        have r1' : (32 : Int) ≤ (c.toNat : Int) := by omega
        have r2' : (c.toNat : Int) ≤ 126 := by omega
        have r3' : ((c.toNat : Int) != 61) = true := by rw [bne_iff_ne]; omega
        have r4' : ((c.toNat : Int) != 63) = true := by rw [bne_iff_ne]; omega
        have r5' : ((c.toNat : Int) != 95) = true := by rw [bne_iff_ne]; omega
        have hn1 : n = 1 := by rw [← HN.out]; exact wd_ascii' hok.1 (by rw [HG.out]; omega)
        have hm : (qStr ((s.data.toList.drop k).take 1)).length = 1 := by rw [qStr_take1 hok.1, HG.out]; exact qByte_one hraw
        subst hn1
        have HM := Lib.hid hm; have HO := Lib.hid hok
        clear hm hok hraw r1 r2 r3 r4 r5
        by_cases hsp : (63 : Int) < (q : Int) + 1
        · go_wp2_with fail
          refine (splitWord_any e utf8B b K _ _ hB (by simp [HQ.out, ByteArray.size]; omega)).mono ?_
          rintro x w2 ⟨rfl, hB2, hF2⟩
          go_wp2_with fail
          refine (writeQString_any _ b K _ _ hB2 (by simp [HQ.out]; omega)).mono ?_
          rintro x w3 ⟨rfl, hB3, hF3⟩
          go_wp2
          go_roundw
          case rel => exact ⟨⟨_, rfl⟩, qrel_cut hI hlt HN.out HM.out HQ.out (by omega) (by omega) hB3 ((hF.trans hF2).trans hF3) _ _ (by go_num) (by go_num)⟩
          case measure => simp [intOf]; omega
        · go_wp2_with fail
          refine (writeQString_any _ b K _ _ hB (by simp [HQ.out]; omega)).mono ?_
          rintro x w3 ⟨rfl, hB3, hF3⟩
          go_wp2
          go_roundw
          case rel => exact ⟨⟨_, rfl⟩, qrel_go hI hlt HN.out HM.out HQ.out (by omega) hB3 (hF.trans hF3) _ _ (by go_num) (by go_num)⟩
          case measure => simp [intOf]; omega
      · have h32 : c.toNat ≠ 32 := fun h => hraw (.inl h)
        have hrf : qRaw c = false := by
          cases h : qRaw c
          · rfl
          · exact absurd (.inr h) hraw
        have hm : (qStr ((s.data.toList.drop k).take n)).length = 3 * n := by
          have := qStr_rune hok (by rw [HG.out]; exact h32) (by rw [HG.out]; exact hrf)
          rwa [HN.out] at this
        have hcs : ¬ (33 ≤ c.toNat ∧ c.toNat ≤ 126 ∧ c.toNat ≠ 61 ∧ c.toNat ≠ 63 ∧ c.toNat ≠ 95) := of_decide_eq_false hrf
        have hways : (¬ (32 : Int) ≤ (c.toNat : Int)) ∨ ((32 : Int) ≤ (c.toNat : Int) ∧ ¬ (c.toNat : Int) ≤ 126) ∨ ((32 : Int) ≤ (c.toNat : Int) ∧ (c.toNat : Int) ≤ 126 ∧ ((c.toNat : Int) != 61) = false)
            ∨ ((32 : Int) ≤ (c.toNat : Int) ∧ (c.toNat : Int) ≤ 126 ∧ ((c.toNat : Int) != 61) = true ∧ ((c.toNat : Int) != 63) = false) ∨ ((32 : Int) ≤ (c.toNat : Int) ∧ (c.toNat : Int) ≤ 126 ∧ ((c.toNat : Int) != 61) = true ∧ ((c.toNat : Int) != 63) = true ∧ ((c.toNat : Int) != 95) = false) := by
          simp only [bne_eq_false_iff_eq, bne_iff_ne]
          omega
        have HM := Lib.hid hm; have HO := Lib.hid hok
        have hdg := decodeGo_wd s k hlt
        rw [HN.out] at hdg
        have HD := Lib.hid hdg
        have hkt := hB.kt
        have HK := Lib.hid hkt
        clear hm hok hraw h32 hrf hcs hdg hkt
        by_cases hsp : (63 : Int) < (q : Int) + 3 * (n : Int)
        · rcases hways with g1 | ⟨g1, g2⟩ | ⟨g1, g2, g3⟩ | ⟨g1, g2, g3, g4⟩ | ⟨g1, g2, g3, g4, g5⟩
          all_goals
            go_wp2_with fail
            refine (Tryd.utf8_DecodeRuneInString _ _ HT2.out).mono ?_
            rintro x w1 ⟨rfl, hb1⟩
            rw [HD.out]
            have hB1 := hB.kept hb1.size (fun j o ho _ _ => by rw [hb1.block j (Array.getElem?_eq_some_iff.1 ho).1]; exact ho)
            have hF1 := hF.trans (Fr.by_below hb1 HK.out)
            go_wp2_with fail
            refine (splitWord_any e utf8B b K _ _ hB1 (by simp [HQ.out, ByteArray.size]; omega)).mono ?_
            rintro x w2 ⟨rfl, hB2, hF2⟩
            go_wp2_with fail
            refine (writeQString_any _ b K _ _ hB2 (by simp [HQ.out]; omega)).mono ?_
            rintro x w3 ⟨rfl, hB3, hF3⟩
            go_wp2
            go_roundw
            case rel => exact ⟨⟨_, rfl⟩, qrel_cut hI hlt HN.out HM.out HQ.out (by omega) (by omega) hB3 ((hF1.trans hF2).trans hF3) _ _ (by go_num) (by go_num)⟩
            case measure => simp [intOf]; omega
        · rcases hways with g1 | ⟨g1, g2⟩ | ⟨g1, g2, g3⟩ | ⟨g1, g2, g3, g4⟩ | ⟨g1, g2, g3, g4, g5⟩
          all_goals
            go_wp2_with fail
            refine (Tryd.utf8_DecodeRuneInString _ _ HT2.out).mono ?_
            rintro x w1 ⟨rfl, hb1⟩
            rw [HD.out]
            have hB1 := hB.kept hb1.size (fun j o ho _ _ => by rw [hb1.block j (Array.getElem?_eq_some_iff.1 ho).1]; exact ho)
            have hF1 := hF.trans (Fr.by_below hb1 HK.out)
            go_wp2_with fail
            refine (writeQString_any _ b K _ _ hB1 (by simp [HQ.out]; omega)).mono ?_
            rintro x w3 ⟨rfl, hB3, hF3⟩
            go_wp2
            go_roundw
            case rel => exact ⟨⟨_, rfl⟩, qrel_go hI hlt HN.out HM.out HQ.out (by omega) hB3 (hF1.trans hF3) _ _ (by go_num) (by go_num)⟩
            case measure => simp [intOf]; omega
    · go_wp2
      go_end0
      have hks : k = s.size := by have := hI.le; simp at this; omega
      have hc := hI.some (by omega)
      refine ⟨rfl, ⟨done, cur, ?_, ?_, hB⟩, hF⟩
      · rw [List.flatten_append, List.flatten_cons, List.flatten_nil, List.append_nil, hI.whole, List.take_of_length_le (by simp; omega)]
      · intro c hcc
        rcases List.mem_append.1 hcc with hcc | hcc
        · exact hI.good c hcc
        · rw [List.mem_singleton.1 hcc]; exact ⟨hc, hI.valid, hI.len⟩
end Go.Proofs.YtciejdaifjbjdaaDoor
