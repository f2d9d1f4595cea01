/- base64's stream encoder: NewEncoder, Write, Close at texts of at most 45 bytes: the walks. -/
import Derived.Test.YtciejdaifjbjdaaDoorB64e
import Derived.Test.YtciejdaifjbjdaaDoorEnc1
import Derived.StillTailTactics
import Derived.Deep.RegionWith
import Derived.Deep.RegionHeld3
namespace Go.Proofs.YtciejdaifjbjdaaDoor
open Go Go.RowKit

theorem stdEncoding_any (w : World) : Calls Tryd.prog 52 #[] w fun x w' => x = .returned (.pointer (some ⟨w.heap.size, 0, none⟩)) ∧ EncM 64 w.heap.size w' ∧ Below w.heap.size w w' := by
  go_enter Tryd.func52, Tryd.ntmps52
  go_wp2_with fail
  refine (NewEncoding_any _ _ (by decide) ?_).mono ?_
  · have : ∀ i : Fin 64, ((⟨#[65, 66, 67, 68, 69, 70, 71, 72, 73, 74, 75, 76, 77, 78, 79, 80, 81, 82, 83, 84, 85, 86, 87, 88, 89, 90, 97, 98, 99, 100, 101, 102, 103, 104, 105, 106, 107, 108, 109, 110, 111, 112, 113, 114, 115, 116, 117, 118, 119, 120, 121, 122, 48, 49, 50, 51, 52, 53, 54, 55, 56, 57, 43, 47]⟩ : ByteArray)[i.val]'(by have := i.isLt; simp [ByteArray.size])).toNat = alphaN i.val := by decide
    intro i h
    exact this ⟨i, h⟩
  · rintro x w1 ⟨rfl, hE, hb⟩
    go_wp2_with fail
    go_ret
    exact ⟨rfl, hE, hb⟩

theorem EncodedLen_any (ea n : Nat) (w : World) (hE : EncM 64 ea w) (hn : n ≤ 140737488355328) :
    Calls Tryd.prog 85 #[.pointer (some ⟨ea, 0, none⟩), .int .i64 n] w fun x w' => x = .returned (.int .i64 (((n + 2) / 3 * 4 : Nat) : Int)) ∧ w = w' := by
  obtain ⟨ec, heb, hec⟩ := hE
  have hpad : w.cell? ⟨ea, 320, none⟩ = some (.int .i32 61) := by rw [Lib.cell_of_heap heb]; exact hec.pad
  clear heb hec
  go_enter Tryd.func85, Tryd.ntmps85
  go_wp2_with fail
  go_ret
  exact ⟨by norm_cast, rfl⟩

/-- The encoder's row: its encoding, its writer, the bytes that wait. -/
structure EncdC (ea b : Nat) (buf : List UInt8) (cs : Array Value) : Prop where
  size : cs.size = 1031
  err : cs[0]? = some .nilIface
  enc : cs[1]? = some (.pointer (some ⟨ea, 0, none⟩))
  wr : cs[2]? = some (.iface 79 (.pointer (some ⟨b, 0, none⟩)))
  nbuf : cs[6]? = some (.int .i64 buf.length)
  byte : ∀ j x, buf[j]? = some x → cs[3 + j]? = some (.int .u8 x.toNat)
  few : buf.length ≤ 2
def Encd (ea b eb : Nat) (buf : List UInt8) (w : World) : Prop := ∃ cs, w.heap[eb]? = some (.cells cs 185 (0, 0)) ∧ EncdC ea b buf cs
theorem Encd.lt {ea b eb : Nat} {buf : List UInt8} {w : World} (h : Encd ea b eb buf w) : eb < w.heap.size := by
  obtain ⟨cs, hb, _⟩ := h
  exact (Array.getElem?_eq_some_iff.1 hb).1
theorem Encd.kept {ea b eb : Nat} {buf : List UInt8} {w w' : World} (h : Encd ea b eb buf w) (hk : w'.heap[eb]? = w.heap[eb]?) : Encd ea b eb buf w' := by
  obtain ⟨cs, hb, hc⟩ := h
  exact ⟨cs, hk.trans hb, hc⟩

theorem ze_size : Tryd.zeroCells185.size = 1031 := by kernel_rfl
theorem ze_0 : Tryd.zeroCells185[0]? = some .nilIface := by kernel_rfl
theorem ze_6 : Tryd.zeroCells185[6]? = some (.int .i64 0) := by kernel_rfl

set_option maxHeartbeats 1000000 in
set_option maxRecDepth 100000 in
theorem NewEncoder_any (ea b : Nat) (w : World) :
    Calls Tryd.prog 83 #[.pointer (some ⟨ea, 0, none⟩), .iface 79 (.pointer (some ⟨b, 0, none⟩))] w fun x w' => x = .returned (.iface 181 (.pointer (some ⟨w.heap.size, 0, none⟩))) ∧ Encd ea b w.heap.size [] w' ∧ Below w.heap.size w w' := by
  go_enter Tryd.func83, Tryd.ntmps83
  go_wp2_with fail
  go_ret
  refine ⟨rfl, ⟨_, heap_alloc_new w _, ?_⟩, (Below.refl _ w).alloc (Nat.le_refl _) _⟩
  have hz := ze_size
  refine ⟨?_, ?_, ?_, ?_, ?_, ?_, by simp⟩
  · rw [Array.size_setIfInBounds, Array.size_setIfInBounds]; exact hz
  · rw [Array.getElem?_setIfInBounds, if_neg (by decide), Array.getElem?_setIfInBounds, if_neg (by decide)]; exact ze_0
  · rw [Array.getElem?_setIfInBounds, if_neg (by decide), Array.getElem?_setIfInBounds, if_pos rfl, if_pos (by rw [hz]; decide)]
  · rw [Array.getElem?_setIfInBounds, if_pos rfl, if_pos (by rw [Array.size_setIfInBounds, hz]; decide)]
  · rw [Array.getElem?_setIfInBounds, if_neg (by decide), Array.getElem?_setIfInBounds, if_neg (by decide)]; exact ze_6
  · intro j x hx; simp at hx

theorem b64_length : ∀ l : List UInt8, (b64 l).length = (l.length + 2) / 3 * 4
  | [] => rfl
  | [_] => by simp [b64]
  | [_, _] => by simp [b64]
  | a :: b :: c :: t => by
    have ih := b64_length t
    simp only [b64, List.length_cons, ih]
    omega

theorem method_bw (a : Addr) (w : World) : (method 307 79 (.pointer (some a)) "Write").run Tryd.prog w = .ok (56, .pointer (some a)) w := by kernel_rfl

set_option maxHeartbeats 4000000 in
set_option maxRecDepth 100000 in
theorem eWrite_any (ea b eb pb n pcap : Nat) (K : Nat → Prop) (l p : List UInt8) (hn : p.length = n) (w : World) (hB : Bld b K l w) (hE : EncM 64 ea w) (hD : Encd ea b eb [] w) (hKa : K ea) (hKe : K eb) (hKp : K pb) (hne : ea ≠ eb) (hpe : pb ≠ eb)
    (hsrc : ∀ j x, p[j]? = some x → w.cell? ⟨pb, 0 + j, none⟩ = some (.int .u8 x.toNat)) (hn45 : n ≤ 45) (hcap : n ≤ pcap) (hcap2 : pcap ≤ 9223372036854775807) (hlen : l.length ≤ 70368744177664) :
    Calls Tryd.prog 130 #[.pointer (some ⟨eb, 0, none⟩), .slice (some ⟨pb, 0, none⟩) n pcap] w fun x w' => x = .returned (.tuple #[.int .i64 n, .nilIface]) ∧
      Bld b K (l ++ b64 (p.take (n / 3 * 3))) w' ∧ Encd ea b eb (p.drop (n / 3 * 3)) w' ∧ Fr (fun k => K k ∧ k ≠ eb) w w' := by
  have HSRC := Lib.hid hsrc; have HN := Lib.hid hn
  clear hsrc hn
  obtain ⟨cs, hb, hc⟩ := hD
  have c0 : w.cell? ⟨eb, 0, none⟩ = some .nilIface := by rw [Lib.cell_of_heap hb]; exact hc.err
  have c6 : w.cell? ⟨eb, 6, none⟩ = some (.int .i64 0) := by rw [Lib.cell_of_heap hb]; exact hc.nbuf
  have HB := Lib.hid hb
  clear hb
  go_enter Tryd.func130, Tryd.ntmps130
  go_wp2_with fail
  go_loopw [1, 4, 5, 7] (fun pv nv ev _ wr => ev = .nilIface ∧ ∃ (j m mc : Nat) (ad : Addr), pv = .slice (some ad) m mc ∧ nv = .int .i64 ((3 * j : Nat) : Int) ∧ m + 3 * j = n ∧ m ≤ mc ∧ mc ≤ pcap ∧ (j = 0 ∨ 3 * j = n / 3 * 3) ∧ (j = 0 → ad = ⟨pb, 0, none⟩ ∧ mc = pcap) ∧ (0 < m → ad = ⟨pb, 3 * j, none⟩) ∧
      Bld b K (l ++ b64 (p.take (3 * j))) wr ∧ Encd ea b eb [] wr ∧ Fr (fun k => K k ∧ k ≠ eb) w wr) (fun pv _ _ _ _ => lenOf pv)
  case atStart => exact ⟨rfl, 0, n, pcap, _, rfl, rfl, rfl, hcap, Nat.le_refl _, .inl rfl, fun _ => ⟨rfl, rfl⟩, fun _ => rfl, by simpa [b64] using hB, ⟨cs, HB.out, hc⟩, Fr.refl _ _⟩
  case round =>
    obtain ⟨rfl, j, m, mc, ad, rfl, rfl, e1, e2, e3, e4, e5, e6, hB2, hD2, hF2⟩ := hrel
    clear c0 c6 hc
    by_cases h3 : 3 ≤ m
    · have hj : j = 0 := by omega
      subst hj
      obtain ⟨rfl, rfl⟩ := e5 rfl
      have hmn : m = n := by omega
      subst hmn
      obtain ⟨cs2, hb2, hc2⟩ := hD2
      have c0 : wr.cell? ⟨eb, 0, none⟩ = some .nilIface := by rw [Lib.cell_of_heap hb2]; exact hc2.err
      have c1 : wr.cell? ⟨eb, 1, none⟩ = some (.pointer (some ⟨ea, 0, none⟩)) := by rw [Lib.cell_of_heap hb2]; exact hc2.enc
      have hmi : (3 : Int) ≤ (m : Int) := by omega
      have h768 : ¬ (768 : Int) ≤ (m : Int) := by omega
      have h768' : (m : Int) < 768 := by omega
      clear e1 e2 e3 e4 e5 e6
      go_wp2_with fail
      have hM : ((m : Int) - (m : Int) % 3) = ((m / 3 * 3 : Nat) : Int) := by omega
      rw [hM]
      obtain ⟨M, hM2⟩ : ∃ M, m / 3 * 3 = M := ⟨_, rfl⟩
      rw [hM2]
      have hM3 : M ≤ m := by omega
      have hM4 : (M : Int) ≤ (m : Int) := by omega
      have hM5 : (M : Int) ≤ (mc : Int) := by omega
      have hM6 : (0 : Int) ≤ (M : Int) := by omega
      have HM := Lib.hid hM2; have HB2 := Lib.hid hb2
      clear hM hM2 hb2
      have hpl : (p.take M).length = M := by rw [List.length_take, HN.out]; omega
      have hEr : EncM 64 ea wr := hE.fr hF2 ⟨hKa, hne⟩
      have hps : ∀ j x, (p.take M)[j]? = some x → wr.cell? ⟨pb, 0 + j, none⟩ = some (.int .u8 x.toNat) := by
        intro j x hx
        rw [hF2.cell (p := ⟨pb, 0 + j, none⟩) ⟨hKp, hpe⟩]
        refine HSRC.out j x ?_
        rw [List.getElem?_take] at hx
        split at hx
        · exact hx
        · cases hx
      have HPS := Lib.hid hps; have HPL := Lib.hid hpl
      clear hps hpl
      go_region_held3 (fun W => W.cell? ⟨eb, 1, none⟩ = some (.pointer (some ⟨ea, 0, none⟩))) (first | go_keep | (rw [Lib.cell_of_heap hb3, hW3.out 1 (Or.inl (by omega))]; exact hc2.enc)) (first | (go_at_call 131; refine (Encode_any ea eb pb 0 M mc (p.take M) HPL.out wr.drew hEr cs2 HB2.out hc2.size hne HPS.out (.inl hpe) (by omega) (by omega) (by omega)).mono ?_; rintro x w1 ⟨rfl, ⟨cs3, hb3, hW3⟩, hF3⟩))
      have k0 : w1.cell? ⟨eb, 0, none⟩ = some .nilIface := by rw [Lib.cell_of_heap hb3, hW3.out 0 (Or.inl (by omega))]; exact hc2.err
      have k2 : w1.cell? ⟨eb, 2, none⟩ = some (.iface 79 (.pointer (some ⟨b, 0, none⟩))) := by rw [Lib.cell_of_heap hb3, hW3.out 2 (Or.inl (by omega))]; exact hc2.wr
      clear c0 c1
      go_wp2_with fail
      obtain ⟨L4, hL4⟩ : ∃ L4, M / 3 * 4 = L4 := ⟨_, rfl⟩
      have hL : IntKind.i64.wrap (IntKind.i64.wrap ((M : Int) / 3) * 4) = (L4 : Int) := by
        have e1 : IntKind.i64.wrap ((M : Int) / 3) = (M : Int) / 3 := IntWalk.i64_in _ (by omega)
        have e2 : IntKind.i64.wrap ((M : Int) / 3 * 4) = (M : Int) / 3 * 4 := IntWalk.i64_in _ (by omega)
        rw [e1, e2]; omega
      have hL2 : (L4 : Int) ≤ 1024 := by omega
      have hbl : (b64 (p.take M)).length = L4 := by rw [b64_length, HPL.out]; have := HM.out; omega
      subst hbl
      have hBw : Bld b K (l ++ b64 (List.take (3 * 0) p)) w1 := hB2.kept hF3.size (fun k o ho hnk _ => (hF3.block k ⟨(Array.getElem?_eq_some_iff.1 ho).1, fun e => hnk (e ▸ hKe)⟩).trans ho)
      have hqb : ∀ j u, (Lib.byteCells (b64 (p.take M)))[j]? = some u → w1.cell? ((⟨eb, 7, none⟩ : Addr).add j) = some u := by
        intro j u hu
        have hadd : (⟨eb, 7, none⟩ : Addr).add j = ⟨eb, 7 + j, none⟩ := by unfold Addr.add; split <;> simp_all
        rw [hadd, Lib.cell_of_heap hb3]
        simp only [Lib.byteCells, List.getElem?_map] at hu
        cases hx : (b64 (p.take M))[j]? with
        | none => rw [hx] at hu; cases hu
        | some x => rw [hx] at hu; simp only [Option.map_some, Option.some.injEq] at hu; subst hu; exact hW3.ins j x hx
      have HLB : (l ++ b64 (List.take (3 * 0) p)).length + (b64 (p.take M)).length ≤ 140737488355328 := by simp [b64]; omega
      have HQB := Lib.hid hqb
      have hmw : ∀ W, (method 307 79 (.pointer (some ⟨b, 0, none⟩)) "Write").run Tryd.prog W = .ok (56, .pointer (some ⟨b, 0, none⟩)) W := fun W => method_bw _ W
      clear hqb
      have HL4 := Lib.hid hL4
      clear hL4
      have k0f : w1.frozen? ⟨eb, 0, none⟩ = false := Lib.frozen_of_heap hb3 0
      go_region_held3 (fun W => W.cell? ⟨eb, 2, none⟩ = some (.iface 79 (.pointer (some ⟨b, 0, none⟩))) ∧ W.cell? ⟨eb, 0, none⟩ = some .nilIface ∧ W.frozen? ⟨eb, 0, none⟩ = false) (first | exact ⟨k2, k0, k0f⟩ | exact ⟨(hF4.cell (p := ⟨eb, 2, none⟩) hKe).trans k2, (hF4.cell (p := ⟨eb, 0, none⟩) hKe).trans k0, (hF4.frozen (p := ⟨eb, 0, none⟩) hKe).trans k0f⟩ | exact ⟨(World.cell?_setCell_other w2 ⟨eb, 0, none⟩ ⟨eb, 2, none⟩ _ (by simp)).trans ((hF4.cell (p := ⟨eb, 2, none⟩) hKe).trans k2), World.cell?_setCell_same w2 ⟨eb, 0, none⟩ _ ((hF4.cell (p := ⟨eb, 0, none⟩) hKe).trans k0), (World.frozen?_setCell w2 ⟨eb, 0, none⟩ ⟨eb, 0, none⟩ _).trans ((hF4.frozen (p := ⟨eb, 0, none⟩) hKe).trans k0f)⟩ | go_keep) (first | (go_at_call 56; refine (Write_any b K (l ++ b64 (List.take (3 * 0) p)) (b64 (p.take M)) ⟨eb, 7, none⟩ 1024 w1.drew hBw hKe HQB.out HLB).mono ?_; rintro x w2 ⟨rfl, hB3, hF4⟩))
      have hb4 : (w2.setCell ⟨eb, 0, none⟩ .nilIface).heap[eb]? = some (.cells (cs3.setIfInBounds 0 .nilIface) 185 (0, 0)) := heap_setCell_row ((hF4.block eb hKe).trans hb3)
      have hc4 : EncdC ea b [] (cs3.setIfInBounds 0 .nilIface) := by
        refine ⟨by rw [Array.size_setIfInBounds, hW3.size]; exact hc2.size, ?_, ?_, ?_, ?_, fun j x hx => by simp at hx, by simp⟩
        · rw [Array.getElem?_setIfInBounds, if_pos rfl, if_pos (by rw [hW3.size, hc2.size]; decide)]
        · rw [Array.getElem?_setIfInBounds, if_neg (by decide), hW3.out 1 (Or.inl (by omega))]; exact hc2.enc
        · rw [Array.getElem?_setIfInBounds, if_neg (by decide), hW3.out 2 (Or.inl (by omega))]; exact hc2.wr
        · rw [Array.getElem?_setIfInBounds, if_neg (by decide), hW3.out 6 (Or.inl (by omega))]; exact hc2.nbuf
      have hB4 : Bld b K (l ++ b64 (List.take (3 * 0) p) ++ b64 (p.take M)) (w2.setCell ⟨eb, 0, none⟩ .nilIface) := hB3.kept (by simp [World.setCell]) (fun k o ho hnk _ => by rw [Below.heap_setCell w2 ⟨eb, 0, none⟩ _ k (fun e => hnk (by rw [e]; exact hKe))]; exact ho)
      have hF5 : Fr (fun k => K k ∧ k ≠ eb) w (w2.setCell ⟨eb, 0, none⟩ .nilIface) :=
        ((hF2.trans ((Fr.refl _ wr).drew.trans (hF3.mono (fun k hk => ⟨hB2.kt k hk.1, hk.2⟩)))).trans ((Fr.refl _ w1).drew.trans (hF4.mono (fun k hk => hk.1)))).setCell (p := ⟨eb, 0, none⟩) (by simp) _
      have d0 : (w2.setCell ⟨eb, 0, none⟩ .nilIface).cell? ⟨eb, 0, none⟩ = some .nilIface := by rw [Lib.cell_of_heap hb4]; exact hc4.err
      generalize w2.setCell ⟨eb, 0, none⟩ .nilIface = w3 at hb4 hB4 hF5 d0 ⊢
      have HB4 := Lib.hid hb4
      clear hb4 hb3 hB3 hF4 hF3 hW3 k0 k2 k0f hL hL2 hBw HLB hmw
      go_wp2_with fail
      have hM2 := HM.out
      refine ⟨⟨rfl, M / 3, m - M, mc - M, if mc = M then ⟨pb, 0, none⟩ else ⟨pb, M, none⟩, ?_, ?_, by omega, by omega, by omega, .inr (by omega), fun h => by omega, fun h => ?_, ?_, ⟨_, HB4.out, hc4⟩, hF5⟩, ?_⟩
      · congr 1; split <;> rfl
      · congr 1; omega
      · rw [if_neg (by omega)]; congr 1; omega
      · rw [show 3 * (M / 3) = M by omega]
        simpa [b64] using hB4
      · simp only [lenOf]; omega
    · have hj : 3 * j = n / 3 * 3 := by omega
      have hm3 : m < 3 := by omega
      have hrl : (p.drop (3 * j)).length = m := by rw [List.length_drop, HN.out]; omega
      obtain ⟨r, hr⟩ : ∃ r, p.drop (3 * j) = r := ⟨_, rfl⟩
      rw [hr] at hrl
      obtain ⟨cs2, hb2, hc2⟩ := hD2
      have hrc : ∀ i v, (Lib.byteCells r)[i]? = some v → wr.cell? (ad.add i) = some v := by
        intro i v hv
        simp only [Lib.byteCells, List.getElem?_map] at hv
        cases hx : r[i]? with
        | none => rw [hx] at hv; cases hv
        | some x =>
          rw [hx] at hv
          simp only [Option.map_some, Option.some.injEq] at hv
          subst hv
          have hil := (List.getElem?_eq_some_iff.1 hx).1
          have had := e6 (by omega)
          subst had
          have hadd : (⟨pb, 3 * j, none⟩ : Addr).add i = ⟨pb, 3 * j + i, none⟩ := by unfold Addr.add; split <;> simp_all
          rw [hadd, hF2.cell (p := ⟨pb, 3 * j + i, none⟩) ⟨hKp, hpe⟩]
          have := HSRC.out (3 * j + i) x (by rw [← List.getElem?_drop, hr]; exact hx)
          rwa [Nat.zero_add] at this
      have hbl : (Lib.byteCells r).length = m := by rw [Lib.byteCells_length]; exact hrl
      have hm3' : ¬ (3 : Int) ≤ (m : Int) := by omega
      have ho1 : ∀ u ∈ Lib.byteCells r, u.oneCell' = true := Lib.byteCells_one r
      have HRC := Lib.hid hrc; have HBL := Lib.hid hbl; have HO := Lib.hid ho1; have HB2 := Lib.hid hb2; have HRL := Lib.hid hrl; have HR := Lib.hid hr; have HJ := Lib.hid hj
      have HE := Lib.hid (And.intro e1 (And.intro e2 e3))
      clear hrc hbl ho1 hb2 hrl hr hj e1 e2 e3 e4 e5 e6
      go_wp2_with fail
      rw [run_copy_row _ wr _ _ _ 5 eb 3 3 3 ad m mc cs2 185 (Lib.byteCells r) Tryd.underlying80 info5s HB2.out (by rw [HBL.out]; exact (Nat.min_eq_left (by omega)).symm) HRC.out (by rw [HBL.out, hc2.size]; omega) HO.out]
      rw [HBL.out]
      obtain ⟨cs3, hcs3⟩ : ∃ cs3, (cs2.toList.take 3 ++ Lib.byteCells r ++ cs2.toList.drop (3 + m)).toArray = cs3 := ⟨_, rfl⟩
      rw [hcs3]
      have hfit : 3 + (Lib.byteCells r).length ≤ cs2.size := by rw [HBL.out, hc2.size]; omega
      have s1 := splice_size cs2 3 _ hfit
      have s2 := splice_out cs2 3 _ hfit
      have s3 := splice_in cs2 3 _ hfit
      rw [HBL.out, hcs3] at s1 s2 s3
      have hb3 := setRow_heap wr eb cs2 cs3 _ _ HB2.out
      have hB3 : Bld b K (l ++ b64 (p.take (3 * j))) (wr.setRow eb cs3) := hB2.kept (by simp) (fun k o ho hnk _ => by rw [setRow_other wr eb k _ (fun e => hnk (by rw [e]; exact hKe))]; exact ho)
      have hF3 : Fr (fun k => K k ∧ k ≠ eb) w (wr.setRow eb cs3) := hF2.trans ⟨rfl, rfl, rfl, by simp, fun k hk => setRow_other wr eb k _ hk.2⟩
      generalize wr.setRow eb cs3 = w3 at hb3 hB3 hF3 ⊢
      have d6 : w3.cell? ⟨eb, 6, none⟩ = some (.int .i64 0) := by rw [Lib.cell_of_heap hb3, s2 6 (Or.inr (by omega))]; exact hc2.nbuf
      have f6 : w3.frozen? ⟨eb, 6, none⟩ = false := Lib.frozen_of_heap hb3 6
      have HB3 := Lib.hid hb3; have S1 := Lib.hid s1; have S2 := Lib.hid s2; have S3 := Lib.hid s3
      clear hb3 s1 s2 s3 hcs3 hfit
      simp only [Result.andThen]
      rw [Oper.upon_value]
      go_wp2_with fail
      go_ret2
      have hE3 := HE.out
      have hRL := HRL.out
      have hEN : Encd ea b eb r (w3.setCell ⟨eb, 6, none⟩ (.int .i64 m)) := by
        refine ⟨_, heap_setCell_row HB3.out, ?_, ?_, ?_, ?_, ?_, ?_, by omega⟩
        · rw [Array.size_setIfInBounds, S1.out]; exact hc2.size
        · rw [Array.getElem?_setIfInBounds, if_neg (by decide), S2.out 0 (Or.inl (by omega))]; exact hc2.err
        · rw [Array.getElem?_setIfInBounds, if_neg (by decide), S2.out 1 (Or.inl (by omega))]; exact hc2.enc
        · rw [Array.getElem?_setIfInBounds, if_neg (by decide), S2.out 2 (Or.inl (by omega))]; exact hc2.wr
        · rw [Array.getElem?_setIfInBounds, if_pos rfl, if_pos (by rw [S1.out, hc2.size]; decide), hRL]
        · intro i x hx
          have hil := (List.getElem?_eq_some_iff.1 hx).1
          rw [Array.getElem?_setIfInBounds, if_neg (by omega), S3.out i (by omega)]
          simp only [Lib.byteCells, List.getElem?_map, hx, Option.map_some]
      rw [← HJ.out, HR.out]
      refine ⟨?_, hB3.kept (by simp [World.setCell]) (fun k o ho hnk _ => by rw [Below.heap_setCell w3 ⟨eb, 6, none⟩ _ k (fun e => hnk (by rw [e]; exact hKe))]; exact ho), hEN, hF3.setCell (p := ⟨eb, 6, none⟩) (by simp) _⟩
      have hw : wrap64 (3 * (j : Int) + (m : Int)) = (n : Int) := by rw [IntWalk.wrap64_in _ (by omega)]; omega
      rw [hw]
      rfl
end Go.Proofs.YtciejdaifjbjdaaDoor
