/- convert (utf-8), decode (by Q): the walks. -/
import Derived.Test.YtciejdaifjbjdaaDoorQDec
namespace Go.Proofs.YtciejdaifjbjdaaDoor
open Go Go.RowKit

theorem convert_utf8 (d : Value) (b : Nat) (K : Nat → Prop) (l c : List UInt8) (g cap : Nat) (w : World) (h : Bld b K l w) (hg : K g) (hc : ∀ j x, c[j]? = some x → w.cell? ⟨g, 0 + j, none⟩ = some (.int .u8 x.toNat)) (hlen : l.length + c.length ≤ 140737488355328) :
    Calls Tryd.prog 39 #[d, .pointer (some ⟨b, 0, none⟩), .string utf8B, .slice (some ⟨g, 0, none⟩) c.length cap] w fun x w' => x = .returned .nilIface ∧ Bld b K (l ++ c) w' ∧ Fr K w w' := by
  have hqb : ∀ j u, (Lib.byteCells c)[j]? = some u → w.cell? ((⟨g, 0, none⟩ : Addr).add j) = some u := by
    intro j u hu
    rw [addr_add]
    simp only [Lib.byteCells, List.getElem?_map] at hu
    cases hx : c[j]? with
    | none => rw [hx] at hu; cases hu
    | some x => rw [hx] at hu; simp only [Option.map_some, Option.some.injEq] at hu; subst hu; exact hc j x hx
  have HQ := Lib.hid hqb
  clear hqb hc
  go_enter Tryd.func39, Tryd.ntmps39
  go_wp2_with fail
  refine (Tryd.strings_EqualFold _ _ _ (by decide) (asc_of _ (by decide)) (asc_of _ (by decide))).mono ?_
  rintro e w1 ⟨rfl, rfl⟩
  rw [show Lib.equalFold (⟨#[117, 116, 102, 45, 56]⟩ : ByteArray).data.toList utf8B.data.toList = true by decide]
  go_wp2_with fail
  refine (Write_any b K l c ⟨g, 0, none⟩ cap _ h hg HQ.out hlen).mono ?_
  rintro x w2 ⟨rfl, hB2, hF2⟩
  go_wp2
  go_ret
  exact ⟨rfl, hB2, hF2⟩

/-- What stands between two words is one space: 'no other than space'. -/
theorem hasNonWhitespace_space (w : World) : Calls Tryd.prog 38 #[.string ⟨#[32]⟩] w fun x w' => x = .returned (.bool false) ∧ Below w.heap.size w w' := by
  go_enter Tryd.func38, Tryd.ntmps38
  go_wp2
  obtain ⟨s, hs⟩ : ∃ s : ByteArray, s = ⟨#[32]⟩ := ⟨_, rfl⟩
  rw [← hs]
  have hsz : s.size = 1 := by rw [hs]; rfl
  go_loopw [4] (fun r wr => ∃ k : Nat, k ≤ s.size ∧ wr.heap[w.heap.size]? = some (.stringIter s k) ∧ Below w.heap.size w wr) (fun r wr => s.size - wr.iterPos w.heap.size)
  case atStart =>
    refine ⟨0, Nat.zero_le _, ?_, (Below.refl _ w).alloc (Nat.le_refl _) _⟩
    have := World.iter_heap w s 0
    simpa using this
  case round =>
    obtain ⟨k, hk, hit, hbw⟩ := hrel
    by_cases hlt : k < s.size
    · have hk0 : k = 0 := by omega
      subst hk0
      have hnx : ∀ ty, (Instr.next (.pointer (some ⟨w.heap.size, 0, none⟩)) true ty).run Tryd.prog wr = _ := fun ty => Lib.run_next_any_at wr w.heap.size s 0 ty hit hlt
      have hit2 := Lib.iterAt_heap wr w.heap.size s 0 (0 + (Utf8.decode s 0).2) hit
      have hbw2 := Lib.below_iterAt hbw (k := w.heap.size) (by omega) s (0 + (Utf8.decode s 0).2)
      have h32 : (s[0]'hlt).toNat = 32 := by subst hs; rfl
      have hdec := decode_ascii s 0 hlt (by omega)
      rw [hdec] at hnx hit2 hbw2
      simp only at hnx hit2 hbw2
      rw [h32] at hnx
      have HI := Lib.hid hit; have HI2 := Lib.hid hit2; have HD := Lib.hid hdec; have HS := Lib.hid hs; have H32 := Lib.hid h32; have HZ := Lib.hid hsz
      clear hit hit2 hdec hs h32
      go_wp2
      go_roundw
      case rel => exact ⟨1, by have := HZ.out; omega, HI2.out, hbw2⟩
      case measure =>
        have e1 := HI.out; have e2 := HI2.out
        simp only [World.iterPos, e1, e2]
        omega
    · have hnx : ∀ ty, (Instr.next (.pointer (some ⟨w.heap.size, 0, none⟩)) true ty).run Tryd.prog wr = _ := fun ty => Lib.run_next_end_at wr w.heap.size s k ty hit hlt
      go_wp2
      go_ret
      exact ⟨rfl, hbw⟩

/-- decode, by Q. -/
theorem decode_q (s : ByteArray) (c : List UInt8) (hs : s.data.toList = qStr c) (hlen : s.size ≤ 1048576) (w : World) :
    Calls Tryd.prog 37 #[.int .u8 113, .string s] w fun x w' => ∃ g cap l, x = .returned (.tuple #[.slice (some ⟨g, 0, none⟩) c.length cap, .nilIface]) ∧ w.heap.size ≤ g ∧ c.length ≤ cap ∧ Row g l w' ∧ l.take c.length = c ∧ Below w.heap.size w w' := by
  have HS := Lib.hid hs
  clear hs
  go_enter Tryd.func37, Tryd.ntmps37
  go_wp2_with fail
  refine (qDecode_good s c HS.out hlen _).mono ?_
  rintro x w1 ⟨g, cap, l, rfl, h1, h2, h3, h4, h5⟩
  go_wp2
  go_ret2
  exact ⟨g, cap, l, rfl, h1, h2, h3, h4, h5⟩
end Go.Proofs.YtciejdaifjbjdaaDoor
