/- netmail.zzIndexAny, zzContainsAny: the walks. -/
import Derived.Test.YtciejdaifjbjdaaDoorEnc3
namespace Go.Proofs.YtciejdaifjbjdaaDoor
open Go Go.RowKit

theorem high_take {l : List UInt8} (hne : l ≠ []) (h0 : 128 ≤ (l.getD 0 0).toNat) : ∀ c ∈ l.take (wd l), 128 ≤ c.toNat := by
  by_cases hk : okR l
  · exact rune_high hk h0
  · have h1 : wd l = 1 := by
      unfold okR at hk
      unfold wd
      by_cases h : (Lib.decodeL l).1 = 65533 ∧ (Lib.decodeL l).2 = 1
      · exact h.2
      · exact absurd ⟨hne, h⟩ hk
    rw [h1]
    cases l with
    | nil => exact absurd rfl hne
    | cons a t =>
      intro c hc
      have : c = a := by simpa using hc
      rw [this]; simpa using h0
/-- No sign of the set among the first. -/
def noneOf (p l : List UInt8) : Prop := ∀ c ∈ l, c ∉ p
theorem noneOf_step {p : List UInt8} (hp : ∀ c ∈ p, c.toNat < 128) (s : ByteArray) (k : Nat) (hlt : k < s.size) (h : noneOf p (s.data.toList.take k)) (hr : ∀ c ∈ p, c.toNat ≠ (Utf8.decode s k).1) : noneOf p (s.data.toList.take (k + (Utf8.decode s k).2)) := by
  have hl : s.data.toList.drop k = s[k] :: s.data.toList.drop (k + 1) := by
    rw [List.drop_eq_getElem_cons (by rw [Array.length_toList]; exact hlt)]; rfl
  rw [List.take_add]
  intro c hc
  rcases List.mem_append.1 hc with hc | hc
  · exact h c hc
  · intro hcp
    have hcl := hp c hcp
    by_cases ha : (s[k]'hlt).toNat < 128
    · have hd := decode_ascii s k hlt ha
      rw [hd] at hc hr
      rw [hl] at hc
      have : c = s[k] := by simpa using hc
      exact hr c hcp (by rw [this])
    · have hw : (Utf8.decode s k).2 = wd (s.data.toList.drop k) := by unfold wd; rw [Lib.decodeL_drop]
      rw [hw] at hc
      have := high_take (l := s.data.toList.drop k) (by rw [hl]; simp) (by rw [hl]; simp; omega) c hc
      omega

set_option maxHeartbeats 2000000 in
set_option maxRecDepth 100000 in
theorem zzIndexAny_any (s p : ByteArray) (hp : ∀ c ∈ p.data.toList, c.toNat < 128) (_ : s.size ≤ 140737488355328) (w : World) :
    Calls Tryd.prog 48 #[.string s, .string p] w fun x w' => (∃ r : Int, x = .returned (.int .i64 r) ∧ (r < 0 → noneOf p.data.toList s.data.toList)) ∧ Below w.heap.size w w' := by
  obtain ⟨it, hit0⟩ : ∃ it, w.heap.size = it := ⟨_, rfl⟩
  have HIT := Lib.hid hit0
  have HPA := Lib.hid hp
  have HI0 := Lib.hid (show (w.iter s 0).heap[it]? = some (.stringIter s 0) by rw [← hit0]; exact World.iter_heap w s 0)
  have HB0 := Lib.hid (show Below it w (w.iter s 0) from (Below.refl it w).alloc (by omega) (.stringIter s 0))
  clear hit0 hp
  go_enter Tryd.func48, Tryd.ntmps48
  go_wp2
  rw [HIT.out]
  generalize w.iter s 0 = w1 at HB0 HI0 ⊢
  go_loopw [4] (fun v4 wr => v4 = .int .i64 0 ∧ ∃ k : Nat, k ≤ s.size ∧ wr.heap[it]? = some (.stringIter s k) ∧ noneOf p.data.toList (s.data.toList.take k) ∧ Below it w wr) (fun _ wr => s.size - wr.iterPos it)
  case atStart => exact ⟨rfl, 0, Nat.zero_le _, HI0.out, fun c hc => by simp at hc, HB0.out⟩
  case round =>
    obtain ⟨rfl, k, hk, hit, hno, hbw⟩ := hrel
    by_cases hlt : k < s.size
    · have hnx : ∀ ty, (Instr.next (.pointer (some ⟨it, 0, none⟩)) true ty).run Tryd.prog wr = _ := fun ty => Lib.run_next_any_at wr it s k ty hit hlt
      have hit2 := Lib.iterAt_heap wr it s k (k + (Utf8.decode s k).2) hit
      have hbw2 := Lib.below_iterAt hbw (k := it) (by omega) s (k + (Utf8.decode s k).2)
      have hstep := noneOf_step HPA.out s k hlt hno
      have hn1 : 1 ≤ (Utf8.decode s k).2 := by rw [← Lib.decodeL_drop]; exact wd_pos _
      have hn2 : k + (Utf8.decode s k).2 ≤ s.size := by
        have hz : (s.data.toList.drop k).length = s.size - k := by rw [List.length_drop, Array.length_toList]; rfl
        have := wd_le (s.data.toList.drop k) (fun e => by rw [e] at hz; simp at hz; omega)
        unfold wd at this
        rw [Lib.decodeL_drop, hz] at this
        omega
      generalize hr : (Utf8.decode s k).1 = r at *
      generalize hn : (Utf8.decode s k).2 = n at *
      have HI := Lib.hid hit; have HI2 := Lib.hid hit2; have HB2 := Lib.hid hbw2; have HST := Lib.hid hstep
      clear hit hbw hit2 hbw2 hstep hno hr hn
      generalize wr.iterAt it s (k + n) = w2 at hnx HI2 HB2
      obtain ⟨jt, hjt⟩ : ∃ jt, w2.heap.size = jt := ⟨_, rfl⟩
      have hij : it < jt := by rw [← hjt]; exact (Array.getElem?_eq_some_iff.1 HI2.out).1
      have HJ := Lib.hid hjt
      have HJ0 := Lib.hid (show (w2.iter p 0).heap[jt]? = some (.stringIter p 0) by rw [← hjt]; exact World.iter_heap w2 p 0)
      have HI3 := Lib.hid (show (w2.iter p 0).heap[it]? = some (.stringIter s (k + n)) from (Below.heap_alloc w2 _ it (by omega)).trans HI2.out)
      have HB3 := Lib.hid (show Below it w (w2.iter p 0) from HB2.out.alloc (by omega) (.stringIter p 0))
      clear hjt HB2 HI2
      go_wp2
      rw [HJ.out]
      generalize w2.iter p 0 = w3 at HJ0 HI3 HB3 ⊢
      go_loopw [4, 8] (fun v4 _ wq => v4 = .int .i64 0 ∧ ∃ j : Nat, j ≤ p.size ∧ wq.heap[jt]? = some (.stringIter p j) ∧ (∀ c ∈ p.data.toList.take j, c.toNat ≠ r) ∧ wq.heap[it]? = some (.stringIter s (k + n)) ∧ Below it w wq) (fun _ _ wq => p.size - wq.iterPos jt)
      case atStart => exact ⟨rfl, 0, Nat.zero_le _, HJ0.out, fun c hc => by simp at hc, HI3.out, HB3.out⟩
      case round =>
        obtain ⟨rfl, j, hj, hjt, hne, hit3, hb3⟩ := hrel
        by_cases hjl : j < p.size
        · obtain ⟨c, hc⟩ : ∃ c, p[j] = c := ⟨_, rfl⟩
          have hca : c.toNat < 128 := HPA.out c (by rw [← hc]; exact Array.mem_toList_iff.2 (Array.getElem_mem hjl))
          have hnx2 : ∀ ty, (Instr.next (.pointer (some ⟨jt, 0, none⟩)) true ty).run Tryd.prog wr = _ := fun ty => Lib.run_next_ascii_at wr jt p j ty hjt hjl (by rw [hc]; exact hca)
          have hsn := take_snoc p j hjl
          rw [hc] at hnx2 hsn
          have HJ2 := Lib.hid (Lib.iterAt_heap wr jt p j (j + 1) hjt)
          have HI4 := Lib.hid ((Lib.iterAt_other wr jt it p (j + 1) (by omega)).trans hit3)
          have HB4 := Lib.hid (Lib.below_iterAt hb3 (k := jt) (by omega) p (j + 1))
          have HJ1 := Lib.hid hjt
          have HNE := Lib.hid hne; have HSN := Lib.hid hsn
          clear hjt hit3 hb3 hne hc hsn
          by_cases hrc : r = c.toNat
          · have z : ((r : Int) == (c.toNat : Int)) = true := by rw [beq_iff_eq]; omega
            clear hrc
            go_wp2
            go_ret
            exact ⟨⟨_, rfl, fun h => absurd h (by omega)⟩, by rw [HIT.out]; exact HB4.out⟩
          · have z : ((r : Int) == (c.toNat : Int)) = false := by rw [beq_eq_false_iff_ne]; omega
            have HRC := Lib.hid hrc
            clear hrc
            go_wp2
            go_roundw
            case rel =>
              refine ⟨rfl, j + 1, by omega, HJ2.out, ?_, HI4.out, HB4.out⟩
              rw [HSN.out]
              intro d hd
              rcases List.mem_append.1 hd with hd | hd
              · exact HNE.out d hd
              · rw [List.mem_singleton.1 hd]; exact fun e => HRC.out e.symm
            case measure =>
              have e1 := HJ1.out; have e2 := HJ2.out
              simp only [World.iterPos, e1, e2]
              omega
        · have hnx2 : ∀ ty, (Instr.next (.pointer (some ⟨jt, 0, none⟩)) true ty).run Tryd.prog wr = _ := fun ty => Lib.run_next_end_at wr jt p j ty hjt hjl
          have hall : p.data.toList.take j = p.data.toList := List.take_of_length_le (by rw [Array.length_toList]; show p.size ≤ j; omega)
          rw [hall] at hne
          have HN := Lib.hid (HST.out hne); have HB := Lib.hid hb3; have HI5 := Lib.hid hit3
          clear hjt hit3 hb3 hne hall
          go_wp2
          go_roundw
          case rel => exact ⟨rfl, k + n, hn2, HI5.out, HN.out, HB.out⟩
          case measure =>
            have e1 := HI.out; have e2 := HI5.out
            simp only [World.iterPos, e1, e2]
            omega
    · have hnx : ∀ ty, (Instr.next (.pointer (some ⟨it, 0, none⟩)) true ty).run Tryd.prog wr = _ := fun ty => Lib.run_next_end_at wr it s k ty hit hlt
      have hall : s.data.toList.take k = s.data.toList := List.take_of_length_le (by rw [Array.length_toList]; show s.size ≤ k; omega)
      rw [hall] at hno
      have HN := Lib.hid hno; have HB := Lib.hid hbw
      clear hit hno hbw hall
      go_wp2
      go_ret
      exact ⟨⟨_, rfl, fun _ => HN.out⟩, by rw [HIT.out]; exact HB.out⟩
theorem zzContainsAny_any (s p : ByteArray) (hp : ∀ c ∈ p.data.toList, c.toNat < 128) (hs : s.size ≤ 140737488355328) (w : World) :
    Calls Tryd.prog 26 #[.string s, .string p] w fun x w' => (∃ r : Bool, x = .returned (.bool r) ∧ (r = false → noneOf p.data.toList s.data.toList)) ∧ Below w.heap.size w w' := by
  have HP := Lib.hid hp
  clear hp
  go_enter Tryd.func26, Tryd.ntmps26
  go_wp2_with fail
  refine (zzIndexAny_any s p HP.out hs _).mono ?_
  rintro x w1 ⟨⟨r, rfl, hr⟩, hb⟩
  have HR := Lib.hid hr; have HB := Lib.hid hb
  clear hr hb
  by_cases h : (0 : Int) ≤ r
  · go_wp2
    go_ret
    exact ⟨⟨true, by first | rfl | (simp; omega), fun e => by cases e⟩, HB.out⟩
  · go_wp2
    go_ret
    exact ⟨⟨false, by first | rfl | (simp; omega), fun _ => HR.out (by omega)⟩, HB.out⟩
end Go.Proofs.YtciejdaifjbjdaaDoor
