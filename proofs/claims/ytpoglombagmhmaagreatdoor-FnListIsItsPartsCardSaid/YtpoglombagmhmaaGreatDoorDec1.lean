/- qDecode: the walk, on a text that qEncode's bytes make. -/
import Derived.Test.YtpoglombagmhmaaGreatDoorRow
import Derived.BigQuiet
namespace Go.Proofs.YtpoglombagmhmaaGreatDoor
open Go Go.RowKit

theorem qStr_split (c : List UInt8) (k : Nat) (x : UInt8) (h : c[k]? = some x) : qStr c = qStr (c.take k) ++ (qByte x ++ qStr (c.drop (k + 1))) := by
  obtain ⟨hk, rfl⟩ := List.getElem?_eq_some_iff.1 h
  have e : c = c.take k ++ ([c[k]] ++ c.drop (k + 1)) := by simp
  conv => lhs; rw [e]
  rw [qStr_append, qStr_append]
  simp [qStr]

theorem at_byte (s : ByteArray) (l : List UInt8) (hl : s.data.toList = l) (i : Nat) (x : UInt8) (h : l[i]? = some x) : ∃ h : i < s.size, s[i] = x := by
  subst hl
  rw [Array.getElem?_toList] at h
  obtain ⟨hi, e⟩ := Array.getElem?_eq_some_iff.1 h
  exact ⟨hi, by rw [ByteArray.getElem_eq_getElem_data]; exact e⟩

def QDRel (c : List UInt8) (N g : Nat) (w : World) (n i : Value) (wr : World) : Prop :=
  ∃ (k : Nat) (l : List UInt8), k ≤ c.length ∧ n = .int .i64 k ∧ i = .int .i64 (qStr (c.take k)).length ∧ l.length = N ∧ l.take k = c.take k ∧ Row g l wr ∧ Below w.heap.size w wr

theorem qd_step {c : List UInt8} {N g : Nat} {w wr : World} {k : Nat} {l : List UInt8} {x : UInt8} (hx : c[k]? = some x) (hl : l.length = N) (ht : l.take k = c.take k) (hN : (qStr c).length = N) (hr : Row g l wr) (hb : Below w.heap.size w wr) (hg : w.heap.size ≤ g)
    (n i : Value) (hn : n = .int .i64 ((k + 1 : Nat) : Int)) (hi : i = .int .i64 (((qStr (c.take k)).length + (qByte x).length : Nat) : Int)) : QDRel c N g w n i (wr.setCell ⟨g, k, none⟩ (.int .u8 x.toNat)) := by
  obtain ⟨hk, rfl⟩ := List.getElem?_eq_some_iff.1 hx
  refine ⟨k + 1, l.set k c[k], hk, hn, ?_, by rw [List.length_set]; exact hl, ?_, hr.set k _, hb.setCell (p := ⟨g, k, none⟩) hg _⟩
  · rw [hi, List.take_add_one, hx, qStr_append, List.length_append]
    simp [qStr]
  · have hkl : k < l.length := by
      have h1 := (qStr_le c).1
      omega
    rw [List.take_add_one, List.take_add_one, hx, List.getElem?_set, if_pos rfl, if_pos hkl, List.take_set_of_le (Nat.le_refl k), ht]

set_option maxHeartbeats 400000 in
set_option maxRecDepth 100000 in
theorem qDecode_good (s : ByteArray) (c : List UInt8) (hs : s.data.toList = qStr c) (hlen : s.size ≤ 1048576) (w : World) :
    Calls Tryz.prog 108 #[.string s] w fun x w' => ∃ g cap l, x = .returned (.tuple #[.slice (some ⟨g, 0, none⟩) c.length cap, .nilIface]) ∧ w.heap.size ≤ g ∧ c.length ≤ cap ∧ Row g l w' ∧ l.take c.length = c ∧ Below w.heap.size w w' := by
  have hmk := fun n h => make_bytes n h
  obtain ⟨N, hN⟩ : ∃ N, s.size = N := ⟨_, rfl⟩
  have hQ : (qStr c).length = N := by rw [← hs, Array.length_toList]; exact hN
  have hcN : c.length ≤ N := by have := (qStr_le c).1; omega
  have HS := Lib.hid hs; have HQ := Lib.hid hQ
  have hmkN := make_bytes N (by omega)
  clear hs hQ hmk
  go_enter Tryz.func108, Tryz.ntmps108
  go_wp2
  have hr0 := Row.make w N
  have hb0 : Below w.heap.size w (w.alloc (.cells (madeCells #[Value.int .u8 0] N) 5)) := (Below.refl _ w).alloc (Nat.le_refl _) _
  obtain ⟨g, hg⟩ : ∃ g, w.heap.size = g := ⟨_, rfl⟩
  have HG := Lib.hid (show w.heap.size ≤ g by omega)
  rw [hg] at hr0
  rw [hg]
  generalize w.alloc (.cells (madeCells #[Value.int .u8 0] N) 5) = w1 at *
  have HR0 := Lib.hid hr0; have HB0 := Lib.hid hb0
  clear hr0 hb0 hg hmkN
  go_loopw [5, 6, 7, 8, 9] (fun n i x b e wr => QDRel c N g w n i wr) (fun _ i _ _ _ _ => s.size - (intOf i).toNat)
  case atStart => exact ⟨0, List.replicate N 0, Nat.zero_le _, rfl, rfl, List.length_replicate, rfl, HR0.out, HB0.out⟩
  case round =>
    obtain ⟨k, l, hk, rfl, rfl, hl, ht, hr, hb⟩ := hrel
    have hkl : k < c.length → k < N := by omega
    by_cases hlt : k < c.length
    · obtain ⟨x, hx⟩ : ∃ x, c[k]? = some x := ⟨_, List.getElem?_eq_getElem hlt⟩
      have hsp := qStr_split c k x hx
      obtain ⟨m, hm⟩ : ∃ m, (qStr (c.take k)).length = m := ⟨_, rfl⟩
      have hat : ∀ j y, (qByte x)[j]? = some y → ∃ h : m + j < s.size, s[m + j] = y := by
        intro j y hy
        have hj := (List.getElem?_eq_some_iff.1 hy).1
        refine at_byte s _ HS.out _ _ ?_
        rw [hsp, List.getElem?_append_right (by omega), hm, Nat.add_sub_cancel_left, List.getElem?_append_left hj]
        exact hy
      rw [hm]
      have hn1 : k < N := hkl hlt
      have hfro := hr.frozen k
      obtain ⟨y, hy⟩ : ∃ y, l[k]? = some y := ⟨_, List.getElem?_eq_getElem (by omega)⟩
      have hcel := hr.cell hy
      have HX := Lib.hid hx; have HM := Lib.hid hm; have HL := Lib.hid hl; have HT := Lib.hid ht; have HR := Lib.hid hr; have HB := Lib.hid hb
      clear hx hm hl ht hr hb hsp hy
      by_cases h32 : x.toNat = 32
      · have hq : qByte x = [95] := by unfold qByte; rw [if_pos h32]
        rw [hq] at hat
        obtain ⟨h0, e0⟩ := hat 0 95 rfl
        have h0' : m < s.size := h0
        have e0' : s[m] = 95 := e0
        have HXX : x = 32 := UInt8.toNat.inj h32
        subst HXX
        clear hat h0 e0
        go_wp2
        go_roundw
        case rel => exact qd_step HX.out HL.out HT.out HQ.out HR.out HB.out HG.out _ _ (by go_num) (by rw [hq, HM.out]; rfl)
        case measure => simp [intOf]; omega
      · by_cases hraw : qRaw x = true
        · have hq : qByte x = [x] := by unfold qByte; rw [if_neg h32, if_pos hraw]
          rw [hq] at hat
          obtain ⟨h0, e0⟩ := hat 0 x rfl
          have h0' : m < s.size := h0
          have e0' : s[m] = x := e0
          obtain ⟨r1, r2, r3, r4, r5⟩ := of_decide_eq_true hraw
          have t1 : ((x.toNat : Int) == 95) = false := by rw [beq_eq_false_iff_ne]; omega
          have t2 : ((x.toNat : Int) == 61) = false := by rw [beq_eq_false_iff_ne]; omega
          have t3 : (x.toNat : Int) ≤ 126 := by omega
          have t4 : (32 : Int) ≤ (x.toNat : Int) := by omega
          clear hat h0 e0 h32 hraw r1 r2 r3 r4 r5
          go_wp2
          go_roundw
          case rel => exact qd_step HX.out HL.out HT.out HQ.out HR.out HB.out HG.out _ _ (by go_num) (by rw [hq, HM.out]; rfl)
          case measure => simp [intOf]; omega
        · have hq : qByte x = [61, hexU (x.toNat / 16), hexU (x.toNat % 16)] := by unfold qByte; rw [if_neg h32, if_neg hraw]
          rw [hq] at hat
          obtain ⟨h0, e0⟩ := hat 0 61 rfl
          obtain ⟨h1, e1⟩ := hat 1 _ rfl
          obtain ⟨h2, e2⟩ := hat 2 _ rfl
          have h0' : m < s.size := h0
          have e0' : s[m] = 61 := e0
          have i2 : ¬ (s.size : Int) ≤ (m : Int) + 2 := by omega
          have hlt16 := x.toNat_lt
          have hread := readHexByte_up (x.toNat / 16) (x.toNat % 16) (by omega) (by omega)
          rw [show 16 * (x.toNat / 16) + x.toNat % 16 = x.toNat by omega] at hread
          have hsum1 : IntKind.i64.wrap ((m : Int) + 1) = (m : Int) + 1 := IntWalk.i64_in _ (by omega)
          have hsum2 : IntKind.i64.wrap ((m : Int) + 2) = (m : Int) + 2 := IntWalk.i64_in _ (by omega)
          have p1 : (0 : Int) ≤ (m : Int) + 1 := by omega
          have p2 : (0 : Int) ≤ (m : Int) + 2 := by omega
          have q1 : ((m : Int) + 1).toNat = m + 1 := by omega
          have q2 : ((m : Int) + 2).toNat = m + 2 := by omega
          have HREAD := Lib.hid (fun w => (hread w).mono (fun _ _ h => (⟨h.1, h.2.symm⟩ : _ ∧ _)))
          clear hat h0 e0 h32 hraw hread
          go_wp2_with fail
          go_quiet ((go_at_call 125; exact Calls.quiet_of_same (HREAD.out _)))
          have HR3 := Lib.hid (HR.out.kept (w' := wr.drewN nq) (by rw [heap_drewN]))
          have HB3 := Lib.hid ((HB.out.trans (below_drewN (Below.refl _ wr) nq)))
          have hfro3 : (wr.drewN nq).frozen? ⟨g, k, none⟩ = false := HR3.out.frozen k
          have hcel3 : (wr.drewN nq).cell? ⟨g, k, none⟩ = some (.int .u8 y.toNat) := by
            rw [← hcel]; exact World.cell?_of_block (by rw [heap_drewN])
          clear hfro hcel hsum1 hsum2 p1 p2 q1 q2 e1 e2
          generalize wr.drewN nq = w3 at *
          go_wp2
          go_roundw
          case rel => exact qd_step HX.out HL.out HT.out HQ.out HR3.out HB3.out HG.out _ _ (by go_num) (by rw [hq, HM.out]; simp only [List.length_cons, List.length_nil]; go_num)
          case measure => simp [intOf]; omega
    · have hkc : k = c.length := by omega
      subst hkc
      have hm : (qStr (c.take c.length)).length = N := by rw [List.take_length]; exact HQ.out
      rw [hm]
      have HL := Lib.hid hl; have HT := Lib.hid ht; have HR := Lib.hid hr; have HB := Lib.hid hb; have HM := Lib.hid hm
      have i1 : ¬ (N : Int) < (s.size : Int) := by omega
      have i2 : (c.length : Int) ≤ (N : Int) := by omega
      clear hm hl ht hr hb
      go_wp2
      go_ret2
      refine ⟨g, N, rfl, HG.out, hcN, l, HR.out, ?_, HB.out⟩
      have := HT.out
      rwa [List.take_length] at this
end Go.Proofs.YtpoglombagmhmaaGreatDoor
/- convert (utf-8), decode (by Q): the walks. -/
namespace Go.Proofs.YtpoglombagmhmaaGreatDoor
open Go Go.RowKit

theorem convert_utf8 (d : Value) (b : Nat) (K : Nat → Prop) (l c : List UInt8) (g cap : Nat) (w : World) (h : Bld b K l w) (hg : K g) (hc : ∀ j x, c[j]? = some x → w.cell? ⟨g, 0 + j, none⟩ = some (.int .u8 x.toNat)) (hlen : l.length + c.length ≤ 140737488355328) :
    Calls Tryz.prog 98 #[d, .pointer (some ⟨b, 0, none⟩), .string utf8B, .slice (some ⟨g, 0, none⟩) c.length cap] w fun x w' => x = .returned .nilIface ∧ Bld b K (l ++ c) w' ∧ Fr K w w' := by
  have hqb : ∀ j u, (Lib.byteCells c)[j]? = some u → w.cell? ((⟨g, 0, none⟩ : Addr).add j) = some u := by
    intro j u hu
    rw [addr_add]
    simp only [Lib.byteCells, List.getElem?_map] at hu
    cases hx : c[j]? with
    | none => rw [hx] at hu; cases hu
    | some x => rw [hx] at hu; simp only [Option.map_some, Option.some.injEq] at hu; subst hu; exact hc j x hx
  have HQ := Lib.hid hqb
  clear hqb hc
  go_enter Tryz.func98, Tryz.ntmps98
  go_wp2_with fail
  refine (Tryz.strings_EqualFold _ _ _ (by decide) (asc_of _ (by decide)) (asc_of _ (by decide))).mono ?_
  rintro e w1 ⟨rfl, rfl⟩
  rw [show Lib.equalFold (⟨#[117, 116, 102, 45, 56]⟩ : ByteArray).data.toList utf8B.data.toList = true by decide]
  go_wp2_with fail
  refine (Write_any b K l c ⟨g, 0, none⟩ cap _ h hg HQ.out hlen).mono ?_
  rintro x w2 ⟨rfl, hB2, hF2⟩
  go_wp2
  go_ret
  exact ⟨rfl, hB2, hF2⟩


/-- decode, by Q. -/
theorem decode_q (s : ByteArray) (c : List UInt8) (hs : s.data.toList = qStr c) (hlen : s.size ≤ 1048576) (w : World) :
    Calls Tryz.prog 97 #[.int .u8 113, .string s] w fun x w' => ∃ g cap l, x = .returned (.tuple #[.slice (some ⟨g, 0, none⟩) c.length cap, .nilIface]) ∧ w.heap.size ≤ g ∧ c.length ≤ cap ∧ Row g l w' ∧ l.take c.length = c ∧ Below w.heap.size w w' := by
  have HS := Lib.hid hs
  clear hs
  go_enter Tryz.func97, Tryz.ntmps97
  go_wp2_with fail
  refine (qDecode_good s c HS.out hlen _).mono ?_
  rintro x w1 ⟨g, cap, l, rfl, h1, h2, h3, h4, h5⟩
  go_wp2
  go_ret2
  exact ⟨g, cap, l, rfl, h1, h2, h3, h4, h5⟩
end Go.Proofs.YtpoglombagmhmaaGreatDoor
