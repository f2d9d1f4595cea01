/- Plain Lean: a rune read and written anew is its bytes. -/
import Derived.Test.YtpoglombagmhmaaGreatDoorUtf
import Derived.Test.YtpoglombagmhmaaGreatDoorPu
import Derived.Test.YtpoglombagmhmaaGreatDoorP4
import Derived.Test.YtpoglombagmhmaaGreatDoorW5
import Derived.Test.YtpoglombagmhmaaGreatDoorPH
import Derived.Laws.Cover4
import Derived.WalkMore
import Derived.StillTailTactics
import Derived.Laws.MakeOwn
namespace Go.Proofs.YtpoglombagmhmaaGreatDoor
open Go Go.Lib

theorem encV {c : Nat} (h : c < 55296 ∨ (57344 ≤ c ∧ c ≤ 1114111)) : Utf8.valid (c : Int) = true := by
  unfold Utf8.valid
  simp only [Bool.and_eq_true, Bool.or_eq_true, decide_eq_true_eq]
  omega
theorem enc1 {c : Nat} (h : c < 128) : (Utf8.encode (c : Int)).data.toList = [UInt8.ofNat c] := by
  unfold Utf8.encode
  simp only [encV (.inl (by omega : c < 55296)), if_true, Int.toNat_natCast]
  rw [if_pos (by omega)]
theorem enc2 {c : Nat} (h0 : 128 ≤ c) (h : c < 2048) : (Utf8.encode (c : Int)).data.toList = [UInt8.ofNat (192 + c / 64), UInt8.ofNat (128 + c % 64)] := by
  unfold Utf8.encode
  simp only [encV (.inl (by omega : c < 55296)), if_true, Int.toNat_natCast]
  rw [if_neg (by omega), if_pos (by omega)]
theorem enc3 {c : Nat} (h0 : 2048 ≤ c) (h : c < 65536) (hv : c < 55296 ∨ 57344 ≤ c) : (Utf8.encode (c : Int)).data.toList = [UInt8.ofNat (224 + c / 4096), UInt8.ofNat (128 + c / 64 % 64), UInt8.ofNat (128 + c % 64)] := by
  unfold Utf8.encode
  simp only [encV (show c < 55296 ∨ (57344 ≤ c ∧ c ≤ 1114111) by omega), if_true, Int.toNat_natCast]
  rw [if_neg (by omega), if_neg (by omega), if_pos (by omega)]
theorem enc4 {c : Nat} (h0 : 65536 ≤ c) (h : c ≤ 1114111) : (Utf8.encode (c : Int)).data.toList = [UInt8.ofNat (240 + c / 262144), UInt8.ofNat (128 + c / 4096 % 64), UInt8.ofNat (128 + c / 64 % 64), UInt8.ofNat (128 + c % 64)] := by
  unfold Utf8.encode
  simp only [encV (show c < 55296 ∨ (57344 ≤ c ∧ c ≤ 1114111) by omega), if_true, Int.toNat_natCast]
  rw [if_neg (by omega), if_neg (by omega), if_neg (by omega)]
theorem b_of {n : Nat} {b : UInt8} (h : n = b.toNat) : UInt8.ofNat n = b := by rw [h]; exact UInt8.ofNat_toNat
theorem encode_decode {l : List UInt8} (h : okR l) : (Utf8.encode ((decodeL l).1 : Int)).data.toList = l.take (wd l) := by
  have hne := okR_nil_ne h
  have hl : 0 < l.length := List.length_pos_iff.2 hne
  replace h := h.2
  unfold wd
  have b0 := (l.getD 0 0).toNat_lt; have b1 := (l.getD 1 0).toNat_lt; have b2 := (l.getD 2 0).toNat_lt; have b3 := (l.getD 3 0).toNat_lt
  rw [decodeL_N l] at h ⊢
  rcases decodeN_shape l.length (l.getD 0 0).toNat (l.getD 1 0).toNat (l.getD 2 0).toNat (l.getD 3 0).toNat with ⟨c, e⟩ | ⟨k1, k2, k3, k4, e⟩ | ⟨k1, k2, k3, k4, k5, k6, e⟩ | ⟨k1, k2, k3, k4, k5, k6, k7, e⟩ | e
  · rw [e]; dsimp only
    rw [enc1 c]
    cases l with
    | nil => exact absurd rfl hne
    | cons a t => simp
  · rw [e]; dsimp only
    rw [takeB l (by omega), enc2 (by omega) (by omega), b_of (b := l.getD 0 0) (by omega), b_of (b := l.getD 1 0) (by omega)]
  · rw [e]; dsimp only
    rw [takeC l (by omega), enc3 (by omega) (by omega) (by omega), b_of (b := l.getD 0 0) (by omega), b_of (b := l.getD 1 0) (by omega), b_of (b := l.getD 2 0) (by omega)]
  · rw [e]; dsimp only
    rw [takeD l (by omega), enc4 (by omega) (by omega), b_of (b := l.getD 0 0) (by omega), b_of (b := l.getD 1 0) (by omega), b_of (b := l.getD 2 0) (by omega), b_of (b := l.getD 3 0) (by omega)]
  · exact absurd ⟨by rw [e], by rw [e]⟩ h
/-- The bytes of runes read one behind the other. -/
theorem runesBytes_snoc (ns : List Int) (n : Int) : (runesBytes (ns ++ [n])).data.toList = (runesBytes ns).data.toList ++ (Utf8.encode n).data.toList := by
  unfold runesBytes
  rw [List.foldl_append]
  simp
end Go.Proofs.YtpoglombagmhmaaGreatDoor
/- netmail.zzInSet, zzTrimLeft (at the set of blanks): the walks. -/
namespace Go.Proofs.YtpoglombagmhmaaGreatDoor
open Go Go.RowKit

def inSetR (p : List UInt8) (r : Nat) : Bool := p.any (fun c => decide (c.toNat = r))
theorem inSet_blank (r : Nat) : inSetR [32, 9] r = decide (r = 32 ∨ r = 9) := by
  unfold inSetR
  simp only [List.any_cons, List.any_nil, Bool.or_false, show (32 : UInt8).toNat = 32 from rfl, show (9 : UInt8).toNat = 9 from rfl]
  by_cases h1 : r = 32 <;> by_cases h2 : r = 9 <;> simp [h1, h2, eq_comm]

set_option maxHeartbeats 2000000 in
set_option maxRecDepth 100000 in
theorem zzInSet_any (r : Nat) (p : ByteArray) (hp : ∀ c ∈ p.data.toList, c.toNat < 128) (w : World) : Calls Tryz.prog 52 #[.int .i32 r, .string p] w fun x w' => x = .returned (.bool (inSetR p.data.toList r)) ∧ Below w.heap.size w w' := by
  obtain ⟨it, hit0⟩ : ∃ it, w.heap.size = it := ⟨_, rfl⟩
  have HIT := Lib.hid hit0
  have HPA := Lib.hid hp
  have HI0 := Lib.hid (show (w.iter p 0).heap[it]? = some (.stringIter p 0) by rw [← hit0]; exact World.iter_heap w p 0)
  have HB0 := Lib.hid (show Below it w (w.iter p 0) from (Below.refl it w).alloc (by omega) (.stringIter p 0))
  clear hit0 hp
  go_enter Tryz.func52, Tryz.ntmps52
  go_wp2
  rw [HIT.out]
  generalize w.iter p 0 = w1 at HB0 HI0 ⊢
  go_loopw [4] (fun v4 wr => v4 = .bool false ∧ ∃ j : Nat, j ≤ p.size ∧ wr.heap[it]? = some (.stringIter p j) ∧ inSetR (p.data.toList.take j) r = false ∧ Below it w wr) (fun _ wr => p.size - wr.iterPos it)
  case atStart => exact ⟨rfl, 0, Nat.zero_le _, HI0.out, rfl, HB0.out⟩
  case round =>
    obtain ⟨rfl, j, hj, hjt, hne, hb3⟩ := hrel
    by_cases hjl : j < p.size
    · obtain ⟨c, hc⟩ : ∃ c, p[j] = c := ⟨_, rfl⟩
      have hca : c.toNat < 128 := HPA.out c (by rw [← hc]; exact Array.mem_toList_iff.2 (Array.getElem_mem hjl))
      have hcm : c ∈ p.data.toList := by rw [← hc]; exact Array.mem_toList_iff.2 (Array.getElem_mem hjl)
      have hnx2 : ∀ ty, (Instr.next (.pointer (some ⟨it, 0, none⟩)) true ty).run Tryz.prog wr = _ := fun ty => Lib.run_next_ascii_at wr it p j ty hjt hjl (by rw [hc]; exact hca)
      have hsn := take_snoc p j hjl
      rw [hc] at hnx2 hsn
      have HJ2 := Lib.hid (Lib.iterAt_heap wr it p j (j + 1) hjt)
      have HB4 := Lib.hid (Lib.below_iterAt hb3 (k := it) (Nat.le_refl _) p (j + 1))
      have HJ1 := Lib.hid hjt
      have HNE := Lib.hid hne; have HSN := Lib.hid hsn; have HCM := Lib.hid hcm
      clear hjt hb3 hne hc hsn hcm
      by_cases hrc : r = c.toNat
      · have z : ((r : Int) == (c.toNat : Int)) = true := by rw [beq_iff_eq]; omega
        have HR := Lib.hid (show inSetR p.data.toList r = true from List.any_eq_true.2 ⟨c, HCM.out, decide_eq_true hrc.symm⟩)
        clear hrc
        go_wp2
        go_ret
        exact ⟨by rw [HR.out]; rfl, by rw [HIT.out]; exact HB4.out⟩
      · have z : ((r : Int) == (c.toNat : Int)) = false := by rw [beq_eq_false_iff_ne]; omega
        have HRC := Lib.hid hrc
        clear hrc
        go_wp2
        go_roundw
        case rel =>
          refine ⟨rfl, j + 1, by omega, HJ2.out, ?_, HB4.out⟩
          have := HNE.out
          unfold inSetR at this ⊢
          rw [HSN.out, List.any_append, this]
          simp only [List.any_cons, List.any_nil, Bool.or_false, Bool.false_or]
          exact decide_eq_false (fun e => HRC.out e.symm)
        case measure =>
          have e1 := HJ1.out; have e2 := HJ2.out
          simp only [World.iterPos, e1, e2]
          omega
    · have hnx2 : ∀ ty, (Instr.next (.pointer (some ⟨it, 0, none⟩)) true ty).run Tryz.prog wr = _ := fun ty => Lib.run_next_end_at wr it p j ty hjt hjl
      have hall : p.data.toList.take j = p.data.toList := List.take_of_length_le (by rw [Array.length_toList]; show p.size ≤ j; omega)
      rw [hall] at hne
      have HN := Lib.hid hne; have HB := Lib.hid hb3
      clear hjt hb3 hne hall
      go_wp2
      go_ret
      exact ⟨by rw [HN.out]; rfl, by rw [HIT.out]; exact HB.out⟩

theorem dropw_all {p : UInt8 → Bool} : ∀ {a : List UInt8} {l : List UInt8}, a.all p = true → (a ++ l).dropWhile p = l.dropWhile p
  | [], _, _ => rfl
  | c :: a, l, h => by
    rw [List.all_cons, Bool.and_eq_true] at h
    rw [List.cons_append, List.dropWhile_cons_of_pos h.1]
    exact dropw_all h.2
set_option maxHeartbeats 2000000 in
set_option maxRecDepth 100000 in
theorem zzTrimLeft_blank (s : ByteArray) (_hs : s.size ≤ 140737488355328) (w : World) : Calls Tryz.prog 40 #[.string s, .string ⟨#[32, 9]⟩] w fun x w' => x = .returned (.string (bs (s.data.toList.dropWhile isSp))) ∧ Below w.heap.size w w' := by
  obtain ⟨it, hit0⟩ : ∃ it, w.heap.size = it := ⟨_, rfl⟩
  have HIT := Lib.hid hit0
  have HI0 := Lib.hid (show (w.iter s 0).heap[it]? = some (.stringIter s 0) by rw [← hit0]; exact World.iter_heap w s 0)
  have HB0 := Lib.hid (show Below it w (w.iter s 0) from (Below.refl it w).alloc (by omega) (.stringIter s 0))
  have hsl : s.data.toList.length = s.size := Array.length_toList
  have HSL := Lib.hid hsl
  clear hit0 hsl
  go_enter Tryz.func40, Tryz.ntmps40
  go_wp2
  rw [HIT.out]
  generalize w.iter s 0 = w1 at HB0 HI0 ⊢
  go_loopw [4] (fun v4 wr => v4 = .string ⟨#[]⟩ ∧ ∃ k : Nat, k ≤ s.size ∧ wr.heap[it]? = some (.stringIter s k) ∧ (s.data.toList.take k).all isSp = true ∧ Below it w wr) (fun _ wr => s.size - wr.iterPos it)
  case atStart => exact ⟨rfl, 0, Nat.zero_le _, HI0.out, rfl, HB0.out⟩
  case round =>
    obtain ⟨rfl, k, hk, hit, hall, hbw⟩ := hrel
    by_cases hlt : k < s.size
    · have hnx : ∀ ty, (Instr.next (.pointer (some ⟨it, 0, none⟩)) true ty).run Tryz.prog wr = _ := fun ty => Lib.run_next_any_at wr it s k ty hit hlt
      have hit2 := Lib.iterAt_heap wr it s k (k + (Utf8.decode s k).2) hit
      have hbw2 := Lib.below_iterAt hbw (k := it) (Nat.le_refl _) s (k + (Utf8.decode s k).2)
      have hdr : s.data.toList.drop k = s[k] :: s.data.toList.drop (k + 1) := by
        rw [List.drop_eq_getElem_cons (by rw [HSL.out]; exact hlt)]; rfl
      have hcase : (isSp s[k] = true ∧ (Utf8.decode s k) = (s[k].toNat, 1) ∧ inSetR [32, 9] (Utf8.decode s k).1 = true) ∨ (isSp s[k] = false ∧ inSetR [32, 9] (Utf8.decode s k).1 = false) := by
        rw [inSet_blank]
        by_cases ha : (s[k]'hlt).toNat < 128
        · have hd := decode_ascii s k hlt ha
          rw [hd]
          by_cases h : s[k].toNat = 32 ∨ s[k].toNat = 9
          · left
            refine ⟨?_, rfl, decide_eq_true h⟩
            unfold isSp
            rw [Bool.or_eq_true, beq_iff_eq, beq_iff_eq]
            exact h.imp (fun e => UInt8.toNat_inj.1 e) (fun e => UInt8.toNat_inj.1 e)
          · right
            refine ⟨?_, decide_eq_false h⟩
            unfold isSp
            rw [Bool.or_eq_false_iff, beq_eq_false_iff_ne, beq_eq_false_iff_ne]
            exact ⟨fun e => h (.inl (by rw [e]; rfl)), fun e => h (.inr (by rw [e]; rfl))⟩
        · have hh := (decode_high s k hlt (by omega)).1
          right
          refine ⟨?_, decide_eq_false (by omega)⟩
          unfold isSp
          rw [Bool.or_eq_false_iff, beq_eq_false_iff_ne, beq_eq_false_iff_ne]
          exact ⟨fun e => ha (by rw [e]; decide), fun e => ha (by rw [e]; decide)⟩
      have hsn := take_snoc s k hlt
      generalize hr : (Utf8.decode s k).1 = r at *
      generalize hn : (Utf8.decode s k).2 = n at *
      have HI := Lib.hid hit; have HI2 := Lib.hid hit2; have HB2 := Lib.hid hbw2; have HALL := Lib.hid hall; have HDR := Lib.hid hdr; have HSN := Lib.hid hsn
      rcases hcase with ⟨h1, h2, h3⟩ | ⟨h1, h3⟩
      · have hn1 : n = 1 := by rw [← hn, h2]
        subst hn1
        have H1 := Lib.hid h1; have H3 := Lib.hid h3
        clear hit hbw hit2 hbw2 hall hdr hsn hr hn h1 h2 h3
        go_wp2_with fail
        refine (zzInSet_any r ⟨#[32, 9]⟩ (by decide) _).mono ?_
        rintro x w3 ⟨rfl, hb3⟩
        rw [show inSetR (⟨#[32, 9]⟩ : ByteArray).data.toList r = true from H3.out]
        have hlti : it < (wr.iterAt it s (k + 1)).heap.size := (Array.getElem?_eq_some_iff.1 HI2.out).1
        have HI3 := Lib.hid ((hb3.block it hlti).trans HI2.out)
        have HB3 := Lib.hid (HB2.out.trans (hb3.mono (Nat.le_of_lt hlti)))
        clear hb3
        go_wp2
        go_roundw
        case rel => exact ⟨rfl, k + 1, by omega, HI3.out, by rw [HSN.out, List.all_append, HALL.out]; simp [H1.out], HB3.out⟩
        case measure =>
          have e1 := HI.out; have e2 := HI3.out
          simp only [World.iterPos, e1, e2]
          omega
      · have H1 := Lib.hid h1; have H3 := Lib.hid h3
        clear hit hbw hit2 hbw2 hall hdr hsn hr hn h1 h3
        go_wp2_with fail
        refine (zzInSet_any r ⟨#[32, 9]⟩ (by decide) _).mono ?_
        rintro x w3 ⟨rfl, hb3⟩
        rw [show inSetR (⟨#[32, 9]⟩ : ByteArray).data.toList r = false from H3.out]
        have HB3 := Lib.hid (HB2.out.trans (hb3.mono (Nat.le_of_lt (Array.getElem?_eq_some_iff.1 HI2.out).1)))
        have z1 : (k : Int) ≤ (s.size : Int) := by omega
        clear hb3
        go_wp2
        go_ret
        refine ⟨?_, by rw [HIT.out]; exact HB3.out⟩
        have e1 : s.data.toList.dropWhile isSp = s.data.toList.drop k := by
          have e2 := List.take_append_drop k s.data.toList
          rw [← e2, dropw_all HALL.out, e2, HDR.out, List.dropWhile_cons_of_neg (by rw [H1.out]; simp)]
        rw [e1]
        have e3 : s.extract k s.size = bs (s.data.toList.drop k) := by
          rw [← bs_of (s.extract k s.size)]
          congr 1
          have := extract_list s k (s.size - k)
          rw [show k + (s.size - k) = s.size by omega] at this
          rw [this, List.take_of_length_le (by rw [List.length_drop, HSL.out]; omega)]
        rw [← e3]; rfl
    · have hnx : ∀ ty, (Instr.next (.pointer (some ⟨it, 0, none⟩)) true ty).run Tryz.prog wr = _ := fun ty => Lib.run_next_end_at wr it s k ty hit hlt
      have hall2 : s.data.toList.take k = s.data.toList := List.take_of_length_le (by rw [HSL.out]; omega)
      rw [hall2] at hall
      have HALL := Lib.hid hall; have HB := Lib.hid hbw
      clear hit hbw hall hall2
      go_wp2
      go_ret
      have e1 : s.data.toList.dropWhile isSp = [] := by
        have := dropw_all (l := []) HALL.out
        rw [List.append_nil] at this
        exact this
      exact ⟨by rw [e1]; rfl, by rw [HIT.out]; exact HB.out⟩
end Go.Proofs.YtpoglombagmhmaaGreatDoor
/- netmail's parser: its text; len, empty, peek, consume, skipSpace, skipCFWS (no comment): the walks. -/
namespace Go.Proofs.YtpoglombagmhmaaGreatDoor
open Go Go.RowKit

/-- The parser in block pb, with the text s left. -/
def PS (pb : Nat) (dv : Value) (s : ByteArray) (w : World) : Prop := w.heap[pb]? = some (.cells #[.string s, dv] 64 (0, 0))
theorem PS.cells {pb : Nat} {dv : Value} {s : ByteArray} {w : World} (h : PS pb dv s w) : w.cell? ⟨pb, 0, none⟩ = some (.string s) ∧ w.cell? ⟨pb, 1, none⟩ = some dv ∧ w.frozen? ⟨pb, 0, none⟩ = false ∧ pb < w.heap.size := by
  have h' : w.heap[pb]? = some (.cells #[.string s, dv] 64 (0, 0)) := h
  exact ⟨by rw [Lib.cell_of_heap h']; rfl, by rw [Lib.cell_of_heap h']; rfl, Lib.frozen_of_heap h' 0, (Array.getElem?_eq_some_iff.1 h').1⟩
theorem PS.fr {pb : Nat} {dv : Value} {s : ByteArray} {w w' : World} (h : PS pb dv s w) (hb : w'.heap[pb]? = w.heap[pb]?) : PS pb dv s w' := by
  unfold PS at h ⊢
  rw [hb]; exact h
theorem PS.below {pb : Nat} {dv : Value} {s : ByteArray} {w w' : World} (h : PS pb dv s w) (hb : Below w.heap.size w w') : PS pb dv s w' := h.fr (hb.block pb h.cells.2.2.2)
theorem PS.drewN {pb : Nat} {dv : Value} {s : ByteArray} {w : World} (h : PS pb dv s w) (n : Nat) : PS pb dv s (w.drewN n) := h.fr (by rw [heap_drewN])
theorem PS.put {pb : Nat} {dv : Value} {s : ByteArray} {w : World} (h : PS pb dv s w) (x : ByteArray) : PS pb dv x (w.setCell ⟨pb, 0, none⟩ (.string x)) := heap_setCell_row h

theorem plen_any (pb : Nat) (dv : Value) (s : ByteArray) (w : World) (h : PS pb dv s w) : Calls Tryz.prog 47 #[.pointer (some ⟨pb, 0, none⟩)] w fun x w' => x = .returned (.int .i64 s.size) ∧ w' = w := by
  obtain ⟨c0, c1, f0, hlt⟩ := h.cells
  clear h
  go_enter Tryz.func47, Tryz.ntmps47
  go_wp2
  go_ret
  exact ⟨rfl, rfl⟩
theorem pempty_any (pb : Nat) (dv : Value) (s : ByteArray) (w : World) (h : PS pb dv s w) : Calls Tryz.prog 36 #[.pointer (some ⟨pb, 0, none⟩)] w fun x w' => x = .returned (.bool (decide (s.size = 0))) ∧ w' = w := by
  have HP := Lib.hid h
  clear h
  go_enter Tryz.func36, Tryz.ntmps36
  go_wp2_with fail
  refine (plen_any pb dv s _ HP.out).mono ?_
  rintro x w1 ⟨rfl, rfl⟩
  by_cases hz : s.size = 0
  · have z : ((s.size : Int) == 0) = true := by rw [beq_iff_eq]; omega
    have HD := Lib.hid (decide_eq_true hz)
    clear hz
    go_wp2
    go_ret
    exact ⟨by rw [HD.out]; rfl, rfl⟩
  · have z : ((s.size : Int) == 0) = false := by rw [beq_eq_false_iff_ne]; omega
    have HD := Lib.hid (decide_eq_false hz)
    clear hz
    go_wp2
    go_ret
    exact ⟨by rw [HD.out]; rfl, rfl⟩
theorem ppeek_any (pb : Nat) (dv : Value) (s : ByteArray) (c : UInt8) (w : World) (h : PS pb dv s w) (h0 : 0 < s.size) (hc : s[0] = c) : Calls Tryz.prog 37 #[.pointer (some ⟨pb, 0, none⟩)] w fun x w' => x = .returned (.int .u8 c.toNat) ∧ ∃ m, w' = w.drewN m := by
  obtain ⟨c0, c1, f0, hlt⟩ := h.cells
  clear h
  go_enter Tryz.func37, Tryz.ntmps37
  go_wp2
  go_ret
  exact ⟨rfl, 0, rfl⟩
theorem pconsume_no (pb : Nat) (dv : Value) (s : ByteArray) (c : UInt8) (w : World) (h : PS pb dv s w) (hn : ∀ h0 : 0 < s.size, s[0] ≠ c) : Calls Tryz.prog 32 #[.pointer (some ⟨pb, 0, none⟩), .int .u8 c.toNat] w fun x w' => x = .returned (.bool false) ∧ ∃ m, w' = w.drewN m := by
  have HP := Lib.hid h; have HN := Lib.hid hn
  clear h hn
  by_cases hz : s.size = 0
  · have HD := Lib.hid (decide_eq_true hz)
    clear hz
    go_enter Tryz.func32, Tryz.ntmps32
    go_wp2_with fail
    refine (pempty_any pb dv s _ HP.out).mono ?_
    rintro x w1 ⟨rfl, rfl⟩
    rw [HD.out]
    go_wp2
    go_ret
    exact ⟨rfl, 0, rfl⟩
  · have h0 : 0 < s.size := by omega
    obtain ⟨d, hd⟩ : ∃ d, s[0] = d := ⟨_, rfl⟩
    have hne : d ≠ c := by rw [← hd]; exact HN.out h0
    have z : ((d.toNat : Int) != (c.toNat : Int)) = true := by rw [bne_iff_ne]; exact fun e => hne (UInt8.toNat_inj.1 (Int.ofNat_inj.1 e))
    have HDD := Lib.hid hd
    have HD := Lib.hid (decide_eq_false hz)
    clear hz hd hne
    go_enter Tryz.func32, Tryz.ntmps32
    go_wp2_with fail
    refine (pempty_any pb dv s _ HP.out).mono ?_
    rintro x w1 ⟨rfl, rfl⟩
    rw [HD.out]
    go_wp2_with fail
    refine (ppeek_any pb dv s d _ HP.out h0 HDD.out).mono ?_
    rintro x w2 ⟨rfl, m, rfl⟩
    go_wp2
    go_ret
    exact ⟨rfl, m, rfl⟩
theorem pconsume_yes (pb : Nat) (dv : Value) (s : ByteArray) (c : UInt8) (w : World) (h : PS pb dv s w) (h0 : 0 < s.size) (hc : s[0] = c) : Calls Tryz.prog 32 #[.pointer (some ⟨pb, 0, none⟩), .int .u8 c.toNat] w fun x w' => x = .returned (.bool true) ∧ PS pb dv (s.extract 1 s.size) w' ∧ Fr (· ≠ pb) w w' := by
  have HP := Lib.hid h; have HC := Lib.hid hc
  have HD := Lib.hid (show decide (s.size = 0) = false from decide_eq_false (by omega))
  clear h hc
  go_enter Tryz.func32, Tryz.ntmps32
  go_wp2_with fail
  refine (pempty_any pb dv s _ HP.out).mono ?_
  rintro x w1 ⟨rfl, rfl⟩
  rw [HD.out]
  go_wp2_with fail
  refine (ppeek_any pb dv s c _ HP.out h0 HC.out).mono ?_
  rintro x w2 ⟨rfl, m, rfl⟩
  have HP2 := Lib.hid (HP.out.drewN m)
  have HF2 := Lib.hid ((Fr.refl (· ≠ pb) w1).drewN m)
  generalize w1.drewN m = w2 at HP2 HF2 ⊢
  obtain ⟨c0, c1, f0, hlt⟩ := HP2.out.cells
  have z : ((c.toNat : Int) != (c.toNat : Int)) = false := by simp
  have i1 : (1 : Int) ≤ (s.size : Int) := by omega
  go_wp2
  go_ret
  exact ⟨rfl, HP2.out.put _, HF2.out.setCell (p := ⟨pb, 0, none⟩) (fun e => e rfl) _⟩
theorem pskip_any (pb : Nat) (dv : Value) (s : ByteArray) (w : World) (h : PS pb dv s w) (hs : s.size ≤ 140737488355328) : Calls Tryz.prog 31 #[.pointer (some ⟨pb, 0, none⟩)] w fun x w' => x = .returned (.tuple #[]) ∧ PS pb dv (bs (s.data.toList.dropWhile isSp)) w' ∧ Fr (fun k => k ≠ pb ∧ k < w.heap.size) w w' := by
  have HP := Lib.hid h
  obtain ⟨c0, c1, f0, hlt⟩ := h.cells
  clear h
  go_enter Tryz.func31, Tryz.ntmps31
  go_wp2_with fail
  refine (zzTrimLeft_blank s hs _).mono ?_
  rintro x w1 ⟨rfl, hb⟩
  have HP1 := Lib.hid (HP.out.below hb); have HB := Lib.hid hb
  clear c0 c1 f0 hb
  obtain ⟨c0, c1, f0, hlt1⟩ := HP1.out.cells
  go_wp2
  go_end0
  exact ⟨rfl, HP1.out.put _, ((Fr.of_below HB.out).mono (fun k hk => hk.2)).setCell (p := ⟨pb, 0, none⟩) (fun e => e.1 rfl) _⟩
/-- Blanks alone: no comment. -/
theorem pcfws_any (pb : Nat) (dv : Value) (s : ByteArray) (w : World) (h : PS pb dv s w) (hs : s.size ≤ 140737488355328) (hn : ∀ c t, s.data.toList.dropWhile isSp = c :: t → c ≠ 40) : Calls Tryz.prog 34 #[.pointer (some ⟨pb, 0, none⟩)] w fun x w' => x = .returned (.bool true) ∧ PS pb dv (bs (s.data.toList.dropWhile isSp)) w' ∧ Fr (fun k => k ≠ pb ∧ k < w.heap.size) w w' := by
  have HP := Lib.hid h; have HN := Lib.hid hn
  clear h hn
  go_enter Tryz.func34, Tryz.ntmps34
  go_wp2_with fail
  refine (pskip_any pb dv s _ HP.out hs).mono ?_
  rintro x w1 ⟨rfl, hp, hf⟩
  have HP1 := Lib.hid hp; have HF1 := Lib.hid hf
  clear hp hf
  go_wp2
  go_loopw [] (fun wr => wr = w1 ∨ wr = w1) (fun _ => 0)
  case atStart => exact .inl rfl
  case round =>
    obtain rfl : wr = w1 := hrel.elim id id
    go_wp2_with fail
    refine (pconsume_no pb dv (bs (s.data.toList.dropWhile isSp)) 40 _ HP1.out (fun h0 e => ?_)).mono ?_
    · cases hd : s.data.toList.dropWhile isSp with
      | nil => rw [hd] at h0; exact absurd h0 (by decide)
      | cons c t =>
        apply HN.out c t hd
        have h9 : (bs (s.data.toList.dropWhile isSp)).data.toList[0]? = some 40 := by
          rw [Array.getElem?_toList]
          exact Array.getElem?_eq_some_iff.2 ⟨h0, e⟩
        rw [bs_list, hd] at h9
        simpa using h9
    rintro x w2 ⟨rfl, m, rfl⟩
    have HP2 := Lib.hid (HP1.out.drewN m); have HF2 := Lib.hid (HF1.out.drewN m)
    go_wp2
    go_ret
    exact ⟨rfl, HP2.out, HF2.out⟩
end Go.Proofs.YtpoglombagmhmaaGreatDoor
/- netmail.isAtext (with points); consumeAtom, permissive: the walks. -/
namespace Go.Proofs.YtpoglombagmhmaaGreatDoor
open Go Go.RowKit

def atextD (r : Nat) : Bool := vcharR r && !([40, 41, 60, 62, 91, 93, 58, 59, 64, 92, 44, 34].contains r)
theorem isAtext_dot (r : Nat) (w : World) : Calls Tryz.prog 45 #[.int .i32 r, .bool true] w fun x w' => x = .returned (.bool (atextD r)) ∧ w' = w := by
  have HV := Lib.hid (fun W => isVchar_any r W)
  by_cases h46 : r = 46
  · subst h46
    go_enter Tryz.func45, Tryz.ntmps45
    go_wp2
    go_ret
    exact ⟨rfl, rfl⟩
  by_cases h : r ∈ [40, 41, 60, 62, 91, 93, 58, 59, 64, 92, 44, 34]
  · have HR := Lib.hid (show atextD r = false by unfold atextD; rw [List.contains_iff_mem.2 h]; simp)
    simp only [List.mem_cons, List.not_mem_nil, or_false] at h
    clear h46
    go_enter Tryz.func45, Tryz.ntmps45
    rcases h with rfl | rfl | rfl | rfl | rfl | rfl | rfl | rfl | rfl | rfl | rfl | rfl <;> (go_wp2; go_ret; exact ⟨by rw [HR.out]; rfl, rfl⟩)
  · have HR := Lib.hid (show atextD r = vcharR r by unfold atextD; rw [show ([40, 41, 60, 62, 91, 93, 58, 59, 64, 92, 44, 34] : List Nat).contains r = false from by rw [Bool.eq_false_iff]; intro q; exact h (List.contains_iff_mem.1 q)]; simp)
    simp only [List.mem_cons, List.not_mem_nil, or_false, not_or] at h
    obtain ⟨h2, h3, h4, h5, h6, h7, h8, h9, h10, h11, h12, h13⟩ := h
    have e : ∀ (k : Nat), r ≠ k → ((r : Int) == (k : Int)) = false := fun k hk => by rw [beq_eq_false_iff_ne]; omega
    have t1 : ((r : Int) == 46) = false := e 46 h46
    have t2 : ((r : Int) == 40) = false := e 40 h2
    have t3 : ((r : Int) == 41) = false := e 41 h3
    have t4 : ((r : Int) == 60) = false := e 60 h4
    have t5 : ((r : Int) == 62) = false := e 62 h5
    have t6 : ((r : Int) == 91) = false := e 91 h6
    have t7 : ((r : Int) == 93) = false := e 93 h7
    have t8 : ((r : Int) == 58) = false := e 58 h8
    have t9 : ((r : Int) == 59) = false := e 59 h9
    have t10 : ((r : Int) == 64) = false := e 64 h10
    have t11 : ((r : Int) == 92) = false := e 92 h11
    have t12 : ((r : Int) == 44) = false := e 44 h12
    have t13 : ((r : Int) == 34) = false := e 34 h13
    clear e h46 h2 h3 h4 h5 h6 h7 h8 h9 h10 h11 h12 h13
    go_enter Tryz.func45, Tryz.ntmps45
    go_wp2_with fail
    refine (HV.out _).mono ?_
    rintro x w2 ⟨rfl, rfl⟩
    go_wp2
    go_ret
    exact ⟨by rw [HR.out]; rfl, rfl⟩

/-- A sign of an atom, or a point. -/
def atomD (c : UInt8) : Bool := atomB c || c == 46
theorem atomD_asc {c : UInt8} (h : c.toNat < 128) : atextD c.toNat = atomD c := by
  have : ∀ k : Fin 128, atextD (UInt8.ofNat k.val).toNat = atomD (UInt8.ofNat k.val) := by decide
  have := this ⟨c.toNat, h⟩
  simp only [UInt8.ofNat_toNat] at this
  exact this
theorem atomD_high {c : UInt8} (h : 128 ≤ c.toNat) : atomD c = true := by
  unfold atomD atomB
  rw [decide_eq_true (.inr (.inr (.inr h)))]; rfl
theorem atextD_high {r : Nat} (h : 128 ≤ r) : atextD r = true := by
  unfold atextD vcharR
  rw [decide_eq_true h, Bool.or_true, Bool.true_and]
  rw [Bool.not_eq_true', Bool.eq_false_iff]
  intro q
  have := List.contains_iff_mem.1 q
  simp only [List.mem_cons, List.not_mem_nil, or_false] at this
  omega
/-- The rune at a place of valid text: whether it is of an atom, and its bytes. -/
theorem rune_atom {l : List UInt8} (hv : Lib.validD l = true) (hne : l ≠ []) :
    (atextD (Lib.decodeL l).1 = true ∧ (l.take (wd l)).all atomD = true) ∨ (atextD (Lib.decodeL l).1 = false ∧ ∃ c t, l = c :: t ∧ atomD c = false) := by
  cases l with
  | nil => exact absurd rfl hne
  | cons c t =>
    by_cases ha : c.toNat < 128
    · rw [Lib.decodeL_ascii c t ha, wd_ascii ha]
      simp only [List.take_succ_cons, List.take_zero, List.all_cons, List.all_nil, Bool.and_true]
      rw [atomD_asc ha]
      cases h : atomD c with
      | true => exact .inl ⟨rfl, rfl⟩
      | false => exact .inr ⟨rfl, c, t, rfl, h⟩
    · left
      have hok := valid_ok hv hne
      have h1 := rune_high hok (by simp; omega)
      have h2 : 128 ≤ (Lib.decodeL (c :: t)).1 := by
        have := (decode_high ⟨(c :: t).toArray⟩ 0 (by simp [ByteArray.size]) (by show 128 ≤ c.toNat; omega)).1
        exact this
      exact ⟨atextD_high h2, List.all_eq_true.2 (fun d hd => atomD_high (h1 d hd))⟩
end Go.Proofs.YtpoglombagmhmaaGreatDoor
/- netmail.consumeAtom, permissive, with points: the walk. -/
namespace Go.Proofs.YtpoglombagmhmaaGreatDoor
open Go Go.RowKit

theorem while_app4 {p : UInt8 → Bool} : ∀ {a : List UInt8} {l : List UInt8}, (∀ c ∈ a, p c = true) → (a ++ l).takeWhile p = a ++ l.takeWhile p ∧ (a ++ l).dropWhile p = l.dropWhile p
  | [], _, _ => ⟨rfl, rfl⟩
  | c :: a, l, h => by
    have ih := while_app4 (a := a) (l := l) (fun d hd => h d (by simp [hd]))
    have hc := h c (by simp)
    exact ⟨by rw [List.cons_append, List.takeWhile_cons_of_pos hc, ih.1, List.cons_append], by rw [List.cons_append, List.dropWhile_cons_of_pos hc, ih.2]⟩
theorem tabs_b {g0 g1 pb : Nat} {w w' : World} (h : Lib.Utf8Tabs g0 g1 w) (hf : Fr (fun b => b ≠ pb ∧ b < w.heap.size) w w') (h0 : pb ≠ g0) (h1 : pb ≠ g1) : Lib.Utf8Tabs g0 g1 w' := by
  have lt : ∀ {a : Addr} {v : Value}, w.cell? a = some v → a.block < w.heap.size := fun {a v} hc => by
    rcases Nat.lt_or_ge a.block w.heap.size with h' | h'
    · exact h'
    · simp [World.cell?, Array.getElem?_eq_none h'] at hc
  have e : ∀ {a : Addr} {v : Value}, a.block ≠ pb → w.cell? a = some v → w'.cell? a = some v := fun {a v} hne hc => by
    rw [hf.cell (p := a) ⟨hne, lt hc⟩]; exact hc
  refine ⟨fun c hc => e (fun q => h0 q.symm) (h.1 c hc), fun i hi => ⟨e (fun q => h1 q.symm) (h.2 i hi).1, e (fun q => h1 q.symm) (h.2 i hi).2⟩⟩

set_option maxHeartbeats 4000000 in
set_option maxRecDepth 100000 in
theorem catom_yes (pb : Nat) (dv : Value) (s : ByteArray) (w : World) (h : PS pb dv s w) (hs : s.size ≤ 1099511627776) (hv : Lib.validD s.data.toList = true) (hT : Lib.Utf8Tabs 0 1 w) (ha : s.data.toList.takeWhile atomD ≠ []) :
    Calls Tryz.prog 55 #[.pointer (some ⟨pb, 0, none⟩), .bool true, .bool true] w fun x w' => x = .returned (.tuple #[.string (bs (s.data.toList.takeWhile atomD)), .nilIface]) ∧ PS pb dv (bs (s.data.toList.dropWhile atomD)) w' ∧ Fr (fun k => k ≠ pb ∧ k < w.heap.size) w w' := by
  have HP := Lib.hid h; have HV := Lib.hid hv; have HT := Lib.hid hT; have HA := Lib.hid ha
  have hsl : s.data.toList.length = s.size := Array.length_toList
  have HSL := Lib.hid hsl
  clear h hv hT ha hsl
  go_enter Tryz.func55, Tryz.ntmps55
  go_wp2
  go_step3
  go_wp2
  go_step3
  go_wp2
  go_loopw [6, 7, 8] (fun r6 r7 i wr => r6 = .string ⟨#[]⟩ ∧ r7 = .nilIface ∧ Below w.heap.size w wr ∧ ∃ k : Nat, i = .int .i64 k ∧ k ≤ s.size ∧ (s.data.toList.take k).all atomD = true ∧ Lib.validD (s.data.toList.drop k) = true) (fun _ _ i _ => s.size - (intOf i).toNat)
  case atStart => exact ⟨rfl, rfl, Below.refl _ _, 0, rfl, Nat.zero_le _, rfl, HV.out⟩
  case round =>
    obtain ⟨rfl, rfl, hb, k, rfl, hk, hall, hvk⟩ := hrel
    have HB := Lib.hid hb; have HALL := Lib.hid hall; have HVK := Lib.hid hvk
    have HPR := Lib.hid (HP.out.below hb)
    obtain ⟨c0, c1, f0, hlt0⟩ := HPR.out.cells
    have z0 : (k : Int) ≤ (s.size : Int) := by omega
    have HT2 := Lib.hid (Utf8Tabs_below HT.out hb)
    obtain ⟨X, hX⟩ : ∃ X, s.extract k s.size = X := ⟨_, rfl⟩
    have hXL : X.data.toList = s.data.toList.drop k := by
      rw [← hX]
      have := extract_list s k (s.size - k)
      rw [show k + (s.size - k) = s.size by omega] at this
      rw [this, List.take_of_length_le (by rw [List.length_drop, HSL.out]; omega)]
    have HXL := Lib.hid hXL
    clear hb hall hvk hXL
    by_cases hlt : k < s.size
    · have hne : s.data.toList.drop k ≠ [] := by rw [Ne, List.drop_eq_nil_iff, HSL.out]; omega
      have hw1 := wd_pos (s.data.toList.drop k)
      have hw2 := wd_le (s.data.toList.drop k) hne
      rw [List.length_drop, HSL.out] at hw2
      have hdg : Lib.decodeGo X = Lib.decodeL (s.data.toList.drop k) := by
        unfold Lib.decodeGo
        rw [if_neg (by rw [← hX, Lib.ext_size]; omega)]
        unfold Lib.decodeL
        rw [← HXL.out]
      have hok := valid_ok HVK.out hne
      obtain ⟨r, hr⟩ : ∃ r, (Lib.decodeL (s.data.toList.drop k)).1 = r := ⟨_, rfl⟩
      obtain ⟨n, hn⟩ : ∃ n, wd (s.data.toList.drop k) = n := ⟨_, rfl⟩
      have hrn : ¬ (r = 65533 ∧ n = 1) := by rw [← hr, ← hn]; exact hok.2
      have HDG := Lib.hid (show Lib.decodeGo X = (r, n) by rw [hdg, ← hr, ← hn]; rfl)
      have HRA := Lib.hid (rune_atom HVK.out hne)
      rw [hr, hn] at HRA
      rw [hn] at hw1 hw2
      have HN := Lib.hid hn
      clear hdg hok hr hn hne
      go_wp2_with fail
      refine (Tryz.utf8_DecodeRuneInString X _ HT2.out).mono ?_
      rintro x w2 ⟨rfl, hb2⟩
      rw [HDG.out]
      have HB2 := Lib.hid (HB.out.trans (hb2.mono HB.out.size))
      clear hb2 HT2
      have z3 : ((n : Int) == 0) = false := by rw [beq_eq_false_iff_ne]; omega
      have z12 : (((n : Int) == 1) = true ∧ ((r : Int) == 65533) = false) ∨ ((n : Int) == 1) = false := by
        by_cases h1 : n = 1
        · left
          refine ⟨by rw [beq_iff_eq]; omega, ?_⟩
          rw [beq_eq_false_iff_ne]
          intro e
          exact hrn ⟨by omega, h1⟩
        · right
          rw [beq_eq_false_iff_ne]; omega
      clear hrn
      cases hat : atextD r with
      | true =>
        have HAT := Lib.hid hat
        have hst : (s.data.toList.take (k + n)).all atomD = true := by
          rw [List.take_add, List.all_append, HALL.out, Bool.true_and]
          rcases HRA.out with h | h
          · exact h.2
          · exact absurd h.1 (by rw [hat]; decide)
        have hvn : Lib.validD (s.data.toList.drop (k + n)) = true := by
          rw [← List.drop_drop, ← HN.out]
          exact valid_drop HVK.out (fun e => by have := HN.out; rw [e] at this; have h9 := congrArg List.length e; rw [List.length_drop, HSL.out, List.length_nil] at h9; omega)
        have HST := Lib.hid hst; have HVN := Lib.hid hvn
        clear hat hst hvn
        rcases z12 with ⟨z1, z2⟩ | z1
        all_goals
          go_wp2_with fail
          refine (isAtext_dot r _).mono ?_
          rintro x w3 ⟨rfl, rfl⟩
          rw [HAT.out]
          go_wp2
          go_roundw
          case rel => exact ⟨rfl, rfl, HB2.out, k + n, by go_num, by omega, HST.out, HVN.out⟩
          case measure => simp [intOf]; omega
      | false =>
        have HAT := Lib.hid hat
        have htw : s.data.toList.takeWhile atomD = s.data.toList.take k ∧ s.data.toList.dropWhile atomD = s.data.toList.drop k := by
          have e2 := List.take_append_drop k s.data.toList
          rcases HRA.out with h | ⟨_, c, t, hct, hc⟩
          · exact absurd h.1 (by rw [hat]; decide)
          · have h1 := while_app4 (p := atomD) (a := s.data.toList.take k) (l := s.data.toList.drop k) (fun d hd => List.all_eq_true.1 HALL.out d hd)
            rw [e2, hct, List.takeWhile_cons_of_neg (by rw [hc]; simp), List.dropWhile_cons_of_neg (by rw [hc]; simp), List.append_nil] at h1
            rw [hct]; exact h1
        have HTW := Lib.hid htw
        clear hat htw
        rcases z12 with ⟨z1, z2⟩ | z1
        · go_wp2_with fail
          refine (isAtext_dot r _).mono ?_
          rintro x w3 ⟨rfl, rfl⟩
          rw [HAT.out]
          have z9 : ((k : Int) == 0) = false := by
            rw [beq_eq_false_iff_ne]
            intro e
            apply HA.out
            rw [HTW.out.1]
            have : k = 0 := by omega
            rw [this]; rfl
          have HP2 := Lib.hid (HP.out.below HB2.out)
          obtain ⟨d0, d1, g0, hltd⟩ := HP2.out.cells
          clear HPR c0 c1 f0 hlt0
          go_upto_region 9 with fail
          go_still_tail 14, (by kernel_rfl)
          change wpList _ _ _ _ _ w3.drew
          have HP3 := Lib.hid (show PS pb dv s w3.drew from HP2.out)
          have HB3 := Lib.hid (show Below w.heap.size w w3.drew from below_drewN HB2.out 1)
          have d0' : w3.drew.cell? ⟨pb, 0, none⟩ = some (.string s) := d0
          have d1' : w3.drew.cell? ⟨pb, 1, none⟩ = some dv := d1
          have g0' : w3.drew.frozen? ⟨pb, 0, none⟩ = false := g0
          clear d0 d1 g0 hltd HP2 HB2
          generalize w3.drew = w4 at HP3 HB3 d0' d1' g0' ⊢
          go_wp2
          rw [Exit.noGoto_ret]
          go_ret2
          have he1 : s.extract 0 k = bs (s.data.toList.takeWhile atomD) := by
            rw [HTW.out.1, ← bs_of (s.extract 0 k)]
            congr 1
            have := extract_list s 0 k
            rw [Nat.zero_add, List.drop_zero] at this
            exact this
          have he2 : X = bs (s.data.toList.dropWhile atomD) := by
            rw [HTW.out.2, ← HXL.out, bs_of]
          exact ⟨by rw [← he1]; rfl, by rw [← he2]; exact HP3.out.put _, ((Fr.of_below HB3.out).mono (fun q hq => hq.2)).setCell (p := ⟨pb, 0, none⟩) (fun e => e.1 rfl) _⟩
        · go_wp2_with fail
          refine (isAtext_dot r _).mono ?_
          rintro x w3 ⟨rfl, rfl⟩
          rw [HAT.out]
          have z9 : ((k : Int) == 0) = false := by
            rw [beq_eq_false_iff_ne]
            intro e
            apply HA.out
            rw [HTW.out.1]
            have : k = 0 := by omega
            rw [this]; rfl
          have HP2 := Lib.hid (HP.out.below HB2.out)
          obtain ⟨d0, d1, g0, hltd⟩ := HP2.out.cells
          clear HPR c0 c1 f0 hlt0
          go_upto_region 9 with fail
          go_still_tail 14, (by kernel_rfl)
          change wpList _ _ _ _ _ w3.drew
          have HP3 := Lib.hid (show PS pb dv s w3.drew from HP2.out)
          have HB3 := Lib.hid (show Below w.heap.size w w3.drew from below_drewN HB2.out 1)
          have d0' : w3.drew.cell? ⟨pb, 0, none⟩ = some (.string s) := d0
          have d1' : w3.drew.cell? ⟨pb, 1, none⟩ = some dv := d1
          have g0' : w3.drew.frozen? ⟨pb, 0, none⟩ = false := g0
          clear d0 d1 g0 hltd HP2 HB2
          generalize w3.drew = w4 at HP3 HB3 d0' d1' g0' ⊢
          go_wp2
          rw [Exit.noGoto_ret]
          go_ret2
          have he1 : s.extract 0 k = bs (s.data.toList.takeWhile atomD) := by
            rw [HTW.out.1, ← bs_of (s.extract 0 k)]
            congr 1
            have := extract_list s 0 k
            rw [Nat.zero_add, List.drop_zero] at this
            exact this
          have he2 : X = bs (s.data.toList.dropWhile atomD) := by
            rw [HTW.out.2, ← HXL.out, bs_of]
          exact ⟨by rw [← he1]; rfl, by rw [← he2]; exact HP3.out.put _, ((Fr.of_below HB3.out).mono (fun q hq => hq.2)).setCell (p := ⟨pb, 0, none⟩) (fun e => e.1 rfl) _⟩
    · have hks : k = s.size := by omega
      have HKS := Lib.hid hks
      have hx0 : X.size = 0 := by rw [← hX, Lib.ext_size]; omega
      have HDG := Lib.hid (show Lib.decodeGo X = (65533, 0) by unfold Lib.decodeGo; rw [if_pos hx0])
      have htw : s.data.toList.takeWhile atomD = s.data.toList.take k ∧ s.data.toList.dropWhile atomD = s.data.toList.drop k := by
        have h1 : s.data.toList.take k = s.data.toList := List.take_of_length_le (by rw [HSL.out]; omega)
        have h2 : s.data.toList.drop k = [] := List.drop_of_length_le (by rw [HSL.out]; omega)
        have h3 := while_app4 (p := atomD) (a := s.data.toList) (l := []) (fun d hd => by have := HALL.out; rw [h1] at this; exact List.all_eq_true.1 this d hd)
        rw [h1, h2]
        simpa using h3
      have HTW := Lib.hid htw
      clear hks hx0 htw
      go_wp2_with fail
      refine (Tryz.utf8_DecodeRuneInString X _ HT2.out).mono ?_
      rintro x w3 ⟨rfl, hb2⟩
      rw [HDG.out]
      have HB2 := Lib.hid (HB.out.trans (hb2.mono HB.out.size))
      clear hb2 HT2
      have z9 : ((k : Int) == 0) = false := by
        rw [beq_eq_false_iff_ne]
        intro e
        apply HA.out
        rw [HTW.out.1]
        have : k = 0 := by omega
        rw [this]; rfl
      have HP2 := Lib.hid (HP.out.below HB2.out)
      obtain ⟨d0, d1, g0, hltd⟩ := HP2.out.cells
      clear HPR c0 c1 f0 hlt0
      go_upto_region 9 with fail
      go_still_tail 14, (by kernel_rfl)
      change wpList _ _ _ _ _ w3.drew
      have HP3 := Lib.hid (show PS pb dv s w3.drew from HP2.out)
      have HB3 := Lib.hid (show Below w.heap.size w w3.drew from below_drewN HB2.out 1)
      have d0' : w3.drew.cell? ⟨pb, 0, none⟩ = some (.string s) := d0
      have d1' : w3.drew.cell? ⟨pb, 1, none⟩ = some dv := d1
      have g0' : w3.drew.frozen? ⟨pb, 0, none⟩ = false := g0
      clear d0 d1 g0 hltd HP2 HB2
      generalize w3.drew = w4 at HP3 HB3 d0' d1' g0' ⊢
      go_wp2
      rw [Exit.noGoto_ret]
      go_ret2
      have he1 : s.extract 0 k = bs (s.data.toList.takeWhile atomD) := by
        rw [HTW.out.1, ← bs_of (s.extract 0 k)]
        congr 1
        have := extract_list s 0 k
        rw [Nat.zero_add, List.drop_zero] at this
        exact this
      have he2 : X = bs (s.data.toList.dropWhile atomD) := by
        rw [HTW.out.2, ← HXL.out, bs_of]
      exact ⟨by rw [← he1]; rfl, by rw [← he2]; exact HP3.out.put _, ((Fr.of_below HB3.out).mono (fun q hq => hq.2)).setCell (p := ⟨pb, 0, none⟩) (fun e => e.1 rfl) _⟩
end Go.Proofs.YtpoglombagmhmaaGreatDoor
/- netmail.consumeQuotedString, on a quoted string that the reference reads: the walk. -/
namespace Go.Proofs.YtpoglombagmhmaaGreatDoor
open Go Go.RowKit

theorem infoRune : (Tryz.prog.info? 21).map (fun i => (i.zero, i.size, i.bytes)) = some (some (.int .i32 0), 1, 4) := by kernel_rfl
/-- A row of runes. -/
def OwnR (B : Nat) (ns : List Int) (v : Value) (w : World) : Prop := w.ownsRow B 21 1 v ns.length (ns.map (Value.int .i32))
theorem wpList_push_rune {ops : Array Oper} {rest : List Oper} {o : Oper} {a : Act} {Q : Exit → Act → World → Prop} (hgd : o.guard = none) (s x : Operand)
    (ho : o.op = .call { callee := .builtin .append, args := #[s, x], argTypes := #[117, 117] })
    (B : Nat) (ns : List Int) (v : Value) (r : Int) (wr : World) (hown : OwnR B ns v wr) (hB : B ≤ wr.heap.size) (hlen : ns.length + 1 ≤ 1099511627776) (hs : a.eval s = v) (hx : a.eval x = .slice (some ⟨wr.heap.size, 0, none⟩) 1 1)
    (h : ∀ v' w', OwnR B (ns ++ [r]) v' w' → (wr.alloc (.cells #[.int .i32 r] 21)).grownBy w' v.ownBlock → (v'.ownBlock = v.ownBlock ∨ v'.ownBlock = some (wr.heap.size + 1)) → wpList Tryz.prog ops Q rest (a.put o.dst v') w') : wpList Tryz.prog ops Q (o :: rest) a (wr.alloc (.cells #[.int .i32 r] 21)) := by
  obtain ⟨i0, hi, hz0, hz1, hz2⟩ := info_parts3 infoRune
  refine wpList_append_own_at _ hgd s x 117 ho B 21 i0 (.int .i32 0) 1 4 Tryz.underlying117 hi hz0 hz1 hz2 rfl (by decide) v ns.length (ns.map (Value.int .i32)) hs (World.ownsRow.alloc hown _) ⟨wr.heap.size, 0, none⟩ 1 1 [.int .i32 r] hx rfl (cell_one_new _ _ _) (fun u hu => by simp at hu; subst hu; rfl) (by unfold maxLen; omega) (by omega) (by simp; omega) (fun v' w' h1 h2 _ h4 => h v' w' ?_ h2 (h4.imp id (fun e => by rw [e]; simp)))
  unfold OwnR
  rw [List.length_append, List.map_append]
  exact h1

theorem OwnR.form {B : Nat} {ns : List Int} {v : Value} {w : World} (h : OwnR B ns v w) : ∃ q n c, v = .slice q n c := by
  rcases h.2 with ⟨hv, _⟩ | ⟨g, cap, cur, hv, _⟩
  · exact ⟨_, _, _, hv⟩
  · exact ⟨_, _, _, hv⟩
theorem OwnR.below {B : Nat} {ns : List Int} {v : Value} {w w' : World} (h : OwnR B ns v w) (hb : Below w.heap.size w w') : OwnR B ns v w' := own_fr h (fun k _ hk => hb.block k hk)
theorem OwnR.block {B : Nat} {ns : List Int} {v : Value} {w : World} (h : OwnR B ns v w) : ∀ k, v.ownBlock = some k → B ≤ k ∧ k < w.heap.size := h.lt
theorem conv_runes {B : Nat} {ns : List Int} {v : Value} {w : World} (h : OwnR B ns v w) : (convert 117 9 v).run Tryz.prog w = .ok (.string (runesBytes ns)) w := by
  have h2 := h.2
  rcases h2 with ⟨rfl, h0⟩ | ⟨g, cap, cur, rfl, _⟩
  · have : ns = [] := List.eq_nil_of_length_eq_zero h0
    subst this
    exact run_convert_runes_nil (P := Tryz.prog) w 117 9 21 0 0 Tryz.underlying117 Tryz.underlying21 Tryz.underlying9
  · have hr := run_convert_runes (P := Tryz.prog) w 117 9 21 ⟨g, 0, none⟩ ns.length cap ns (Nat.le_refl _) Tryz.underlying117 Tryz.underlying21 Tryz.underlying9 (fun j hj => h.cells (g := g) rfl j _ (by rw [List.getElem?_map, List.getElem?_eq_getElem hj, List.getD_eq_getElem?_getD, List.getElem?_eq_getElem hj]; rfl))
    rw [List.take_length] at hr
    exact hr
/-- A sign that is no control sign. -/
theorem noctl {c : UInt8} (h : ctlB c = false) (h2 : c.toNat < 128) : (32 ≤ c.toNat ∧ c.toNat ≤ 126) ∨ c.toNat = 9 := by
  unfold ctlB at h
  have := of_decide_eq_false h
  omega
/-- Where the parser stands inside a quoted string. -/
def QSt (T x : List UInt8) (n m : Nat) (xs : List UInt8) (esc : Bool) : Prop :=
  m ≤ T.length ∧ Lib.validD (T.drop m) = true ∧
    (esc = true → ∃ d t x' n', T.drop m = d :: t ∧ quotedL t = some (x', n') ∧ x = xs ++ d :: x' ∧ n = m + 1 + n') ∧
    (esc = false → ∃ x' n', quotedL (T.drop m) = some (x', n') ∧ x = xs ++ x' ∧ n = m + n')
theorem qst_ne {T x : List UInt8} {n m : Nat} {xs : List UInt8} {esc : Bool} (h : QSt T x n m xs esc) : T.drop m ≠ [] := by
  obtain ⟨_, _, h1, h2⟩ := h
  intro e
  cases esc with
  | true =>
    obtain ⟨d, t, x', n', h3, _⟩ := h1 rfl
    rw [e] at h3; cases h3
  | false =>
    obtain ⟨x', n', h3, _⟩ := h2 rfl
    rw [e, quotedL] at h3; cases h3
theorem qst_take {T x : List UInt8} {n m : Nat} {xs : List UInt8} {esc : Bool} (h : QSt T x n m xs esc) (hc : ∀ c t, T.drop m = c :: t → esc = false → c ≠ 34 ∧ c ≠ 92) : QSt T x n (m + wd (T.drop m)) (xs ++ (T.drop m).take (wd (T.drop m))) false := by
  have hne := qst_ne h
  obtain ⟨hm, hv, h1, h2⟩ := h
  have hok := valid_ok hv hne
  have hw := wd_le _ hne
  have hw1 := wd_pos (T.drop m)
  rw [List.length_drop] at hw
  refine ⟨by omega, by rw [← List.drop_drop]; exact valid_drop hv hne, fun e => absurd e (by decide), fun _ => ?_⟩
  cases hd : T.drop m with
  | nil => exact absurd hd hne
  | cons c t =>
    rw [hd] at hok hw1 hne hv
    have hall : ∀ d ∈ (c :: t).take (wd (c :: t)), c.toNat < 128 ∨ (d ≠ 34 ∧ d ≠ 92) := by
      intro d hdm
      by_cases ha : c.toNat < 128
      · exact .inl ha
      · right
        have := rune_high hok (by simp; omega) d hdm
        exact ⟨fun e => by rw [e] at this; exact absurd this (by decide), fun e => by rw [e] at this; exact absurd this (by decide)⟩
    have hsp : (c :: t).take (wd (c :: t)) ++ (c :: t).drop (wd (c :: t)) = c :: t := List.take_append_drop _ _
    have hdd : T.drop (m + wd (c :: t)) = (c :: t).drop (wd (c :: t)) := by rw [← List.drop_drop, hd]
    have hlt : ((c :: t).take (wd (c :: t))).length = wd (c :: t) := by
      rw [List.length_take]
      have h5 := congrArg List.length hd
      rw [List.length_drop] at h5
      rw [hd] at hw
      omega
    cases esc with
    | false =>
      obtain ⟨x', n', h3, h4, h5⟩ := h2 rfl
      have hq := quotedL_high ((c :: t).take (wd (c :: t))) ((c :: t).drop (wd (c :: t))) (fun d hdm => by
        rcases hall d hdm with ha | h
        · rw [wd_ascii ha] at hdm
          have : d = c := by simpa using hdm
          rw [this]; exact hc c t hd rfl
        · exact h)
      rw [hsp, ← hd, h3] at hq
      cases hq2 : quotedL ((c :: t).drop (wd (c :: t))) with
      | none => rw [hd, hq2] at hq; cases hq
      | some q =>
        rw [hd, hq2] at hq
        simp only [Option.map_some, Option.some.injEq, Prod.mk.injEq] at hq
        exact ⟨q.1, q.2, by rw [hdd]; exact hq2, by rw [h4, hq.1, List.append_assoc], by rw [h5, hq.2, hlt]; omega⟩
    | true =>
      obtain ⟨d0, t0, x', n', h3, h3', h4, h5⟩ := h1 rfl
      rw [hd] at h3
      cases h3
      obtain ⟨k, hk⟩ : ∃ k, wd (c :: t) = k + 1 := ⟨wd (c :: t) - 1, by omega⟩
      rw [hk] at hall hlt hdd ⊢
      rw [List.take_succ_cons] at hall hlt ⊢
      rw [List.drop_succ_cons] at hdd
      have hq := quotedL_high (t.take k) (t.drop k) (fun d hdm => by
        rcases hall d (by simp [hdm]) with ha | h
        · rw [wd_ascii ha] at hk
          have : k = 0 := by omega
          rw [this] at hdm; simp at hdm
        · exact h)
      rw [List.take_append_drop, h3'] at hq
      cases hq2 : quotedL (t.drop k) with
      | none => rw [hq2] at hq; cases hq
      | some q =>
        rw [hq2] at hq
        simp only [Option.map_some, Option.some.injEq, Prod.mk.injEq] at hq
        simp only [List.length_cons] at hlt
        exact ⟨q.1, q.2, by rw [hdd]; exact hq2, by rw [h4, hq.1]; simp, by rw [h5, hq.2]; omega⟩
theorem qst_slash {T x : List UInt8} {n m : Nat} {xs t : List UInt8} (h : QSt T x n m xs false) (hd : T.drop m = 92 :: t) : QSt T x n (m + 1) xs true := by
  obtain ⟨hm, hv, _, h2⟩ := h
  obtain ⟨x', n', h3, h4, h5⟩ := h2 rfl
  have hl := congrArg List.length hd
  rw [List.length_drop, List.length_cons] at hl
  have hd1 : T.drop (m + 1) = t := by rw [← List.drop_drop, hd]; rfl
  rw [hd] at h3 hv
  cases t with
  | nil => rw [quotedL, if_neg (by decide)] at h3; cases h3
  | cons d u =>
    rw [quotedL, if_neg (by decide), if_pos rfl] at h3
    obtain ⟨q, hq, he⟩ := Option.map_eq_some_iff.1 h3
    cases he
    refine ⟨by simp at hl; omega, ?_, fun _ => ⟨d, u, q.1, q.2, hd1, hq, h4, by omega⟩, fun e => absurd e (by decide)⟩
    rw [hd1]
    rw [Lib.validD_cons 92 _ (by decide)] at hv
    exact hv
theorem qst_end {T x : List UInt8} {n m : Nat} {xs t : List UInt8} (h : QSt T x n m xs false) (hd : T.drop m = 34 :: t) : x = xs ∧ n = m + 1 := by
  obtain ⟨_, _, _, h2⟩ := h
  obtain ⟨x', n', h3, h4, h5⟩ := h2 rfl
  rw [hd] at h3
  have : quotedL (34 :: t) = some ([], 1) := by cases t <;> rw [quotedL, if_pos rfl]
  rw [this] at h3
  cases h3
  exact ⟨by rw [h4]; simp, h5⟩

set_option maxHeartbeats 4000000 in
set_option maxRecDepth 100000 in
theorem cquoted_yes (pb : Nat) (dv : Value) (s : ByteArray) (T x : List UInt8) (n : Nat) (w : World) (h : PS pb dv s w) (hs : s.size ≤ 1099511627000) (hv : Lib.validD s.data.toList = true) (hT : Lib.Utf8Tabs 0 1 w)
    (hsT : s.data.toList = 34 :: T) (hq : quotedL T = some (x, n)) (hct : ∀ c ∈ T, ctlB c = false) :
    Calls Tryz.prog 54 #[.pointer (some ⟨pb, 0, none⟩)] w fun r w' => r = .returned (.tuple #[.string (bs x), .nilIface]) ∧ PS pb dv (bs (T.drop n)) w' ∧ Fr (fun k => k ≠ pb ∧ k < w.heap.size) w w' := by
  have HP := Lib.hid h; have HT := Lib.hid hT; have HST := Lib.hid hsT; have HCT := Lib.hid hct
  have hq0 : QSt T x n 0 [] false := ⟨Nat.zero_le _, by rw [hsT, Lib.validD_cons 34 _ (by decide)] at hv; exact hv, fun e => absurd e (by decide), fun _ => ⟨x, n, hq, rfl, by omega⟩⟩
  have HQ0 := Lib.hid hq0
  have hsl : T.length + 1 = s.size := by
    have := congrArg List.length hsT
    rw [List.length_cons, Array.length_toList] at this
    exact this.symm
  have HSL := Lib.hid hsl
  clear h hv hT hsT hq hct hq0 hsl
  obtain ⟨i0, hi0, hz0, hz1, hz2⟩ := info_parts3 infoRune
  obtain ⟨w1, hmk, hown1, hgr1⟩ := run_make_own (P := Tryz.prog) w w.heap.size 117 21 i0 _ 1 Tryz.underlying117 hi0 hz0 hz1 .i64 .i64 10 (by rw [hz2]; omega) (by decide) (Nat.le_refl _)
  have hmk' : (Instr.makeSlice 117 (.int .i64 0) (.int .i64 10)).run Tryz.prog w = .ok (.slice (some ⟨w.heap.size, 0, none⟩) 0 10) w1 := hmk
  have HOW1 := Lib.hid hown1
  have HB1 := Lib.hid (show Below w.heap.size w w1 from (Below.refl _ w).grown hgr1 (Nat.le_refl _) (fun k hk => by cases hk))
  clear hmk hown1 hgr1 hi0 hz0 hz1 hz2
  go_enter Tryz.func54, Tryz.ntmps54
  go_wp2
  go_step3
  go_wp2
  go_step3
  go_wp2
  clear hmk'
  go_loopw [2, 3, 4, 5, 6] (fun r2 r3 i q e wr => r2 = .string ⟨#[]⟩ ∧ r3 = .nilIface ∧ ∃ (m : Nat) (xs : List UInt8) (ns : List Int) (esc : Bool) (qa : Option Addr) (qn qc : Nat), q = .slice qa qn qc ∧ i = .int .i64 ((m : Int) + 1) ∧ e = .bool esc ∧ QSt T x n m xs esc ∧ (runesBytes ns).data.toList = xs ∧ ns.length ≤ m ∧ OwnR w.heap.size ns q wr ∧ Below w.heap.size w wr) (fun _ _ i _ _ _ => s.size + 1 - (intOf i).toNat)
  case atStart => exact ⟨rfl, rfl, 0, [], [], false, _, _, _, rfl, rfl, rfl, HQ0.out, rfl, Nat.le_refl _, HOW1.out, HB1.out⟩
  case round =>
    obtain ⟨rfl, rfl, m, xs, ns, esc, qa, qn, qc, rfl, rfl, rfl, hq, hxs, hns, hown, hb⟩ := hrel
    have hne := qst_ne hq
    have hm := hq.1
    have hv := hq.2.1
    have HB := Lib.hid hb; have HR := Lib.hid hown; have HX := Lib.hid hxs; have HQ := Lib.hid hq
    have HPR := Lib.hid (HP.out.below hb)
    obtain ⟨c0, c1, f0, hlt0⟩ := HPR.out.cells
    have hsl := HSL.out
    have z0 : (m : Int) + 1 ≤ (s.size : Int) := by omega
    have HT2 := Lib.hid (Utf8Tabs_below HT.out hb)
    obtain ⟨X, hX⟩ : ∃ X, s.extract (m + 1) s.size = X := ⟨_, rfl⟩
    have hdm : s.data.toList.drop (m + 1) = T.drop m := by rw [HST.out]; rfl
    have hXL : X.data.toList = T.drop m := by
      rw [← hX]
      have := extract_list s (m + 1) (s.size - (m + 1))
      rw [show m + 1 + (s.size - (m + 1)) = s.size by omega] at this
      rw [this, hdm, List.take_of_length_le (by rw [List.length_drop]; omega)]
    have hw1 := wd_pos (T.drop m)
    have hw2 := wd_le (T.drop m) hne
    rw [List.length_drop] at hw2
    have hlt : m < T.length := by omega
    have hdg : Lib.decodeGo X = Lib.decodeL (T.drop m) := by
      unfold Lib.decodeGo
      rw [if_neg (by rw [← hX, Lib.ext_size]; omega)]
      unfold Lib.decodeL
      rw [← hXL]
    have hok := valid_ok hv hne
    obtain ⟨c, t, hct⟩ : ∃ c t, T.drop m = c :: t := by
      cases h : T.drop m with
      | nil => exact absurd h hne
      | cons c t => exact ⟨c, t, rfl⟩
    have hcT : ctlB c = false := HCT.out c (List.mem_of_mem_drop (i := m) (by rw [hct]; simp))
    have henc := encode_decode hok
    obtain ⟨r, hr⟩ : ∃ r, (Lib.decodeL (T.drop m)).1 = r := ⟨_, rfl⟩
    obtain ⟨z, hz⟩ : ∃ z, wd (T.drop m) = z := ⟨_, rfl⟩
    have hrn : ¬ (r = 65533 ∧ z = 1) := by rw [← hr, ← hz]; exact hok.2
    have HDG := Lib.hid (show Lib.decodeGo X = (r, z) by rw [hdg, ← hr, ← hz]; rfl)
    rw [hr, hz] at henc
    rw [hz] at hw1 hw2
    have hcase : (128 ≤ c.toNat ∧ 128 ≤ r) ∨ (c.toNat < 128 ∧ r = c.toNat ∧ z = 1) := by
      by_cases ha : c.toNat < 128
      · right
        rw [hct] at hr hz
        rw [Lib.decodeL_ascii c t ha] at hr
        rw [wd_ascii ha] at hz
        exact ⟨ha, hr.symm, hz.symm⟩
      · left
        refine ⟨by omega, ?_⟩
        rw [← hr, hct]
        exact (decode_high ⟨(c :: t).toArray⟩ 0 (by simp [ByteArray.size]) (by show 128 ≤ c.toNat; omega)).1
    have htake := fun hh => qst_take (x := x) (n := n) (xs := xs) (esc := esc) hq hh
    rw [hz] at htake
    have HXS := Lib.hid (show (runesBytes (ns ++ [(r : Int)])).data.toList = xs ++ (T.drop m).take z by rw [runesBytes_snoc, hxs, henc])
    have HTK := Lib.hid htake; have HCS := Lib.hid hcase; have HCT0 := Lib.hid hct; have HCC := Lib.hid hcT
    have z3 : ((z : Int) == 0) = false := by rw [beq_eq_false_iff_ne]; omega
    have z12 : (((z : Int) == 1) = true ∧ ((r : Int) == 65533) = false) ∨ ((z : Int) == 1) = false := by
      by_cases h1 : z = 1
      · left
        refine ⟨by rw [beq_iff_eq]; omega, ?_⟩
        rw [beq_eq_false_iff_ne]
        intro e
        exact hrn ⟨by omega, h1⟩
      · right
        rw [beq_eq_false_iff_ne]; omega
    clear hq hxs hown hb hne hv hdm hXL hdg hok henc hr hz hrn hcase htake hct hcT
    cases esc with
    | true =>
      have HNX := Lib.hid (HTK.out (fun _ _ _ e => absurd e (by decide)))
      have hvw : vcharR r = true ∨ (vcharR r = false ∧ wspR r = true) := by
        rcases HCS.out with ⟨_, h⟩ | ⟨h1, h2, _⟩
        · left; unfold vcharR; rw [decide_eq_true h, Bool.or_true]
        · rcases noctl HCC.out h1 with h | h
          · by_cases h32 : c.toNat = 32
            · right; rw [h2, h32]; decide
            · left; unfold vcharR; rw [decide_eq_true (show 33 ≤ r ∧ r ≤ 126 by omega)]; rfl
          · right; rw [h2, h]; decide
      clear HTK HCS
      rcases z12 with ⟨z1, z2⟩ | z1
      all_goals
        rcases hvw with hv1 | ⟨hv1, hv2⟩
        · go_wp2_with fail
          refine (Tryz.utf8_DecodeRuneInString X _ HT2.out).mono ?_
          rintro y w2 ⟨rfl, hb2⟩
          rw [HDG.out]
          have HB2 := Lib.hid (HB.out.trans (hb2.mono HB.out.size))
          have HR2 := Lib.hid (HR.out.below hb2)
          clear hb2 HT2
          go_wp2_with fail
          refine (isVchar_any r _).mono ?_
          rintro y w4 ⟨rfl, rfl⟩
          rw [hv1]
          go_wp2_with (at_builtin; refine wpList_push_rune rfl _ _ rfl w.heap.size ns _ (r : Int) _ HR2.out HB2.out.size ?c4 rfl rfl ?_)
          case c4 => omega
          intro v' w3 hown3 hg3 hat3
          have hB3 : Below w.heap.size w w3 := (HB2.out.alloc HB2.out.size _).grown hg3 (by rw [World.size_alloc]; have := HB2.out.size; omega) (fun k hk => (HR2.out.lt k hk).1)
          obtain ⟨va, vn, vc, rfl⟩ := hown3.form
          have HO3 := Lib.hid hown3; have HB3 := Lib.hid hB3
          clear hown3 hg3 hat3 hB3
          go_wp2
          go_roundw
          case rel => exact ⟨rfl, rfl, m + z, _, ns ++ [(r : Int)], false, va, vn, vc, rfl, by go_num, rfl, HNX.out, HXS.out, by rw [List.length_append]; simp; omega, HO3.out, HB3.out⟩
          case measure => simp [intOf]; omega
        · go_wp2_with fail
          refine (Tryz.utf8_DecodeRuneInString X _ HT2.out).mono ?_
          rintro y w2 ⟨rfl, hb2⟩
          rw [HDG.out]
          have HB2 := Lib.hid (HB.out.trans (hb2.mono HB.out.size))
          have HR2 := Lib.hid (HR.out.below hb2)
          clear hb2 HT2
          go_wp2_with fail
          refine (isVchar_any r _).mono ?_
          rintro y w4 ⟨rfl, rfl⟩
          rw [hv1]
          go_wp2_with fail
          refine (isWSP_any r _).mono ?_
          rintro y w4 ⟨rfl, rfl⟩
          rw [hv2]
          go_wp2_with (at_builtin; refine wpList_push_rune rfl _ _ rfl w.heap.size ns _ (r : Int) _ HR2.out HB2.out.size ?c4 rfl rfl ?_)
          case c4 => omega
          intro v' w3 hown3 hg3 hat3
          have hB3 : Below w.heap.size w w3 := (HB2.out.alloc HB2.out.size _).grown hg3 (by rw [World.size_alloc]; have := HB2.out.size; omega) (fun k hk => (HR2.out.lt k hk).1)
          obtain ⟨va, vn, vc, rfl⟩ := hown3.form
          have HO3 := Lib.hid hown3; have HB3 := Lib.hid hB3
          clear hown3 hg3 hat3 hB3
          go_wp2
          go_roundw
          case rel => exact ⟨rfl, rfl, m + z, _, ns ++ [(r : Int)], false, va, vn, vc, rfl, by go_num, rfl, HNX.out, HXS.out, by rw [List.length_append]; simp; omega, HO3.out, HB3.out⟩
          case measure => simp [intOf]; omega
    | false =>
      by_cases h34 : c = 34
      · have hr34 : r = 34 ∧ z = 1 := by
          rcases HCS.out with ⟨h, _⟩ | ⟨_, h2, h3⟩
          · rw [h34] at h; exact absurd h (by decide)
          · rw [h34] at h2; exact ⟨h2, h3⟩
        have HR34 := Lib.hid hr34
        have t34 : ((r : Int) == 34) = true := by rw [hr34.1]; rfl
        have HEND := Lib.hid (qst_end HQ.out (by rw [HCT0.out, h34]))
        have hq1 : qtextR r = false := by rw [hr34.1]; decide
        have hq2 : wspR r = false := by rw [hr34.1]; decide
        clear HTK HCS h34 hr34
        rcases z12 with ⟨z1, z2⟩ | z1
        · go_wp2_with fail
          refine (Tryz.utf8_DecodeRuneInString X _ HT2.out).mono ?_
          rintro y w2 ⟨rfl, hb2⟩
          rw [HDG.out]
          have HB2 := Lib.hid (HB.out.trans (hb2.mono HB.out.size))
          have HR2 := Lib.hid (HR.out.below hb2)
          clear hb2 HT2
          go_wp2_with fail
          refine (isQtext_any r _).mono ?_
          rintro y w4 ⟨rfl, rfl⟩
          rw [hq1]
          go_wp2_with fail
          refine (isWSP_any r _).mono ?_
          rintro y w4 ⟨rfl, rfl⟩
          rw [hq2]
          have HP2 := Lib.hid (HP.out.below HB2.out)
          obtain ⟨d0, d1, g0, hltd⟩ := HP2.out.cells
          have hpbw := HP.out.cells.2.2.2
          clear HPR c0 c1 f0 hlt0
          obtain ⟨Y, hY⟩ : ∃ Y, s.extract (m + 1 + 1) s.size = Y := ⟨_, rfl⟩
          have i2 : (m : Int) + 1 + 1 ≤ (s.size : Int) := by omega
          have HYL := Lib.hid (show Y = bs (T.drop n) by
            rw [← bs_of Y, ← hY]
            congr 1
            have := extract_list s (m + 1 + 1) (s.size - (m + 1 + 1))
            rw [show m + 1 + 1 + (s.size - (m + 1 + 1)) = s.size by omega] at this
            rw [this, HST.out, HEND.out.2, List.take_of_length_le (by rw [List.length_drop, List.length_cons]; omega)]
            rfl)
          have HR3 := Lib.hid (show OwnR w.heap.size ns (.slice qa qn qc) (w4.setCell ⟨pb, 0, none⟩ (.string Y)) from own_fr HR2.out (fun k e _ => Below.heap_setCell _ ⟨pb, 0, none⟩ _ k (fun e2 => by have := (HR2.out.block k e).1; simp at e2; omega)))
          have hconv := conv_runes HR3.out
          have HP3 := Lib.hid (HP2.out.put Y)
          have HF3 := Lib.hid ((((Fr.of_below HB2.out).mono (fun q hq => hq.2)).setCell (p := ⟨pb, 0, none⟩) (fun e => e.1 rfl) (.string Y)) : Fr (fun k => k ≠ pb ∧ k < w.heap.size) w _)
          have hsz : (runesBytes ns).size ≤ 9223372036854775807 := by
            have := runesBytes_size_le ns
            omega
          go_wp2
          rw [Exit.noGoto_ret]
          go_ret2
          exact ⟨by rw [HEND.out.1, ← HX.out, bs_of]; rfl, by rw [← HYL.out]; exact HP3.out, HF3.out⟩
        · exact absurd z1 (by rw [HR34.out.2]; decide)
      · by_cases h92 : c = 92
        · have hr92 : r = 92 ∧ z = 1 := by
            rcases HCS.out with ⟨h, _⟩ | ⟨_, h2, h3⟩
            · rw [h92] at h; exact absurd h (by decide)
            · rw [h92] at h2; exact ⟨h2, h3⟩
          have HR92 := Lib.hid hr92
          have t34 : ((r : Int) == 34) = false := by rw [hr92.1]; rfl
          have t92 : ((r : Int) == 92) = true := by rw [hr92.1]; rfl
          have HSL2 := Lib.hid (show QSt T x n (m + z) xs true by rw [hr92.2]; exact qst_slash HQ.out (by rw [HCT0.out, h92]))
          have hq1 : qtextR r = false := by rw [hr92.1]; decide
          have hq2 : wspR r = false := by rw [hr92.1]; decide
          clear HTK HCS h34 h92 hr92
          rcases z12 with ⟨z1, z2⟩ | z1
          · go_wp2_with fail
            refine (Tryz.utf8_DecodeRuneInString X _ HT2.out).mono ?_
            rintro y w2 ⟨rfl, hb2⟩
            rw [HDG.out]
            have HB2 := Lib.hid (HB.out.trans (hb2.mono HB.out.size))
            have HR2 := Lib.hid (HR.out.below hb2)
            clear hb2 HT2
            go_wp2_with fail
            refine (isQtext_any r _).mono ?_
            rintro y w4 ⟨rfl, rfl⟩
            rw [hq1]
            go_wp2_with fail
            refine (isWSP_any r _).mono ?_
            rintro y w4 ⟨rfl, rfl⟩
            rw [hq2]
            go_wp2
            go_roundw
            case rel => exact ⟨rfl, rfl, m + z, xs, ns, true, qa, qn, qc, rfl, by go_num, rfl, HSL2.out, HX.out, by omega, HR2.out, HB2.out⟩
            case measure => simp [intOf]; omega
          · exact absurd z1 (by rw [HR92.out.2]; decide)
        · have HNX := Lib.hid (HTK.out (fun c' t' hd _ => by rw [HCT0.out] at hd; cases hd; exact ⟨h34, h92⟩))
          have hqw : qtextR r = true ∨ (qtextR r = false ∧ wspR r = true) := by
            rcases HCS.out with ⟨_, h⟩ | ⟨h1, h2, _⟩
            · left
              unfold qtextR vcharR
              rw [decide_eq_true h, Bool.or_true, Bool.and_true, decide_eq_false (by omega)]; rfl
            · have n34 : c.toNat ≠ 34 := fun e => h34 (UInt8.toNat_inj.1 e)
              have n92 : c.toNat ≠ 92 := fun e => h92 (UInt8.toNat_inj.1 e)
              rcases noctl HCC.out h1 with h | h
              · by_cases h32 : c.toNat = 32
                · right; rw [h2, h32]; decide
                · left
                  unfold qtextR vcharR
                  rw [decide_eq_true (show 33 ≤ r ∧ r ≤ 126 by omega), Bool.true_or, Bool.and_true, decide_eq_false (by omega)]; rfl
              · right; rw [h2, h]; decide
          clear HTK HCS h34 h92
          rcases z12 with ⟨z1, z2⟩ | z1
          all_goals
            rcases hqw with hq1 | ⟨hq1, hq2⟩
            · go_wp2_with fail
              refine (Tryz.utf8_DecodeRuneInString X _ HT2.out).mono ?_
              rintro y w2 ⟨rfl, hb2⟩
              rw [HDG.out]
              have HB2 := Lib.hid (HB.out.trans (hb2.mono HB.out.size))
              have HR2 := Lib.hid (HR.out.below hb2)
              clear hb2 HT2
              go_wp2_with fail
              refine (isQtext_any r _).mono ?_
              rintro y w4 ⟨rfl, rfl⟩
              rw [hq1]
              go_wp2_with (at_builtin; refine wpList_push_rune rfl _ _ rfl w.heap.size ns _ (r : Int) _ HR2.out HB2.out.size ?c4 rfl rfl ?_)
              case c4 => omega
              intro v' w3 hown3 hg3 hat3
              have hB3 : Below w.heap.size w w3 := (HB2.out.alloc HB2.out.size _).grown hg3 (by rw [World.size_alloc]; have := HB2.out.size; omega) (fun k hk => (HR2.out.lt k hk).1)
              obtain ⟨va, vn, vc, rfl⟩ := hown3.form
              have HO3 := Lib.hid hown3; have HB3 := Lib.hid hB3
              clear hown3 hg3 hat3 hB3
              go_wp2
              go_roundw
              case rel => exact ⟨rfl, rfl, m + z, _, ns ++ [(r : Int)], false, va, vn, vc, rfl, by go_num, rfl, HNX.out, HXS.out, by rw [List.length_append]; simp; omega, HO3.out, HB3.out⟩
              case measure => simp [intOf]; omega
            · go_wp2_with fail
              refine (Tryz.utf8_DecodeRuneInString X _ HT2.out).mono ?_
              rintro y w2 ⟨rfl, hb2⟩
              rw [HDG.out]
              have HB2 := Lib.hid (HB.out.trans (hb2.mono HB.out.size))
              have HR2 := Lib.hid (HR.out.below hb2)
              clear hb2 HT2
              go_wp2_with fail
              refine (isQtext_any r _).mono ?_
              rintro y w4 ⟨rfl, rfl⟩
              rw [hq1]
              go_wp2_with fail
              refine (isWSP_any r _).mono ?_
              rintro y w4 ⟨rfl, rfl⟩
              rw [hq2]
              go_wp2_with (at_builtin; refine wpList_push_rune rfl _ _ rfl w.heap.size ns _ (r : Int) _ HR2.out HB2.out.size ?c4 rfl rfl ?_)
              case c4 => omega
              intro v' w3 hown3 hg3 hat3
              have hB3 : Below w.heap.size w w3 := (HB2.out.alloc HB2.out.size _).grown hg3 (by rw [World.size_alloc]; have := HB2.out.size; omega) (fun k hk => (HR2.out.lt k hk).1)
              obtain ⟨va, vn, vc, rfl⟩ := hown3.form
              have HO3 := Lib.hid hown3; have HB3 := Lib.hid hB3
              clear hown3 hg3 hat3 hB3
              go_wp2
              go_roundw
              case rel => exact ⟨rfl, rfl, m + z, _, ns ++ [(r : Int)], false, va, vn, vc, rfl, by go_num, rfl, HNX.out, HXS.out, by rw [List.length_append]; simp; omega, HO3.out, HB3.out⟩
              case measure => simp [intOf]; omega
end Go.Proofs.YtpoglombagmhmaaGreatDoor
