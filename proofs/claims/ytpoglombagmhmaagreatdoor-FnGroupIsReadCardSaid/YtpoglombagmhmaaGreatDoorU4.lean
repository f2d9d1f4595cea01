/- spec.unbased: what it computes; the walk. -/
import Derived.Test.YtpoglombagmhmaaGreatDoorU2
import Derived.Test.YtpoglombagmhmaaGreatDoorA1
namespace Go.Proofs.YtpoglombagmhmaaGreatDoor
open Go Go.RowKit

def digO (c : UInt8) : Option Nat := if aIdx c.toNat < 64 then some (aIdx c.toNat) else none
def digZ (c : UInt8) : Nat := if aIdx c.toNat < 64 then aIdx c.toNat else 0
def padB (c : UInt8) : Bool := !decide (aIdx c.toNat < 64)
def foldX : List UInt8 → Nat
  | l => l.foldl (fun x c => x * 64 + digZ c) 0
def pads (l : List UInt8) : Nat := (l.filter padB).length
/-- The sign at k of a group may stand there; last: it is the last group; e: the group's last sign is '='. -/
def okSign (last e : Bool) (k : Nat) (c : UInt8) : Bool := !padB c || (c == 61 && last && decide (2 ≤ k) && (decide (k ≠ 2) || e))
def okAll (last e : Bool) : Nat → List UInt8 → Bool
  | _, [] => true
  | k, c :: t => okSign last e k c && okAll last e (k + 1) t
def bytesX (X n : Nat) : List UInt8 := (List.range n).map fun k => UInt8.ofNat (X / 2 ^ (16 - 8 * k))
def groupL (q : List UInt8) (last : Bool) : Option (List UInt8) :=
  if okAll last (q.getD 3 0 == 61) 0 q then
    if foldX q % 2 ^ (24 - 8 * (3 - pads q)) = 0 then some (bytesX (foldX q) (3 - pads q)) else none
  else none
/-- Groups of four signs. -/
def unbG : List UInt8 → Option (List UInt8)
  | a :: b :: c :: d :: t => match groupL [a, b, c, d] t.isEmpty with
    | none => none
    | some g => (unbG t).map (g ++ ·)
  | _ => some []
def unbL (s : List UInt8) : Option (List UInt8) := if s.length % 4 = 0 then unbG s else none

theorem unbG_step {s : List UInt8} {i : Nat} {a b c d : UInt8} {t : List UInt8} (h : s.drop i = a :: b :: c :: d :: t) : unbG (s.drop i) = match groupL [a, b, c, d] t.isEmpty with | none => none | some g => (unbG t).map (g ++ ·) := by
  rw [h, unbG]
theorem foldX_snoc (l : List UInt8) (c : UInt8) : foldX (l ++ [c]) = foldX l * 64 + digZ c := by simp [foldX]
theorem pads_snoc (l : List UInt8) (c : UInt8) : pads (l ++ [c]) = pads l + (if padB c then 1 else 0) := by
  unfold pads
  rw [List.filter_append, List.length_append]
  cases h : padB c <;> simp [h]
theorem digZ_lt (c : UInt8) : digZ c < 64 := by unfold digZ; split <;> omega
theorem foldX_lt : ∀ (l : List UInt8), foldX l < 64 ^ l.length := by
  intro l
  induction h : l.length generalizing l with
  | zero =>
    have : l = [] := List.eq_nil_of_length_eq_zero h
    subst this; simp [foldX]
  | succ n ih =>
    have hne : l ≠ [] := fun e => by rw [e] at h; simp at h
    rw [← List.dropLast_concat_getLast hne]
    have h1 := ih l.dropLast (by simp [h])
    rw [foldX_snoc]
    have h2 := digZ_lt (l.getLast hne)
    have : 64 ^ (n + 1) = 64 ^ n * 64 := Nat.pow_succ 64 n
    omega
theorem okAll_at {last e : Bool} : ∀ {l : List UInt8} {k j : Nat} {c : UInt8}, okAll last e k l = true → l[j]? = some c → okSign last e (k + j) c = true
  | [], _, _, _, _, h => by simp at h
  | a :: t, k, 0, c, h, hc => by
    simp only [List.getElem?_cons_zero, Option.some.injEq] at hc
    subst hc
    rw [okAll, Bool.and_eq_true] at h
    exact h.1
  | a :: t, k, j + 1, c, h, hc => by
    rw [okAll, Bool.and_eq_true] at h
    have := okAll_at h.2 (j := j) (by simpa using hc)
    rwa [show k + 1 + j = k + (j + 1) by omega] at this
theorem okAll_of {last e : Bool} : ∀ {l : List UInt8} {k : Nat}, (∀ j c, l[j]? = some c → okSign last e (k + j) c = true) → okAll last e k l = true
  | [], _, _ => rfl
  | a :: t, k, h => by
    rw [okAll, Bool.and_eq_true]
    refine ⟨by simpa using h 0 a rfl, okAll_of (fun j c hc => ?_)⟩
    have := h (j + 1) c (by simpa using hc)
    rwa [show k + (j + 1) = k + 1 + j by omega] at this
theorem okAll_snoc (last e : Bool) : ∀ (l : List UInt8) (k : Nat) (c : UInt8), okAll last e k (l ++ [c]) = (okAll last e k l && okSign last e (k + l.length) c)
  | [], k, c => by simp [okAll]
  | a :: t, k, c => by
    rw [List.cons_append, okAll, okAll, okAll_snoc last e t (k + 1) c, List.length_cons, show k + 1 + t.length = k + (t.length + 1) by omega, Bool.and_assoc]
theorem take_q {q : List UInt8} {m : Nat} {c : UInt8} (h : q[m]? = some c) : q.take (m + 1) = q.take m ++ [c] := by rw [List.take_add_one, h]; rfl
theorem groupL_no {q : List UInt8} {last : Bool} {m : Nat} {c : UInt8} (h : q[m]? = some c) (hs : okSign last (q.getD 3 0 == 61) m c = false) : groupL q last = none := by
  unfold groupL
  rw [if_neg]
  intro ho
  have := okAll_at ho h
  rw [Nat.zero_add, hs] at this
  cases this
theorem okSign_dig {last e : Bool} {k : Nat} {c : UInt8} (h : aIdx c.toNat < 64) : okSign last e k c = true := by simp [okSign, padB, h]
theorem okSign_pad {last e : Bool} {k : Nat} {c : UInt8} (h : ¬ aIdx c.toNat < 64) : okSign last e k c = (c == 61 && last && decide (2 ≤ k) && (decide (k ≠ 2) || e)) := by simp [okSign, padB, h]
theorem or_six (X D : Nat) (hX : X ≤ 16777215) (hD : D < 64) : bits .or .i64 ((X : Int) * 64) (D : Int) = ((X * 64 + D : Nat) : Int) := by
  rw [show (X : Int) * 64 = ((X * 64 : Nat) : Int) by omega, i64_or_nat _ _ (by omega) (by omega)]
  rw [show X * 64 = X * 2 ^ 6 by rfl, or_shift X D 6 (by omega)]
theorem foldX_take {q : List UInt8} {m : Nat} (hm : m ≤ 4) : foldX (q.take m) ≤ 16777215 := by
  have h1 := foldX_lt (q.take m)
  have h2 : (q.take m).length ≤ 4 := by rw [List.length_take]; omega
  have h3 : 64 ^ (q.take m).length ≤ 64 ^ 4 := Nat.pow_le_pow_right (by omega) h2
  have h4 : (64 : Nat) ^ 4 = 16777216 := by decide
  omega

/-- The signs of base64, as Go's constant has them. -/
def digS : ByteArray := ⟨#[65, 66, 67, 68, 69, 70, 71, 72, 73, 74, 75, 76, 77, 78, 79, 80, 81, 82, 83, 84, 85, 86, 87, 88, 89, 90, 97, 98, 99, 100, 101, 102, 103, 104, 105, 106, 107, 108, 109, 110, 111, 112, 113, 114, 115, 116, 117, 118, 119, 120, 121, 122, 48, 49, 50, 51, 52, 53, 54, 55, 56, 57, 43, 47]⟩
theorem digS_at : ∀ (j : Nat) (h : j < digS.size), (digS[j]).toNat = alphaN j := by
  have : ∀ k : Fin 64, (digS[k.val]'(by have := k.isLt; show k.val < 64; exact this)).toNat = alphaN k.val := by decide
  intro j h
  exact this ⟨j, h⟩
theorem digS_eq {j : Nat} {c : UInt8} (h : j < digS.size) : (((digS[j]).toNat : Int) == (c.toNat : Int)) = decide (aIdx c.toNat = j) := by
  have hj : j < 64 := h
  rw [digS_at j h]
  by_cases he : aIdx c.toNat = j
  · rw [decide_eq_true he, beq_iff_eq]
    subst he
    rw [alpha_aIdx c.toNat hj]
  · rw [decide_eq_false he, beq_eq_false_iff_ne]
    intro e
    apply he
    have : c.toNat = alphaN j := by omega
    rw [this, aIdx_alpha j hj]
end Go.Proofs.YtpoglombagmhmaaGreatDoor
/- spec.unbased: the walk. -/
namespace Go.Proofs.YtpoglombagmhmaaGreatDoor
open Go Go.RowKit

def UbRel (s : ByteArray) (w : World) (r2 r3 v i : Value) (wr : World) : Prop :=
  ∃ (g i0 : Nat) (out : List UInt8), i0 = 4 * g ∧ r2 = .slice none 0 0 ∧ r3 = .bool false ∧ i = .int .i64 (i0 : Nat) ∧ out.length ≤ 3 * g ∧ 4 * g ≤ s.size ∧ unbG s.data.toList = (unbG (s.data.toList.drop (4 * g))).map (out ++ ·) ∧ OwnB w.heap.size out v wr ∧ Fr (· < w.heap.size) w wr
def KRel (q : List UInt8) (last : Bool) (w : World) (out : List UInt8) (v : Value) (r2 r3 x n k : Value) (wr : World) : Prop :=
  ∃ m X P : Nat, r2 = .slice none 0 0 ∧ r3 = .bool false ∧ m ≤ 4 ∧ okAll last (q.getD 3 0 == 61) 0 (q.take m) = true ∧ pads (q.take m) + P = 3 ∧ 3 ≤ P + (m - 2) ∧ X = foldX (q.take m) ∧ x = .int .i64 (X : Nat) ∧ n = .int .i64 (P : Nat) ∧ k = .int .i64 (m : Nat) ∧ OwnB w.heap.size out v wr ∧ Fr (· < w.heap.size) w wr
def dJ (c : UInt8) (j : Nat) : Int := if aIdx c.toNat < j then (aIdx c.toNat : Nat) else -1
def JRel (c : UInt8) (w : World) (out : List UInt8) (v : Value) (d j : Value) (wr : World) : Prop :=
  ∃ m : Nat, m ≤ 64 ∧ d = .int .i64 (dJ c m) ∧ j = .int .i64 (m : Nat) ∧ OwnB w.heap.size out v wr ∧ Fr (· < w.heap.size) w wr

def NRel (X P : Nat) (out : List UInt8) (w : World) (v k : Value) (wr : World) : Prop :=
  ∃ e : Nat, e ≤ P ∧ k = .int .i64 (e : Nat) ∧ OwnB w.heap.size (out ++ bytesX X e) v wr ∧ Fr (· < w.heap.size) w wr

set_option maxHeartbeats 16000000 in
set_option maxRecDepth 100000 in
theorem unbased_any (s : ByteArray) (w : World) (hs : s.size ≤ 70368744177664) :
    Calls Tryz.prog 49 #[.string s] w fun x w' => UqRet (unbL s.data.toList) w.heap.size x w' ∧ Below w.heap.size w w' := by
  have hlen : s.data.toList.length = s.size := Array.length_toList
  by_cases h4 : s.size % 4 = 0
  · have t0 : (((s.size : Int) % 4) != 0) = false := by rw [bne_eq_false_iff_eq]; omega
    have HUL : Hid (unbL s.data.toList = unbG s.data.toList) := Lib.hid (by unfold unbL; rw [if_pos (by rw [hlen]; exact h4)])
    have HLEN := Lib.hid hlen
    have H4 := Lib.hid h4
    clear hlen h4
    go_enter Tryz.func49, Tryz.ntmps49
    go_wp2
    obtain ⟨S, hS⟩ : ∃ S : ByteArray, S = digS := ⟨_, rfl⟩
    have hSz : S.size = 64 := by rw [hS]; rfl
    have HS := Lib.hid hS
    have HSZ := Lib.hid hSz
    unfold digS at hS
    rw [← hS]
    clear hS hSz
    go_loopw [2, 3, 4, 5] (fun r2 r3 v i wr => UbRel s w r2 r3 v i wr) (fun _ _ _ i _ => s.size - (RowKit.intOf i).toNat)
    case atStart => exact ⟨0, 0, [], rfl, rfl, rfl, rfl, Nat.le_refl _, Nat.zero_le _, by simp, OwnB.nil _ _, Fr.refl _ _⟩
    case round =>
      obtain ⟨g, i0, out, hi0, rfl, rfl, rfl, hol, hg, heq, hown, hF⟩ := hrel
      have HI0 := Lib.hid hi0
      by_cases hlt : i0 < s.size
      · have hg4 : i0 + 4 ≤ s.size := by have := H4.out; omega
        obtain ⟨a, b, c, d, t, hdr, ht⟩ : ∃ a b c d t, s.data.toList.drop (4 * g) = a :: b :: c :: d :: t ∧ t = s.data.toList.drop (4 * g + 4) := by
          rw [drop_at s (4 * g) (by omega), drop_at s (4 * g + 1) (by omega), drop_at s (4 * g + 1 + 1) (by omega), drop_at s (4 * g + 1 + 1 + 1) (by omega)]
          exact ⟨_, _, _, _, _, rfl, rfl⟩
        have hat : ∀ j x, [a, b, c, d][j]? = some x → ∃ h : i0 + j < s.size, s[i0 + j] = x := by
          intro j x hx
          have hj : j < 4 := (List.getElem?_eq_some_iff.1 hx).1
          refine ⟨by omega, ?_⟩
          have h1 : (s.data.toList.drop (4 * g))[j]? = some x := by
            rw [hdr]
            rw [show a :: b :: c :: d :: t = [a, b, c, d] ++ t from rfl, List.getElem?_append_left (List.getElem?_eq_some_iff.1 hx).1]; exact hx
          rw [List.getElem?_drop] at h1
          obtain ⟨_, h2⟩ := List.getElem?_eq_some_iff.1 h1
          rw [← h2, ByteArray.getElem_eq_getElem_data]; simp [hi0]
        have htl : t.isEmpty = decide (i0 + 4 = s.size) := by
          rw [Bool.eq_iff_iff, List.isEmpty_iff, decide_eq_true_iff, ht, List.drop_eq_nil_iff, HLEN.out]; omega
        rw [unbG_step hdr] at heq
        obtain ⟨q, hq⟩ : ∃ q, [a, b, c, d] = q := ⟨_, rfl⟩
        obtain ⟨last, hla⟩ : ∃ last, t.isEmpty = last := ⟨_, rfl⟩
        have hql : q.length = 4 := by rw [← hq]; rfl
        have hq3 : q[3]? = some d := by rw [← hq]; rfl
        have hqd : q.getD 3 0 = d := by rw [← hq]; rfl
        rw [hq, hla] at heq
        rw [hq] at hat
        rw [hla] at htl
        have HEQ := Lib.hid heq; have HAT := Lib.hid hat; have HLA := Lib.hid htl; have HQL := Lib.hid hql; have HT := Lib.hid ht; have HQD := Lib.hid hqd; have HQ3 := Lib.hid hq3
        have HOWN := Lib.hid hown; have HF := Lib.hid hF
        clear heq hat htl hql ht hown hF hq hla hdr hqd hq3 hi0
        have hi : (i0 : Int) < (s.size : Int) := by omega
        go_wp2
        go_loopw [2, 3, 6, 7, 22] (fun r2 r3 x n k wr => KRel q last w out u4 r2 r3 x n k wr) (fun _ _ _ _ k _ => 4 - (RowKit.intOf k).toNat)
        case atStart => exact ⟨0, 0, 3, rfl, rfl, by omega, rfl, rfl, by omega, rfl, rfl, rfl, rfl, HOWN.out, HF.out⟩
        case round =>
          obtain ⟨m, X, P, rfl, rfl, hm, hok, hpd, hpm, hX, rfl, rfl, rfl, hown, hF⟩ := hrel
          have HOK := Lib.hid hok; have HPD := Lib.hid hpd; have HX := Lib.hid hX; have HOWN := Lib.hid hown; have HF := Lib.hid hF
          clear hok hown hF hpd hX
          by_cases hm4 : m < 4
          · obtain ⟨ch, hch⟩ : ∃ ch, q[m]? = some ch := ⟨_, List.getElem?_eq_getElem (by rw [HQL.out]; exact hm4)⟩
            obtain ⟨hb1, hb2⟩ := HAT.out m ch hch
            have HCH := Lib.hid hch
            clear hch
            have hmi : (m : Int) < 4 := by omega
            go_wp2
            go_loopw [9, 25] (fun d j wr => JRel ch w out u4 d j wr) (fun _ j _ => 64 - (RowKit.intOf j).toNat)
            case atStart => exact ⟨0, by omega, by simp [dJ], rfl, HOWN.out, HF.out⟩
            case round =>
              obtain ⟨j, hj, rfl, rfl, hown, hF⟩ := hrel
              have HOWN := Lib.hid hown; have HF := Lib.hid hF
              clear hown hF
              by_cases hj64 : j < 64
              · have hjs : j < S.size := by rw [HSZ.out]; exact hj64
                have hji : (j : Int) < (S.size : Int) := by omega
                have hji2 : (j : Int) < 64 := by omega
                have hsum : IntKind.i64.wrap ((i0 : Int) + (m : Int)) = (i0 : Int) + (m : Int) := IntWalk.i64_in _ (by omega)
                have p1 : (0 : Int) ≤ (i0 : Int) + (m : Int) := by omega
                have p2 : ((i0 : Int) + (m : Int)).toNat = i0 + m := by omega
                have p3 : (i0 : Int) + (m : Int) < (s.size : Int) := by omega
                have p4 : 0 ≤ IntKind.i64.wrap ((i0 : Int) + (m : Int)) := by rw [hsum]; exact p1
                by_cases he : aIdx ch.toNat = j
                · have tS : ((S[j].toNat : Int) == (ch.toNat : Int)) = true := by
                    have := HS.out; subst this
                    rw [digS_eq hjs, decide_eq_true he]
                  have hdj : dJ ch (j + 1) = (j : Int) := by unfold dJ; rw [if_pos (by omega), he]
                  have HDJ := Lib.hid hdj
                  clear he hdj
                  go_wp2
                  go_quiet (fail)
                  have HOWN2 := Lib.hid (HOWN.out.fr (w' := wr.drewN nq) (fun _ _ _ => by rw [heap_drewN])); have HF2 := Lib.hid (HF.out.drewN nq)
                  clear hsum p1 p2 p3 p4 tS
                  generalize wr.drewN nq = wq at *
                  go_wp2
                  go_roundw
                  case rel => exact ⟨j + 1, by omega, by rw [HDJ.out], by go_num, HOWN2.out, HF2.out⟩
                  case measure => simp [RowKit.intOf]; omega
                · have tS : ((S[j].toNat : Int) == (ch.toNat : Int)) = false := by
                    have := HS.out; subst this
                    rw [digS_eq hjs, decide_eq_false he]
                  have hdj : dJ ch (j + 1) = dJ ch j := by
                    unfold dJ
                    by_cases h : aIdx ch.toNat < j
                    · rw [if_pos h, if_pos (by omega)]
                    · rw [if_neg h, if_neg (by omega)]
                  have HDJ := Lib.hid hdj
                  clear he hdj
                  go_wp2
                  go_quiet (fail)
                  have HOWN2 := Lib.hid (HOWN.out.fr (w' := wr.drewN nq) (fun _ _ _ => by rw [heap_drewN])); have HF2 := Lib.hid (HF.out.drewN nq)
                  clear hsum p1 p2 p3 p4 tS
                  generalize wr.drewN nq = wq at *
                  go_wp2
                  go_roundw
                  case rel => exact ⟨j + 1, by omega, by rw [HDJ.out], by go_num, HOWN2.out, HF2.out⟩
                  case measure => simp [RowKit.intOf]; omega
              · have hj : j = 64 := by omega
                subst hj
                have hsn := take_q HCH.out
                have hXl := foldX_take (q := q) (m := m) hm
                rw [← HX.out] at hXl
                have HSN := Lib.hid hsn
                have hml : (q.take m).length = m := by rw [List.length_take, HQL.out]; omega
                have HML := Lib.hid hml
                clear hsn hml
                by_cases hdg : aIdx ch.toNat < 64
                · obtain ⟨D, hD⟩ : ∃ D, aIdx ch.toNat = D := ⟨_, rfl⟩
                  have hdj : dJ ch 64 = (D : Int) := by unfold dJ; rw [if_pos hdg, hD]
                  rw [hdj]
                  have hDl : D < 64 := by omega
                  have hor := or_six X D hXl hDl
                  have hz : digZ ch = D := by unfold digZ; rw [if_pos hdg, hD]
                  have hp : padB ch = false := by simp [padB, hdg]
                  have HDG := Lib.hid hdg; have HZ := Lib.hid hz; have HPB := Lib.hid hp
                  have t0 : ¬ (D : Int) < 0 := by omega
                  have i3 : (X : Int) * 64 ≤ 1073741760 := by omega
                  clear hdg hD hdj hz hp
                  go_wp2
                  go_roundw
                  case rel =>
                    refine ⟨m + 1, X * 64 + D, P, by first | rfl | trivial, by first | rfl | trivial, by omega, ?_, ?_, by omega, ?_, by go_num, rfl, by go_num, HOWN.out, HF.out⟩
                    · rw [HSN.out, okAll_snoc, HOK.out, HML.out, Nat.zero_add, okSign_dig HDG.out]; rfl
                    · rw [HSN.out, pads_snoc, HPB.out]; have := HPD.out; simpa using this
                    · rw [HSN.out, foldX_snoc, ← HX.out, HZ.out]
                  case measure => simp [RowKit.intOf]; omega
                · have hdj : dJ ch 64 = -1 := by unfold dJ; rw [if_neg hdg]
                  rw [hdj]
                  clear hdj
                  have hop := fun (last e : Bool) => okSign_pad (last := last) (e := e) (k := m) hdg
                  have hsum : (i0 : Int) + (m : Int) < (s.size : Int) := by omega
                  have hsum0 : (0 : Int) ≤ (i0 : Int) + (m : Int) := by omega
                  have HDG := Lib.hid hdg
                  clear hdg
                  by_cases h61 : ch = 61
                  · have t61 : ((ch.toNat : Int) != 61) = false := by rw [bne_eq_false_iff_eq]; rw [h61]; rfl
                    by_cases hla : i0 + 4 = s.size
                    · have hlast : last = true := by rw [HLA.out]; exact decide_eq_true hla
                      have i4 : ¬ (i0 : Int) + 4 < (s.size : Int) := by omega
                      by_cases hm2 : 2 ≤ m
                      · have i5 : ¬ (m : Int) < 2 := by omega
                        obtain ⟨hc1, hc2⟩ := HAT.out 3 d HQ3.out
                        by_cases hme : m = 2
                        · have t2 : ((m : Int) == 2) = true := by rw [beq_iff_eq]; omega
                          by_cases hd61 : d = 61
                          · have td : ((d.toNat : Int) != 61) = false := by rw [bne_eq_false_iff_eq]; rw [hd61]; rfl
                            have hok2 : okSign last (q.getD 3 0 == 61) m ch = true := by rw [hop, HQD.out, hlast, hd61, h61]; simp [hm2]
                            have hor0 : bits .or .i64 ((X : Int) * 64) 0 = ((X * 64 : Nat) : Int) := or_six X 0 hXl (by omega)
                            have hz : digZ ch = 0 := by unfold digZ; rw [if_neg HDG.out]
                            have hp : padB ch = true := by simp [padB, HDG.out]
                            have HOK2 := Lib.hid hok2; have HZ := Lib.hid hz; have HPB := Lib.hid hp
                            have i3 : (X : Int) * 64 ≤ 1073741760 := by omega
                            have i6 : (1 : Int) ≤ (P : Int) := by omega
                            have i7 : (P : Int) ≤ 3 := by have := HPD.out; omega
                            clear hop hz hp hok2 h61 hla hlast hme hd61
                            go_wp2
                            go_roundw
                            case rel =>
                              refine ⟨m + 1, X * 64, P - 1, by first | rfl | trivial, by first | rfl | trivial, by omega, ?_, ?_, by omega, ?_, by go_num, by rw [show ((P - 1 : Nat) : Int) = (P : Int) - 1 by omega], by go_num, HOWN.out, HF.out⟩
                              · rw [HSN.out, okAll_snoc, HOK.out, HML.out, Nat.zero_add, HOK2.out]; rfl
                              · rw [HSN.out, pads_snoc, HPB.out]; have := HPD.out; simp; omega
                              · rw [HSN.out, foldX_snoc, ← HX.out, HZ.out]; rfl
                            case measure => simp [RowKit.intOf]; omega
                          · have td : ((d.toNat : Int) != 61) = true := by rw [bne_iff_ne]; have := cneq hd61; rw [beq_eq_false_iff_ne] at this; exact this
                            have hno : okSign last (q.getD 3 0 == 61) m ch = false := by rw [hop, HQD.out, hme]; simp [hd61]
                            clear hop h61 hla hlast hm2 hme hd61
                            go_wp2
                            go_ret2
                            refine ⟨?_, HF.out.below⟩
                            rw [HUL.out, HEQ.out, groupL_no HCH.out hno]
                            rfl
                        · have t2 : ((m : Int) == 2) = false := by rw [beq_eq_false_iff_ne]; omega
                          have hok2 : okSign last (q.getD 3 0 == 61) m ch = true := by rw [hop, hlast, h61]; simp [hm2, hme]
                          have hor0 : bits .or .i64 ((X : Int) * 64) 0 = ((X * 64 : Nat) : Int) := or_six X 0 hXl (by omega)
                          have hz : digZ ch = 0 := by unfold digZ; rw [if_neg HDG.out]
                          have hp : padB ch = true := by simp [padB, HDG.out]
                          have HOK2 := Lib.hid hok2; have HZ := Lib.hid hz; have HPB := Lib.hid hp
                          have i3 : (X : Int) * 64 ≤ 1073741760 := by omega
                          have i6 : (1 : Int) ≤ (P : Int) := by omega
                          have i7 : (P : Int) ≤ 3 := by have := HPD.out; omega
                          clear hop hz hp hok2 h61 hla hlast hme
                          go_wp2
                          go_roundw
                          case rel =>
                            refine ⟨m + 1, X * 64, P - 1, by first | rfl | trivial, by first | rfl | trivial, by omega, ?_, ?_, by omega, ?_, by go_num, by rw [show ((P - 1 : Nat) : Int) = (P : Int) - 1 by omega], by go_num, HOWN.out, HF.out⟩
                            · rw [HSN.out, okAll_snoc, HOK.out, HML.out, Nat.zero_add, HOK2.out]; rfl
                            · rw [HSN.out, pads_snoc, HPB.out]; have := HPD.out; simp; omega
                            · rw [HSN.out, foldX_snoc, ← HX.out, HZ.out]; rfl
                          case measure => simp [RowKit.intOf]; omega
                      · have i5 : (m : Int) < 2 := by omega
                        have hno : okSign last (q.getD 3 0 == 61) m ch = false := by rw [hop]; simp [hm2]
                        clear hop h61 hla hlast hm2
                        go_wp2
                        go_ret2
                        refine ⟨?_, HF.out.below⟩
                        rw [HUL.out, HEQ.out, groupL_no HCH.out hno]
                        rfl
                    · have hlast : last = false := by rw [HLA.out]; exact decide_eq_false hla
                      have i4 : (i0 : Int) + 4 < (s.size : Int) := by omega
                      have hno : okSign last (q.getD 3 0 == 61) m ch = false := by rw [hop, hlast]; simp
                      clear hop h61 hla hlast
                      go_wp2
                      go_ret2
                      refine ⟨?_, HF.out.below⟩
                      rw [HUL.out, HEQ.out, groupL_no HCH.out hno]
                      rfl
                  · have t61 : ((ch.toNat : Int) != 61) = true := by rw [bne_iff_ne]; have := cneq h61; rw [beq_eq_false_iff_ne] at this; exact this
                    have hno : okSign last (q.getD 3 0 == 61) m ch = false := by rw [hop]; simp [h61]
                    clear hop h61
                    go_wp2
                    go_ret2
                    refine ⟨?_, HF.out.below⟩
                    rw [HUL.out, HEQ.out, groupL_no HCH.out hno]
                    rfl
          · have hm44 : m = 4 := by omega
            subst hm44
            have htq : q.take 4 = q := List.take_of_length_le (by rw [HQL.out]; exact Nat.le_refl _)
            have hXl := foldX_take (q := q) (m := 4) (Nat.le_refl _)
            rw [← HX.out] at hXl
            have hX := HX.out; have hpd := HPD.out; have hok := HOK.out
            rw [htq] at hX hpd hok
            have HGR : Hid (groupL q last = if X % 2 ^ (24 - 8 * P) = 0 then some (bytesX X P) else none) := Lib.hid (by
              unfold groupL
              rw [if_pos hok, ← hX, show 3 - pads q = P by omega])
            have hP : P = 1 ∨ P = 2 ∨ P = 3 := by omega
            clear hX hpd hok htq HX HPD HOK hpm
            rcases hP with rfl | rfl | rfl
            · rw [show ((1 : Nat) : Int) = (1 : Int) from rfl, show ((4 : Nat) : Int) = (4 : Int) from rfl]
              have hand : bits .and .i64 (X : Int) 65535 = (X : Int) % 65536 := by
                have h1 := i64_and_nat X 65535 (by omega) (by omega)
                have h2 : X &&& 65535 = X % 65536 := Nat.and_two_pow_sub_one_eq_mod X 16
                rw [h2] at h1
                rw [show (X : Int) % 65536 = ((X % 65536 : Nat) : Int) by omega]
                exact h1
              by_cases hz : X % 65536 = 0
              · have hgr : groupL q last = some (bytesX X 1) := by rw [HGR.out]; exact if_pos hz
                have HG2 := Lib.hid hgr
                have tz : (((X : Int) % 65536) != 0) = false := by rw [bne_eq_false_iff_eq]; omega
                clear hgr hz
                go_wp2
                go_loopw [4, 84] (fun v4 k wr => NRel X 1 out w v4 k wr) (fun _ k _ => 1 - (RowKit.intOf k).toNat)
                case atStart => exact ⟨0, by omega, rfl, by simpa [bytesX] using HOWN.out, HF.out⟩
                case round =>
                  obtain ⟨e, he, rfl, hown, hF⟩ := hrel
                  have hee : e = 0 ∨ e = 1 := by omega
                  have HOWN := Lib.hid hown; have HF := Lib.hid hF
                  have hB : w.heap.size ≤ wr.heap.size := hF.size
                  have hbl : (out ++ bytesX X e).length + 1 ≤ 140737488355328 := by rw [List.length_append]; unfold bytesX; simp; omega
                  clear hown hF he
                  rcases hee with rfl | rfl
                  · have hby : IntKind.u8.wrap ((X : Int) / 65536) = ((UInt8.ofNat (X / 65536)).toNat : Int) := by
                      rw [IntKind.wrap_u8', UInt8.toNat_ofNat']; omega
                    obtain ⟨z, hz⟩ : ∃ z, UInt8.ofNat (X / 65536) = z := ⟨_, rfl⟩
                    have hbx : bytesX X 1 = bytesX X 0 ++ [z] := by
                      unfold bytesX
                      rw [List.range_succ, List.map_append, ← hz]; rfl
                    rw [hz] at hby
                    have HBX := Lib.hid hbx
                    clear hz hbx
                    go_wp2_with (at_builtin; refine wpList_push_byte rfl _ _ rfl w.heap.size (out ++ bytesX X 0) _ z wr HOWN.out hB hbl rfl rfl ?_)
                    intro v' w5 hown' hg _
                    have HO2 := Lib.hid hown'; have HF2 := Lib.hid (push_fr HF.out HOWN.out hg)
                    clear hown' hg
                    go_wp2
                    go_roundw
                    case rel => exact ⟨1, by omega, by go_num, by rw [HBX.out]; exact HO2.out, HF2.out⟩
                    case measure => simp [RowKit.intOf]
                  · go_wp2
                    go_roundw
                    case rel =>
                      have hEQ := HEQ.out
                      rw [HG2.out] at hEQ
                      simp only at hEQ
                      refine ⟨g + 1, i0 + 4, out ++ bytesX X 1, by have := HI0.out; omega, by first | rfl | trivial, by first | rfl | trivial, by go_num, by simp [bytesX]; omega, by have := HI0.out; omega, ?_, HOWN.out, HF.out⟩
                      rw [hEQ, HT.out, show 4 * (g + 1) = 4 * g + 4 by omega]
                      cases unbG (s.data.toList.drop (4 * g + 4)) <;> simp
                    case measure => simp [RowKit.intOf]; omega
              · have hgr : groupL q last = none := by rw [HGR.out]; exact if_neg hz
                have HG2 := Lib.hid hgr
                have tz : (((X : Int) % 65536) != 0) = true := by rw [bne_iff_ne]; omega
                clear hgr hz
                go_wp2
                go_ret2
                refine ⟨?_, HF.out.below⟩
                rw [HUL.out, HEQ.out, HG2.out]
                rfl
            · rw [show ((2 : Nat) : Int) = (2 : Int) from rfl, show ((4 : Nat) : Int) = (4 : Int) from rfl]
              have hand : bits .and .i64 (X : Int) 255 = (X : Int) % 256 := by
                have h1 := i64_and_nat X 255 (by omega) (by omega)
                have h2 : X &&& 255 = X % 256 := Nat.and_two_pow_sub_one_eq_mod X 8
                rw [h2] at h1
                rw [show (X : Int) % 256 = ((X % 256 : Nat) : Int) by omega]
                exact h1
              by_cases hz : X % 256 = 0
              · have hgr : groupL q last = some (bytesX X 2) := by rw [HGR.out]; exact if_pos hz
                have HG2 := Lib.hid hgr
                have tz : (((X : Int) % 256) != 0) = false := by rw [bne_eq_false_iff_eq]; omega
                clear hgr hz
                go_wp2
                go_loopw [4, 84] (fun v4 k wr => NRel X 2 out w v4 k wr) (fun _ k _ => 2 - (RowKit.intOf k).toNat)
                case atStart => exact ⟨0, by omega, rfl, by simpa [bytesX] using HOWN.out, HF.out⟩
                case round =>
                  obtain ⟨e, he, rfl, hown, hF⟩ := hrel
                  have hee : e = 0 ∨ e = 1 ∨ e = 2 := by omega
                  have HOWN := Lib.hid hown; have HF := Lib.hid hF
                  have hB : w.heap.size ≤ wr.heap.size := hF.size
                  have hbl : (out ++ bytesX X e).length + 1 ≤ 140737488355328 := by rw [List.length_append]; unfold bytesX; simp; omega
                  clear hown hF he
                  rcases hee with rfl | rfl | rfl
                  · have hby : IntKind.u8.wrap ((X : Int) / 65536) = ((UInt8.ofNat (X / 65536)).toNat : Int) := by
                      rw [IntKind.wrap_u8', UInt8.toNat_ofNat']; omega
                    obtain ⟨z, hz⟩ : ∃ z, UInt8.ofNat (X / 65536) = z := ⟨_, rfl⟩
                    have hbx : bytesX X 1 = bytesX X 0 ++ [z] := by
                      unfold bytesX
                      rw [List.range_succ, List.map_append, ← hz]; rfl
                    rw [hz] at hby
                    have HBX := Lib.hid hbx
                    clear hz hbx
                    go_wp2_with (at_builtin; refine wpList_push_byte rfl _ _ rfl w.heap.size (out ++ bytesX X 0) _ z wr HOWN.out hB hbl rfl rfl ?_)
                    intro v' w5 hown' hg _
                    have HO2 := Lib.hid hown'; have HF2 := Lib.hid (push_fr HF.out HOWN.out hg)
                    clear hown' hg
                    go_wp2
                    go_roundw
                    case rel => exact ⟨1, by omega, by go_num, by rw [HBX.out]; exact HO2.out, HF2.out⟩
                    case measure => simp [RowKit.intOf]
                  · have hby : IntKind.u8.wrap ((X : Int) / 256) = ((UInt8.ofNat (X / 256)).toNat : Int) := by
                      rw [IntKind.wrap_u8', UInt8.toNat_ofNat']; omega
                    obtain ⟨z, hz⟩ : ∃ z, UInt8.ofNat (X / 256) = z := ⟨_, rfl⟩
                    have hbx : bytesX X 2 = bytesX X 1 ++ [z] := by
                      unfold bytesX
                      rw [List.range_succ, List.map_append, ← hz]; rfl
                    rw [hz] at hby
                    have HBX := Lib.hid hbx
                    clear hz hbx
                    go_wp2_with (at_builtin; refine wpList_push_byte rfl _ _ rfl w.heap.size (out ++ bytesX X 1) _ z wr HOWN.out hB hbl rfl rfl ?_)
                    intro v' w5 hown' hg _
                    have HO2 := Lib.hid hown'; have HF2 := Lib.hid (push_fr HF.out HOWN.out hg)
                    clear hown' hg
                    go_wp2
                    go_roundw
                    case rel => exact ⟨2, by omega, by go_num, by rw [HBX.out]; exact HO2.out, HF2.out⟩
                    case measure => simp [RowKit.intOf]
                  · go_wp2
                    go_roundw
                    case rel =>
                      have hEQ := HEQ.out
                      rw [HG2.out] at hEQ
                      simp only at hEQ
                      refine ⟨g + 1, i0 + 4, out ++ bytesX X 2, by have := HI0.out; omega, by first | rfl | trivial, by first | rfl | trivial, by go_num, by simp [bytesX]; omega, by have := HI0.out; omega, ?_, HOWN.out, HF.out⟩
                      rw [hEQ, HT.out, show 4 * (g + 1) = 4 * g + 4 by omega]
                      cases unbG (s.data.toList.drop (4 * g + 4)) <;> simp
                    case measure => simp [RowKit.intOf]; omega
              · have hgr : groupL q last = none := by rw [HGR.out]; exact if_neg hz
                have HG2 := Lib.hid hgr
                have tz : (((X : Int) % 256) != 0) = true := by rw [bne_iff_ne]; omega
                clear hgr hz
                go_wp2
                go_ret2
                refine ⟨?_, HF.out.below⟩
                rw [HUL.out, HEQ.out, HG2.out]
                rfl
            · rw [show ((3 : Nat) : Int) = (3 : Int) from rfl, show ((4 : Nat) : Int) = (4 : Int) from rfl]
              have hand : bits .and .i64 (X : Int) 0 = (X : Int) % 1 := by
                have h1 := i64_and_nat X 0 (by omega) (by omega)
                have h2 : X &&& 0 = X % 1 := Nat.and_two_pow_sub_one_eq_mod X 0
                rw [h2] at h1
                rw [show (X : Int) % 1 = ((X % 1 : Nat) : Int) by omega]
                exact h1
              by_cases hz : X % 1 = 0
              · have hgr : groupL q last = some (bytesX X 3) := by rw [HGR.out]; exact if_pos hz
                have HG2 := Lib.hid hgr
                have tz : (((X : Int) % 1) != 0) = false := by rw [bne_eq_false_iff_eq]; omega
                clear hgr hz
                go_wp2
                go_loopw [4, 84] (fun v4 k wr => NRel X 3 out w v4 k wr) (fun _ k _ => 3 - (RowKit.intOf k).toNat)
                case atStart => exact ⟨0, by omega, rfl, by simpa [bytesX] using HOWN.out, HF.out⟩
                case round =>
                  obtain ⟨e, he, rfl, hown, hF⟩ := hrel
                  have hee : e = 0 ∨ e = 1 ∨ e = 2 ∨ e = 3 := by omega
                  have HOWN := Lib.hid hown; have HF := Lib.hid hF
                  have hB : w.heap.size ≤ wr.heap.size := hF.size
                  have hbl : (out ++ bytesX X e).length + 1 ≤ 140737488355328 := by rw [List.length_append]; unfold bytesX; simp; omega
                  clear hown hF he
                  rcases hee with rfl | rfl | rfl | rfl
                  · have hby : IntKind.u8.wrap ((X : Int) / 65536) = ((UInt8.ofNat (X / 65536)).toNat : Int) := by
                      rw [IntKind.wrap_u8', UInt8.toNat_ofNat']; omega
                    obtain ⟨z, hz⟩ : ∃ z, UInt8.ofNat (X / 65536) = z := ⟨_, rfl⟩
                    have hbx : bytesX X 1 = bytesX X 0 ++ [z] := by
                      unfold bytesX
                      rw [List.range_succ, List.map_append, ← hz]; rfl
                    rw [hz] at hby
                    have HBX := Lib.hid hbx
                    clear hz hbx
                    go_wp2_with (at_builtin; refine wpList_push_byte rfl _ _ rfl w.heap.size (out ++ bytesX X 0) _ z wr HOWN.out hB hbl rfl rfl ?_)
                    intro v' w5 hown' hg _
                    have HO2 := Lib.hid hown'; have HF2 := Lib.hid (push_fr HF.out HOWN.out hg)
                    clear hown' hg
                    go_wp2
                    go_roundw
                    case rel => exact ⟨1, by omega, by go_num, by rw [HBX.out]; exact HO2.out, HF2.out⟩
                    case measure => simp [RowKit.intOf]
                  · have hby : IntKind.u8.wrap ((X : Int) / 256) = ((UInt8.ofNat (X / 256)).toNat : Int) := by
                      rw [IntKind.wrap_u8', UInt8.toNat_ofNat']; omega
                    obtain ⟨z, hz⟩ : ∃ z, UInt8.ofNat (X / 256) = z := ⟨_, rfl⟩
                    have hbx : bytesX X 2 = bytesX X 1 ++ [z] := by
                      unfold bytesX
                      rw [List.range_succ, List.map_append, ← hz]; rfl
                    rw [hz] at hby
                    have HBX := Lib.hid hbx
                    clear hz hbx
                    go_wp2_with (at_builtin; refine wpList_push_byte rfl _ _ rfl w.heap.size (out ++ bytesX X 1) _ z wr HOWN.out hB hbl rfl rfl ?_)
                    intro v' w5 hown' hg _
                    have HO2 := Lib.hid hown'; have HF2 := Lib.hid (push_fr HF.out HOWN.out hg)
                    clear hown' hg
                    go_wp2
                    go_roundw
                    case rel => exact ⟨2, by omega, by go_num, by rw [HBX.out]; exact HO2.out, HF2.out⟩
                    case measure => simp [RowKit.intOf]
                  · have hby : IntKind.u8.wrap ((X : Int)) = ((UInt8.ofNat (X / 1)).toNat : Int) := by
                      rw [IntKind.wrap_u8', UInt8.toNat_ofNat']; omega
                    obtain ⟨z, hz⟩ : ∃ z, UInt8.ofNat (X / 1) = z := ⟨_, rfl⟩
                    have hbx : bytesX X 3 = bytesX X 2 ++ [z] := by
                      unfold bytesX
                      rw [List.range_succ, List.map_append, ← hz]; simp
                    rw [hz] at hby
                    have HBX := Lib.hid hbx
                    clear hz hbx
                    go_wp2_with (at_builtin; refine wpList_push_byte rfl _ _ rfl w.heap.size (out ++ bytesX X 2) _ z wr HOWN.out hB hbl rfl rfl ?_)
                    intro v' w5 hown' hg _
                    have HO2 := Lib.hid hown'; have HF2 := Lib.hid (push_fr HF.out HOWN.out hg)
                    clear hown' hg
                    go_wp2
                    go_roundw
                    case rel => exact ⟨3, by omega, by go_num, by rw [HBX.out]; exact HO2.out, HF2.out⟩
                    case measure => simp [RowKit.intOf]
                  · go_wp2
                    go_roundw
                    case rel =>
                      have hEQ := HEQ.out
                      rw [HG2.out] at hEQ
                      simp only at hEQ
                      refine ⟨g + 1, i0 + 4, out ++ bytesX X 3, by have := HI0.out; omega, by first | rfl | trivial, by first | rfl | trivial, by go_num, by simp [bytesX]; omega, by have := HI0.out; omega, ?_, HOWN.out, HF.out⟩
                      rw [hEQ, HT.out, show 4 * (g + 1) = 4 * g + 4 by omega]
                      cases unbG (s.data.toList.drop (4 * g + 4)) <;> simp
                    case measure => simp [RowKit.intOf]; omega
              · exact absurd (Nat.mod_one X) hz
      · have hd : s.data.toList.drop (4 * g) = [] := List.drop_eq_nil_of_le (by rw [HLEN.out]; omega)
        have he : unbG [] = some [] := by rw [unbG]; simp
        rw [hd, he] at heq
        clear he
        have HEQ := Lib.hid heq; have HOWN := Lib.hid hown; have HF := Lib.hid hF
        clear heq hown hF hd hi0
        go_wp2
        go_ret2
        refine ⟨?_, HF.out.below⟩
        rw [HUL.out, HEQ.out]
        exact ⟨_, rfl, by simpa using HOWN.out⟩
  · have t0 : (((s.size : Int) % 4) != 0) = true := by rw [bne_iff_ne]; omega
    have HUL : Hid (unbL s.data.toList = none) := Lib.hid (by unfold unbL; rw [if_neg (by rw [hlen]; exact h4)])
    clear hlen
    go_enter Tryz.func49, Tryz.ntmps49
    go_wp2
    go_ret2
    refine ⟨?_, Below.refl _ _⟩
    rw [HUL.out]; rfl
end Go.Proofs.YtpoglombagmhmaaGreatDoor
