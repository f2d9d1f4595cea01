/- netmail.consumeAddrSpec: a local part, the sign @, a domain; and where there is none: the walks. -/
import Derived.Test.YtpoglombagmhmaaGreatDoorOB
import Derived.Defers
import Derived.Laws.EntriesVeiled
namespace Go.Proofs.YtpoglombagmhmaaGreatDoor
open Go Go.RowKit

theorem results_tmp_cell {fn : Func} {p u : Tmp} {ty : TypeId} (h : fn.results = #[.tmp u, .cell p ty]) (tmps : Array Value) (P : Program) (w : World) :
    (results fn tmps).run P w =
      ((asAddr (tmps.getD p undef)).run P w).andThen fun a w₁ => ((loadVar ty a).run P w₁).andThen fun v w₂ => .ok (.tuple #[tmps.getD u undef, v]) w₂ := by
  simp only [results, h]
  simp [Sem.run_bind, Result.andThen]
theorem heap_setCell_other {w : World} {p : Addr} {v : Value} {k : Nat} (h : p.block ≠ k) : (w.setCell p v).heap[k]? = w.heap[k]? := by
  simp [World.setCell, Array.getElem?_modify, h]
/-- The parser, and the variables that the deferred function sees. -/
structure AV (pb : Nat) (s0 : ByteArray) (w : World) (R : ByteArray) (ev : Value) (wx : World) : Prop where
  ps : PS pb (.pointer none) R wx
  v1 : wx.heap[w.heap.size]? = some (.cells #[.pointer (some ⟨pb, 0, none⟩)] 61 (0, 0))
  v3 : wx.heap[w.heap.size + 1]? = some (.cells #[ev] 44 (0, 0))
  v4 : wx.heap[w.heap.size + 2]? = some (.cells #[.string s0, .pointer none] 64 (0, 0))
  fr : Fr (fun k => k ≠ pb ∧ k < w.heap.size) w wx
theorem AV.step {pb : Nat} {s0 R R' : ByteArray} {w wx wy : World} {ev : Value} (h : AV pb s0 w R ev wx) (hpb : pb < w.heap.size) (hp : PS pb (.pointer none) R' wy) (hf : Fr (fun k => k ≠ pb ∧ k < wx.heap.size) wx wy) : AV pb s0 w R' ev wy := by
  have lt : ∀ {k : Nat} {o : Obj}, wx.heap[k]? = some o → k < wx.heap.size := fun h => (Array.getElem?_eq_some_iff.1 h).1
  exact ⟨hp, by rw [hf.block _ ⟨by omega, lt h.v1⟩]; exact h.v1, by rw [hf.block _ ⟨by omega, lt h.v3⟩]; exact h.v3, by rw [hf.block _ ⟨by omega, lt h.v4⟩]; exact h.v4, h.fr.trans (hf.mono (fun k hk => ⟨hk.1, Nat.lt_of_lt_of_le hk.2 h.fr.size⟩))⟩
theorem AV.below {pb : Nat} {s0 R : ByteArray} {w wx wy : World} {ev : Value} (h : AV pb s0 w R ev wx) (hpb : pb < w.heap.size) (hb : Below wx.heap.size wx wy) : AV pb s0 w R ev wy := h.step hpb (h.ps.below hb) ((Fr.of_below hb).mono (fun _ hq => hq.2))
theorem AV.drewN {pb : Nat} {s0 R : ByteArray} {w wx : World} {ev : Value} (h : AV pb s0 w R ev wx) (hpb : pb < w.heap.size) (m : Nat) : AV pb s0 w R ev (wx.drewN m) := h.step hpb (h.ps.drewN m) ((Fr.refl _ _).drewN m)
theorem AV.err {pb : Nat} {s0 R : ByteArray} {w wx : World} {ev : Value} (h : AV pb s0 w R ev wx) (hpb : pb < w.heap.size) (ev' : Value) : AV pb s0 w R ev' (wx.setCell ⟨w.heap.size + 1, 0, none⟩ ev') :=
  ⟨h.ps.fr (heap_setCell_other (by simp; omega)), (heap_setCell_other (by simp)).trans h.v1, heap_setCell_row h.v3, (heap_setCell_other (by simp)).trans h.v4, h.fr.setCell (p := ⟨w.heap.size + 1, 0, none⟩) (fun e => by have := e.2; simp at this; omega) _⟩

theorem close_nil (b1 b2 b0 : Nat) (u : FrameMode) (w : World) (h : w.cell? ⟨b1, 0, none⟩ = some .nilIface) :
    CallsD Tryz.prog 53 #[.pointer (some ⟨b1, 0, none⟩), .pointer (some ⟨b2, 0, none⟩), .pointer (some ⟨b0, 0, none⟩)] u w fun e u' w' => u' = u ∧ (e = .returned (.tuple #[]) ∧ w' = w) := by
  go_enter_d Tryz.func53, Tryz.ntmps53
  go_wp2
  go_end0
  exact ⟨rfl, rfl⟩
theorem close_err (pb b1 b2 b0 : Nat) (s0 R : ByteArray) (et : TypeId) (ev : Value) (u : FrameMode) (w : World) (h : w.cell? ⟨b1, 0, none⟩ = some (.iface et ev)) (h0 : w.cell? ⟨b0, 0, none⟩ = some (.pointer (some ⟨pb, 0, none⟩)))
    (h20 : w.cell? ⟨b2, 0, none⟩ = some (.string s0)) (h21 : w.cell? ⟨b2, 1, none⟩ = some (.pointer none)) (hp : PS pb (.pointer none) R w) :
    CallsD Tryz.prog 53 #[.pointer (some ⟨b1, 0, none⟩), .pointer (some ⟨b2, 0, none⟩), .pointer (some ⟨b0, 0, none⟩)] u w fun e u' w' => u' = u ∧ (e = .returned (.tuple #[]) ∧ PS pb (.pointer none) s0 w' ∧ Fr (· ≠ pb) w w') := by
  obtain ⟨c0, c1, f0, hlt⟩ := hp.cells
  have hp' : w.heap[pb]? = some (.cells #[.string R, .pointer none] 64 (0, 0)) := hp
  have f1 : w.frozen? ⟨pb, 1, none⟩ = false := Lib.frozen_of_heap hp' 1
  have HB := Lib.hid (show PS pb (.pointer none) s0 ((w.setCell ⟨pb, 0, none⟩ (.string s0)).setCell ⟨pb, 1, none⟩ (.pointer none)) from heap_setCell_row (heap_setCell_row hp'))
  have HF := Lib.hid (show Fr (· ≠ pb) w ((w.setCell ⟨pb, 0, none⟩ (.string s0)).setCell ⟨pb, 1, none⟩ (.pointer none)) from ((Fr.refl _ w).setCell (p := ⟨pb, 0, none⟩) (fun e => e rfl) _).setCell (p := ⟨pb, 1, none⟩) (fun e => e rfl) _)
  clear hp hp'
  go_enter_d Tryz.func53, Tryz.ntmps53
  go_wp2
  go_end0
  exact ⟨rfl, HB.out, HF.out⟩
theorem AV.cells {pb : Nat} {s0 R : ByteArray} {w wx : World} {ev : Value} (h : AV pb s0 w R ev wx) : wx.cell? ⟨w.heap.size, 0, none⟩ = some (.pointer (some ⟨pb, 0, none⟩)) ∧ wx.cell? ⟨w.heap.size + 1, 0, none⟩ = some ev ∧ wx.frozen? ⟨w.heap.size + 1, 0, none⟩ = false ∧ wx.cell? ⟨w.heap.size + 2, 0, none⟩ = some (.string s0) ∧ wx.cell? ⟨w.heap.size + 2, 1, none⟩ = some (.pointer none) :=
  ⟨by rw [Lib.cell_of_heap h.v1]; rfl, by rw [Lib.cell_of_heap h.v3]; rfl, Lib.frozen_of_heap h.v3 0, by rw [Lib.cell_of_heap h.v4]; rfl, by rw [Lib.cell_of_heap h.v4]; rfl⟩
theorem strict_of {a : List UInt8} (h : noDD a = true) (h0 : ∀ c t, a = c :: t → c ≠ 46) : Lib.hasPrefix a [46] = false ∧ (∀ j, ¬ Hit [46, 46] a j) ∧ Lib.hasSuffix a [46] = false := by
  refine ⟨?_, fun j hj => ?_, ?_⟩
  · cases hp : Lib.hasPrefix a [46] with
    | false => rfl
    | true =>
      unfold Lib.hasPrefix at hp
      rw [List.isPrefixOf_iff_prefix] at hp
      obtain ⟨r, rfl⟩ := hp
      exact absurd rfl (h0 46 r rfl)
  · unfold Hit at hj
    have h2 := List.take_append_drop 2 (a.drop j)
    rw [show (a.drop j).take 2 = [46, 46] from hj] at h2
    exact noDD_at a j h ((a.drop j).drop 2) h2.symm
  · cases hp : Lib.hasSuffix a [46] with
    | false => rfl
    | true =>
      unfold Lib.hasSuffix at hp
      rw [List.isSuffixOf_iff_suffix] at hp
      obtain ⟨A, hA⟩ := hp
      exact absurd hA.symm (noDD_last a h A)
theorem dots_strict {a : List UInt8} (h : DotsT false a) : a ≠ [] ∧ Lib.hasPrefix a [46] = false ∧ (∀ j, ¬ Hit [46, 46] a j) ∧ Lib.hasSuffix a [46] = false := by
  obtain ⟨c, t, rfl, hc⟩ := h.head
  exact ⟨by simp, strict_of h.noDD (fun d u e => by cases e; exact atom_ne46 hc)⟩
theorem atom_strict {a : List UInt8} (h0 : a ≠ []) (h : ∀ c ∈ a, atomB c = true) : Lib.hasPrefix a [46] = false ∧ (∀ j, ¬ Hit [46, 46] a j) ∧ Lib.hasSuffix a [46] = false := by
  have := DotsT.atom a [] h0 h .nil
  rw [List.append_nil] at this
  exact (dots_strict this).2
theorem dots_while {L r : List UInt8} (h : DotsT false L) (hr : ∀ c t, r = c :: t → atomD c = false) : (L ++ r).takeWhile atomD = L ∧ (L ++ r).dropWhile atomD = r := by
  have h1 := while_app (p := atomD) (a := L) (l := r) h.all
  cases r with
  | nil => simpa using h1
  | cons c t =>
    have hc := hr c t rfl
    rw [List.takeWhile_cons_of_neg (by rw [hc]; simp), List.dropWhile_cons_of_neg (by rw [hc]; simp), List.append_nil] at h1
    exact h1

/-! the parser's small steps, on lists -/
theorem bs_cons (c : UInt8) (t : List UInt8) : ∃ h0 : 0 < (bs (c :: t)).size, (bs (c :: t))[0] = c := ⟨by rw [bs_size]; simp, rfl⟩
theorem bs_tail (c : UInt8) (t : List UInt8) : (bs (c :: t)).extract 1 (bs (c :: t)).size = bs t := by
  rw [← bs_of ((bs (c :: t)).extract 1 (bs (c :: t)).size)]
  congr 1
  have := extract_list (bs (c :: t)) 1 t.length
  rw [bs_size, show (c :: t).length = 1 + t.length by simp; omega, this, bs_list]
  simp
theorem consL_yes (pb : Nat) (c : UInt8) (t : List UInt8) (w : World) (h : PS pb (.pointer none) (bs (c :: t)) w) : Calls Tryz.prog 32 #[.pointer (some ⟨pb, 0, none⟩), .int .u8 c.toNat] w fun x w' => x = .returned (.bool true) ∧ PS pb (.pointer none) (bs t) w' ∧ Fr (· ≠ pb) w w' := by
  obtain ⟨h0, hc⟩ := bs_cons c t
  have := pconsume_yes pb (.pointer none) _ c w h h0 hc
  rwa [bs_tail] at this
theorem consL_no (pb : Nat) (c : UInt8) (R : List UInt8) (w : World) (h : PS pb (.pointer none) (bs R) w) (hn : ∀ t, R ≠ c :: t) : Calls Tryz.prog 32 #[.pointer (some ⟨pb, 0, none⟩), .int .u8 c.toNat] w fun x w' => x = .returned (.bool false) ∧ ∃ m, w' = w.drewN m := by
  refine pconsume_no pb (.pointer none) _ c w h (fun h0 e => ?_)
  cases R with
  | nil => rw [bs_size] at h0; simp at h0
  | cons d t =>
    have : d = c := e
    exact hn t (by rw [this])
theorem skipL (pb : Nat) (R : List UInt8) (w : World) (h : PS pb (.pointer none) (bs R) w) (hs : R.length ≤ 140737488355328) : Calls Tryz.prog 31 #[.pointer (some ⟨pb, 0, none⟩)] w fun x w' => x = .returned (.tuple #[]) ∧ PS pb (.pointer none) (bs (R.dropWhile isSp)) w' ∧ Fr (fun k => k ≠ pb ∧ k < w.heap.size) w w' := by
  have := pskip_any pb (.pointer none) (bs R) w h (by rw [bs_size]; exact hs)
  rwa [bs_list] at this
theorem cfwsL (pb : Nat) (R : List UInt8) (w : World) (h : PS pb (.pointer none) (bs R) w) (hs : R.length ≤ 140737488355328) (hn : ∀ t, R.dropWhile isSp ≠ 40 :: t) : Calls Tryz.prog 34 #[.pointer (some ⟨pb, 0, none⟩)] w fun x w' => x = .returned (.bool true) ∧ PS pb (.pointer none) (bs (R.dropWhile isSp)) w' ∧ Fr (fun k => k ≠ pb ∧ k < w.heap.size) w w' := by
  have := pcfws_any pb (.pointer none) (bs R) w h (by rw [bs_size]; exact hs) (fun c t e hc => hn t (by rw [bs_list] at e; rw [e, hc]))
  rwa [bs_list] at this
/-- What a text is to consumeAddrSpec: a local part and a domain, and what is behind; or none. -/
inductive CA (R : List UInt8) : Option (List UInt8 × List UInt8) → Prop
  | yes (L D R4 : List UInt8) (hR : R = L ++ 64 :: (D ++ R4)) (hL : DotsT false L) (hD : DotsT false D) (h4 : ∀ c t, R4 = c :: t → atomD c = false) : CA R (some (L ++ 64 :: D, R4))
  | quote (T x : List UInt8) (n : Nat) (hR : R = 34 :: T) (hq : quotedL T = some (x, n)) (hx : x ≠ []) (h4 : ∀ t, T.drop n ≠ 64 :: t) : CA R none
  | atom (a : List UInt8) (h0 : a ≠ []) (h : ∀ c ∈ a, atomB c = true) (ht : R.takeWhile atomD = a) (h4 : ∀ t, R.dropWhile atomD ≠ 64 :: t) : CA R none
  | none_ (c : UInt8) (t : List UInt8) (hR : R = c :: t) (h1 : atomD c = false) (h2 : c ≠ 34) (h3 : isSp c = false) : CA R none
def CARes (pb : Nat) (R : List UInt8) (o : Option (List UInt8 × List UInt8)) (r : Ending) (w' : World) : Prop :=
  match o with
  | some p => r = .returned (.tuple #[.string (bs p.1), .nilIface]) ∧ PS pb (.pointer none) (bs p.2) w'
  | none => (∃ et ev, r = .returned (.tuple #[.string ⟨#[]⟩, .iface et ev])) ∧ PS pb (.pointer none) (bs R) w'

-- WALKS
theorem AV.start {pb : Nat} {R : List UInt8} {w wA : World} (hwA : (w.alloc (.cells #[.pointer (some ⟨pb, 0, none⟩)] 61)).alloc (.cells #[.nilIface] 44) = wA) (h : PS pb (.pointer none) (bs R) w) :
    AV pb (bs R) w (bs R) .nilIface (wA.alloc (.cells #[.string (bs R), .pointer none] 64)) := by
  subst hwA
  have hpb := h.cells.2.2.2
  refine ⟨h.below ((((Below.refl _ w).alloc (Nat.le_refl _) _).alloc (by simp) _).alloc (by simp; omega) _), ?_, ?_, ?_, ?_⟩
  · exact ((Below.heap_alloc _ _ w.heap.size (by simp; omega)).trans (Below.heap_alloc _ _ w.heap.size (by simp))).trans (heap_alloc_new w _)
  · have h1 := heap_alloc_new (w.alloc (.cells #[.pointer (some ⟨pb, 0, none⟩)] 61)) (.cells #[.nilIface] 44)
    have h2 : (w.alloc (.cells #[.pointer (some ⟨pb, 0, none⟩)] 61)).heap.size = w.heap.size + 1 := by simp
    rw [h2] at h1
    exact (Below.heap_alloc _ _ (w.heap.size + 1) (by simp)).trans h1
  · have h1 := heap_alloc_new ((w.alloc (.cells #[.pointer (some ⟨pb, 0, none⟩)] 61)).alloc (.cells #[.nilIface] 44)) (.cells #[.string (bs R), .pointer none] 64)
    have h2 : ((w.alloc (.cells #[.pointer (some ⟨pb, 0, none⟩)] 61)).alloc (.cells #[.nilIface] 44)).heap.size = w.heap.size + 2 := by simp
    rw [h2] at h1
    exact h1
  · exact ((((Fr.refl _ w).alloc (fun k hk => hk.2) _).alloc (fun k hk => by have := hk.2; simp; omega) _).alloc (fun k hk => by have := hk.2; simp; omega) _)
theorem catomL (pb : Nat) (L r : List UInt8) (w : World) (h : PS pb (.pointer none) (bs (L ++ r)) w) (hs : (L ++ r).length ≤ 1099511627776) (hg : GoodS (L ++ r)) (hT : Lib.Utf8Tabs 0 1 w) (hL : DotsT false L) (hr : ∀ c t, r = c :: t → atomD c = false) :
    Calls Tryz.prog 55 #[.pointer (some ⟨pb, 0, none⟩), .bool true, .bool false] w fun x w' => x = .returned (.tuple #[.string (bs L), .nilIface]) ∧ PS pb (.pointer none) (bs r) w' ∧ Fr (fun k => k ≠ pb ∧ k < w.heap.size) w w' := by
  obtain ⟨e1, e2⟩ := dots_while hL hr
  obtain ⟨d0, d1, d2, d3⟩ := dots_strict hL
  have := catom_strict pb (.pointer none) (bs (L ++ r)) w h (by rw [bs_size]; exact hs) (by rw [bs_list]; exact hg.valid) hT (by rw [bs_list, e1]; exact d0) (by rw [bs_list, e1]; exact d1) (by rw [bs_list, e1]; exact d2) (by rw [bs_list, e1]; exact d3)
  rw [bs_list, e1, e2] at this
  exact this
theorem door_res (tmps : Array Value) (b : Nat) (O : ByteArray) (ev : Value) (w : World) (h2 : tmps.getD 2 undef = .string O) (h3 : tmps.getD 3 undef = .pointer (some ⟨b, 0, none⟩)) (hc : w.cell? ⟨b, 0, none⟩ = some ev) :
    (results Tryz.f41 tmps).run Tryz.prog w = .ok (.tuple #[.string O, ev]) w := by
  rw [results_tmp_cell (p := 3) (u := 2) (ty := 44) rfl, h2, h3]
  simp [go_sem, hc]
theorem door_ok {pb : Nat} {s0 R : ByteArray} {w wx : World} (tmps : Array Value) (O : ByteArray) {Q : Ending → World → Prop} (hv : AV pb s0 w R .nilIface wx) (h2 : tmps.getD 2 undef = .string O) (h3 : tmps.getD 3 undef = .pointer (some ⟨w.heap.size + 1, 0, none⟩)) (hQ : Q (.returned (.tuple #[.string O, .nilIface])) wx) :
    Leaves Tryz.prog Tryz.f41 tmps Q [{ target := .fn (.func 53) #[.pointer (some ⟨w.heap.size + 1, 0, none⟩), .pointer (some ⟨w.heap.size + 2, 0, none⟩), .pointer (some ⟨w.heap.size, 0, none⟩)], args := #[] }] .returning wx := by
  obtain ⟨k1, k2, k3, k4, k5⟩ := hv.cells
  refine leaves_cons (f := 53) (args := #[.pointer (some ⟨w.heap.size + 1, 0, none⟩), .pointer (some ⟨w.heap.size + 2, 0, none⟩), .pointer (some ⟨w.heap.size, 0, none⟩)]) (by simp) (by simp [go_sem]) ?_
  refine (close_nil _ _ _ _ _ k2).mono ?_
  rintro e u' w9 ⟨rfl, rfl, rfl⟩
  exact ⟨_, door_res tmps _ O .nilIface _ h2 h3 k2, hQ⟩
theorem door_err {pb : Nat} {s0 R : ByteArray} {et : TypeId} {ev : Value} {w wx : World} (tmps : Array Value) (O : ByteArray) {Q : Ending → World → Prop} (hpb : pb < w.heap.size) (hv : AV pb s0 w R (.iface et ev) wx) (h2 : tmps.getD 2 undef = .string O) (h3 : tmps.getD 3 undef = .pointer (some ⟨w.heap.size + 1, 0, none⟩)) (hQ : ∀ w', PS pb (.pointer none) s0 w' → Fr (fun k => k ≠ pb ∧ k < w.heap.size) w w' → Q (.returned (.tuple #[.string O, .iface et ev])) w') :
    Leaves Tryz.prog Tryz.f41 tmps Q [{ target := .fn (.func 53) #[.pointer (some ⟨w.heap.size + 1, 0, none⟩), .pointer (some ⟨w.heap.size + 2, 0, none⟩), .pointer (some ⟨w.heap.size, 0, none⟩)], args := #[] }] .returning wx := by
  obtain ⟨k1, k2, k3, k4, k5⟩ := hv.cells
  refine leaves_cons (f := 53) (args := #[.pointer (some ⟨w.heap.size + 1, 0, none⟩), .pointer (some ⟨w.heap.size + 2, 0, none⟩), .pointer (some ⟨w.heap.size, 0, none⟩)]) (by simp) (by simp [go_sem]) ?_
  refine (close_err pb _ _ _ s0 R et ev _ _ k2 k1 k4 k5 hv.ps).mono ?_
  rintro e u' w9 ⟨rfl, rfl, hp, hf⟩
  refine ⟨_, door_res tmps _ O (.iface et ev) _ h2 h3 ?_, hQ _ hp (hv.fr.trans (hf.mono (fun k hk => hk.1)))⟩
  rw [hf.cell (p := ⟨w.heap.size + 1, 0, none⟩) (by show w.heap.size + 1 ≠ pb; omega)]
  exact k2
set_option maxHeartbeats 4000000 in
set_option maxRecDepth 100000 in
theorem caddr_yes (pb : Nat) (R : List UInt8) (L D R4 : List UInt8) (w : World) (h : PS pb (.pointer none) (bs R) w) (hs : R.length ≤ 1099511626000) (hg : GoodS R) (hR0 : R = L ++ 64 :: (D ++ R4)) (hL : DotsT false L) (hD : DotsT false D) (h4 : ∀ c t, R4 = c :: t → atomD c = false) (hT : Lib.Utf8Tabs 0 1 w) (hgp : pb ≠ 0 ∧ pb ≠ 1) :
    Calls Tryz.prog 41 #[.pointer (some ⟨pb, 0, none⟩)] w fun r w' => CARes pb R (some (L ++ 64 :: D, R4)) r w' ∧ Fr (fun k => k ≠ pb ∧ k < w.heap.size) w w' := by
  have hpb := h.cells.2.2.2
  obtain ⟨c, t0, hLc, hca⟩ := hL.head
  obtain ⟨d, u0, hDc, hda⟩ := hD.head
  have hR : R = c :: (t0 ++ 64 :: (D ++ R4)) := by rw [hR0, hLc]; rfl
  have hcs : isSp c = false := atom_neSp hca
  obtain ⟨t, ht⟩ : ∃ t, t0 ++ 64 :: (D ++ R4) = t := ⟨_, rfl⟩
  rw [ht] at hR
  have hDR : D ++ R4 = d :: (u0 ++ R4) := by rw [hDc]; rfl
  obtain ⟨u, hu⟩ : ∃ u, u0 ++ R4 = u := ⟨_, rfl⟩
  rw [hu] at hDR
  have hds : isSp d = false := atom_neSp hda
  have HR := Lib.hid hR; have HR0 := Lib.hid hR0; have HDR := Lib.hid hDR
  clear ht hR hLc hDc hR0 hDR hu
  have hmf : ∀ (fn : Fn) (first cap : Array Value) (w : World), (Instr.makeFunc fn first cap).run Tryz.prog w = .ok (.func fn first cap) w := fun _ _ _ _ => rfl
  obtain ⟨wA, hwA⟩ : ∃ wA, (w.alloc (.cells #[.pointer (some ⟨pb, 0, none⟩)] 61)).alloc (.cells #[.nilIface] 44) = wA := ⟨_, rfl⟩
  have hpA : PS pb (.pointer none) (bs R) wA := by
    rw [← hwA]
    exact h.below (((Below.refl _ w).alloc (Nat.le_refl _) _).alloc (by simp) _)
  have hcA : wA.cell? ⟨w.heap.size, 0, none⟩ = some (.pointer (some ⟨pb, 0, none⟩)) := by
    rw [← hwA]
    rw [Lib.cell_of_heap ((Below.heap_alloc _ _ w.heap.size (by simp)).trans (heap_alloc_new w _))]
    rfl
  have hsA : wA.heap.size = w.heap.size + 2 := by rw [← hwA]; simp
  have HV0 := Lib.hid (AV.start hwA h)
  have HT0 := Lib.hid (tabs_b (pb := pb) hT HV0.out.fr hgp.1 hgp.2)
  obtain ⟨c0, c1, f0, hltA⟩ := hpA.cells
  have HG := Lib.hid hg; have HT := Lib.hid hT; have HGP := Lib.hid hgp
  clear hg hT hgp h hpA
  go_enter_defers Tryz.func41, Tryz.ntmps41
  go_wp2_with fail
  refine (skipL pb R _ HV0.out.ps (by omega)).mono ?_
  rintro x w1 ⟨rfl, hp1, hf1⟩
  rw [HR.out, nosp_drop hcs, ← HR.out] at hp1
  have HV1 := Lib.hid (HV0.out.step hpb hp1 hf1)
  clear hp1 hf1 hwA hcA hsA c0 c1 f0 hltA HT0
  obtain ⟨k1, k2, k3, k4, k5⟩ := HV1.out.cells
  go_wp2_with fail
  refine (pempty_any pb (.pointer none) (bs R) _ HV1.out.ps).mono ?_
  rintro x w2 ⟨rfl, hw2⟩
  subst hw2
  rw [show decide ((bs R).size = 0) = false by rw [bs_size, HR.out]; simp]
  obtain ⟨p0, pc⟩ : ∃ h0 : 0 < (bs R).size, (bs R)[0] = c := by rw [HR.out]; exact bs_cons c t
  go_wp2_with fail
  refine (ppeek_any pb (.pointer none) _ c _ HV1.out.ps p0 pc).mono ?_
  rintro x w3 ⟨rfl, m3, rfl⟩
  have HV3 := Lib.hid (HV1.out.drewN hpb m3)
  clear k1 k2 k3 k4 k5 p0 pc
  generalize w2.drewN m3 = w4 at HV3 ⊢
  obtain ⟨k1, k2, k3, k4, k5⟩ := HV3.out.cells
  have HT4 := Lib.hid (tabs_b (pb := pb) HT.out HV3.out.fr HGP.out.1 HGP.out.2)
  have z34 : ((c.toNat : Int) == 34) = false := cneq (x := 34) (fun e => by rw [e] at hca; exact absurd hca (by decide))
  have hgl : GoodS (L ++ 64 :: (D ++ R4)) := by rw [← HR0.out]; exact HG.out
  have hll : (L ++ 64 :: (D ++ R4)).length ≤ 1099511626000 := by rw [← HR0.out]; exact hs
  have hps3 : PS pb (.pointer none) (bs (L ++ 64 :: (D ++ R4))) w4 := by rw [← HR0.out]; exact HV3.out.ps
  have HGL := Lib.hid hgl; have HPS3 := Lib.hid hps3
  clear hgl hps3
  go_wp2_with fail
  refine (catomL pb L (64 :: (D ++ R4)) _ HPS3.out (by omega) HGL.out HT4.out hL (fun c t e => by cases e; decide)).mono ?_
  rintro x w5 ⟨rfl, hp5, hf5⟩
  have HV5 := Lib.hid (HV3.out.step hpb hp5 hf5)
  clear hp5 hf5 k1 k2 k3 k4 k5 HPS3
  obtain ⟨k1, k2, k3, k4, k5⟩ := HV5.out.cells
  have HV6 := Lib.hid (HV5.out.err hpb .nilIface)
  go_wp2_with fail
  clear k1 k2 k3 k4 k5
  generalize w5.setCell ⟨w.heap.size + 1, 0, none⟩ .nilIface = w6 at HV6 ⊢
  refine (consL_yes pb 64 (D ++ R4) _ HV6.out.ps).mono ?_
  rintro x w7 ⟨rfl, hp7, hf7⟩
  have HV7 := Lib.hid (HV6.out.step hpb hp7 (hf7.mono (fun k hk => hk.1)))
  clear hp7 hf7
  obtain ⟨k1, k2, k3, k4, k5⟩ := HV7.out.cells
  have hlD : (D ++ R4).length ≤ 1099511626000 := by simp at hll ⊢; omega
  go_wp2_with fail
  refine (skipL pb (D ++ R4) _ HV7.out.ps (by omega)).mono ?_
  rintro x w8 ⟨rfl, hp8, hf8⟩
  rw [HDR.out, nosp_drop hds, ← HDR.out] at hp8
  have HV8 := Lib.hid (HV7.out.step hpb hp8 hf8)
  clear hp8 hf8 k1 k2 k3 k4 k5
  obtain ⟨k1, k2, k3, k4, k5⟩ := HV8.out.cells
  go_wp2_with fail
  refine (pempty_any pb (.pointer none) (bs (D ++ R4)) _ HV8.out.ps).mono ?_
  rintro x w9 ⟨rfl, hw9⟩
  subst hw9
  rw [show decide ((bs (D ++ R4)).size = 0) = false by rw [bs_size, HDR.out]; simp]
  obtain ⟨p0, pc⟩ : ∃ h0 : 0 < (bs (D ++ R4)).size, (bs (D ++ R4))[0] = d := by rw [HDR.out]; exact bs_cons d u
  have z91 : ((d.toNat : Int) == 91) = false := cneq (x := 91) (fun e => by rw [e] at hda; exact absurd hda (by decide))
  go_wp2_with fail
  refine (ppeek_any pb (.pointer none) _ d _ HV8.out.ps p0 pc).mono ?_
  rintro x wa ⟨rfl, ma, rfl⟩
  have HVA := Lib.hid (HV8.out.drewN hpb ma)
  clear k1 k2 k3 k4 k5 p0 pc
  generalize w9.drewN ma = wb at HVA ⊢
  obtain ⟨k1, k2, k3, k4, k5⟩ := HVA.out.cells
  have HTB := Lib.hid (tabs_b (pb := pb) HT.out HVA.out.fr HGP.out.1 HGP.out.2)
  have HGD := Lib.hid (GoodS.tail (GoodS.sub (A := L) (R := 64 :: (D ++ R4)) HGL.out (fun x y e => by cases e; decide)) (by decide))
  go_wp2_with fail
  refine (catomL pb D R4 _ HVA.out.ps (by omega) HGD.out HTB.out hD h4).mono ?_
  rintro x wc ⟨rfl, hpc, hfc⟩
  have HVC := Lib.hid (HVA.out.step hpb hpc hfc)
  clear hpc hfc k1 k2 k3 k4 k5
  obtain ⟨k1, k2, k3, k4, k5⟩ := HVC.out.cells
  have HVD := Lib.hid (HVC.out.err hpb .nilIface)
  have HVE := Lib.hid (HVD.out.err hpb .nilIface)
  obtain ⟨j1, j2, j3, j4, j5⟩ := HVE.out.cells
  obtain ⟨O, hO⟩ : ∃ O, bs (L ++ 64 :: D) = O := ⟨_, rfl⟩
  have hcat : bs L ++ ⟨#[64]⟩ ++ bs D = O := by
    rw [← hO, show (⟨#[64]⟩ : ByteArray) = bs [64] from rfl, bs_app, bs_app]; simp
  have hsL : (bs L).size ≤ 1099511626000 := by rw [bs_size]; simp at hll; omega
  have hsD : (bs D).size ≤ 1099511626000 := by rw [bs_size]; simp at hlD; omega
  go_wp2
  exact door_ok _ O HVE.out rfl rfl ⟨⟨by rw [← hO], HVE.out.ps⟩, HVE.out.fr⟩
set_option maxHeartbeats 4000000 in
set_option maxRecDepth 100000 in
theorem caddr_none (pb : Nat) (R : List UInt8) (c : UInt8) (t : List UInt8) (w : World) (h : PS pb (.pointer none) (bs R) w) (hs : R.length ≤ 1099511626000) (hg : GoodS R) (hR : R = c :: t) (h1 : atomD c = false) (h2 : c ≠ 34) (hcs : isSp c = false) (hT : Lib.Utf8Tabs 0 1 w) (hgp : pb ≠ 0 ∧ pb ≠ 1) :
    Calls Tryz.prog 41 #[.pointer (some ⟨pb, 0, none⟩)] w fun r w' => CARes pb R (none) r w' ∧ Fr (fun k => k ≠ pb ∧ k < w.heap.size) w w' := by
  have hpb := h.cells.2.2.2
  have HR := Lib.hid hR
  clear hR
  have hmf : ∀ (fn : Fn) (first cap : Array Value) (w : World), (Instr.makeFunc fn first cap).run Tryz.prog w = .ok (.func fn first cap) w := fun _ _ _ _ => rfl
  obtain ⟨wA, hwA⟩ : ∃ wA, (w.alloc (.cells #[.pointer (some ⟨pb, 0, none⟩)] 61)).alloc (.cells #[.nilIface] 44) = wA := ⟨_, rfl⟩
  have hpA : PS pb (.pointer none) (bs R) wA := by
    rw [← hwA]
    exact h.below (((Below.refl _ w).alloc (Nat.le_refl _) _).alloc (by simp) _)
  have hcA : wA.cell? ⟨w.heap.size, 0, none⟩ = some (.pointer (some ⟨pb, 0, none⟩)) := by
    rw [← hwA]
    rw [Lib.cell_of_heap ((Below.heap_alloc _ _ w.heap.size (by simp)).trans (heap_alloc_new w _))]
    rfl
  have hsA : wA.heap.size = w.heap.size + 2 := by rw [← hwA]; simp
  have HV0 := Lib.hid (AV.start hwA h)
  have HT0 := Lib.hid (tabs_b (pb := pb) hT HV0.out.fr hgp.1 hgp.2)
  obtain ⟨c0, c1, f0, hltA⟩ := hpA.cells
  have HG := Lib.hid hg; have HT := Lib.hid hT; have HGP := Lib.hid hgp
  clear hg hT hgp h hpA
  go_enter_defers Tryz.func41, Tryz.ntmps41
  go_wp2_with fail
  refine (skipL pb R _ HV0.out.ps (by omega)).mono ?_
  rintro x w1 ⟨rfl, hp1, hf1⟩
  rw [HR.out, nosp_drop hcs, ← HR.out] at hp1
  have HV1 := Lib.hid (HV0.out.step hpb hp1 hf1)
  clear hp1 hf1 hwA hcA hsA c0 c1 f0 hltA HT0
  obtain ⟨k1, k2, k3, k4, k5⟩ := HV1.out.cells
  go_wp2_with fail
  refine (pempty_any pb (.pointer none) (bs R) _ HV1.out.ps).mono ?_
  rintro x w2 ⟨rfl, hw2⟩
  subst hw2
  rw [show decide ((bs R).size = 0) = false by rw [bs_size, HR.out]; simp]
  obtain ⟨p0, pc⟩ : ∃ h0 : 0 < (bs R).size, (bs R)[0] = c := by rw [HR.out]; exact bs_cons c t
  go_wp2_with fail
  refine (ppeek_any pb (.pointer none) _ c _ HV1.out.ps p0 pc).mono ?_
  rintro x w3 ⟨rfl, m3, rfl⟩
  have HV3 := Lib.hid (HV1.out.drewN hpb m3)
  clear k1 k2 k3 k4 k5 p0 pc
  generalize w2.drewN m3 = w4 at HV3 ⊢
  obtain ⟨k1, k2, k3, k4, k5⟩ := HV3.out.cells
  have HT4 := Lib.hid (tabs_b (pb := pb) HT.out HV3.out.fr HGP.out.1 HGP.out.2)
  have z34 : ((c.toNat : Int) == 34) = false := cneq h2
  go_wp2_with fail
  refine (catom_none pb (.pointer none) false (bs R) _ HV3.out.ps (by rw [bs_list]; exact HG.out.valid) HT4.out (fun d u e => by rw [bs_list, HR.out] at e; cases e; exact h1)).mono ?_
  rintro x w5 ⟨⟨v, rfl⟩, hb5⟩
  have HV5 := Lib.hid (HV3.out.below hpb hb5)
  clear hb5 k1 k2 k3 k4 k5
  obtain ⟨k1, k2, k3, k4, k5⟩ := HV5.out.cells
  have HV6 := Lib.hid (HV5.out.err hpb (.iface 91 v))
  go_upto_region 13 with fail
  clear k1 k2 k3 k4 k5
  generalize w5.setCell ⟨w.heap.size + 1, 0, none⟩ (.iface 91 v) = w6 at HV6 ⊢
  obtain ⟨k1, k2, k3, k4, k5⟩ := HV6.out.cells
  go_still_tail 2, (by kernel_rfl)
  change wpList _ _ _ _ _ w6.drew
  have HV7 := Lib.hid (show AV pb (bs R) w (bs R) (.iface 91 v) w6.drew from HV6.out.drewN hpb 1)
  clear k1 k2 k3 k4 k5
  generalize w6.drew = w7 at HV7 ⊢
  obtain ⟨k1, k2, k3, k4, k5⟩ := HV7.out.cells
  have HV9 := Lib.hid (HV7.out.err hpb (.iface 91 v))
  go_wp2
  exact door_err _ ⟨#[]⟩ hpb HV9.out rfl rfl (fun w' hp hf => ⟨⟨⟨_, _, rfl⟩, hp⟩, hf⟩)
set_option maxHeartbeats 4000000 in
set_option maxRecDepth 100000 in
theorem caddr_atom (pb : Nat) (R : List UInt8) (a : List UInt8) (w : World) (h : PS pb (.pointer none) (bs R) w) (hs : R.length ≤ 1099511626000) (hg : GoodS R) (ha0 : a ≠ []) (ha : ∀ c ∈ a, atomB c = true) (htw : R.takeWhile atomD = a) (h4 : ∀ t, R.dropWhile atomD ≠ 64 :: t) (hT : Lib.Utf8Tabs 0 1 w) (hgp : pb ≠ 0 ∧ pb ≠ 1) :
    Calls Tryz.prog 41 #[.pointer (some ⟨pb, 0, none⟩)] w fun r w' => CARes pb R (none) r w' ∧ Fr (fun k => k ≠ pb ∧ k < w.heap.size) w w' := by
  have hpb := h.cells.2.2.2
  obtain ⟨c, t, hR, hca⟩ : ∃ c t, R = c :: t ∧ atomB c = true := by
    cases hr : R with
    | nil => rw [hr] at htw; exact absurd htw.symm ha0
    | cons c t =>
      refine ⟨c, t, rfl, ?_⟩
      rw [hr, List.takeWhile_cons] at htw
      split at htw
      · exact ha c (by rw [← htw]; simp)
      · exact absurd htw.symm ha0
  have hcs : isSp c = false := atom_neSp hca
  obtain ⟨d1, d2, d3⟩ := atom_strict ha0 ha
  obtain ⟨U, hU⟩ : ∃ U, R.dropWhile atomD = U := ⟨_, rfl⟩
  rw [hU] at h4
  have HR := Lib.hid hR; have H4 := Lib.hid h4; have HU := Lib.hid hU; have HTW := Lib.hid htw
  clear hR h4 hU htw
  have hmf : ∀ (fn : Fn) (first cap : Array Value) (w : World), (Instr.makeFunc fn first cap).run Tryz.prog w = .ok (.func fn first cap) w := fun _ _ _ _ => rfl
  obtain ⟨wA, hwA⟩ : ∃ wA, (w.alloc (.cells #[.pointer (some ⟨pb, 0, none⟩)] 61)).alloc (.cells #[.nilIface] 44) = wA := ⟨_, rfl⟩
  have hpA : PS pb (.pointer none) (bs R) wA := by
    rw [← hwA]
    exact h.below (((Below.refl _ w).alloc (Nat.le_refl _) _).alloc (by simp) _)
  have hcA : wA.cell? ⟨w.heap.size, 0, none⟩ = some (.pointer (some ⟨pb, 0, none⟩)) := by
    rw [← hwA]
    rw [Lib.cell_of_heap ((Below.heap_alloc _ _ w.heap.size (by simp)).trans (heap_alloc_new w _))]
    rfl
  have hsA : wA.heap.size = w.heap.size + 2 := by rw [← hwA]; simp
  have HV0 := Lib.hid (AV.start hwA h)
  have HT0 := Lib.hid (tabs_b (pb := pb) hT HV0.out.fr hgp.1 hgp.2)
  obtain ⟨c0, c1, f0, hltA⟩ := hpA.cells
  have HG := Lib.hid hg; have HT := Lib.hid hT; have HGP := Lib.hid hgp
  clear hg hT hgp h hpA
  go_enter_defers Tryz.func41, Tryz.ntmps41
  go_wp2_with fail
  refine (skipL pb R _ HV0.out.ps (by omega)).mono ?_
  rintro x w1 ⟨rfl, hp1, hf1⟩
  rw [HR.out, nosp_drop hcs, ← HR.out] at hp1
  have HV1 := Lib.hid (HV0.out.step hpb hp1 hf1)
  clear hp1 hf1 hwA hcA hsA c0 c1 f0 hltA HT0
  obtain ⟨k1, k2, k3, k4, k5⟩ := HV1.out.cells
  go_wp2_with fail
  refine (pempty_any pb (.pointer none) (bs R) _ HV1.out.ps).mono ?_
  rintro x w2 ⟨rfl, hw2⟩
  subst hw2
  rw [show decide ((bs R).size = 0) = false by rw [bs_size, HR.out]; simp]
  obtain ⟨p0, pc⟩ : ∃ h0 : 0 < (bs R).size, (bs R)[0] = c := by rw [HR.out]; exact bs_cons c t
  go_wp2_with fail
  refine (ppeek_any pb (.pointer none) _ c _ HV1.out.ps p0 pc).mono ?_
  rintro x w3 ⟨rfl, m3, rfl⟩
  have HV3 := Lib.hid (HV1.out.drewN hpb m3)
  clear k1 k2 k3 k4 k5 p0 pc
  generalize w2.drewN m3 = w4 at HV3 ⊢
  obtain ⟨k1, k2, k3, k4, k5⟩ := HV3.out.cells
  have HT4 := Lib.hid (tabs_b (pb := pb) HT.out HV3.out.fr HGP.out.1 HGP.out.2)
  have z34 : ((c.toNat : Int) == 34) = false := cneq (x := 34) (fun e => by rw [e] at hca; exact absurd hca (by decide))
  go_wp2_with fail
  refine (catom_strict pb (.pointer none) (bs R) _ HV3.out.ps (by rw [bs_size]; omega) (by rw [bs_list]; exact HG.out.valid) HT4.out (by rw [bs_list, HTW.out]; exact ha0) (by rw [bs_list, HTW.out]; exact d1) (by rw [bs_list, HTW.out]; exact d2) (by rw [bs_list, HTW.out]; exact d3)).mono ?_
  rintro x w5 ⟨rfl, hp5, hf5⟩
  rw [bs_list, HU.out] at hp5
  rw [bs_list, HTW.out]
  have HV5 := Lib.hid (HV3.out.step hpb hp5 hf5)
  clear hp5 hf5 k1 k2 k3 k4 k5
  obtain ⟨k1, k2, k3, k4, k5⟩ := HV5.out.cells
  have HV6 := Lib.hid (HV5.out.err hpb .nilIface)
  go_wp2_with fail
  clear k1 k2 k3 k4 k5
  generalize w5.setCell ⟨w.heap.size + 1, 0, none⟩ .nilIface = w6 at HV6 ⊢
  refine (consL_no pb 64 U _ HV6.out.ps (fun t e => H4.out t e)).mono ?_
  rintro x w7 ⟨rfl, m7, rfl⟩
  have HV7 := Lib.hid (HV6.out.drewN hpb m7)
  generalize w6.drewN m7 = w7 at HV7 ⊢
  go_wp2_with fail
  refine (errNew _ _).mono ?_
  rintro x w8 ⟨⟨v, rfl⟩, hb8⟩
  have HV8 := Lib.hid (HV7.out.below hpb hb8)
  clear hb8
  obtain ⟨k1, k2, k3, k4, k5⟩ := HV8.out.cells
  have HV9 := Lib.hid (HV8.out.err hpb (.iface 91 v))
  go_wp2
  exact door_err _ ⟨#[]⟩ hpb HV9.out rfl rfl (fun w' hp hf => ⟨⟨⟨_, _, rfl⟩, hp⟩, hf⟩)
set_option maxHeartbeats 4000000 in
set_option maxRecDepth 100000 in
theorem caddr_quote (pb : Nat) (R : List UInt8) (T x : List UInt8) (n : Nat) (w : World) (h : PS pb (.pointer none) (bs R) w) (hs : R.length ≤ 1099511626000) (hg : GoodS R) (hR : R = 34 :: T) (hq : quotedL T = some (x, n)) (hx : x ≠ []) (h4 : ∀ t, T.drop n ≠ 64 :: t) (hT : Lib.Utf8Tabs 0 1 w) (hgp : pb ≠ 0 ∧ pb ≠ 1) :
    Calls Tryz.prog 41 #[.pointer (some ⟨pb, 0, none⟩)] w fun r w' => CARes pb R (none) r w' ∧ Fr (fun k => k ≠ pb ∧ k < w.heap.size) w w' := by
  have hpb := h.cells.2.2.2
  obtain ⟨c, hc⟩ : ∃ c : UInt8, c = 34 := ⟨_, rfl⟩
  obtain ⟨t, ht⟩ : ∃ t, T = t := ⟨_, rfl⟩
  rw [← hc, ht] at hR
  have hcs : isSp c = false := by rw [hc]; decide
  obtain ⟨U, hU⟩ : ∃ U, T.drop n = U := ⟨_, rfl⟩
  rw [hU] at h4
  have HR := Lib.hid hR; have H4 := Lib.hid h4; have HU := Lib.hid hU; have HC := Lib.hid hc; have HTE := Lib.hid ht
  clear hR h4 hU hc ht
  have hmf : ∀ (fn : Fn) (first cap : Array Value) (w : World), (Instr.makeFunc fn first cap).run Tryz.prog w = .ok (.func fn first cap) w := fun _ _ _ _ => rfl
  obtain ⟨wA, hwA⟩ : ∃ wA, (w.alloc (.cells #[.pointer (some ⟨pb, 0, none⟩)] 61)).alloc (.cells #[.nilIface] 44) = wA := ⟨_, rfl⟩
  have hpA : PS pb (.pointer none) (bs R) wA := by
    rw [← hwA]
    exact h.below (((Below.refl _ w).alloc (Nat.le_refl _) _).alloc (by simp) _)
  have hcA : wA.cell? ⟨w.heap.size, 0, none⟩ = some (.pointer (some ⟨pb, 0, none⟩)) := by
    rw [← hwA]
    rw [Lib.cell_of_heap ((Below.heap_alloc _ _ w.heap.size (by simp)).trans (heap_alloc_new w _))]
    rfl
  have hsA : wA.heap.size = w.heap.size + 2 := by rw [← hwA]; simp
  have HV0 := Lib.hid (AV.start hwA h)
  have HT0 := Lib.hid (tabs_b (pb := pb) hT HV0.out.fr hgp.1 hgp.2)
  obtain ⟨c0, c1, f0, hltA⟩ := hpA.cells
  have HG := Lib.hid hg; have HT := Lib.hid hT; have HGP := Lib.hid hgp
  clear hg hT hgp h hpA
  go_enter_defers Tryz.func41, Tryz.ntmps41
  go_wp2_with fail
  refine (skipL pb R _ HV0.out.ps (by omega)).mono ?_
  rintro x w1 ⟨rfl, hp1, hf1⟩
  rw [HR.out, nosp_drop hcs, ← HR.out] at hp1
  have HV1 := Lib.hid (HV0.out.step hpb hp1 hf1)
  clear hp1 hf1 hwA hcA hsA c0 c1 f0 hltA HT0
  obtain ⟨k1, k2, k3, k4, k5⟩ := HV1.out.cells
  go_wp2_with fail
  refine (pempty_any pb (.pointer none) (bs R) _ HV1.out.ps).mono ?_
  rintro x w2 ⟨rfl, hw2⟩
  subst hw2
  rw [show decide ((bs R).size = 0) = false by rw [bs_size, HR.out]; simp]
  obtain ⟨p0, pc⟩ : ∃ h0 : 0 < (bs R).size, (bs R)[0] = c := by rw [HR.out]; exact bs_cons c t
  go_wp2_with fail
  refine (ppeek_any pb (.pointer none) _ c _ HV1.out.ps p0 pc).mono ?_
  rintro x w3 ⟨rfl, m3, rfl⟩
  have HV3 := Lib.hid (HV1.out.drewN hpb m3)
  clear k1 k2 k3 k4 k5 p0 pc
  generalize w2.drewN m3 = w4 at HV3 ⊢
  obtain ⟨k1, k2, k3, k4, k5⟩ := HV3.out.cells
  have HT4 := Lib.hid (tabs_b (pb := pb) HT.out HV3.out.fr HGP.out.1 HGP.out.2)
  have z34 : ((c.toNat : Int) == 34) = true := ceq HC.out
  have hxe : (bs x).toList.isEmpty = false := by rw [ByteArray.toList_eq, bs_list]; cases x with
    | nil => exact absurd rfl hx
    | cons a b => rfl
  go_wp2_with fail
  refine (cquoted_yes pb (.pointer none) (bs R) T x n _ HV3.out.ps (by rw [bs_size]; omega) (by rw [bs_list]; exact HG.out.valid) HT4.out (by rw [bs_list, HR.out, HC.out, HTE.out]) hq (fun d hd => HG.out.ctl d (by rw [HR.out, ← HTE.out]; simp [hd]))).mono ?_
  rintro y w5 ⟨rfl, hp5, hf5⟩
  rw [HU.out] at hp5
  have HV5 := Lib.hid (HV3.out.step hpb hp5 hf5)
  clear hp5 hf5 k1 k2 k3 k4 k5
  obtain ⟨k1, k2, k3, k4, k5⟩ := HV5.out.cells
  have HV6 := Lib.hid (HV5.out.err hpb .nilIface)
  go_wp2_with fail
  clear k1 k2 k3 k4 k5
  generalize w5.setCell ⟨w.heap.size + 1, 0, none⟩ .nilIface = w6 at HV6 ⊢
  refine (consL_no pb 64 U _ HV6.out.ps (fun t e => H4.out t e)).mono ?_
  rintro x w7 ⟨rfl, m7, rfl⟩
  have HV7 := Lib.hid (HV6.out.drewN hpb m7)
  generalize w6.drewN m7 = w7 at HV7 ⊢
  go_wp2_with fail
  refine (errNew _ _).mono ?_
  rintro x w8 ⟨⟨v, rfl⟩, hb8⟩
  have HV8 := Lib.hid (HV7.out.below hpb hb8)
  clear hb8
  obtain ⟨k1, k2, k3, k4, k5⟩ := HV8.out.cells
  have HV9 := Lib.hid (HV8.out.err hpb (.iface 91 v))
  go_wp2
  exact door_err _ ⟨#[]⟩ hpb HV9.out rfl rfl (fun w' hp hf => ⟨⟨⟨_, _, rfl⟩, hp⟩, hf⟩)
theorem caddr_any (pb : Nat) (R : List UInt8) (o : Option (List UInt8 × List UInt8)) (w : World) (h : PS pb (.pointer none) (bs R) w) (hs : R.length ≤ 1099511626000) (hg : GoodS R) (ho : CA R o) (hT : Lib.Utf8Tabs 0 1 w) (hgp : pb ≠ 0 ∧ pb ≠ 1) :
    Calls Tryz.prog 41 #[.pointer (some ⟨pb, 0, none⟩)] w fun r w' => CARes pb R o r w' ∧ Fr (fun k => k ≠ pb ∧ k < w.heap.size) w w' := by
  cases ho with
  | yes L D R4 hR hL hD h4 => exact caddr_yes pb R L D R4 w h hs hg hR hL hD h4 hT hgp
  | quote T x n hR hq hx h4 => exact caddr_quote pb R T x n w h hs hg hR hq hx h4 hT hgp
  | atom a h0 ha ht h4 => exact caddr_atom pb R a w h hs hg h0 ha ht h4 hT hgp
  | none_ c t hR h1 h2 h3 => exact caddr_none pb R c t w h hs hg hR h1 h2 h3 hT hgp
end Go.Proofs.YtpoglombagmhmaaGreatDoor
/- netmail.parseAddress, on a text that begins with an address by the reference: the walk. -/
namespace Go.Proofs.YtpoglombagmhmaaGreatDoor
open Go Go.RowKit

theorem toks_none {R : List UInt8} {b l : Bool} (h : toksL b R = .good [] l) : R.dropWhile isSp = [] := by
  obtain ⟨b', hb, _⟩ := ph_skip R b
  rw [hb] at h
  cases hR : R.dropWhile isSp with
  | nil => rfl
  | cons c t =>
    rw [hR] at h
    rcases ph_head (ph_nosp hR) h with ⟨_, ts', e, _⟩ | ⟨_, x, n, ts', _, e, _⟩ | ⟨_, _, _, _, ts', e, _⟩ <;> cases e
/-- A text that begins with one address; Z: the tokens behind it. -/
inductive AddrT (Z : List Tok) (l : Bool) (R nm ad : List UInt8) : Prop
  | angle (b sp : Bool) (x : List UInt8) (us X : List Tok) (ht : toksL b R = .good (us ++ ⟨60, x, sp⟩ :: X) l) (hw : ∀ t ∈ us, wordK t = true) (hn : nameG us 0 true false [] = (true, nm))
      (hX : ∀ T, toksL false T = .good X l → ∃ L D R4, T = L ++ 64 :: (D ++ 62 :: R4) ∧ DotsT false L ∧ DotsT false D ∧ toksL false R4 = .good Z l ∧ ad = L ++ 64 :: D)
  | alone (L D R4 : List UInt8) (hR : R = L ++ 64 :: (D ++ R4)) (hL : DotsT false L) (hD : DotsT false D) (h4 : ∀ c t, R4 = c :: t → atomD c = false) (ht : toksL false R4 = .good Z l) (hn : nm = []) (ha : ad = L ++ 64 :: D)
/-- The parser, in a call that began in w. -/
structure PQ (pb : Nat) (w : World) (S : ByteArray) (wx : World) : Prop where
  ps : PS pb (.pointer none) S wx
  fr : Fr (fun k => k ≠ pb ∧ k < w.heap.size) w wx
theorem PQ.step {pb : Nat} {w wx wy : World} {S S' : ByteArray} (h : PQ pb w S wx) (hp : PS pb (.pointer none) S' wy) (hf : Fr (fun k => k ≠ pb ∧ k < wx.heap.size) wx wy) : PQ pb w S' wy := ⟨hp, h.fr.trans (hf.mono (fun _ hk => ⟨hk.1, Nat.lt_of_lt_of_le hk.2 h.fr.size⟩))⟩
theorem PQ.below {pb : Nat} {w wx wy : World} {S : ByteArray} (h : PQ pb w S wx) (hb : Below wx.heap.size wx wy) : PQ pb w S wy := h.step (h.ps.below hb) ((Fr.of_below hb).mono (fun _ hq => hq.2))
theorem PQ.drewN {pb : Nat} {w wx : World} {S : ByteArray} (h : PQ pb w S wx) (m : Nat) : PQ pb w S (wx.drewN m) := h.step (h.ps.drewN m) ((Fr.refl _ _).drewN m)

/-- Behind the sign '<': the tokens of a local part, the sign @, a domain, the sign '>' say the text. -/
theorem angle_hX {vs Y Z : List Tok} {l : Bool} {lc dm x x' : List UInt8} (hw : ∀ t ∈ vs, wordK t = true) (hl : localG vs 0 true [] = (true, lc, true)) (hs : spaceH vs = false) (hd : domainG Y true [] = (⟨62, x', false⟩ :: Z, true, dm, true)) :
    ∀ T, toksL false T = .good (vs ++ ⟨64, x, false⟩ :: Y) l → ∃ L D R4, T = L ++ 64 :: (D ++ 62 :: R4) ∧ DotsT false L ∧ DotsT false D ∧ toksL false R4 = .good Z l ∧ lc ++ 64 :: dm = L ++ 64 :: D := by
  intro T hT
  obtain ⟨A, R, hR, hlc, htR, hA⟩ := local_text vs (⟨64, x, false⟩ :: Y) T l 0 true [] lc hT hw hl (fun _ => hs)
  obtain ⟨c, u, rfl, hc⟩ := toks_nosp htR rfl
  obtain ⟨u', hu', htu⟩ := toks_sign htR rfl
  rw [nosp_drop hc] at hu'
  injection hu' with e1 e2
  subst e1 e2
  obtain ⟨D, R3, hR3, hdm, ht3, hD⟩ := dom_text _ Y _ _ l true [] dm (Nat.le_refl _) htu hd
  obtain ⟨c, v, rfl, hc⟩ := toks_nosp ht3 rfl
  obtain ⟨v', hv', htv⟩ := toks_sign ht3 rfl
  rw [nosp_drop hc] at hv'
  injection hv' with e1 e2
  subst e1 e2
  rw [List.nil_append] at hlc hdm
  exact ⟨A, D, v, by rw [hR, hR3], hA, hD, htv, by rw [hlc, hdm]⟩
theorem no_at {R : List UInt8} {ts X : List Tok} {u : Tok} {l : Bool} (h : toksL false R = .good (ts ++ u :: X) l) (hw : ∀ t ∈ ts, wordK t = true) (hu : u.kind ≠ 64) : ∀ t, R ≠ 64 :: t := by
  rintro t rfl
  rcases ph_head (by decide) h with ⟨h1, _⟩ | ⟨h1, _⟩ | ⟨_, _, _, _, ts', e, _⟩
  · exact absurd h1 (by decide)
  · exact absurd h1 (by decide)
  · cases ts with
    | nil => rw [List.nil_append] at e; injection e with e1 _; exact hu (by rw [e1])
    | cons v vs =>
      rw [List.cons_append] at e
      injection e with e1 _
      have := hw v (List.mem_cons_self)
      rw [e1] at this
      exact absurd this (by decide)
/-- Words and the sign '<': no local part and domain is there. -/
theorem ca_first {c : UInt8} {t : List UInt8} {b sp l : Bool} {us X : List Tok} {x nm : List UInt8} (hs : isSp c = false) (hg : GoodS (c :: t)) (ht : toksL b (c :: t) = .good (us ++ ⟨60, x, sp⟩ :: X) l) (hw : ∀ t ∈ us, wordK t = true) (hn : nameG us 0 true false [] = (true, nm)) : CA (c :: t) none := by
  rcases ph_splitZ (EndZ.cons X rfl) hs hg ht hw hn with ⟨_, h1, h2, _⟩ | ⟨y, co, u, ts', R3, _, h3, _, hws, _, _, _, _, h | ⟨_, a, h0, ha, htw, hdw, _⟩⟩
  · exact .none_ c t rfl h1 h2 hs
  · obtain ⟨rfl, _, n, hq, rfl, hy⟩ := h
    exact .quote t y n rfl hq hy (no_at h3 hws (show (60 : UInt8) ≠ 64 by decide))
  · exact .atom a h0 ha htw (by rw [hdw]; exact no_at h3 hws (show (60 : UInt8) ≠ 64 by decide))
theorem GoodS.rest {A r : List UInt8} (h : GoodS (A ++ r)) (hr : ∀ c t, r = c :: t → atomD c = false) : GoodS r := h.sub (fun c t e => by
  rcases Nat.lt_or_ge c.toNat 128 with h8 | h8
  · exact h8
  · have h1 := hr c t e
    unfold atomD at h1
    rw [atomB_high h8] at h1
    cases h1)

theorem toks_no40 {R : List UInt8} {ts : List Tok} {l b : Bool} (h : toksL b R = .good ts l) : ∀ t, R.dropWhile isSp ≠ 40 :: t := by
  intro t e
  obtain ⟨b', hb, _⟩ := ph_skip R b
  rw [hb, e] at h
  rcases ph_head (by decide) h with ⟨h1, _⟩ | ⟨h1, _⟩ | ⟨_, _, _, h1, _⟩
  · exact absurd h1 (by decide)
  · exact absurd h1 (by decide)
  · exact absurd h1 (by decide)
theorem PQ.fr1 {pb : Nat} {w wx wy : World} {S S' : ByteArray} (h : PQ pb w S wx) (hp : PS pb (.pointer none) S' wy) (hf : Fr (· ≠ pb) wx wy) : PQ pb w S' wy := h.step hp (hf.mono (fun _ hk => hk.1))
theorem PQ.start {pb : Nat} {w : World} {S : ByteArray} (h : PS pb (.pointer none) S w) : PQ pb w S w := ⟨h, Fr.refl _ _⟩
/-- One address in a row of pointers. -/
structure AdrP (B : Nat) (nm ad : List UInt8) (g q : Nat) (w : World) : Prop where
  row : w.heap[g]? = some (.cells #[.pointer (some ⟨q, 0, none⟩)] 48 (0, 0))
  adr : w.heap[q]? = some (.cells #[.string (bs nm), .string (bs ad)] 51 (0, 0))
  hg : B ≤ g
  hq : B ≤ q
def PARes (pb : Nat) (Z : List Tok) (l : Bool) (R nm ad : List UInt8) (w : World) (x : Ending) (w' : World) : Prop :=
  (∃ g q, x = .returned (.tuple #[.slice (some ⟨g, 0, none⟩) 1 1, .nilIface]) ∧ AdrP w.heap.size nm ad g q w') ∧ (∃ R5 b5, PS pb (.pointer none) (bs R5) w' ∧ toksL b5 R5 = .good Z l ∧ GoodS R5 ∧ R5.length ≤ R.length) ∧ Fr (fun k => k ≠ pb ∧ k < w.heap.size) w w'

theorem par_end {pb : Nat} {Z : List Tok} {l b5 : Bool} {R R5 nm ad : List UInt8} {w wx : World} (h : PQ pb w (bs R5) wx) (ht : toksL b5 R5 = .good Z l) (hg : GoodS R5) (hl : R5.length ≤ R.length) :
    PARes pb Z l R nm ad w (.returned (.tuple #[.slice (some ⟨wx.heap.size + 1, 0, none⟩) 1 1, .nilIface])) ((wx.alloc (.cells #[.string (bs nm), .string (bs ad)] 51)).alloc (.cells #[.pointer (some ⟨wx.heap.size, 0, none⟩)] 48)) := by
  have hb : Below wx.heap.size wx ((wx.alloc (.cells #[.string (bs nm), .string (bs ad)] 51)).alloc (.cells #[.pointer (some ⟨wx.heap.size, 0, none⟩)] 48)) := ((Below.refl _ _).alloc (Nat.le_refl _) _).alloc (by simp) _
  have hq := h.below hb
  have hs := h.fr.size
  have h1 := heap_alloc_new wx (.cells #[.string (bs nm), .string (bs ad)] 51)
  have h2 := heap_alloc_new (wx.alloc (.cells #[.string (bs nm), .string (bs ad)] 51)) (.cells #[.pointer (some ⟨wx.heap.size, 0, none⟩)] 48)
  have h3 : (wx.alloc (.cells #[.string (bs nm), .string (bs ad)] 51)).heap.size = wx.heap.size + 1 := by simp
  rw [h3] at h2
  refine ⟨⟨_, _, rfl, h2, ?_, by omega, hs⟩, ⟨R5, b5, hq.ps, ht, hg, hl⟩, hq.fr⟩
  exact (Below.heap_alloc _ _ wx.heap.size (by simp)).trans h1
theorem AddrT.ne {Z : List Tok} {l : Bool} {R nm ad : List UInt8} (h : AddrT Z l R nm ad) : R ≠ [] := by
  rintro rfl
  cases h with
  | angle b sp x us X ht hw hn hX => rw [tk_nil] at ht; injection ht with e _; simp at e
  | alone L D R4 hR hL hD h4 ht hn ha =>
    obtain ⟨c, t, rfl, _⟩ := hL.head
    simp at hR
set_option maxHeartbeats 4000000 in
set_option maxRecDepth 100000 in
theorem paddr_yes (pb : Nat) (Z : List Tok) (l gr : Bool) (R nm ad : List UInt8) (et : TypeId) (ev : Value) (w : World) (h : PS pb (.pointer none) (bs R) w) (hg : GoodS R) (hl : R.length ≤ 4294967296) (ha : AddrT Z l (R.dropWhile isSp) nm ad)
    (hT : Lib.Utf8Tabs 0 1 w) (he : w.cell? ⟨2, 0, none⟩ = some (.iface et ev)) (hgp : pb ≠ 0 ∧ pb ≠ 1 ∧ pb ≠ 2) :
    Calls Tryz.prog 33 #[.pointer (some ⟨pb, 0, none⟩), .bool gr] w fun x w' => PARes pb Z l R nm ad w x w' := by
  have hpb := h.cells.2.2.2
  obtain ⟨R', hR'⟩ : ∃ R', R.dropWhile isSp = R' := ⟨_, rfl⟩
  have hg' : GoodS R' := by rw [← hR']; exact hg.skip
  have hl' : R'.length ≤ R.length := by rw [← hR']; exact (List.dropWhile_sublist _).length_le
  rw [hR'] at ha
  obtain ⟨c, t, hct⟩ : ∃ c t, R' = c :: t := by
    cases hh : R' with
    | nil => exact absurd hh ha.ne
    | cons c t => exact ⟨c, t, rfl⟩
  have hcs : isSp c = false := ph_nosp (hR'.trans hct)
  have HP := Lib.hid h; have HG := Lib.hid hg'; have HA := Lib.hid ha; have HT := Lib.hid hT; have HE := Lib.hid he; have HGP := Lib.hid hgp; have HCT := Lib.hid hct; have HR := Lib.hid hR'
  clear h hg hg' ha hT he hgp hct hR'
  go_enter Tryz.func33, Tryz.ntmps33
  go_wp2_with fail
  refine (skipL pb R _ HP.out (by omega)).mono ?_
  rintro x w1 ⟨rfl, hp1, hf1⟩
  rw [HR.out] at hp1
  have HQ1 := Lib.hid ((PQ.start HP.out).step hp1 hf1)
  clear hp1 hf1
  go_wp2_with fail
  refine (pempty_any pb (.pointer none) (bs R') _ HQ1.out.ps).mono ?_
  rintro x w2 ⟨rfl, rfl⟩
  rw [show decide ((bs R').size = 0) = false by rw [bs_size, HCT.out]; simp]
  have HT1 := Lib.hid (tabs_b HT.out HQ1.out.fr HGP.out.1 HGP.out.2.1)
  rcases HA.out with ⟨b, sp, x, us, X, ht, hw, hn, hX⟩ | ⟨L, D, R4, hRe, hL, hD, h4, ht, hn, had⟩
  · have hca : CA R' none := by
      rw [HCT.out] at ht ⊢
      exact ca_first hcs (by rw [← HCT.out]; exact HG.out) ht hw hn
    have HTK := Lib.hid ht; have HW := Lib.hid hw; have HN := Lib.hid hn; have HX := Lib.hid hX
    clear ht hw hn hX
    go_wp2_with fail
    refine (caddr_any pb R' none w2 HQ1.out.ps (by omega) HG.out hca HT1.out ⟨HGP.out.1, HGP.out.2.1⟩).mono ?_
    rintro y w3 ⟨⟨⟨et3, ev3, rfl⟩, hp3⟩, hf3⟩
    have HQ3 := Lib.hid (HQ1.out.step hp3 hf3)
    clear hp3 hf3 hca
    obtain ⟨p0, pc⟩ := bs_cons c t
    have HPS := Lib.hid HQ3.out.ps
    rw [HCT.out] at HPS
    go_wp2_with fail
    refine (ppeek_any pb (.pointer none) _ c _ HPS.out p0 pc).mono ?_
    rintro y w4 ⟨rfl, m4, rfl⟩
    have HQ4 := Lib.hid (HQ3.out.drewN m4)
    clear p0 pc HPS
    generalize w3.drewN m4 = w5 at HQ4 ⊢
    go_upto_if 51 with fail
    go_cut [4, 5, 7, 9] from 51 to 60 (fun r4 r5 r7 r9 wx => r4 = .slice none 0 0 ∧ r5 = .nilIface ∧ (∃ v7, r7 = v7) ∧ r9 = .string (bs nm) ∧ ∃ (T : List UInt8), PQ pb w (bs (60 :: T)) wx ∧ toksL false T = .good X l ∧ GoodS (60 :: T) ∧ (60 :: T).length ≤ R'.length)
    case first =>
      cases us with
      | nil =>
        have h60 : c = 60 ∧ nm = [] ∧ toksL false t = .good X l := by
          have h1 := HTK.out
          rw [List.nil_append, HCT.out] at h1
          obtain ⟨u, hu, hut⟩ := toks_sign h1 rfl
          rw [nosp_drop hcs] at hu
          injection hu with e1 e2
          have h2 := HN.out
          rw [nameG] at h2
          exact ⟨e1, (congrArg Prod.snd h2).symm, by rw [e2]; exact hut⟩
        obtain ⟨h60, rfl, h61⟩ := h60
        have HH := Lib.hid h61; have HC6 := Lib.hid h60
        have z60 : ((c.toNat : Int) == 60) = true := ceq h60
        clear h61 h60
        go_wp2
        go_meet
        exact ⟨rfl, rfl, ⟨_, rfl⟩, rfl, t, by rw [← HC6.out, ← HCT.out]; exact HQ4.out, HH.out, by rw [← HC6.out, ← HCT.out]; exact HG.out, by rw [HCT.out]; simp⟩
      | cons u us =>
        have z60 : ((c.toNat : Int) == 60) = false := by
          rcases ph_head hcs (by have h1 := HTK.out; rw [HCT.out] at h1; exact h1) with ⟨h1, _⟩ | ⟨h1, _⟩ | ⟨_, _, _, _, ts', e, _⟩
          · exact cneq (x := 60) (fun e => by rw [e] at h1; exact absurd h1 (by decide))
          · exact cneq (x := 60) (by rw [h1]; decide)
          · rw [List.cons_append] at e
            injection e with e1 _
            have := HW.out u (List.mem_cons_self)
            exact cneq (x := 60) (fun e => by rw [e1, e] at this; exact absurd this (by simp [wordK]))
        have HT5 := Lib.hid (tabs_b HT.out HQ4.out.fr HGP.out.1 HGP.out.2.1)
        go_wp2_with fail
        refine (cphrase_gen pb R' nm (u :: us) (⟨60, x, sp⟩ :: X) b l et ev _ HQ4.out.ps HG.out (by omega) (EndZ.cons X rfl) HTK.out HW.out HN.out (by simp) HT5.out ?ce HGP.out).mono ?_
        case ce => rw [HQ4.out.fr.cell ⟨HGP.out.2.2.symm, cell_lt HE.out⟩]; exact HE.out
        rintro y w6 ⟨rfl, ⟨Re, be, hp6, hre, hte, hge, hle⟩, hf6⟩
        have HQ6 := Lib.hid (HQ4.out.step hp6 hf6)
        obtain ⟨T, hT0, htT⟩ := toks_sign hte rfl
        rw [hre] at hT0
        subst hT0
        have HH := Lib.hid htT; have HGE := Lib.hid hge
        clear hp6 hf6 hre hte hge htT
        go_wp2
        go_meet
        exact ⟨rfl, rfl, ⟨_, rfl⟩, rfl, T, HQ6.out, HH.out, HGE.out, hle⟩
    case rest =>
      obtain ⟨rfl, rfl, ⟨v7, rfl⟩, rfl, T, hq, htT, hgT, hlT⟩ := hcut
      obtain ⟨L, D, R4, hTe, hL, hD, ht4, had⟩ := HX.out T htT
      have hlT2 : T.length + 1 ≤ R.length := by simp at hlT; omega
      have hlR4 : R4.length ≤ T.length := by rw [hTe]; simp; omega
      have hg62 : GoodS (62 :: R4) := by
        refine GoodS.rest (A := 60 :: L ++ 64 :: D) ?_ (fun c t e => by cases e; decide)
        rw [hTe] at hgT
        simpa using hgT
      have HQ7 := Lib.hid hq; have HTE := Lib.hid hTe; have HG4 := Lib.hid (hg62.tail (by decide)); have HGT := Lib.hid (hgT.tail (by decide)); have HT4 := Lib.hid ht4; have HAD := Lib.hid had
      clear hq htT hgT hTe ht4 had hg62 hlT
      go_wp2_with fail
      refine (skipL pb (60 :: T) _ HQ7.out.ps (by simp; omega)).mono ?_
      rintro y w8 ⟨rfl, hp8, hf8⟩
      rw [nosp_drop (show isSp 60 = false by decide)] at hp8
      have HQ8 := Lib.hid (HQ7.out.step hp8 hf8)
      clear hp8 hf8
      go_upto_if 62 with fail
      go_cut [4, 5] from 62 to 69 (fun r4 r5 wx => r4 = .slice none 0 0 ∧ r5 = .nilIface ∧ PQ pb w (bs (60 :: T)) wx)
      case first =>
        cases gr with
        | false =>
          go_wp2
          go_meet
          exact ⟨rfl, rfl, HQ8.out⟩
        | true =>
          go_wp2_with fail
          refine (consL_no pb 58 (60 :: T) _ HQ8.out.ps (fun t e => by injection e with e _; exact absurd e (by decide))).mono ?_
          rintro y w9 ⟨rfl, m9, rfl⟩
          have HQ9 := Lib.hid (HQ8.out.drewN m9)
          generalize w8.drewN m9 = w9 at HQ9 ⊢
          go_wp2
          go_meet
          exact ⟨rfl, rfl, HQ9.out⟩
      case rest =>
        obtain ⟨rfl, rfl, hq9⟩ := hcut
        have HQ9 := Lib.hid hq9
        clear hq9
        go_wp2_with fail
        refine (consL_yes pb 60 T _ HQ9.out.ps).mono ?_
        rintro y w10 ⟨rfl, hp10, hf10⟩
        have HQ10 := Lib.hid (HQ9.out.fr1 hp10 hf10)
        have HT10 := Lib.hid (tabs_b HT.out HQ10.out.fr HGP.out.1 HGP.out.2.1)
        clear hp10 hf10
        go_wp2_with fail
        refine (caddr_any pb T (some (L ++ 64 :: D, 62 :: R4)) _ HQ10.out.ps (by omega) HGT.out (.yes L D (62 :: R4) HTE.out hL hD (fun c t e => by cases e; decide)) HT10.out ⟨HGP.out.1, HGP.out.2.1⟩).mono ?_
        rintro y w11 ⟨⟨rfl, hp11⟩, hf11⟩
        have HQ11 := Lib.hid (HQ10.out.step hp11 hf11)
        clear hp11 hf11
        go_wp2_with fail
        refine (consL_yes pb 62 R4 _ HQ11.out.ps).mono ?_
        rintro y w12 ⟨rfl, hp12, hf12⟩
        have HQ12 := Lib.hid (HQ11.out.fr1 hp12 hf12)
        clear hp12 hf12
        go_wp2
        go_ret2
        rw [← HAD.out]
        exact par_end HQ12.out HT4.out HG4.out (by omega)
  · have hg4 : GoodS R4 := GoodS.rest (A := L ++ 64 :: D) (by have := HG.out; rw [hRe] at this; simpa using this) h4
    have hl4 : R4.length ≤ R'.length := by rw [hRe]; simp; omega
    have hca : CA R' (some (L ++ 64 :: D, R4)) := .yes L D R4 hRe hL hD h4
    obtain ⟨R5, hR5⟩ : ∃ R5, R4.dropWhile isSp = R5 := ⟨_, rfl⟩
    have hl5 : R5.length ≤ R4.length := by rw [← hR5]; exact (List.dropWhile_sublist _).length_le
    have hn40 := toks_no40 ht
    obtain ⟨b5, ht5, -⟩ := ph_skip R4 false
    rw [ht, hR5] at ht5
    rw [hR5] at hn40
    have hg5 : GoodS R5 := by rw [← hR5]; exact hg4.skip
    subst hn had
    have HCA := Lib.hid hca; have HG5 := Lib.hid hg5; have HT5 := Lib.hid ht5.symm; have HN4 := Lib.hid hn40; have HR5 := Lib.hid hR5
    clear hca hg4 hg5 ht ht5 hn40 hR5 hRe h4
    go_wp2_with fail
    refine (caddr_any pb R' _ w2 HQ1.out.ps (by omega) HG.out HCA.out HT1.out ⟨HGP.out.1, HGP.out.2.1⟩).mono ?_
    rintro y w3 ⟨⟨rfl, hp3⟩, hf3⟩
    have HQ3 := Lib.hid (HQ1.out.step hp3 hf3)
    clear hp3 hf3
    go_wp2_with fail
    refine (skipL pb R4 _ HQ3.out.ps (by omega)).mono ?_
    rintro y w4 ⟨rfl, hp4, hf4⟩
    rw [HR5.out] at hp4
    have HQ4 := Lib.hid (HQ3.out.step hp4 hf4)
    clear hp4 hf4
    go_wp2_with fail
    refine (pempty_any pb (.pointer none) (bs R5) _ HQ4.out.ps).mono ?_
    rintro y w5 ⟨rfl, rfl⟩
    cases hh : R5 with
    | nil =>
      subst hh
      rw [show decide ((bs []).size = 0) = true by rfl]
      go_wp2
      go_ret2
      exact par_end HQ4.out HT5.out HG5.out (by omega)
    | cons c5 t5 =>
      subst hh
      rw [show decide ((bs (c5 :: t5)).size = 0) = false by rw [bs_size]; simp]
      have hc40 : ((c5.toNat : Int) == 40) = false := cneq (x := 40) (fun e => HN4.out t5 (by rw [e]))
      obtain ⟨p0, pc⟩ := bs_cons c5 t5
      go_wp2_with fail
      refine (ppeek_any pb (.pointer none) _ c5 _ HQ4.out.ps p0 pc).mono ?_
      rintro y w6 ⟨rfl, m6, rfl⟩
      have HQ6 := Lib.hid (HQ4.out.drewN m6)
      generalize w5.drewN m6 = w6 at HQ6 ⊢
      go_wp2
      go_ret2
      exact par_end HQ6.out HT5.out HG5.out (by omega)
end Go.Proofs.YtpoglombagmhmaaGreatDoor
