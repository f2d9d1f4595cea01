/- spec.Decoded: the walk. -/
import Derived.Test.YtpoglombagmhmaaGreatDoorV4
import Derived.Deep.CutBlock
import Derived.Deep.DeepCutAuto
namespace Go.Proofs.YtpoglombagmhmaaGreatDoor
open Go Go.RowKit

/-- The text is parted up to the place k. -/
def SpRel (L : List UInt8) (N : Nat) (w : World) (p7 p8 p9 : Value) (wr : World) : Prop :=
  ∃ (k f : Nat) (acc : List (List UInt8)), p9 = .int .i64 k ∧ p8 = .int .i64 f ∧ OwnS w.heap.size acc p7 wr ∧ Fr (· < w.heap.size) w wr ∧ acc.length ≤ f ∧ f ≤ k ∧ k ≤ N + 1 ∧
    ((k ≤ N ∧ splitQ L = acc ++ splitQ (L.drop f) ∧ ∀ c ∈ (L.drop f).take (k - f), c ≠ 63) ∨ (k = N + 1 ∧ splitQ L = acc))
theorem push_fr' {B : Nat} {w wr w' : World} {o : Obj} {v : Value} (hF : Fr (· < B) w wr) (hown : ∀ k, v.ownBlock = some k → B ≤ k) (hB : B ≤ wr.heap.size) (hg : (wr.alloc o).grownBy w' v.ownBlock) : Fr (· < B) w w' :=
  (hF.alloc (fun k hk => Nat.lt_of_lt_of_le hk hB) o).grown hg (fun k hk => by simp; omega) (fun k e hk => by have := hown k e; omega)
theorem unqL_len (p : Bool) : ∀ (n : Nat) (l r : List UInt8), l.length ≤ n → unqL p l = some r → r.length ≤ l.length
  | 0, l, r, hn, h => by
    have : l = [] := List.eq_nil_of_length_eq_zero (by omega)
    subst this; rw [unqL_nil] at h; cases h; simp
  | n + 1, [], r, _, h => by rw [unqL_nil] at h; cases h; simp
  | n + 1, c :: t, r, hn, h => by
    have hn' : t.length ≤ n := by simp at hn; omega
    rw [unqL.eq_def] at h
    simp only at h
    split at h
    · obtain ⟨q, hq, rfl⟩ := Option.map_eq_some_iff.1 h
      have := unqL_len p n t q hn' hq
      simp; omega
    · split at h
      · split at h
        · rename_i a b r'
          split at h
          · obtain ⟨q, hq, rfl⟩ := Option.map_eq_some_iff.1 h
            have := unqL_len p n r' q (by simp at hn'; omega) hq
            simp; omega
          · cases h
        · cases h
      · split at h
        · obtain ⟨q, hq, rfl⟩ := Option.map_eq_some_iff.1 h
          have := unqL_len p n t q hn' hq
          simp; omega
        · cases h
theorem groupL_len {q g : List UInt8} {last : Bool} (h : groupL q last = some g) : g.length ≤ 3 := by
  unfold groupL at h
  split at h
  · split at h
    · cases h; simp [bytesX]
    · cases h
  · cases h
theorem unbG_len : ∀ (n : Nat) (l r : List UInt8), l.length ≤ n → unbG l = some r → r.length ≤ l.length
  | 0, l, r, hn, h => by
    have : l = [] := List.eq_nil_of_length_eq_zero (by omega)
    subst this; rw [unbG.eq_def] at h; cases h; simp
  | n + 1, l, r, hn, h => by
    rw [unbG.eq_def] at h
    split at h
    · rename_i a b c d t
      split at h
      · cases h
      · rename_i g hg
        obtain ⟨q, hq, rfl⟩ := Option.map_eq_some_iff.1 h
        have h1 := groupL_len hg
        have := unbG_len n t q (by simp at hn; omega) hq
        simp; omega
    · cases h; simp
theorem bytesC_len {m t r : List UInt8} {p : Bool} (h : bytesC m t p = some r) : r.length ≤ t.length := by
  unfold bytesC at h
  split at h
  · exact unqL_len p _ t r (Nat.le_refl _) h
  · split at h
    · unfold unbL at h
      split at h
      · exact unbG_len _ t r (Nat.le_refl _) h
      · cases h
    · cases h

/-- Behind the switch. -/
def CutR (r : Option (List UInt8)) (B : Nat) (v ok : Value) (wx : World) : Prop :=
  match r with
  | none => ok = .bool false
  | some b => OwnB B b v wx ∧ ok = .bool true
theorem CutR.of {r : Option (List UInt8)} {B : Nat} {x : Ending} {w' : World} (h : UqRet r B x w') : ∃ v ok, x = .returned (.tuple #[v, ok]) ∧ CutR r B v ok w' := by
  cases r with
  | none => exact ⟨_, _, h, rfl⟩
  | some b => obtain ⟨v, h1, h2⟩ := h; exact ⟨v, _, h1, h2, rfl⟩
def AsRel (b : List UInt8) (L : Nat) (w3 : World) (i : Value) (wx : World) : Prop :=
  ∃ k : Nat, wx = w3 ∧ i = .int .i64 k ∧ k ≤ L ∧ (b.take k).all (fun c => decide (c.toNat < 128)) = true
def LaRel (b : List UInt8) (L : Nat) (w3 : World) (v i : Value) (wx : World) : Prop :=
  ∃ k : Nat, i = .int .i64 k ∧ k ≤ L ∧ OwnB w3.heap.size (latin (b.take k)) v wx ∧ Fr (· < w3.heap.size) w3 wx
theorem latin_snoc (b : List UInt8) (k : Nat) (c : UInt8) (h : b[k]? = some c) : latin (b.take (k + 1)) = latin (b.take k) ++ (if c.toNat < 128 then [c] else [UInt8.ofNat (192 + c.toNat / 64), UInt8.ofNat (128 + c.toNat % 64)]) := by
  rw [List.take_add_one, h]; simp [latin]
theorem latin_len (b : List UInt8) : (latin b).length ≤ 2 * b.length := by
  induction b with
  | nil => simp [latin]
  | cons c t ih =>
    have : latin (c :: t) = (if c.toNat < 128 then [c] else [UInt8.ofNat (192 + c.toNat / 64), UInt8.ofNat (128 + c.toNat % 64)]) ++ latin t := by simp [latin]
    rw [this, List.length_append]
    have h2 : (if c.toNat < 128 then [c] else [UInt8.ofNat (192 + c.toNat / 64), UInt8.ofNat (128 + c.toNat % 64)]).length ≤ 2 := by split <;> simp
    simp only [List.length_cons]; omega
set_option maxRecDepth 100000 in
theorem lat1F : ∀ c : Fin 256, 128 ≤ c.val → bits .or .u8 192 ((c.val : Int) / 64) = ((UInt8.ofNat (192 + c.val / 64)).toNat : Int) := by decide +kernel
theorem lat1 (c : UInt8) (h : 128 ≤ c.toNat) : bits .or .u8 192 ((c.toNat : Int) / 64) = ((UInt8.ofNat (192 + c.toNat / 64)).toNat : Int) := lat1F ⟨c.toNat, c.toNat_lt⟩ h
theorem lat2 (c : UInt8) (_ : 128 ≤ c.toNat) : (128 + (c.toNat : Int) % 64) = ((UInt8.ofNat (128 + c.toNat % 64)).toNat : Int) := by
  rw [UInt8.toNat_ofNat']; omega
theorem toL (b : ByteArray) : b.toList = b.data.toList := tl_eq b

set_option maxHeartbeats 16000000 in
set_option maxRecDepth 100000 in
theorem Decoded_any (s : ByteArray) (p : Bool) (w : World) (hT : Lib.Utf8Tabs 0 1 w) :
    Calls Tryz.prog 39 #[.string s, .bool p] w fun x w' => x = DcRet (decodedL s.data.toList p) ∧ Below w.heap.size w w' := by
  obtain ⟨n, hn⟩ : ∃ n, s.size = n := ⟨_, rfl⟩
  have hl : s.data.toList.length = n := by rw [Array.length_toList]; exact hn
  have HL := Lib.hid hl
  have HT := Lib.hid hT
  clear hl hT
  by_cases b1 : n < 8
  · have z1 : (n : Int) < 8 := by omega
    have d1 : decide ((n : Int) < 8) = true := decide_eq_true z1
    have HD := Lib.hid (show decodedL s.data.toList p = none by unfold decodedL; rw [HL.out, if_pos (.inl b1)])
    go_enter Tryz.func39, Tryz.ntmps39
    go_wp2
    go_ret2
    exact ⟨by rw [HD.out]; rfl, Below.refl _ _⟩
  · by_cases b2 : 75 < n
    · have z1 : ¬ (n : Int) < 8 := by omega
      have d1 : decide ((n : Int) < 8) = false := decide_eq_false z1
      have z2 : (75 : Int) < (n : Int) := by omega
      have d2 : decide ((75 : Int) < (n : Int)) = true := decide_eq_true z2
      have HD := Lib.hid (show decodedL s.data.toList p = none by unfold decodedL; rw [HL.out, if_pos (.inr (.inl b2))])
      go_enter Tryz.func39, Tryz.ntmps39
      go_wp2
      go_ret2
      exact ⟨by rw [HD.out]; rfl, Below.refl _ _⟩
    · have z1 : ¬ (n : Int) < 8 := by omega
      have d1 : decide ((n : Int) < 8) = false := decide_eq_false z1
      have z2 : ¬ (75 : Int) < (n : Int) := by omega
      have d2 : decide ((75 : Int) < (n : Int)) = false := decide_eq_false z2
      have i1 : (2 : Int) ≤ (n : Int) := by omega
      have i2 : (0 : Int) ≤ (n : Int) - 2 := by omega
      have i3 : (n : Int) - 2 ≤ (n : Int) := by omega
      have e2 := Lib.hid (show (s.extract 0 2).toList = s.data.toList.take 2 by rw [toL, ext_toList, List.drop_zero])
      have e3 := Lib.hid (show (s.extract (n - 2) n).toList = s.data.toList.drop (n - 2) by
        rw [toL, ext_toList, List.take_of_length_le (by rw [List.length_drop, HL.out]; exact Nat.le_refl _)])
      by_cases b3 : (s.extract 0 2).toList = [61, 63]
      · by_cases b4 : (s.extract (n - 2) n).toList = [63, 61]
        · have t3 : ((s.extract 0 2).toList == [61, 63]) = true := by rw [beq_iff_eq]; exact b3
          have t4 : ((s.extract (n - 2) n).toList == [63, 61]) = true := by rw [beq_iff_eq]; exact b4
          have i4 : (2 : Int) ≤ (n : Int) - 2 := by omega
          obtain ⟨T, hT⟩ : ∃ T, s.extract 2 (n - 2) = T := ⟨_, rfl⟩
          have hTs : T.size = n - 4 := by rw [← hT, ByteArray.size_extract]; omega
          have hTl : T.data.toList = (s.data.toList.take (n - 2)).drop 2 := by
            rw [← hT, ext_toList, List.drop_take]
          have HD := Lib.hid (show decodedL s.data.toList p = partsC (splitQ T.data.toList) p by
            unfold decodedL
            rw [HL.out, if_neg, hTl]
            rintro (h | h | h | h)
            · exact b1 h
            · exact b2 h
            · exact h (by rw [← e2.out]; exact b3)
            · exact h (by rw [← e3.out]; exact b4))
          clear hTl e2 e3 b3 b4
          obtain ⟨N, hN⟩ : ∃ N, n - 4 = N := ⟨_, rfl⟩
          rw [hN] at hTs
          have hTl : T.data.toList.length = N := by rw [Array.length_toList]; exact hTs
          have hN71 : N ≤ 71 := by omega
          have HTL := Lib.hid hTl
          clear hTl hN
          go_enter Tryz.func39, Tryz.ntmps39
          go_wp2
          clear hT hn HL t3 t4 i1 i2 i3 i4 d1 d2 z1 z2 b1 b2
          go_loopw [7, 8, 9] (fun p7 p8 p9 wr => SpRel T.data.toList N w p7 p8 p9 wr) (fun _ _ p9 _ => N + 1 - (intOf p9).toNat)
          case atStart => exact ⟨0, 0, [], rfl, rfl, OwnS.nil _ _, Fr.refl _ _, Nat.le_refl _, Nat.le_refl _, Nat.zero_le _, .inl ⟨Nat.zero_le _, by simp, by simp⟩⟩
          case round =>
            obtain ⟨k, f, acc, rfl, rfl, hown, hF, hacc, hfk, hkN, hsp⟩ := hrel
            have HOWN := Lib.hid hown; have HF := Lib.hid hF
            have hB : w.heap.size ≤ wr.heap.size := hF.size
            clear hown hF
            by_cases hk : k ≤ N
            · obtain ⟨_, hsp, hno⟩ | ⟨h1, _⟩ := hsp
              case inr => omega
              have z5 : (k : Int) ≤ (N : Int) := by omega
              have z6 : (f : Int) ≤ (k : Int) := by omega
              have hpc : (T.extract f k).data.toList = (T.data.toList.drop f).take (k - f) := ext_toList T f k
              by_cases he : k = N
              · have t5 : ((k : Int) == (N : Int)) = true := by rw [beq_iff_eq]; omega
                have HS := Lib.hid (show splitQ T.data.toList = acc ++ [(T.extract f k).data.toList] by
                  rw [hsp, hpc]
                  have h5 : (T.data.toList.drop f).take (k - f) = T.data.toList.drop f := List.take_of_length_le (by rw [List.length_drop, HTL.out]; omega)
                  rw [h5] at hno ⊢
                  rw [splitQ_end _ hno])
                have HPC := Lib.hid hpc
                have HE := Lib.hid he
                clear hsp hno hpc he
                go_wp2_with (at_builtin; refine wpList_push_str rfl _ _ rfl w.heap.size acc _ (T.extract f k) wr HOWN.out hB ?c4 rfl rfl ?_)
                case c4 => omega
                intro v' w2 hown' hg _
                have HO2 := Lib.hid hown'; have HF2 := Lib.hid (push_fr' HF.out (fun q hq => (own_lt HOWN.out q hq).1) hB hg)
                clear hown' hg
                go_wp2
                go_roundw
                case rel => exact ⟨k + 1, k + 1, _, by go_num, by go_num, HO2.out, HF2.out, by simp; omega, Nat.le_refl _, by omega, .inr ⟨by have := HE.out; omega, by first | exact HS.out | (rw [← HPC.out]; exact HS.out)⟩⟩
                case measure => simp [intOf]; omega
              · have t5 : ((k : Int) == (N : Int)) = false := by rw [beq_eq_false_iff_ne]; omega
                have hlt : k < T.size := by omega
                have z7 : (k : Int) < (N : Int) := by omega
                obtain ⟨c, hc⟩ : ∃ c, T[k] = c := ⟨_, rfl⟩
                have hct := c.toNat_lt
                have hdk := drop_at T k hlt
                rw [hc] at hdk
                have hcut : T.data.toList.drop f = (T.data.toList.drop f).take (k - f) ++ c :: T.data.toList.drop (k + 1) := by
                  have h6 := (List.take_append_drop (k - f) (T.data.toList.drop f)).symm
                  rw [List.drop_drop, show f + (k - f) = k by omega, hdk] at h6
                  exact h6
                by_cases h63 : c = 63
                · have t6 : ((c.toNat : Int) == 63) = true := ceq h63
                  have HS := Lib.hid (show splitQ T.data.toList = (acc ++ [(T.extract f k).data.toList]) ++ splitQ (T.data.toList.drop (k + 1)) by
                    rw [hsp, hpc, List.append_assoc]
                    congr 1
                    have h8 := splitQ_mid _ (T.data.toList.drop (k + 1)) hno
                    rw [h63] at hcut
                    rw [← hcut] at h8
                    exact h8)
                  have HPC := Lib.hid hpc
                  clear hsp hno hpc hdk hcut
                  go_wp2_with (at_builtin; refine wpList_push_str rfl _ _ rfl w.heap.size acc _ (T.extract f k) wr HOWN.out hB ?c4 rfl rfl ?_)
                  case c4 => omega
                  intro v' w2 hown' hg _
                  have HO2 := Lib.hid hown'; have HF2 := Lib.hid (push_fr' HF.out (fun q hq => (own_lt HOWN.out q hq).1) hB hg)
                  clear hown' hg
                  go_wp2
                  go_roundw
                  case rel => exact ⟨k + 1, k + 1, _, by go_num, by go_num, HO2.out, HF2.out, by simp; omega, Nat.le_refl _, by omega, .inl ⟨by omega, by first | exact HS.out | (rw [← HPC.out]; exact HS.out), by simp⟩⟩
                  case measure => simp [intOf]; omega
                · have t6 : ((c.toNat : Int) == 63) = false := cneq h63
                  have HN := Lib.hid (show ∀ d ∈ (T.data.toList.drop f).take (k + 1 - f), d ≠ 63 by
                    rw [show k + 1 - f = (k - f) + 1 by omega, List.take_add_one]
                    intro d hd
                    rcases List.mem_append.1 hd with h | h
                    · exact hno d h
                    · rw [List.getElem?_drop, show f + (k - f) = k by omega] at h
                      have h7 : T.data.toList[k]? = some c := by rw [← hc]; exact List.getElem?_eq_getElem (by rw [HTL.out]; omega)
                      rw [h7] at h
                      simp at h
                      rw [h]; exact h63)
                  have HSP := Lib.hid hsp
                  clear hsp hno hpc hdk hcut
                  go_wp2
                  go_roundw
                  case rel => exact ⟨k + 1, f, acc, by go_num, rfl, HOWN.out, HF.out, hacc, by omega, by omega, .inl ⟨by omega, HSP.out, HN.out⟩⟩
                  case measure => simp [intOf]; omega
            · obtain ⟨h1, _⟩ | ⟨hk1, hsp⟩ := hsp
              case inl => omega
              have HT' := Lib.hid (Utf8Tabs_below HT.out HF.out.below)
              have z5 : ¬ (k : Int) ≤ (N : Int) := by omega
              clear hk1 hk hkN hfk
              rw [hsp] at HD
              have hne : acc ≠ [] := by rw [← hsp]; exact splitQ_ne _
              have hmem : ∀ x ∈ acc, x.length ≤ 71 := fun x hx => by
                rw [← hsp] at hx
                have := splitQ_mem _ x hx
                rw [HTL.out] at this; omega
              have HMEM := Lib.hid hmem
              clear hsp hmem
              rcases HOWN.out.2 with ⟨rfl, h0⟩ | ⟨g, cap, cur, rfl, hgB, hg, hcap, _⟩
              · exact absurd (List.eq_nil_of_length_eq_zero h0) hne
              · have hcl : ∀ (j : Nat) (x : List UInt8), acc[j]? = some x → wr.cell? ⟨g, j, none⟩ = some (.string ⟨x.toArray⟩) := by
                  intro j x hx
                  have h5 := HOWN.out.cells (g := g) rfl j (.string ⟨x.toArray⟩) (by simp [strCells, hx])
                  rw [addr_add, Nat.zero_add] at h5; exact h5
                have HCL := Lib.hid hcl
                have HG := Lib.hid hg
                clear hcl hg HOWN
                obtain ⟨M, hM⟩ : ∃ M, acc.length = M := ⟨_, rfl⟩
                rw [hM]
                have hgl := (Array.getElem?_eq_some_iff.1 HG.out).1
                by_cases h3 : M = 3
                · subst h3
                  obtain ⟨a, m, t, rfl⟩ : ∃ a m t, acc = [a, m, t] := by
                    match acc, hM with
                    | [a, m, t], _ => exact ⟨a, m, t, rfl⟩
                  obtain ⟨A, hA⟩ : ∃ A : ByteArray, (⟨a.toArray⟩ : ByteArray) = A := ⟨_, rfl⟩
                  obtain ⟨MM, hMM⟩ : ∃ A : ByteArray, (⟨m.toArray⟩ : ByteArray) = A := ⟨_, rfl⟩
                  obtain ⟨TT, hTT⟩ : ∃ A : ByteArray, (⟨t.toArray⟩ : ByteArray) = A := ⟨_, rfl⟩
                  have c0 : wr.cell? ⟨g, 0, none⟩ = some (.string A) := by rw [← hA]; exact HCL.out 0 a rfl
                  have c1 : wr.cell? ⟨g, 1, none⟩ = some (.string MM) := by rw [← hMM]; exact HCL.out 1 m rfl
                  have c2 : wr.cell? ⟨g, 2, none⟩ = some (.string TT) := by rw [← hTT]; exact HCL.out 2 t rfl
                  have sA : A.data.toList = a := by rw [← hA]
                  have sM : MM.toList = m := by rw [toL, ← hMM]
                  have sT : TT.data.toList = t := by rw [← hTT]
                  have zA : A.size ≤ 71 := by
                    have h1 : A.data.toList.length = a.length := by rw [sA]
                    rw [Array.length_toList] at h1
                    have := HMEM.out a (by simp)
                    show A.data.size ≤ 71
                    omega
                  have zT : TT.size = t.length := by rw [← sT, Array.length_toList]; rfl
                  have zT2 : t.length ≤ 71 := HMEM.out t (by simp)
                  have SA := Lib.hid sA; have SM := Lib.hid sM; have ST := Lib.hid sT; have ZT := Lib.hid zT
                  clear hA hMM hTT sA sM sT zT hM HCL hne
                  by_cases ht : t = []
                  · have t8 : ((TT.size : Int) == 0) = true := by rw [beq_iff_eq, ZT.out, ht]; rfl
                    have HDN := Lib.hid (show decodedL s.data.toList p = none by rw [HD.out]; exact if_pos ht)
                    clear HD
                    go_wp2
                    go_ret2
                    exact ⟨by rw [HDN.out]; rfl, HF.out.below⟩
                  · have t8 : ((TT.size : Int) == 0) = false := by
                      rw [beq_eq_false_iff_ne, ZT.out]
                      intro h
                      exact ht (List.eq_nil_of_length_eq_zero (by omega))
                    have HDN := Lib.hid (show decodedL s.data.toList p = (bytesC m t p).bind (textC a) by rw [HD.out]; exact if_neg ht)
                    clear HD ht
                    go_upto_block 2 with fail
                    go_cut [10, 11] from 81 to 101 (fun v ok wx => Fr (· < wr.heap.size) wr wx ∧ CutR (bytesC m t p) wr.heap.size v ok wx)
                    case first =>
                      have hTz : TT.size ≤ 70368744177664 := by rw [ZT.out]; omega
                      have HQ := Lib.hid (fun W => unquoted_any TT p W hTz)
                      have HU := Lib.hid (fun W => unbased_any TT W hTz)
                      rw [ST.out] at HQ HU
                      clear hTz
                      by_cases m1 : m = [81]
                      · have HM := Lib.hid (show bytesC m t p = unqL p t by unfold bytesC; rw [if_pos (.inl m1)])
                        have u1 : (MM.toList == [81]) = true := by rw [SM.out, m1]; rfl
                        clear m1
                        go_wp2_with fail
                        refine (HQ.out _).mono ?_
                        rintro x w2 ⟨hx, hb⟩
                        obtain ⟨v, ok, rfl, hc⟩ := CutR.of hx
                        have HC := Lib.hid hc; have HB := Lib.hid hb
                        clear hx hc hb
                        go_wp2
                        go_meet
                        exact ⟨Fr.of_below HB.out, by rw [HM.out]; exact HC.out⟩
                      · have u1 : (MM.toList == [81]) = false := by rw [beq_eq_false_iff_ne, SM.out]; exact m1
                        by_cases m2 : m = [113]
                        · have HM := Lib.hid (show bytesC m t p = unqL p t by unfold bytesC; rw [if_pos (.inr m2)])
                          have u2 : (MM.toList == [113]) = true := by rw [SM.out, m2]; rfl
                          clear m1 m2
                          go_wp2_with fail
                          refine (HQ.out _).mono ?_
                          rintro x w2 ⟨hx, hb⟩
                          obtain ⟨v, ok, rfl, hc⟩ := CutR.of hx
                          have HC := Lib.hid hc; have HB := Lib.hid hb
                          clear hx hc hb
                          go_wp2
                          go_meet
                          exact ⟨Fr.of_below HB.out, by rw [HM.out]; exact HC.out⟩
                        · have u2 : (MM.toList == [113]) = false := by rw [beq_eq_false_iff_ne, SM.out]; exact m2
                          by_cases m3 : m = [66]
                          · have HM := Lib.hid (show bytesC m t p = unbL t by unfold bytesC; rw [if_neg (fun h => h.elim m1 m2), if_pos (.inl m3)])
                            have u3 : (MM.toList == [66]) = true := by rw [SM.out, m3]; rfl
                            clear m1 m2 m3
                            go_wp2_with fail
                            refine (HU.out _).mono ?_
                            rintro x w2 ⟨hx, hb⟩
                            obtain ⟨v, ok, rfl, hc⟩ := CutR.of hx
                            have HC := Lib.hid hc; have HB := Lib.hid hb
                            clear hx hc hb
                            go_wp2
                            go_meet
                            exact ⟨Fr.of_below HB.out, by rw [HM.out]; exact HC.out⟩
                          · have u3 : (MM.toList == [66]) = false := by rw [beq_eq_false_iff_ne, SM.out]; exact m3
                            by_cases m4 : m = [98]
                            · have HM := Lib.hid (show bytesC m t p = unbL t by unfold bytesC; rw [if_neg (fun h => h.elim m1 m2), if_pos (.inr m4)])
                              have u4 : (MM.toList == [98]) = true := by rw [SM.out, m4]; rfl
                              clear m1 m2 m3 m4
                              go_wp2_with fail
                              refine (HU.out _).mono ?_
                              rintro x w2 ⟨hx, hb⟩
                              obtain ⟨v, ok, rfl, hc⟩ := CutR.of hx
                              have HC := Lib.hid hc; have HB := Lib.hid hb
                              clear hx hc hb
                              go_wp2
                              go_meet
                              exact ⟨Fr.of_below HB.out, by rw [HM.out]; exact HC.out⟩
                            · have u4 : (MM.toList == [98]) = false := by rw [beq_eq_false_iff_ne, SM.out]; exact m4
                              have HM := Lib.hid (show bytesC m t p = none by unfold bytesC; rw [if_neg (fun h => h.elim m1 m2), if_neg (fun h => h.elim m3 m4)])
                              clear m1 m2 m3 m4
                              go_wp2
                              go_meet
                              exact ⟨Fr.refl _ _, by rw [HM.out]; rfl⟩
                    case rest =>
                      obtain ⟨hF2, hcr⟩ := hcut
                      have HF2 := Lib.hid hF2
                      have hb12 : Below w.heap.size w wc := (HF.out.trans (hF2.mono (fun k hk => Nat.lt_of_lt_of_le hk hB))).below
                      have HB12 := Lib.hid hb12
                      have c0' : wc.cell? ⟨g, 0, none⟩ = some (.string A) := (hF2.cell (p := ⟨g, 0, none⟩) hgl).trans c0
                      clear hF2 hb12 c0 c1 c2
                      cases hbc : bytesC m t p with
                      | none =>
                        rw [hbc] at hcr HDN
                        obtain rfl : _ = Value.bool false := hcr
                        clear hbc
                        go_wp2
                        go_ret2
                        exact ⟨by rw [HDN.out]; rfl, HB12.out⟩
                      | some b =>
                        have hbl := bytesC_len hbc
                        rw [hbc] at hcr HDN
                        obtain ⟨hob, rfl⟩ : OwnB wr.heap.size b _ wc ∧ _ = Value.bool true := hcr
                        have HOB := Lib.hid hob
                        have HT2 := Lib.hid (Utf8Tabs_below HT.out HB12.out)
                        clear hob hbc
                        have hzA : A.size ≤ maxLen := by unfold maxLen; omega
                        go_wp2_with fail
                        refine (lower_any A _ hzA).mono ?_
                        rintro x w3 ⟨rfl, hb3⟩
                        rw [SA.out]
                        obtain ⟨LO, hLO⟩ : ∃ LO : ByteArray, (⟨(lowerL a).toArray⟩ : ByteArray) = LO := ⟨_, rfl⟩
                        have sLO : LO.toList = lowerL a := by rw [toL, ← hLO]
                        have SLO := Lib.hid sLO
                        have HOB3 := Lib.hid (HOB.out.fr (fun k _ hk => hb3.block k hk))
                        have HB3 := Lib.hid (HB12.out.trans (hb3.mono HB12.out.size))
                        have HT3 := Lib.hid (Utf8Tabs_below HT.out HB3.out)
                        rw [hLO]
                        clear hLO sLO hzA hb3 HT2 HB12 HOB c0'
                        by_cases y1 : lowerL a = [117, 116, 102, 45, 56]
                        · have v1 : (LO.toList == [117, 116, 102, 45, 56]) = true := by rw [SLO.out, y1]; rfl
                          have HTC := Lib.hid (show textC a b = (if Lib.validD b then some b else none) by unfold textC; rw [if_pos y1])
                          clear y1
                          go_wp2_with fail
                          refine (valid_own _ b _ _ HOB3.out (by omega) HT3.out).mono ?_
                          rintro x w4 ⟨rfl, hb4⟩
                          have HOB4 := Lib.hid (HOB3.out.fr (fun k _ hk => hb4.block k hk))
                          have HB4 := Lib.hid (HB3.out.trans (hb4.mono HB3.out.size))
                          clear hb4
                          cases hvd : Lib.validD b with
                          | true =>
                            have HR := Lib.hid (show decodedL s.data.toList p = some b by rw [HDN.out]; show textC a b = some b; rw [HTC.out, hvd]; rfl)
                            clear HDN HTC hvd
                            go_wp2_with fail
                            rw [HOB4.out.text]; simp only [Result.andThen]; rw [Oper.upon_value]
                            go_wp2
                            go_ret2
                            exact ⟨by rw [HR.out]; rfl, HB4.out⟩
                          | false =>
                            have HR := Lib.hid (show decodedL s.data.toList p = none by rw [HDN.out]; show textC a b = none; rw [HTC.out, hvd]; rfl)
                            clear HDN HTC hvd
                            go_wp2
                            go_ret2
                            exact ⟨by rw [HR.out]; rfl, HB4.out⟩
                        · have v1 : (LO.toList == [117, 116, 102, 45, 56]) = false := by rw [beq_eq_false_iff_ne, SLO.out]; exact y1
                          by_cases y2 : lowerL a = [105, 115, 111, 45, 56, 56, 53, 57, 45, 49]
                          · have v2 : (LO.toList == [105, 115, 111, 45, 56, 56, 53, 57, 45, 49]) = true := by rw [SLO.out, y2]; rfl
                            have HR := Lib.hid (show decodedL s.data.toList p = some (latin b) by rw [HDN.out]; show textC a b = _; unfold textC; rw [if_neg y1, if_pos y2])
                            clear y1 y2 HDN
                            obtain ⟨q, cc, hv, hcells, _⟩ := HOB3.out.form
                            have HCE := Lib.hid hcells
                            clear hcells
                            subst hv
                            obtain ⟨L, hL⟩ : ∃ L, b.length = L := ⟨_, rfl⟩
                            have HLL := Lib.hid hL
                            rw [hL]
                            have hL71 : L ≤ 71 := by omega
                            go_wp2
                            go_loopw [12, 119] (fun v i wx => LaRel b L w3 v i wx) (fun _ i _ => L - (intOf i).toNat)
                            case atStart => exact ⟨0, rfl, Nat.zero_le _, OwnB.nil _ _, Fr.refl _ _⟩
                            case round =>
                              obtain ⟨j, rfl, hj, hown, hF⟩ := hrel
                              have HOWN := Lib.hid hown; have HF3 := Lib.hid hF
                              have hB3 : w3.heap.size ≤ wr.heap.size := hF.size
                              clear hown hF
                              by_cases hlt : j < L
                              · have z6 : (j : Int) < (L : Int) := by omega
                                obtain ⟨c, hc⟩ : ∃ c, b[j]? = some c := ⟨_, List.getElem?_eq_getElem (by rw [HLL.out]; exact hlt)⟩
                                obtain ⟨g2, rfl, hg2, hcell3⟩ := HCE.out j c hc
                                have hcell : wr.cell? ⟨g2, j, none⟩ = some (.int .u8 c.toNat) := (HF3.out.cell (p := ⟨g2, j, none⟩) hg2).trans hcell3
                                have hct := c.toNat_lt
                                have hls := latin_snoc b j c hc
                                have hll : (latin (b.take j)).length ≤ 142 := by
                                  have h1 := latin_len (b.take j)
                                  have h2 : (b.take j).length ≤ j := by rw [List.length_take]; omega
                                  omega
                                clear hcell3 hc
                                by_cases h8 : c.toNat < 128
                                · have z7 : (c.toNat : Int) < 128 := by omega
                                  rw [if_pos h8] at hls
                                  have HLS := Lib.hid hls
                                  clear hls h8
                                  go_wp2_with (at_builtin; refine wpList_push_byte rfl _ _ rfl w3.heap.size (latin (b.take j)) _ c wr HOWN.out hB3 ?c4 rfl rfl ?_)
                                  case c4 => omega
                                  intro v' w5 hown' hg' _
                                  have HO2 := Lib.hid hown'; have HF5 := Lib.hid (push_fr HF3.out HOWN.out hg')
                                  clear hown' hg'
                                  go_wp2
                                  go_roundw
                                  case rel => exact ⟨j + 1, by go_num, by omega, by rw [HLS.out]; exact HO2.out, HF5.out⟩
                                  case measure => simp [intOf]; omega
                                · have z7 : ¬ (c.toNat : Int) < 128 := by omega
                                  rw [if_neg h8] at hls
                                  have HLS := Lib.hid hls
                                  obtain ⟨p1, hp1⟩ : ∃ p1, UInt8.ofNat (192 + c.toNat / 64) = p1 := ⟨_, rfl⟩
                                  obtain ⟨p2, hp2⟩ : ∃ p2, UInt8.ofNat (128 + c.toNat % 64) = p2 := ⟨_, rfl⟩
                                  have w1 := lat1 c (by omega)
                                  have w2 := lat2 c (by omega)
                                  rw [hp1] at w1
                                  rw [hp2] at w2
                                  rw [hp1, hp2] at HLS
                                  clear hls h8 hp1 hp2
                                  go_wp2_with (at_builtin; refine wpList_push_two rfl _ _ rfl w3.heap.size (latin (b.take j)) _ p1 p2 wr HOWN.out hB3 ?c4 rfl rfl ?_)
                                  case c4 => omega
                                  intro v' w5 hown' hg' _
                                  have HO2 := Lib.hid hown'; have HF5 := Lib.hid (push_fr HF3.out HOWN.out hg')
                                  clear hown' hg'
                                  go_wp2
                                  go_roundw
                                  case rel => exact ⟨j + 1, by go_num, by omega, by rw [HLS.out]; exact HO2.out, HF5.out⟩
                                  case measure => simp [intOf]; omega
                              · have z6 : ¬ (j : Int) < (L : Int) := by omega
                                have HO2 := Lib.hid (show OwnB w3.heap.size (latin b) _ wr by
                                  have h1 := HOWN.out
                                  rw [List.take_of_length_le (by rw [HLL.out]; omega)] at h1
                                  exact h1)
                                clear HOWN
                                go_wp2_with fail
                                rw [HO2.out.text]; simp only [Result.andThen]; rw [Oper.upon_value]
                                go_wp2
                                go_ret2
                                exact ⟨by rw [HR.out]; rfl, HB3.out.trans (HF3.out.below.mono HB3.out.size)⟩
                          · have v2 : (LO.toList == [105, 115, 111, 45, 56, 56, 53, 57, 45, 49]) = false := by rw [beq_eq_false_iff_ne, SLO.out]; exact y2
                            by_cases y3 : lowerL a = [117, 115, 45, 97, 115, 99, 105, 105]
                            · have v3 : (LO.toList == [117, 115, 45, 97, 115, 99, 105, 105]) = true := by rw [SLO.out, y3]; rfl
                              have HR := Lib.hid (show decodedL s.data.toList p = (if b.all (fun c => decide (c.toNat < 128)) then some b else none) by rw [HDN.out]; show textC a b = _; unfold textC; rw [if_neg y1, if_neg y2, if_pos y3])
                              clear y1 y2 y3 HDN
                              obtain ⟨q, cc, hv, hcells, _⟩ := HOB3.out.form
                              have HCE := Lib.hid hcells
                              clear hcells
                              subst hv
                              obtain ⟨L, hL⟩ : ∃ L, b.length = L := ⟨_, rfl⟩
                              have HLL := Lib.hid hL
                              rw [hL]
                              go_wp2
                              go_loopw [4, 5, 145] (fun r4 r5 i wx => r4 = .string ⟨#[]⟩ ∧ r5 = .int .i64 0 ∧ AsRel b L w3 i wx) (fun _ _ i _ => L - (intOf i).toNat)
                              case atStart => exact ⟨rfl, rfl, 0, rfl, rfl, Nat.zero_le _, rfl⟩
                              case round =>
                                obtain ⟨rfl, rfl, j, rfl, rfl, hj, hall⟩ := hrel
                                by_cases hlt : j < L
                                · have z6 : (j : Int) < (L : Int) := by omega
                                  obtain ⟨c, hc⟩ : ∃ c, b[j]? = some c := ⟨_, List.getElem?_eq_getElem (by rw [HLL.out]; exact hlt)⟩
                                  obtain ⟨g2, rfl, hg2, hcell⟩ := HCE.out j c hc
                                  have hct := c.toNat_lt
                                  by_cases h8 : c.toNat < 128
                                  · have z7 : ¬ (128 : Int) ≤ (c.toNat : Int) := by omega
                                    have HALL := Lib.hid (show (b.take (j + 1)).all (fun c => decide (c.toNat < 128)) = true by
                                      rw [List.take_add_one, hc, List.all_append, hall]
                                      simp [h8])
                                    clear hall h8 hc
                                    go_wp2
                                    go_roundw
                                    case rel => exact ⟨rfl, rfl, j + 1, rfl, by go_num, by omega, HALL.out⟩
                                    case measure => simp [intOf]; omega
                                  · have z7 : (128 : Int) ≤ (c.toNat : Int) := by omega
                                    have HRN := Lib.hid (show decodedL s.data.toList p = none by
                                      rw [HR.out, if_neg]
                                      intro h
                                      have := List.all_eq_true.1 h c (List.mem_of_getElem? hc)
                                      exact h8 (by simpa using this))
                                    clear HR h8 hc hall
                                    go_wp2
                                    go_ret2
                                    exact ⟨by rw [HRN.out]; rfl, HB3.out⟩
                                · have z6 : ¬ (j : Int) < (L : Int) := by omega
                                  have HRN := Lib.hid (show decodedL s.data.toList p = some b by
                                    rw [HR.out, if_pos]
                                    rw [List.take_of_length_le (by rw [HLL.out]; omega)] at hall
                                    exact hall)
                                  have htx := HOB3.out.text
                                  rw [HLL.out] at htx
                                  have HTX := Lib.hid htx
                                  clear HR hall htx
                                  go_wp2_with fail
                                  rw [HTX.out]; simp only [Result.andThen]; rw [Oper.upon_value]
                                  go_wp2
                                  go_ret2
                                  exact ⟨by rw [HRN.out]; rfl, HB3.out⟩
                            · have v3 : (LO.toList == [117, 115, 45, 97, 115, 99, 105, 105]) = false := by rw [beq_eq_false_iff_ne, SLO.out]; exact y3
                              have HR := Lib.hid (show decodedL s.data.toList p = none by rw [HDN.out]; show textC a b = _; unfold textC; rw [if_neg y1, if_neg y2, if_neg y3])
                              clear y1 y2 y3 HDN
                              go_wp2
                              go_ret2
                              exact ⟨by rw [HR.out]; rfl, HB3.out⟩
                · have t7 : ((M : Int) == 3) = false := by rw [beq_eq_false_iff_ne]; omega
                  have HDN := Lib.hid (show decodedL s.data.toList p = none by
                    rw [HD.out]
                    match acc, hM with
                    | [], _ => rfl
                    | [_], _ => rfl
                    | [_, _], _ => rfl
                    | [_, _, _], h => exact absurd h.symm h3
                    | _ :: _ :: _ :: _ :: _, _ => rfl)
                  clear HD hM HCL
                  go_wp2
                  go_ret2
                  exact ⟨by rw [HDN.out]; rfl, HF.out.below⟩
        · have t3 : ((s.extract 0 2).toList == [61, 63]) = true := by rw [beq_iff_eq]; exact b3
          have t4 : ((s.extract (n - 2) n).toList == [63, 61]) = false := by rw [beq_eq_false_iff_ne]; exact b4
          have HD := Lib.hid (show decodedL s.data.toList p = none by unfold decodedL; rw [HL.out, if_pos (.inr (.inr (.inr (by rw [← e3.out]; exact b4))))])
          go_enter Tryz.func39, Tryz.ntmps39
          go_wp2
          go_ret2
          exact ⟨by rw [HD.out]; rfl, Below.refl _ _⟩
      · have t3 : ((s.extract 0 2).toList == [61, 63]) = false := by rw [beq_eq_false_iff_ne]; exact b3
        have HD := Lib.hid (show decodedL s.data.toList p = none by unfold decodedL; rw [HL.out, if_pos (.inr (.inr (.inl (by rw [← e2.out]; exact b3))))])
        go_enter Tryz.func39, Tryz.ntmps39
        go_wp2
        go_ret2
        exact ⟨by rw [HD.out]; rfl, Below.refl _ _⟩
end Go.Proofs.YtpoglombagmhmaaGreatDoor
