/- spec.tokens: the walk (its loops). -/
import Derived.Test.YtmcjmmcamelmcaaGreatDoorS3
namespace Go.Proofs.YtmcjmmcamelmcaaGreatDoor
open Go Go.RowKit

theorem tr_push {s : ByteArray} {ts : List Tok} {last : Bool} {k : Nat} {t : Tok} {r : TR} (h : toksL false s.data.toList = TR.app ts (toksL last (s.data.toList.drop k))) (hr : toksL last (s.data.toList.drop k) = TR.cons t r) : toksL false s.data.toList = TR.app (ts ++ [t]) r := by
  rw [h, hr, TR.app_cons]
theorem ext_toList (s : ByteArray) (a b : Nat) : (s.extract a b).data.toList = (s.data.toList.drop a).take (b - a) := by
  rw [ByteArray.data_extract, Array.toList_extract, List.extract_eq_take_drop]

theorem quotedL_le : ∀ (l : List UInt8) (r : Option (List UInt8 × Nat)), quotedL l = r → ∀ p, r = some p → p.2 ≤ l.length := by
  intro l
  induction hn : l.length using Nat.strongRecOn generalizing l with
  | _ n ih =>
    intro r hr p hp
    subst hn
    subst hp
    cases l with
    | nil => simp [quotedL] at hr
    | cons c t =>
      rw [quotedL_cons] at hr
      by_cases h34 : c = 34
      · rw [if_pos h34] at hr
        cases hr
        simp
      · rw [if_neg h34] at hr
        by_cases h92 : c = 92
        · rw [if_pos h92] at hr
          cases t with
          | nil => simp at hr
          | cons d t' =>
            simp only [Option.map_eq_some_iff] at hr
            obtain ⟨q, hq, rfl⟩ := hr
            have := ih t'.length (by simp; omega) t' rfl _ hq q rfl
            simp only [List.length_cons]; omega
        · rw [if_neg h92] at hr
          simp only [Option.map_eq_some_iff] at hr
          obtain ⟨q, hq, rfl⟩ := hr
          have := ih t.length (by simp) t rfl _ hq q rfl
          simp only [List.length_cons]; omega

set_option maxHeartbeats 4000000 in
set_option maxRecDepth 100000 in
theorem tokens_any (s : ByteArray) (w : World) (hs : s.size ≤ 1099511627776) (hT : Lib.Utf8Tabs 0 1 w) :
    Calls Tryz.prog 14 #[.string s] w fun x w' => TRet (tokensL s.data.toList) w.heap.size x w' ∧ Below w.heap.size w w' := by
  have HT := Lib.hid hT
  clear hT
  cases hv : Lib.validD s.data.toList with
  | false =>
    have HV := Lib.hid hv
    clear hv
    go_enter Tryz.func14, Tryz.ntmps14
    go_wp2_with fail
    refine (Tryz.utf8_ValidString s _ (by omega) HT.out).mono ?_
    rintro x w1 ⟨rfl, hb1⟩
    rw [HV.out]
    go_wp2
    refine bodyPost_ret (v := .tuple #[.slice none 0 0, .bool false, .int .i64 2]) (by simp [results, Tryz.results14, go_sem]) rfl ⟨?_, hb1⟩
    unfold tokensL
    rw [if_pos HV.out]
    rfl
  | true =>
    have HV := Lib.hid hv
    clear hv
    go_enter Tryz.func14, Tryz.ntmps14
    go_wp2_with fail
    refine (Tryz.utf8_ValidString s _ (by omega) HT.out).mono ?_
    rintro x w1 ⟨rfl, hb1⟩
    rw [HV.out]
    have HB1 := Lib.hid hb1
    clear hb1
    go_wp2_with fail
    go_loopw [2, 3, 4, 17] (fun r2 r3 r4 i wr => r2 = .slice none 0 0 ∧ r3 = .bool false ∧ r4 = .int .i64 0 ∧ wr = w1 ∧ ∃ k : Nat, k ≤ s.size ∧ i = .int .i64 k ∧ (s.data.toList.take k).any ctlB = false) (fun _ _ _ i _ => s.size - (intOf i).toNat)
    case atStart => exact ⟨rfl, rfl, rfl, rfl, 0, Nat.zero_le _, rfl, rfl⟩
    case round =>
      obtain ⟨rfl, rfl, rfl, rfl, k, hk, rfl, hno⟩ := hrel
      have HNO := Lib.hid hno
      clear hno
      by_cases hlt : k < s.size
      · have hsn := take_snoc s k hlt
        have HSN := Lib.hid hsn
        clear hsn
        by_cases hc : s[k].toNat < 32 ∧ s[k].toNat ≠ 9 ∨ s[k].toNat = 127
        · have hany : s.data.toList.any ctlB = true := by
            rw [List.any_eq_true]
            exact ⟨s[k], by rw [ByteArray.getElem_eq_getElem_data]; simp, decide_eq_true hc⟩
          have HANY := Lib.hid hany
          clear hany
          rcases hc with ⟨c1, c2⟩ | c1
          · have t1 : (s[k].toNat : Int) < 32 := by omega
            have t2 : ((s[k].toNat : Int) != 9) = true := by rw [bne_iff_ne]; omega
            clear c1 c2
            go_wp2
            refine bodyPost_ret (v := .tuple #[.slice none 0 0, .bool false, .int .i64 2]) (by simp [results, Tryz.results14, go_sem]) rfl ⟨?_, HB1.out⟩
            unfold tokensL
            rw [if_neg (by rw [HV.out]; decide), if_pos HANY.out]
            rfl
          · have t1 : ¬ (s[k].toNat : Int) < 32 := by omega
            have t2 : ((s[k].toNat : Int) == 127) = true := by rw [beq_iff_eq]; omega
            clear c1
            go_wp2
            refine bodyPost_ret (v := .tuple #[.slice none 0 0, .bool false, .int .i64 2]) (by simp [results, Tryz.results14, go_sem]) rfl ⟨?_, HB1.out⟩
            unfold tokensL
            rw [if_neg (by rw [HV.out]; decide), if_pos HANY.out]
            rfl
        · have hb : ctlB s[k] = false := decide_eq_false hc
          have HB := Lib.hid hb
          clear hb
          have t2 : ((s[k].toNat : Int) == 127) = false := by rw [beq_eq_false_iff_ne]; omega
          have hor : (¬ (s[k].toNat : Int) < 32) ∨ ((s[k].toNat : Int) < 32 ∧ ((s[k].toNat : Int) != 9) = false) := by
            by_cases h : (s[k].toNat : Int) < 32
            · exact .inr ⟨h, by rw [bne_eq_false_iff_eq]; omega⟩
            · exact .inl h
          clear hc
          rcases hor with t1 | ⟨t1, t3⟩
          all_goals
            go_wp2
            go_roundw
            case rel => exact ⟨by first | rfl | trivial, by first | rfl | trivial, by first | rfl | trivial, by first | rfl | trivial, k + 1, by omega, by go_num, by rw [HSN.out, List.any_append, HNO.out]; simp [HB.out]⟩
            case measure => simp [intOf]; omega
      · have hno : s.data.toList.any ctlB = false := by
          have := HNO.out
          rwa [List.take_of_length_le (by simp; omega)] at this
        have htl : tokensL s.data.toList = toksL false s.data.toList := by
          unfold tokensL
          rw [if_neg (by rw [HV.out]; decide), if_neg (by rw [hno]; decide)]
        have HTL := Lib.hid htl
        clear hno htl HNO
        go_wp2
        go_loopw [2, 3, 4, 6] (fun r2 r3 r4 i wr => TkRel s w r2 r3 r4 i wr) (fun _ _ _ i _ => s.size - (intOf i).toNat)
        case atStart => exact ⟨0, [], false, OwnT.nil _ _, rfl, rfl, rfl, Nat.le_refl _, Nat.zero_le _, by rw [TR.app_nil]; rfl, Fr.of_below HB1.out⟩
        case round =>
          obtain ⟨k2, ts, last, hown, rfl, rfl, rfl, htl, hk2, heq, hF⟩ := hrel
          have HOWN := Lib.hid hown; have HF := Lib.hid hF
          have hB : w.heap.size ≤ wr.heap.size := hF.size
          by_cases hlt2 : k2 < s.size
          · rw [drop_at s k2 hlt2] at heq
            obtain ⟨c, hc⟩ : ∃ c, s[k2] = c := ⟨_, rfl⟩
            rw [hc] at heq
            have hct := c.toNat_lt
            cases hsp : isSp c with
            | true =>
              rw [toks_sp hsp] at heq
              have HEQ := Lib.hid heq
              have hcs : c = 32 ∨ c = 9 := by
                unfold isSp at hsp
                simpa using hsp
              clear heq hown hF hsp
              rcases hcs with rfl | rfl
              all_goals
                go_wp2
                go_roundw
                case rel => exact ⟨k2 + 1, ts, true, HOWN.out, rfl, rfl, by go_num, by omega, by omega, HEQ.out, HF.out⟩
                case measure => simp [intOf]; omega
            | false =>
              have n32 : c ≠ 32 := fun e => by rw [e] at hsp; exact absurd hsp (by decide)
              have n9 : c ≠ 9 := fun e => by rw [e] at hsp; exact absurd hsp (by decide)
              have t32 : ((c.toNat : Int) == 32) = false := cneq n32
              have t9 : ((c.toNat : Int) == 9) = false := cneq n9
              have HSP := Lib.hid hsp
              have HC := Lib.hid hc
              cases ha : atomB c with
              | true =>
                rw [toks_atom hsp ha, ← hc, ← drop_at s k2 hlt2] at heq
                have HEQ := Lib.hid heq; have HA := Lib.hid ha
                clear heq hown hF hsp n32 n9 ha
                go_wp2_with fail
                refine (IsAtom_any c _).mono ?_
                rintro x w2 ⟨rfl, hb2⟩
                rw [HA.out]
                have HB2 := Lib.hid hb2
                clear hb2
                go_wp2
                clear hc
                go_loopw [9] (fun n w3 => ∃ m : Nat, n = .int .i64 m ∧ k2 ≤ m ∧ m ≤ s.size ∧ ((s.data.toList.drop k2).take (m - k2)).all atomB = true ∧ Below wr.heap.size wr w3) (fun n _ => s.size - (intOf n).toNat)
                case atStart => exact ⟨k2, rfl, Nat.le_refl _, hk2, by simp, HB2.out⟩
                case round =>
                  obtain ⟨m, rfl, hm1, hm2, hall, hb3⟩ := hrel
                  have HALL := Lib.hid hall; have HB3 := Lib.hid hb3
                  clear hall hb3
                  have HDR := Lib.hid (drop_at s k2 hlt2)
                  by_cases hlt3 : m < s.size
                  · cases had : atomB s[m] with
                    | true =>
                      have HAD := Lib.hid had
                      clear had
                      go_wp2_with fail
                      refine (IsAtom_any (s[m]) _).mono ?_
                      rintro x w4 ⟨rfl, hb4⟩
                      rw [HAD.out]
                      have HB4 := Lib.hid (HB3.out.trans (hb4.mono HB3.out.size))
                      clear hb4
                      go_wp2
                      go_roundw
                      case rel =>
                        refine ⟨m + 1, by go_num, by omega, by omega, ?_, HB4.out⟩
                        rw [show m + 1 - k2 = (m - k2) + 1 by omega, List.take_add_one, List.all_append, HALL.out, List.getElem?_drop, show k2 + (m - k2) = m by omega]
                        have : s.data.toList[m]? = some s[m] := by rw [List.getElem?_eq_getElem (by simpa using hlt3)]; congr 1
                        rw [this]
                        simp [HAD.out]
                      case measure => simp [intOf]; omega
                    | false =>
                      have hspan := span_at atomB (s.data.toList.drop k2) (m - k2) (by simp; omega) HALL.out (fun x hx => by
                        rw [List.getElem?_drop, show k2 + (m - k2) = m by omega] at hx
                        have h2 : s.data.toList[m]? = some s[m] := by rw [List.getElem?_eq_getElem (by simpa using hlt3)]; congr 1
                        rw [h2] at hx
                        cases hx
                        exact had)
                      have hmk : k2 < m := by
                        rcases Nat.eq_or_lt_of_le hm1 with e | h
                        · subst e
                          rw [HC.out, HA.out] at had
                          cases had
                        · exact h
                      rw [List.drop_drop, show k2 + (m - k2) = m by omega] at hspan
                      have HSPAN := Lib.hid hspan; have HAD := Lib.hid had
                      clear hspan had
                      go_wp2_with fail
                      refine (IsAtom_any (s[m]) _).mono ?_
                      rintro x w4 ⟨rfl, hb4⟩
                      rw [HAD.out]
                      have HBW := Lib.hid (HB3.out.trans (hb4.mono HB3.out.size))
                      clear hb4
                      have hFW : Fr (· < w.heap.size) w w4 := HF.out.trans ((Fr.of_below HBW.out).mono (fun k hk => Nat.lt_of_lt_of_le hk hB))
                      have hOW : OwnT w.heap.size ts u2 w4 := HOWN.out.below HBW.out
                      have HFW := Lib.hid hFW; have HOW := Lib.hid hOW
                      have hBW : w.heap.size ≤ w4.heap.size := hFW.size
                      clear hFW hOW
                      go_wp2_with (at_builtin; refine wpList_push_tok rfl _ _ rfl w.heap.size ts _ 97 (s.extract k2 m) last w4 HOW.out hBW ?c4 rfl rfl ?_)
                      case c4 => omega
                      intro v' w5 hown' hg _
                      have HO2 := Lib.hid hown'; have HF2 := Lib.hid (pushT_fr HFW.out HOW.out hg)
                      clear hown' hg
                      go_wp2
                      go_roundw
                      case rel =>
                        refine ⟨m, _, false, HO2.out, rfl, rfl, by go_num, by simp; omega, hm2, ?_, HF2.out⟩
                        rw [HEQ.out, TR.app_cons, HSPAN.out.1, HSPAN.out.2]
                      case measure => simp [intOf]; omega

                  · have hm3 : m = s.size := by omega
                    have hspan := span_at atomB (s.data.toList.drop k2) (m - k2) (by simp; omega) HALL.out (fun x hx => by
                      rw [List.getElem?_drop, show k2 + (m - k2) = m by omega, List.getElem?_eq_none (by simp; omega)] at hx
                      cases hx)
                    have hmk : k2 < m := by omega
                    rw [List.drop_drop, show k2 + (m - k2) = m by omega] at hspan
                    have HSPAN := Lib.hid hspan; have HBW := HB3; have HM3 := Lib.hid hm3
                    clear hspan hm3
                    have hFW : Fr (· < w.heap.size) w wr := HF.out.trans ((Fr.of_below HBW.out).mono (fun k hk => Nat.lt_of_lt_of_le hk hB))
                    have hOW : OwnT w.heap.size ts u2 wr := HOWN.out.below HBW.out
                    have HFW := Lib.hid hFW; have HOW := Lib.hid hOW
                    have hBW : w.heap.size ≤ wr.heap.size := hFW.size
                    clear hFW hOW
                    go_wp2_with (at_builtin; refine wpList_push_tok rfl _ _ rfl w.heap.size ts _ 97 (s.extract k2 m) last wr HOW.out hBW ?c4 rfl rfl ?_)
                    case c4 => omega
                    intro v' w5 hown' hg _
                    have HO2 := Lib.hid hown'; have HF2 := Lib.hid (pushT_fr HFW.out HOW.out hg)
                    clear hown' hg
                    go_wp2
                    go_roundw
                    case rel =>
                      refine ⟨m, _, false, HO2.out, rfl, rfl, by go_num, by simp; omega, hm2, ?_, HF2.out⟩
                      rw [HEQ.out, TR.app_cons, HSPAN.out.1, HSPAN.out.2]
                    case measure => simp [intOf]; omega

              | false =>
                have HA := Lib.hid ha
                by_cases h34 : c = 34
                · subst h34
                  rw [toks_quote] at heq
                  have HEQ := Lib.hid heq
                  obtain ⟨r, hr⟩ : ∃ r, quotedL (s.data.toList.drop (k2 + 1)) = r := ⟨_, rfl⟩
                  have hqd : (s.extract k2 s.size).data.toList.drop 1 = s.data.toList.drop (k2 + 1) := by
                    rw [ext_toList, List.take_of_length_le (by simp), List.drop_drop]
                  have hqa := fun W => quoted_any (s.extract k2 s.size) W (by rw [ByteArray.size_extract]; omega)
                  rw [hqd, hr] at hqa
                  rw [hr] at HEQ
                  have HQA := Lib.hid hqa
                  have hrl := quotedL_le _ _ hr
                  clear heq hown hF hsp n32 n9 ha hqd hqa hr
                  go_wp2_with fail
                  refine (IsAtom_any 34 _).mono ?_
                  rintro x w2 ⟨rfl, hb2⟩
                  rw [HA.out]
                  have HB2 := Lib.hid hb2
                  clear hb2
                  go_wp2_with fail
                  refine (HQA.out _).mono ?_
                  rintro x w3 ⟨rfl, hb3⟩
                  have HB2 := Lib.hid (HB2.out.trans (hb3.mono HB2.out.size))
                  clear hb3
                  cases r with
                  | none =>
                    unfold qRet
                    go_wp2
                    refine bodyPost_ret (v := .tuple #[.slice none 0 0, .bool false, .int .i64 1]) (by simp [results, Tryz.results14, go_sem]) rfl ⟨?_, (HF.out.trans ((Fr.of_below HB2.out).mono (fun k hk => Nat.lt_of_lt_of_le hk hB))).below⟩
                    rw [HTL.out, HEQ.out]
                    rfl
                  | some r =>
                    obtain ⟨y, n⟩ := r
                    have hle := hrl (y, n) rfl
                    simp only [List.length_drop, Array.length_toList] at hle
                    have hle' : n ≤ s.size - (k2 + 1) := hle
                    clear hle hrl
                    unfold qRet
                    have t0 : ((((y, n).2 + 1 : Nat) : Int) == 0) = false := by rw [beq_eq_false_iff_ne]; omega
                    have hyt : (⟨y.toArray⟩ : ByteArray).data.toList = y := by simp
                    have HYT := Lib.hid hyt
                    clear hyt
                    have hFW : Fr (· < w.heap.size) w w3 := HF.out.trans ((Fr.of_below HB2.out).mono (fun k hk => Nat.lt_of_lt_of_le hk hB))
                    have hOW : OwnT w.heap.size ts u2 w3 := HOWN.out.below HB2.out
                    have HFW := Lib.hid hFW; have HOW := Lib.hid hOW
                    have hBW : w.heap.size ≤ w3.heap.size := hFW.size
                    clear hFW hOW
                    go_wp2_with (at_builtin; refine wpList_push_tok rfl _ _ rfl w.heap.size ts _ 113 ⟨y.toArray⟩ last w3 HOW.out hBW ?c4 rfl rfl ?_)
                    case c4 => omega
                    intro v' w5 hown' hg _
                    have HO2 := Lib.hid hown'; have HF2 := Lib.hid (pushT_fr HFW.out HOW.out hg)
                    clear hown' hg
                    go_wp2
                    go_roundw
                    case rel =>
                      refine ⟨k2 + (n + 1), _, false, HO2.out, rfl, rfl, by go_num, by simp; omega, by omega, ?_, HF2.out⟩
                      rw [HEQ.out]
                      simp only [TR.app_cons, List.drop_drop]
                      rw [show k2 + 1 + n = k2 + (n + 1) by omega]
                    case measure => simp [intOf]; omega

                · by_cases h92 : c = 92
                  · subst h92
                    rw [toks_back] at heq
                    have HEQ := Lib.hid heq
                    clear heq hown hF hsp n32 n9 ha h34
                    go_wp2_with fail
                    refine (IsAtom_any 92 _).mono ?_
                    rintro x w2 ⟨rfl, hb2⟩
                    rw [HA.out]
                    have HB2 := Lib.hid hb2
                    clear hb2
                    go_wp2
                    refine bodyPost_ret (v := .tuple #[.slice none 0 0, .bool false, .int .i64 1]) (by simp [results, Tryz.results14, go_sem]) rfl ⟨?_, (HF.out.trans ((Fr.of_below HB2.out).mono (fun k hk => Nat.lt_of_lt_of_le hk hB))).below⟩
                    rw [HTL.out, HEQ.out]
                    rfl
                  · have t34 : ((c.toNat : Int) == 34) = false := cneq h34
                    have t92 : ((c.toNat : Int) == 92) = false := cneq h92
                    cases ho : isOpen c with
                    | true =>
                      rw [toks_open hsp ha h34 h92 ho] at heq
                      have HEQ := Lib.hid heq
                      have hcs : c = 40 ∨ c = 41 ∨ c = 91 ∨ c = 93 := by
                        unfold isOpen at ho
                        simp only [Bool.or_eq_true, beq_iff_eq] at ho
                        rcases ho with ((h | h) | h) | h
                        · exact .inl h
                        · exact .inr (.inl h)
                        · exact .inr (.inr (.inl h))
                        · exact .inr (.inr (.inr h))
                      clear heq hown hF hsp n32 n9 ha h34 h92 ho t34 t92 t32 t9 hct
                      rcases hcs with rfl | rfl | rfl | rfl
                      · go_wp2_with fail
                        refine (IsAtom_any 40 _).mono ?_
                        rintro x w2 ⟨rfl, hb2⟩
                        rw [HA.out]
                        have HB2 := Lib.hid hb2
                        clear hb2
                        go_wp2
                        refine bodyPost_ret (v := .tuple #[.slice none 0 0, .bool false, .int .i64 2]) (by simp [results, Tryz.results14, go_sem]) rfl ⟨?_, (HF.out.trans ((Fr.of_below HB2.out).mono (fun k hk => Nat.lt_of_lt_of_le hk hB))).below⟩
                        rw [HTL.out, HEQ.out]
                        rfl
                      · go_wp2_with fail
                        refine (IsAtom_any 41 _).mono ?_
                        rintro x w2 ⟨rfl, hb2⟩
                        rw [HA.out]
                        have HB2 := Lib.hid hb2
                        clear hb2
                        go_wp2
                        refine bodyPost_ret (v := .tuple #[.slice none 0 0, .bool false, .int .i64 2]) (by simp [results, Tryz.results14, go_sem]) rfl ⟨?_, (HF.out.trans ((Fr.of_below HB2.out).mono (fun k hk => Nat.lt_of_lt_of_le hk hB))).below⟩
                        rw [HTL.out, HEQ.out]
                        rfl
                      · go_wp2_with fail
                        refine (IsAtom_any 91 _).mono ?_
                        rintro x w2 ⟨rfl, hb2⟩
                        rw [HA.out]
                        have HB2 := Lib.hid hb2
                        clear hb2
                        go_wp2
                        refine bodyPost_ret (v := .tuple #[.slice none 0 0, .bool false, .int .i64 2]) (by simp [results, Tryz.results14, go_sem]) rfl ⟨?_, (HF.out.trans ((Fr.of_below HB2.out).mono (fun k hk => Nat.lt_of_lt_of_le hk hB))).below⟩
                        rw [HTL.out, HEQ.out]
                        rfl
                      · go_wp2_with fail
                        refine (IsAtom_any 93 _).mono ?_
                        rintro x w2 ⟨rfl, hb2⟩
                        rw [HA.out]
                        have HB2 := Lib.hid hb2
                        clear hb2
                        go_wp2
                        refine bodyPost_ret (v := .tuple #[.slice none 0 0, .bool false, .int .i64 2]) (by simp [results, Tryz.results14, go_sem]) rfl ⟨?_, (HF.out.trans ((Fr.of_below HB2.out).mono (fun k hk => Nat.lt_of_lt_of_le hk hB))).below⟩
                        rw [HTL.out, HEQ.out]
                        rfl
                    | false =>
                      rw [toks_else hsp ha h34 h92 ho] at heq
                      have HEQ := Lib.hid heq
                      have hcs : c ≠ 40 ∧ c ≠ 41 ∧ c ≠ 91 ∧ c ≠ 93 := by
                        refine ⟨?_, ?_, ?_, ?_⟩ <;> (rintro rfl; exact absurd ho (by decide))
                      have t40 : ((c.toNat : Int) == 40) = false := cneq hcs.1
                      have t41 : ((c.toNat : Int) == 41) = false := cneq hcs.2.1
                      have t91 : ((c.toNat : Int) == 91) = false := cneq hcs.2.2.1
                      have t93 : ((c.toNat : Int) == 93) = false := cneq hcs.2.2.2
                      clear heq hown hF hsp n32 n9 ha h34 h92 ho hcs
                      go_wp2_with fail
                      refine (IsAtom_any c _).mono ?_
                      rintro x w2 ⟨rfl, hb2⟩
                      rw [HA.out]
                      have HB2 := Lib.hid hb2
                      clear hb2
                      have hFW : Fr (· < w.heap.size) w w2 := HF.out.trans ((Fr.of_below HB2.out).mono (fun k hk => Nat.lt_of_lt_of_le hk hB))
                      have hOW : OwnT w.heap.size ts u2 w2 := HOWN.out.below HB2.out
                      have HFW := Lib.hid hFW; have HOW := Lib.hid hOW
                      have hBW : w.heap.size ≤ w2.heap.size := hFW.size
                      clear hFW hOW
                      go_wp2_with (at_builtin; refine wpList_push_tok rfl _ _ rfl w.heap.size ts _ c ⟨#[]⟩ last w2 HOW.out hBW ?c4 rfl rfl ?_)
                      case c4 => omega
                      intro v' w5 hown' hg _
                      have HO2 := Lib.hid hown'; have HF2 := Lib.hid (pushT_fr HFW.out HOW.out hg)
                      clear hown' hg
                      go_wp2
                      go_roundw
                      case rel =>
                        refine ⟨k2 + 1, _, false, HO2.out, rfl, rfl, by go_num, by simp; omega, by omega, ?_, HF2.out⟩
                        rw [HEQ.out, TR.app_cons]
                      case measure => simp [intOf]; omega

          · have hd : s.data.toList.drop k2 = [] := List.drop_eq_nil_of_le (by simp; omega)
            rw [hd] at heq
            clear hd
            rw [toksL] at heq
            have HEQ := Lib.hid heq
            clear heq hown hF
            go_wp2
            refine bodyPost_ret (v := .tuple #[u2, .bool last, .int .i64 0]) (by simp [results, Tryz.results14, go_sem]) rfl ⟨?_, HF.out.below⟩
            rw [HTL.out, HEQ.out]
            exact ⟨_, rfl, by simpa using HOWN.out⟩
end Go.Proofs.YtmcjmmcamelmcaaGreatDoor
