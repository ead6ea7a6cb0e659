/-
  THE WALK OF readNumber (function 25): it hands back what 'Nb.rd' says.
-/
import Derived.Test.Qxb6001233aModsRows
import Derived.Test.Qxb6001233aModsBase
import Derived.WalkKit
import Derived.WalkSpells
import Derived.WalkLawsBesides
import Derived.ProofKit
import Derived.Deep.CutRange
import Derived.Deep.CutBlock
import Derived.Deep.Light
namespace Go.Proofs.Qxb6001233aMods
open Go.RowKit

set_option maxRecDepth 100000 in
set_option maxHeartbeats 8000000 in
theorem read25 (s : ByteArray) (w : World) (hs : s.size ≤ 16777216) :
    Calls Trym.prog 25 #[.string s] w fun e w' => e = .returned (numV (Nb.rd (L s))) ∧ Below w.heap.size w w' := by
  go_enter Trym.func25, Trym.ntmps25
  go_upto_region 2 with fail
  go_cut [29] from 14 to 29 (fun b wc => b = .bool (Nb.sgnL (L s)) ∧ wc = w.alloc (.cells #[.bool false, .string ⟨#[]⟩, .int .i64 0] 24))
  case first =>
    as_aux_lemma =>
    by_cases h0 : 0 < s.size
    · have E : Hid (Nb.sgnL (L s) = ((s[0].toNat : Int) == 43 || (s[0].toNat : Int) == 45)) := sgn_pos (L_drop s 0 h0)
      go_wp2
      all_goals (go_meet; case rel => rw [E.out]; first | exact ⟨rfl, rfl⟩ | (refine ⟨?_, rfl⟩; simp [*]))
    · have E : Hid (Nb.sgnL (L s) = false) := sgn_nil (L_nil h0)
      go_wp2
      go_meet
      case rel => rw [E.out]; exact ⟨rfl, rfl⟩
  case rest =>
    obtain ⟨rfl, rfl⟩ := hcut
    go_upto_if 29 with fail
    go_cut [4] from 14 to 36 (fun i wc => i = .int .i64 (Nb.st (L s)) ∧ wc = w.alloc (.cells #[.bool (Nb.negL (L s)), .string ⟨#[]⟩, .int .i64 0] 24))
    case first =>
      as_aux_lemma =>
      generalize hsg : Nb.sgnL (L s) = sg
      cases sg with
      | true =>
        have h0 : 0 < s.size := lt_of_sgn (s := s) (k := 0) hsg
        have E : Hid (Nb.negL (L s) = ((s[0].toNat : Int) == 45)) := neg_pos (L_drop s 0 h0)
        have E2 : Hid (Nb.st (L s) = 1) := st_one hsg
        clear hsg
        go_wp2
        go_meet
        case rel => rw [E.out, E2.out]; exact ⟨rfl, rfl⟩
      | false =>
        have E : Hid (Nb.negL (L s) = false) := neg_of_sgn hsg
        have E2 : Hid (Nb.st (L s) = 0) := st_nought hsg
        clear hsg
        go_wp2
        go_meet
        case rel => rw [E.out, E2.out]; exact ⟨rfl, rfl⟩
    case rest =>
      obtain ⟨rfl, rfl⟩ := hcut
      generalize hst : Nb.st (L s) = st0
      have Hst : Hid (Nb.st (L s) = st0) := hst
      have hst1 : st0 ≤ s.size := by rw [← hst, ← L_len]; exact Nb.st_le _
      have Hsc : Hid (Nb.scanned (L s) = Nb.scan ((L s).drop st0) st0 (-1) (-1) (-1)) := by rw [← hst]; exact rfl
      clear hst
      go_upto_block 0 with fail
      go_cut [4, 6, 7, 8] from 14 to 65 (fun i p f la wc => ∃ (e : Nat) (pp ff ll : Int), i = .int .i64 e ∧ p = .int .i64 pp ∧ f = .int .i64 ff ∧ la = .int .i64 ll ∧ Hid (Nb.scanned (L s) = (e, pp, ff, ll)) ∧ wc = w.alloc (.cells #[.bool (Nb.negL (L s)), .string ⟨#[]⟩, .int .i64 0] 24))
      case first =>
        as_aux_lemma =>
        go_wp2_with fail
        go_loop [4, 6, 7, 8] (fun i p f la => ∃ (k : Nat) (pp ff ll : Int), k ≤ s.size ∧ i = .int .i64 k ∧ p = .int .i64 pp ∧ f = .int .i64 ff ∧ la = .int .i64 ll ∧ Hid (Nb.scanned (L s) = Nb.scan ((L s).drop k) k pp ff ll)) (fun i _ _ _ => s.size - (intOf i).toNat)
        case atStart => exact ⟨st0, -1, -1, -1, hst1, rfl, rfl, rfl, rfl, Hsc⟩
        case round =>
          obtain ⟨k, pp, ff, ll, hk, rfl, rfl, rfl, rfl, Hk⟩ := hrel
          clear Hsc Hst
          by_cases hlt : k < s.size
          · have Hd : Hid ((L s).drop k = s[k] :: (L s).drop (k + 1)) := L_drop s k hlt
            go_wp2
            · go_round
              case rel => exact ⟨k + 1, k, ff, ll, by omega, by go_num, rfl, rfl, rfl, sc_point Hk Hd ‹_› ‹_›⟩
              case measure => simp [intOf]; omega
            · go_meet
              case rel => exact ⟨k, pp, ff, ll, rfl, rfl, rfl, rfl, sc_stop Hk Hd (by omega) (by omega), rfl⟩
            · go_meet
              case rel => exact ⟨k, pp, ff, ll, rfl, rfl, rfl, rfl, sc_stop Hk Hd (by omega) ‹_›, rfl⟩
            · go_round
              case rel => exact ⟨k + 1, pp, k, k, by omega, by go_num, rfl, rfl, rfl, sc_first Hk Hd ‹_› ‹_› ‹_›⟩
              case measure => simp [intOf]; omega
            · go_round
              case rel => exact ⟨k + 1, pp, ff, k, by omega, by go_num, rfl, rfl, rfl, sc_later Hk Hd ‹_› ‹_› ‹_›⟩
              case measure => simp [intOf]; omega
            · go_round
              case rel => exact ⟨k + 1, pp, ff, ll, by omega, by go_num, rfl, rfl, rfl, sc_nought Hk Hd ‹_›⟩
              case measure => simp [intOf]; omega
            · go_meet
              case rel => exact ⟨k, pp, ff, ll, rfl, rfl, rfl, rfl, sc_stop Hk Hd (by omega) (by omega), rfl⟩
          · go_wp2
            go_meet
            case rel => exact ⟨k, pp, ff, ll, rfl, rfl, rfl, rfl, sc_end Hk (L_end s k hlt), rfl⟩
      case rest =>
        obtain ⟨e, pp, ff, ll, rfl, rfl, rfl, rfl, He, rfl⟩ := hcut
        clear Hsc
        have hinv : st0 ≤ e ∧ e ≤ s.size ∧ Nb.Inv (L s) st0 e pp ff ll := by
          obtain ⟨e', p', f', l', h1, h2⟩ := Nb.scanned_inv (L s)
          rw [He.out] at h1
          simp only [Prod.mk.injEq] at h1
          obtain ⟨rfl, rfl, rfl, rfl⟩ := h1
          rw [Hst.out] at h2
          exact ⟨h2.lo, by rw [← L_len]; exact h2.hi, h2⟩
        obtain ⟨he1, he2, hI⟩ := hinv
        have hpp : -1 ≤ pp ∧ pp < s.size := by have := hI.pt; omega
        have hff : -1 ≤ ff ∧ ff < s.size := by have := hI.ends; omega
        have hll : -1 ≤ ll ∧ ll < s.size := by have := hI.ends; omega
        go_upto_region 17 with fail
        go_cut [81] from 14 to 81 (fun b wc => b = .bool (badB st0 e pp) ∧ wc = w.alloc (.cells #[.bool (Nb.negL (L s)), .string ⟨#[]⟩, .int .i64 0] 24))
        case first =>
          as_aux_lemma =>
          by_cases c1 : e = st0
          · have E : Hid (badB st0 e pp = true) := by show badB st0 e pp = true; simp [badB, c1]
            have c2 : ((e : Int) - st0 == 0) = true := by simp; omega
            clear c1
            go_wp2
            go_meet
            case rel => rw [E.out]; exact ⟨rfl, rfl⟩
          · have c2 : ((e : Int) - st0 == 0) = false := by simp; omega
            by_cases c3 : e = st0 + 1
            · have c4 : ((e : Int) - st0 == 1) = true := by simp; omega
              have E : Hid (badB st0 e pp = (pp == (st0 : Int))) := by show badB st0 e pp = _; simp [badB, c3]; rfl
              clear c3 c1
              go_wp2
              go_meet
              case rel => rw [E.out]; exact ⟨rfl, rfl⟩
            · have c4 : ((e : Int) - st0 == 1) = false := by simp; omega
              have E : Hid (badB st0 e pp = false) := by show badB st0 e pp = _; simp [badB, c1, c3]
              clear c3 c1
              go_wp2
              go_meet
              case rel => rw [E.out]; exact ⟨rfl, rfl⟩
        case rest =>
          obtain ⟨rfl, rfl⟩ := hcut
          generalize hb : badB st0 e pp = bb
          have Hb : Hid (badB st0 e pp = bb) := hb
          clear hb
          cases bb with
          | true =>
            as_aux_lemma =>
            have R : Hid (Nb.rd (L s) = none) := Nb.rd_bad He.out (by rw [Hst.out]; exact of_decide_eq_true Hb.out)
            go_wp2
            exact bodyPost_ret (v := .tuple #[.agg #[.bool false, .string ⟨#[]⟩, .int .i64 0], .bool false]) (by simp [results, Trym.results25, go_sem]) rfl ⟨by rw [numV_none R.out], (Below.refl _ _).alloc (Nat.le_refl _) _⟩
          | false =>
            go_upto_region 20 with fail
            go_cut [98] from 14 to 98 (fun b wc => b = .bool (Nb.isE ((L s).drop e)) ∧ wc = w.alloc (.cells #[.bool (Nb.negL (L s)), .string ⟨#[]⟩, .int .i64 0] 24))
            case first =>
              as_aux_lemma =>
              by_cases h0 : e < s.size
              · have E : Hid (Nb.isE ((L s).drop e) = ((s[e].toNat : Int) == 101 || (s[e].toNat : Int) == 69)) := isE_pos (L_drop s e h0)
                go_wp2
                all_goals (go_meet; case rel => rw [E.out]; first | exact ⟨rfl, rfl⟩ | (refine ⟨?_, rfl⟩; simp [*]))
              · have E : Hid (Nb.isE ((L s).drop e) = false) := isE_nil (L_end s e h0)
                go_wp2
                go_meet
                case rel => rw [E.out]; exact ⟨rfl, rfl⟩
            case rest =>
              obtain ⟨rfl, rfl⟩ := hcut
              go_upto_if 98 with fail
              go_cut [4, 11] from 14 to 160 (fun i x wc => ∃ (k : Nat) (xx : Int), k ≤ s.size ∧ i = .int .i64 k ∧ x = .int .i64 xx ∧ -999999999 ≤ xx ∧ xx ≤ 999999999 ∧ Hid ((k = s.size → Nb.expPart ((L s).drop e) = some xx) ∧ (k ≠ s.size → Nb.expPart ((L s).drop e) = none)) ∧
                wc = w.alloc (.cells #[.bool (Nb.negL (L s)), .string ⟨#[]⟩, .int .i64 0] 24))
              case first =>
                as_aux_lemma =>
                generalize hb : Nb.isE ((L s).drop e) = bb
                have Hb2 : Hid (Nb.isE ((L s).drop e) = bb) := hb
                clear hb
                cases bb with
                | false =>
                  go_wp2
                  go_meet
                  case rel =>
                    refine ⟨e, 0, he2, rfl, rfl, by omega, by omega, ⟨?_, ?_⟩, rfl⟩
                    · intro h; rw [L_end s e (by omega)]; rfl
                    · intro h; exact Nb.expPart_not Hb2.out (by rw [L_drop s e (by omega)]; simp)
                | true =>
                  have h0 : e < s.size := lt_of_isE Hb2.out
                  obtain ⟨c0, cs0, hc0, hx0⟩ := Nb.expPart_isE Hb2.out
                  have hcs0 : cs0 = (L s).drop (e + 1) := by
                    rw [L_drop s e h0] at hc0
                    exact ((List.cons.inj hc0).2).symm
                  have Hx : Hid (Nb.expPart ((L s).drop e) = Nb.expTail ((L s).drop (e + 1))) := by
                    show Nb.expPart ((L s).drop e) = Nb.expTail ((L s).drop (e + 1))
                    rw [hx0, hcs0]
                  clear hx0 hcs0 hc0
                  go_upto_region 22 with fail
                  go_cut [12] from 14 to 110 (fun b wc => b = .bool (Nb.negL ((L s).drop (e + 1))) ∧ wc = w.alloc (.cells #[.bool (Nb.negL (L s)), .string ⟨#[]⟩, .int .i64 0] 24))
                  case first =>
                    as_aux_lemma =>
                    by_cases h1 : e + 1 < s.size
                    · have E : Hid (Nb.negL ((L s).drop (e + 1)) = ((s[e + 1].toNat : Int) == 45)) := neg_pos (L_drop s (e + 1) h1)
                      go_wp2
                      go_meet
                      case rel => rw [E.out]; exact ⟨rfl, rfl⟩
                    · have E : Hid (Nb.negL ((L s).drop (e + 1)) = false) := neg_nil (L_end s (e + 1) h1)
                      go_wp2
                      go_meet
                      case rel => rw [E.out]; exact ⟨rfl, rfl⟩
                  case rest =>
                    obtain ⟨rfl, rfl⟩ := hcut
                    go_upto_region 23 with fail
                    go_cut [126] from 14 to 126 (fun b wc => b = .bool (Nb.sgnL ((L s).drop (e + 1))) ∧ wc = w.alloc (.cells #[.bool (Nb.negL (L s)), .string ⟨#[]⟩, .int .i64 0] 24))
                    case first =>
                      as_aux_lemma =>
                      by_cases h1 : e + 1 < s.size
                      · have E : Hid (Nb.sgnL ((L s).drop (e + 1)) = ((s[e + 1].toNat : Int) == 43 || (s[e + 1].toNat : Int) == 45)) := sgn_pos (L_drop s (e + 1) h1)
                        go_wp2
                        all_goals (go_meet; case rel => rw [E.out]; first | exact ⟨rfl, rfl⟩ | (refine ⟨?_, rfl⟩; simp [*]))
                      · have E : Hid (Nb.sgnL ((L s).drop (e + 1)) = false) := sgn_nil (L_end s (e + 1) h1)
                        go_wp2
                        go_meet
                        case rel => rw [E.out]; exact ⟨rfl, rfl⟩
                    case rest =>
                      obtain ⟨rfl, rfl⟩ := hcut
                      go_upto_if 126 with fail
                      go_cut [4] from 14 to 128 (fun i wc => ∃ k : Nat, i = .int .i64 k ∧ k ≤ s.size ∧ Hid (k = e + 1 + Nb.st ((L s).drop (e + 1))) ∧ wc = w.alloc (.cells #[.bool (Nb.negL (L s)), .string ⟨#[]⟩, .int .i64 0] 24))
                      case first =>
                        as_aux_lemma =>
                        generalize hsg : Nb.sgnL ((L s).drop (e + 1)) = sg
                        cases sg with
                        | true =>
                          have h1 := lt_of_sgn hsg
                          have E : Hid (Nb.st ((L s).drop (e + 1)) = 1) := st_one hsg
                          clear hsg
                          go_wp2
                          go_meet
                          case rel => exact ⟨e + 1 + 1, by go_num, by omega, by rw [E.out]; exact rfl, rfl⟩
                        | false =>
                          have E : Hid (Nb.st ((L s).drop (e + 1)) = 0) := st_nought hsg
                          clear hsg
                          go_wp2
                          go_meet
                          case rel => exact ⟨e + 1, by go_num, by omega, by rw [E.out]; exact rfl, rfl⟩
                      case rest =>
                        obtain ⟨k0, rfl, hk0, Hk0, rfl⟩ := hcut
                        have Hy : Hid (Nb.expPart ((L s).drop e) = (Nb.expDigs ((L s).drop k0)).map (fun x => if Nb.negL ((L s).drop (e + 1)) = true then -x else x)) := by
                          show Nb.expPart ((L s).drop e) = _
                          rw [Hx.out, Nb.expTail_spec, Hk0.out, List.drop_drop]
                        clear Hx Hk0
                        by_cases hend : k0 = s.size
                        · as_aux_lemma =>
                          have R : Hid (Nb.rd (L s) = none) := Nb.rd_none He.out (by rw [Hy.out, L_end s k0 (by omega)]; rfl)
                          subst hend
                          go_wp2
                          exact bodyPost_ret (v := .tuple #[.agg #[.bool false, .string ⟨#[]⟩, .int .i64 0], .bool false]) (by simp [results, Trym.results25, go_sem]) rfl ⟨by rw [numV_none R.out], (Below.refl _ _).alloc (Nat.le_refl _) _⟩
                        · have hk1 : k0 < s.size := by omega
                          have hk2 : ((k0 : Int) == (s.size : Int)) = false := by simp; omega
                          have Hz : Hid (Nb.expDigs ((L s).drop k0) = Nb.expo ((L s).drop k0) 0) := by
                            show Nb.expDigs ((L s).drop k0) = _
                            unfold Nb.expDigs
                            rw [if_neg (by rw [List.length_drop, L_len]; omega)]
                          clear hend
                          go_wp2_with fail
                          go_loop [3, 4, 11] (fun b i x => ∃ (k : Nat) (xx : Int), k ≤ s.size ∧ b = .bool false ∧ i = .int .i64 k ∧ x = .int .i64 xx ∧ 0 ≤ xx ∧ xx ≤ 999999999 ∧ Hid (Nb.expDigs ((L s).drop k0) = Nb.expo ((L s).drop k) xx)) (fun _ i _ => s.size - (intOf i).toNat)
                          case atStart => exact ⟨k0, 0, hk0, rfl, rfl, rfl, by omega, by omega, Hz⟩
                          case round =>
                            obtain ⟨k, xx, hk, rfl, rfl, rfl, hx1, hx2, Hk⟩ := hrel
                            clear Hz
                            by_cases hlt : k < s.size
                            · as_aux_lemma =>
                              have Hd : Hid ((L s).drop k = s[k] :: (L s).drop (k + 1)) := L_drop s k hlt
                              have R0 : s[k].toNat < 48 ∨ 57 < s[k].toNat → Hid (Nb.rd (L s) = none) := fun hb => Nb.rd_none He.out (by rw [Hy.out, Hk.out, Hd.out, Nb.expo_bad hb]; rfl)
                              have HR : Hid (s[k].toNat < 48 ∨ 57 < s[k].toNat → Hid (Nb.rd (L s) = none)) := R0
                              clear R0
                              go_wp2
                              · have R := HR.out (by omega)
                                exact bodyPost_ret (v := .tuple #[.agg #[.bool false, .string ⟨#[]⟩, .int .i64 0], .bool false]) (by simp [results, Trym.results25, go_sem]) rfl ⟨by rw [numV_none R.out], (Below.refl _ _).alloc (Nat.le_refl _) _⟩
                              · go_round
                                case rel => exact ⟨k + 1, xx * 10 + ((s[k].toNat : Int) - 48), by omega, rfl, by go_num, by go_num, by omega, by omega, by rw [Hk.out, Hd.out, Nb.expo_more (by omega) ‹_›]; exact rfl⟩
                                case measure => simp [intOf]; omega
                              · go_round
                                case rel => exact ⟨k + 1, xx, by omega, rfl, by go_num, rfl, by omega, by omega, by rw [Hk.out, Hd.out, Nb.expo_full (by omega) ‹_›]; exact rfl⟩
                                case measure => simp [intOf]; omega
                              · have R := HR.out (by omega)
                                exact bodyPost_ret (v := .tuple #[.agg #[.bool false, .string ⟨#[]⟩, .int .i64 0], .bool false]) (by simp [results, Trym.results25, go_sem]) rfl ⟨by rw [numV_none R.out], (Below.refl _ _).alloc (Nat.le_refl _) _⟩
                            · as_aux_lemma =>
                              have Hw : Hid (Nb.expDigs ((L s).drop k0) = some xx) := by
                                show Nb.expDigs ((L s).drop k0) = some xx
                                rw [Hk.out, L_end s k hlt]
                                rfl
                              generalize hng : Nb.negL ((L s).drop (e + 1)) = ng
                              have Hng : Hid (Nb.negL ((L s).drop (e + 1)) = ng) := hng
                              clear hng
                              cases ng with
                              | true =>
                                go_wp2
                                go_meet
                                case rel => exact ⟨k, -xx, hk, rfl, rfl, by omega, by omega, ⟨fun _ => by rw [Hy.out, Hw.out, Hng.out]; rfl, fun h => absurd h (by omega)⟩, rfl⟩
                              | false =>
                                go_wp2
                                go_meet
                                case rel => exact ⟨k, xx, hk, rfl, rfl, by omega, by omega, ⟨fun _ => by rw [Hy.out, Hw.out, Hng.out]; rfl, fun h => absurd h (by omega)⟩, rfl⟩
              case rest =>
                obtain ⟨k, xx, hk, rfl, rfl, hx1, hx2, HX, rfl⟩ := hcut
                by_cases hkl : k = s.size
                · subst hkl
                  have Hxx : Hid (Nb.expPart ((L s).drop e) = some xx) := HX.out.1 rfl
                  have HR : Hid (Nb.rd (L s) = some (Nb.fin (L s) e pp ff ll xx)) := Nb.rd_some He.out (by rw [Hst.out]; exact of_decide_eq_false Hb.out) Hxx.out
                  clear HX Hxx Hb He
                  by_cases hf0 : ff < 0
                  · as_aux_lemma =>
                    have R : Hid (Nb.rd (L s) = some Nb.zero) := by
                      show Nb.rd (L s) = some Nb.zero
                      rw [HR.out]
                      unfold Nb.fin
                      rw [if_pos hf0]
                    clear HR
                    go_wp2
                    exact bodyPost_ret (v := .tuple #[.agg #[.bool false, .string ⟨#[]⟩, .int .i64 0], .bool true]) (by simp [results, Trym.results25, go_sem]) rfl ⟨by rw [numV_some R.out]; rfl, (Below.refl _ _).alloc (Nat.le_refl _) _⟩
                  · have hends : (st0 : Int) ≤ ff ∧ ff ≤ ll ∧ ll < e ∧ ff ≠ pp ∧ ll ≠ pp := by
                      rcases hI.ends with h | ⟨a, b, c, d, g, _, _⟩
                      · omega
                      · exact ⟨a, b, c, d, g⟩
                    have hpt := hI.pt
                    obtain ⟨fn, rfl⟩ := Int.eq_ofNat_of_zero_le (show 0 ≤ ff from by omega)
                    obtain ⟨ln, rfl⟩ := Int.eq_ofNat_of_zero_le (show 0 ≤ ll from by omega)
                    obtain ⟨qn, hq1, hq2⟩ : ∃ qn : Nat, (qn : Int) = (if pp < 0 then (e : Int) else pp) ∧ qn ≤ e := by
                      by_cases h : pp < 0
                      · exact ⟨e, by rw [if_pos h], Nat.le_refl _⟩
                      · exact ⟨pp.toNat, by rw [if_neg h]; omega, by omega⟩
                    have hq3 : qn ≠ fn ∧ qn ≠ ln := by split at hq1 <;> omega
                    have HQ : Hid ((qn : Int) = (if pp < 0 then (e : Int) else pp)) := hq1
                    have HR2 : Hid (Nb.rd (L s) = some ⟨Nb.negL (L s), if fn < qn ∧ qn < ln then Nb.cut (L s) fn qn ++ Nb.cut (L s) (qn + 1) (ln + 1) else Nb.cut (L s) fn (ln + 1), if fn < qn then xx + qn - fn - 1 else xx + qn - fn⟩) := fin_q HR.out HQ.out hf0 hends
                    have hb1 : fn ≤ ln ∧ ln < e := by omega
                    clear hends hpt HR hI hq1
                    go_upto_if 170 with fail
                    go_cut [6] from 14 to 171 (fun p wc => p = .int .i64 qn ∧ wc = w.alloc (.cells #[.bool (Nb.negL (L s)), .string ⟨#[]⟩, .int .i64 0] 24))
                    case first =>
                      as_aux_lemma =>
                      by_cases h : pp < 0
                      · have E : Hid ((qn : Int) = e) := by have := HQ.out; rw [if_pos h] at this; exact this
                        go_wp2
                        go_meet
                        case rel => rw [E.out]; exact ⟨rfl, rfl⟩
                      · have E : Hid ((qn : Int) = pp) := by have := HQ.out; rw [if_neg h] at this; exact this
                        go_wp2
                        go_meet
                        case rel => rw [E.out]; exact ⟨rfl, rfl⟩
                    case rest =>
                      obtain ⟨rfl, rfl⟩ := hcut
                      clear HQ hf0 hpp hff hll
                      by_cases g1 : fn < qn
                      · by_cases g2 : qn < ln
                        · as_aux_lemma =>
                          have R : Hid (Nb.rd (L s) = some ⟨Nb.negL (L s), Nb.cut (L s) fn qn ++ Nb.cut (L s) (qn + 1) (ln + 1), xx + qn - fn - 1⟩) := by
                            show Nb.rd (L s) = _
                            rw [HR2.out, if_pos ⟨g1, g2⟩, if_pos g1]
                          clear HR2
                          go_wp2
                          go_region
                          go_wp2
                          refine bodyPost_ret (v := .tuple #[.agg #[.bool (Nb.negL (L s)), .string (s.extract fn qn ++ s.extract (qn + 1) (ln + 1)), .int .i64 (xx + qn - fn - 1)], .bool true]) (by simp [results, Trym.results25, go_sem]) rfl ⟨?_, ((Below.refl _ _).alloc (Nat.le_refl _) _).drew⟩
                          rw [numV_some R.out]
                          simp only
                          rw [mk_append, extract_cut s fn qn fn qn rfl rfl, extract_cut s (qn + 1) (ln + 1) (qn + 1) (ln + 1) (by omega) (by omega)]
                        · as_aux_lemma =>
                          have R : Hid (Nb.rd (L s) = some ⟨Nb.negL (L s), Nb.cut (L s) fn (ln + 1), xx + qn - fn - 1⟩) := by
                            show Nb.rd (L s) = _
                            rw [HR2.out, if_neg (by omega), if_pos g1]
                          clear HR2
                          go_wp2
                          refine bodyPost_ret (v := .tuple #[.agg #[.bool (Nb.negL (L s)), .string (s.extract fn (ln + 1)), .int .i64 (xx + qn - fn - 1)], .bool true]) (by simp [results, Trym.results25, go_sem]) rfl ⟨?_, (Below.refl _ _).alloc (Nat.le_refl _) _⟩
                          rw [numV_some R.out]
                          simp only
                          rw [extract_cut s fn (ln + 1) fn (ln + 1) rfl (by omega)]
                      · as_aux_lemma =>
                        have R : Hid (Nb.rd (L s) = some ⟨Nb.negL (L s), Nb.cut (L s) fn (ln + 1), xx + qn - fn⟩) := by
                          show Nb.rd (L s) = _
                          rw [HR2.out, if_neg (by omega), if_neg g1]
                        clear HR2
                        go_wp2
                        refine bodyPost_ret (v := .tuple #[.agg #[.bool (Nb.negL (L s)), .string (s.extract fn (ln + 1)), .int .i64 (xx + qn - fn)], .bool true]) (by simp [results, Trym.results25, go_sem]) rfl ⟨?_, (Below.refl _ _).alloc (Nat.le_refl _) _⟩
                        rw [numV_some R.out]
                        simp only
                        rw [extract_cut s fn (ln + 1) fn (ln + 1) rfl (by omega)]
                · as_aux_lemma =>
                  have R : Hid (Nb.rd (L s) = none) := Nb.rd_none He.out (HX.out.2 hkl)
                  have hk3 : ((k : Int) != (s.size : Int)) = true := by simp; omega
                  clear hkl HX
                  go_wp2
                  exact bodyPost_ret (v := .tuple #[.agg #[.bool false, .string ⟨#[]⟩, .int .i64 0], .bool false]) (by simp [results, Trym.results25, go_sem]) rfl ⟨by rw [numV_none R.out], (Below.refl _ _).alloc (Nat.le_refl _) _⟩
end Go.Proofs.Qxb6001233aMods
