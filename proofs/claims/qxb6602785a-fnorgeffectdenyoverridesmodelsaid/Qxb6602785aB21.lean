import Derived.Test.Qxb6602785aB3
import Derived.Test.Qxb6602785aB19
set_option linter.unusedVariables false
set_option linter.unusedSimpArgs false
namespace Go.Proofs.Qxb6602785a
open Go.RowKit Go.Maps

set_option maxHeartbeats 16000000 in
set_option maxRecDepth 20000 in
theorem bytes9 (a1 : Option Addr) (len1 cap1 : Nat) (rs : Nat → Rl) (mb : Bool) (x1 x2 : ByteArray) (p1 p2 p3 : Option Addr) (w : World) (hm1 : len1 ≤ maxLen) (hs1 : x1.size ≤ maxLen) (hs2 : x2.size ≤ maxLen) (ok1 : ∀ i, i < len1 → RlOk (rs i)) (h1 : RolesAt w a1 len1 rs) :
    Calls Try.prog 9 #[.slice a1 len1 cap1, .bool mb, .string x1, .string x2, .pointer p1, .pointer p2, .pointer p3] w fun e w' => SomeBool e ∧ w = w' := by
  have H1 := hide (And.intro h1 ok1)
  clear h1 ok1
  unfold maxLen at hm1 hs1 hs2
  by_cases h0 : len1 ≤ 1048576
  · have t0 : decide ((1048576 : Int) < (len1 : Int)) = false := decide_eq_false (by omega)
    go_enter Try.func9, Try.ntmps9
    go_wp2_with fail
    go_loop [15, 16] (fun z i => ∃ k T : Nat, k ≤ len1 ∧ i = .int .i64 k ∧ z = .int .i64 (T : Int) ∧ T ≤ 1048576) (fun _ i => len1 - (intOf i).toNat)
    case atStart => exact ⟨0, len1, Nat.zero_le _, rfl, (by simp), by omega⟩
    case round => as_aux_lemma =>
      obtain ⟨k1, T1, hk1, rfl, rfl, hT1⟩ := hrel
      by_cases hlt1 : k1 < len1
      · obtain ⟨b1, off1, rfl, hbl, c0, c1, c2, c3, c4, cp, ce, cq⟩ := H1.out.1 k1 hlt1
        have hk0 := H1.out.2 k1 hlt1
        have h0a := hk0.nm
        have h0b := hk0.dn
        have h0c := hk0.sl
        have h0d := hk0.ol
        have h0e := hk0.ul
        have HP := hide cp
        have HE := hide (And.intro ce hk0.es)
        have HQ := hide cq
        unfold maxLen at h0a h0b h0c h0d h0e
        clear hbl cp ce cq hk0
        generalize (rs k1).nm = rnm at *
        generalize (rs k1).dn = rdn at *
        generalize (rs k1).sa = rsa at *
        generalize (rs k1).sl = rsl at *
        generalize (rs k1).sp = rsp at *
        generalize (rs k1).ps = rps at *
        generalize (rs k1).oa = roa at *
        generalize (rs k1).ol = rol at *
        generalize (rs k1).op = rop at *
        generalize (rs k1).es = res at *
        generalize (rs k1).ua = rua at *
        generalize (rs k1).ul = rul at *
        generalize (rs k1).up = rup at *
        generalize (rs k1).qs = rqs at *
        by_cases h2 : rnm.size ≤ 1048576
        · have t2 : decide ((1048576 : Int) < (rnm.size : Int)) = false := decide_eq_false (by omega)
          by_cases h3 : T1 + rnm.size ≤ 1048576
          · have t3 : decide ((1048576 : Int) < (T1 : Int) + (rnm.size : Int)) = false := decide_eq_false (by omega)
            by_cases h4 : rdn.size ≤ 1048576
            · have t4 : decide ((1048576 : Int) < (rdn.size : Int)) = false := decide_eq_false (by omega)
              by_cases h5 : T1 + rnm.size + rdn.size ≤ 1048576
              · have t5 : decide ((1048576 : Int) < (T1 : Int) + (rnm.size : Int) + (rdn.size : Int)) = false := decide_eq_false (by omega)
                by_cases h6 : rsl ≤ 1048576
                · have t6 : decide ((1048576 : Int) < (rsl : Int)) = false := decide_eq_false (by omega)
                  by_cases h7 : T1 + rnm.size + rdn.size + rsl ≤ 1048576
                  · have t7 : decide ((1048576 : Int) < (T1 : Int) + (rnm.size : Int) + (rdn.size : Int) + (rsl : Int)) = false := decide_eq_false (by omega)
                    go_wp2_with fail
                    go_loop [15, 17] (fun z i => ∃ k T : Nat, k ≤ rsl ∧ i = .int .i64 k ∧ z = .int .i64 (T : Int) ∧ T ≤ 1048576) (fun _ i => rsl - (intOf i).toNat)
                    case atStart => exact ⟨0, T1 + rnm.size + rdn.size + rsl, Nat.zero_le _, rfl, (by simp), by omega⟩
                    case round => as_aux_lemma =>
                      obtain ⟨k8, T8, hk8, rfl, rfl, hT8⟩ := hrel
                      by_cases hlt8 : k8 < rsl
                      · obtain ⟨b8, off8, rfl, hbl, c0, c1, c2, c3, c4, c5⟩ := HP.out k8 hlt8
                        clear c0 c1 c3 c4 hbl
                        generalize (rps k8).typ = s8a at *
                        generalize (rps k8).act = s8b at *
                        by_cases h9 : s8a.size ≤ 1048576
                        · have t9 : decide ((1048576 : Int) < (s8a.size : Int)) = false := decide_eq_false (by omega)
                          by_cases h10 : T8 + s8a.size ≤ 1048576
                          · have t10 : decide ((1048576 : Int) < (T8 : Int) + (s8a.size : Int)) = false := decide_eq_false (by omega)
                            by_cases h11 : T8 + s8a.size + 16 ≤ 1048576
                            · have t11 : decide ((1048576 : Int) < (T8 : Int) + (s8a.size : Int) + 16) = false := decide_eq_false (by omega)
                              by_cases h12 : s8b.size ≤ 1048576
                              · have t12 : decide ((1048576 : Int) < (s8b.size : Int)) = false := decide_eq_false (by omega)
                                by_cases h13 : T8 + s8a.size + 16 + s8b.size ≤ 1048576
                                · have t13 : decide ((1048576 : Int) < (T8 : Int) + (s8a.size : Int) + 16 + (s8b.size : Int)) = false := decide_eq_false (by omega)
                                  go_wp2_with fail
                                  go_round
                                  case rel => exact ⟨k8 + 1, T8 + s8a.size + 16 + s8b.size, by omega, by go_num, (by simp), by omega⟩
                                  case measure => simp [intOf]; omega
                                · have t13 : decide ((1048576 : Int) < (T8 : Int) + (s8a.size : Int) + 16 + (s8b.size : Int)) = true := decide_eq_true (by omega)
                                  go_wp2_with fail
                                  go_ret
                                  exact ⟨SomeBool.mk _, rfl⟩
                              · have t12 : decide ((1048576 : Int) < (s8b.size : Int)) = true := decide_eq_true (by omega)
                                go_wp2_with fail
                                go_ret
                                exact ⟨SomeBool.mk _, rfl⟩
                            · have t11 : decide ((1048576 : Int) < (T8 : Int) + (s8a.size : Int) + 16) = true := decide_eq_true (by omega)
                              go_wp2_with fail
                              go_ret
                              exact ⟨SomeBool.mk _, rfl⟩
                          · have t10 : decide ((1048576 : Int) < (T8 : Int) + (s8a.size : Int)) = true := decide_eq_true (by omega)
                            go_wp2_with fail
                            go_ret
                            exact ⟨SomeBool.mk _, rfl⟩
                        · have t9 : decide ((1048576 : Int) < (s8a.size : Int)) = true := decide_eq_true (by omega)
                          go_wp2_with fail
                          go_ret
                          exact ⟨SomeBool.mk _, rfl⟩
                      · obtain rfl : rsl = k8 := by omega
                        by_cases h14 : rol ≤ 1048576
                        · have t14 : decide ((1048576 : Int) < (rol : Int)) = false := decide_eq_false (by omega)
                          by_cases h15 : T8 + rol ≤ 1048576
                          · have t15 : decide ((1048576 : Int) < (T8 : Int) + (rol : Int)) = false := decide_eq_false (by omega)
                            go_wp2_with fail
                            go_loop [15, 18] (fun z i => ∃ k T : Nat, k ≤ rol ∧ i = .int .i64 k ∧ z = .int .i64 (T : Int) ∧ T ≤ 1048576) (fun _ i => rol - (intOf i).toNat)
                            case atStart => exact ⟨0, T8 + rol, Nat.zero_le _, rfl, (by simp), by omega⟩
                            case round => as_aux_lemma =>
                              obtain ⟨k16, T16, hk16, rfl, rfl, hT16⟩ := hrel
                              by_cases hlt16 : k16 < rol
                              · obtain ⟨b16, off16, rfl, hbl, c0, ce16, c2⟩ := HE.out.1 k16 hlt16
                                have hll16 := (HE.out.2 k16 hlt16).len
                                have HP16 := hide c2
                                unfold maxLen at hll16
                                clear c0 c2 hbl
                                generalize (res k16).la = la16 at *
                                generalize (res k16).ll = ll16 at *
                                generalize (res k16).lc = lc16 at *
                                generalize (res k16).ps = ps16 at *
                                by_cases h17 : T16 + 16 ≤ 1048576
                                · have t17 : decide ((1048576 : Int) < (T16 : Int) + 16) = false := decide_eq_false (by omega)
                                  by_cases h18 : ll16 ≤ 1048576
                                  · have t18 : decide ((1048576 : Int) < (ll16 : Int)) = false := decide_eq_false (by omega)
                                    by_cases h19 : T16 + 16 + ll16 ≤ 1048576
                                    · have t19 : decide ((1048576 : Int) < (T16 : Int) + 16 + (ll16 : Int)) = false := decide_eq_false (by omega)
                                      go_wp2_with fail
                                      go_loop [15, 19] (fun z i => ∃ k T : Nat, k ≤ ll16 ∧ i = .int .i64 k ∧ z = .int .i64 (T : Int) ∧ T ≤ 1048576) (fun _ i => ll16 - (intOf i).toNat)
                                      case atStart => exact ⟨0, T16 + 16 + ll16, Nat.zero_le _, rfl, (by simp), by omega⟩
                                      case round => as_aux_lemma =>
                                        obtain ⟨k20, T20, hk20, rfl, rfl, hT20⟩ := hrel
                                        by_cases hlt20 : k20 < ll16
                                        · obtain ⟨b20, off20, rfl, hbl, c0, c1, c2, c3, c4, c5⟩ := HP16.out k20 hlt20
                                          clear c0 c1 c3 c4 hbl
                                          generalize (ps16 k20).typ = s20a at *
                                          generalize (ps16 k20).act = s20b at *
                                          by_cases h21 : s20a.size ≤ 1048576
                                          · have t21 : decide ((1048576 : Int) < (s20a.size : Int)) = false := decide_eq_false (by omega)
                                            by_cases h22 : T20 + s20a.size ≤ 1048576
                                            · have t22 : decide ((1048576 : Int) < (T20 : Int) + (s20a.size : Int)) = false := decide_eq_false (by omega)
                                              by_cases h23 : T20 + s20a.size + 16 ≤ 1048576
                                              · have t23 : decide ((1048576 : Int) < (T20 : Int) + (s20a.size : Int) + 16) = false := decide_eq_false (by omega)
                                                by_cases h24 : s20b.size ≤ 1048576
                                                · have t24 : decide ((1048576 : Int) < (s20b.size : Int)) = false := decide_eq_false (by omega)
                                                  by_cases h25 : T20 + s20a.size + 16 + s20b.size ≤ 1048576
                                                  · have t25 : decide ((1048576 : Int) < (T20 : Int) + (s20a.size : Int) + 16 + (s20b.size : Int)) = false := decide_eq_false (by omega)
                                                    go_wp2_with fail
                                                    go_round
                                                    case rel => exact ⟨k20 + 1, T20 + s20a.size + 16 + s20b.size, by omega, by go_num, (by simp), by omega⟩
                                                    case measure => simp [intOf]; omega
                                                  · have t25 : decide ((1048576 : Int) < (T20 : Int) + (s20a.size : Int) + 16 + (s20b.size : Int)) = true := decide_eq_true (by omega)
                                                    go_wp2_with fail
                                                    go_ret
                                                    exact ⟨SomeBool.mk _, rfl⟩
                                                · have t24 : decide ((1048576 : Int) < (s20b.size : Int)) = true := decide_eq_true (by omega)
                                                  go_wp2_with fail
                                                  go_ret
                                                  exact ⟨SomeBool.mk _, rfl⟩
                                              · have t23 : decide ((1048576 : Int) < (T20 : Int) + (s20a.size : Int) + 16) = true := decide_eq_true (by omega)
                                                go_wp2_with fail
                                                go_ret
                                                exact ⟨SomeBool.mk _, rfl⟩
                                            · have t22 : decide ((1048576 : Int) < (T20 : Int) + (s20a.size : Int)) = true := decide_eq_true (by omega)
                                              go_wp2_with fail
                                              go_ret
                                              exact ⟨SomeBool.mk _, rfl⟩
                                          · have t21 : decide ((1048576 : Int) < (s20a.size : Int)) = true := decide_eq_true (by omega)
                                            go_wp2_with fail
                                            go_ret
                                            exact ⟨SomeBool.mk _, rfl⟩
                                        · obtain rfl : ll16 = k20 := by omega
                                          go_wp2_with fail
                                          go_round
                                          case rel => exact ⟨k16 + 1, T20, by omega, by go_num, rfl, by omega⟩
                                          case measure => simp [intOf]; omega
                                    · have t19 : decide ((1048576 : Int) < (T16 : Int) + 16 + (ll16 : Int)) = true := decide_eq_true (by omega)
                                      go_wp2_with fail
                                      go_ret
                                      exact ⟨SomeBool.mk _, rfl⟩
                                  · have t18 : decide ((1048576 : Int) < (ll16 : Int)) = true := decide_eq_true (by omega)
                                    go_wp2_with fail
                                    go_ret
                                    exact ⟨SomeBool.mk _, rfl⟩
                                · have t17 : decide ((1048576 : Int) < (T16 : Int) + 16) = true := decide_eq_true (by omega)
                                  go_wp2_with fail
                                  go_ret
                                  exact ⟨SomeBool.mk _, rfl⟩
                              · obtain rfl : rol = k16 := by omega
                                by_cases h26 : rul ≤ 1048576
                                · have t26 : decide ((1048576 : Int) < (rul : Int)) = false := decide_eq_false (by omega)
                                  by_cases h27 : T16 + rul ≤ 1048576
                                  · have t27 : decide ((1048576 : Int) < (T16 : Int) + (rul : Int)) = false := decide_eq_false (by omega)
                                    go_wp2_with fail
                                    go_loop [15, 20] (fun z i => ∃ k T : Nat, k ≤ rul ∧ i = .int .i64 k ∧ z = .int .i64 (T : Int) ∧ T ≤ 1048576) (fun _ i => rul - (intOf i).toNat)
                                    case atStart => exact ⟨0, T16 + rul, Nat.zero_le _, rfl, (by simp), by omega⟩
                                    case round => as_aux_lemma =>
                                      obtain ⟨k28, T28, hk28, rfl, rfl, hT28⟩ := hrel
                                      by_cases hlt28 : k28 < rul
                                      · obtain ⟨b28, off28, rfl, hbl, c0, c1, c2, c3, c4, c5⟩ := HQ.out k28 hlt28
                                        clear c0 c1 c3 c4 hbl
                                        generalize (rqs k28).typ = s28a at *
                                        generalize (rqs k28).act = s28b at *
                                        by_cases h29 : s28a.size ≤ 1048576
                                        · have t29 : decide ((1048576 : Int) < (s28a.size : Int)) = false := decide_eq_false (by omega)
                                          by_cases h30 : T28 + s28a.size ≤ 1048576
                                          · have t30 : decide ((1048576 : Int) < (T28 : Int) + (s28a.size : Int)) = false := decide_eq_false (by omega)
                                            by_cases h31 : T28 + s28a.size + 16 ≤ 1048576
                                            · have t31 : decide ((1048576 : Int) < (T28 : Int) + (s28a.size : Int) + 16) = false := decide_eq_false (by omega)
                                              by_cases h32 : s28b.size ≤ 1048576
                                              · have t32 : decide ((1048576 : Int) < (s28b.size : Int)) = false := decide_eq_false (by omega)
                                                by_cases h33 : T28 + s28a.size + 16 + s28b.size ≤ 1048576
                                                · have t33 : decide ((1048576 : Int) < (T28 : Int) + (s28a.size : Int) + 16 + (s28b.size : Int)) = false := decide_eq_false (by omega)
                                                  go_wp2_with fail
                                                  go_round
                                                  case rel => exact ⟨k28 + 1, T28 + s28a.size + 16 + s28b.size, by omega, by go_num, (by simp), by omega⟩
                                                  case measure => simp [intOf]; omega
                                                · have t33 : decide ((1048576 : Int) < (T28 : Int) + (s28a.size : Int) + 16 + (s28b.size : Int)) = true := decide_eq_true (by omega)
                                                  go_wp2_with fail
                                                  go_ret
                                                  exact ⟨SomeBool.mk _, rfl⟩
                                              · have t32 : decide ((1048576 : Int) < (s28b.size : Int)) = true := decide_eq_true (by omega)
                                                go_wp2_with fail
                                                go_ret
                                                exact ⟨SomeBool.mk _, rfl⟩
                                            · have t31 : decide ((1048576 : Int) < (T28 : Int) + (s28a.size : Int) + 16) = true := decide_eq_true (by omega)
                                              go_wp2_with fail
                                              go_ret
                                              exact ⟨SomeBool.mk _, rfl⟩
                                          · have t30 : decide ((1048576 : Int) < (T28 : Int) + (s28a.size : Int)) = true := decide_eq_true (by omega)
                                            go_wp2_with fail
                                            go_ret
                                            exact ⟨SomeBool.mk _, rfl⟩
                                        · have t29 : decide ((1048576 : Int) < (s28a.size : Int)) = true := decide_eq_true (by omega)
                                          go_wp2_with fail
                                          go_ret
                                          exact ⟨SomeBool.mk _, rfl⟩
                                      · obtain rfl : rul = k28 := by omega
                                        go_wp2_with fail
                                        go_round
                                        case rel => exact ⟨k1 + 1, T28, by omega, by go_num, rfl, by omega⟩
                                        case measure => simp [intOf]; omega
                                  · have t27 : decide ((1048576 : Int) < (T16 : Int) + (rul : Int)) = true := decide_eq_true (by omega)
                                    go_wp2_with fail
                                    go_ret
                                    exact ⟨SomeBool.mk _, rfl⟩
                                · have t26 : decide ((1048576 : Int) < (rul : Int)) = true := decide_eq_true (by omega)
                                  go_wp2_with fail
                                  go_ret
                                  exact ⟨SomeBool.mk _, rfl⟩
                          · have t15 : decide ((1048576 : Int) < (T8 : Int) + (rol : Int)) = true := decide_eq_true (by omega)
                            go_wp2_with fail
                            go_ret
                            exact ⟨SomeBool.mk _, rfl⟩
                        · have t14 : decide ((1048576 : Int) < (rol : Int)) = true := decide_eq_true (by omega)
                          go_wp2_with fail
                          go_ret
                          exact ⟨SomeBool.mk _, rfl⟩
                  · have t7 : decide ((1048576 : Int) < (T1 : Int) + (rnm.size : Int) + (rdn.size : Int) + (rsl : Int)) = true := decide_eq_true (by omega)
                    go_wp2_with fail
                    go_ret
                    exact ⟨SomeBool.mk _, rfl⟩
                · have t6 : decide ((1048576 : Int) < (rsl : Int)) = true := decide_eq_true (by omega)
                  go_wp2_with fail
                  go_ret
                  exact ⟨SomeBool.mk _, rfl⟩
              · have t5 : decide ((1048576 : Int) < (T1 : Int) + (rnm.size : Int) + (rdn.size : Int)) = true := decide_eq_true (by omega)
                go_wp2_with fail
                go_ret
                exact ⟨SomeBool.mk _, rfl⟩
            · have t4 : decide ((1048576 : Int) < (rdn.size : Int)) = true := decide_eq_true (by omega)
              go_wp2_with fail
              go_ret
              exact ⟨SomeBool.mk _, rfl⟩
          · have t3 : decide ((1048576 : Int) < (T1 : Int) + (rnm.size : Int)) = true := decide_eq_true (by omega)
            go_wp2_with fail
            go_ret
            exact ⟨SomeBool.mk _, rfl⟩
        · have t2 : decide ((1048576 : Int) < (rnm.size : Int)) = true := decide_eq_true (by omega)
          go_wp2_with fail
          go_ret
          exact ⟨SomeBool.mk _, rfl⟩
      · obtain rfl : len1 = k1 := by omega
        by_cases h34 : x1.size ≤ 1048576
        · have t34 : decide ((1048576 : Int) < (x1.size : Int)) = false := decide_eq_false (by omega)
          by_cases h35 : T1 + x1.size ≤ 1048576
          · have t35 : decide ((1048576 : Int) < (T1 : Int) + (x1.size : Int)) = false := decide_eq_false (by omega)
            by_cases h36 : x2.size ≤ 1048576
            · have t36 : decide ((1048576 : Int) < (x2.size : Int)) = false := decide_eq_false (by omega)
              by_cases h37 : T1 + x1.size + x2.size ≤ 1048576
              · have t37 : decide ((1048576 : Int) < (T1 : Int) + (x1.size : Int) + (x2.size : Int)) = false := decide_eq_false (by omega)
                go_wp2_with fail
                go_ret
                exact ⟨SomeBool.mk _, rfl⟩
              · have t37 : decide ((1048576 : Int) < (T1 : Int) + (x1.size : Int) + (x2.size : Int)) = true := decide_eq_true (by omega)
                go_wp2_with fail
                go_ret
                exact ⟨SomeBool.mk _, rfl⟩
            · have t36 : decide ((1048576 : Int) < (x2.size : Int)) = true := decide_eq_true (by omega)
              go_wp2_with fail
              go_ret
              exact ⟨SomeBool.mk _, rfl⟩
          · have t35 : decide ((1048576 : Int) < (T1 : Int) + (x1.size : Int)) = true := decide_eq_true (by omega)
            go_wp2_with fail
            go_ret
            exact ⟨SomeBool.mk _, rfl⟩
        · have t34 : decide ((1048576 : Int) < (x1.size : Int)) = true := decide_eq_true (by omega)
          go_wp2_with fail
          go_ret
          exact ⟨SomeBool.mk _, rfl⟩
  · have t0 : decide ((1048576 : Int) < (len1 : Int)) = true := decide_eq_true (by omega)
    go_enter Try.func9, Try.ntmps9
    go_wp2_with fail
    go_ret
    exact ⟨SomeBool.mk _, rfl⟩
end Go.Proofs.Qxb6602785a
