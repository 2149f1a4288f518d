import Derived.Test.Qxb6602785aB2
set_option linter.unusedVariables false
set_option linter.unusedSimpArgs false
namespace Go.Proofs.Qxb6602785a
open Go.RowKit Go.Maps

/-- Some bool was returned. -/
def SomeBool (e : Ending) : Prop := ∃ b : Bool, e = .returned (.bool b)
theorem SomeBool.mk (b : Bool) : SomeBool (.returned (.bool b)) := ⟨b, rfl⟩

set_option maxHeartbeats 8000000 in
set_option maxRecDepth 20000 in
theorem bytes19 (a1 a2 a3 : Option Addr) (len1 cap1 len2 cap2 len3 cap3 : Nat) (ps qs : Nat → Pm) (es : Nat → En) (x1 x2 x3 : ByteArray) (st : Nat) (p1 p2 p3 : Option Addr) (w : World) (hm1 : len1 ≤ maxLen) (hm2 : len2 ≤ maxLen) (hm3 : len3 ≤ maxLen)
    (hs1 : x1.size ≤ maxLen) (hs2 : x2.size ≤ maxLen) (hs3 : x3.size ≤ maxLen) (ok2 : ∀ i, i < len2 → EnOk (es i)) (h1 : PermsAt w a1 len1 ps) (h2 : EntriesAt w a2 len2 es) (h3 : PermsAt w a3 len3 qs) :
    Calls Try.prog 19 #[.slice a1 len1 cap1, .slice a2 len2 cap2, .slice a3 len3 cap3, .string x1, .string x2, .int .u8 (st : Int), .string x3, .pointer p1, .pointer p2, .pointer p3] w fun e w' => SomeBool e ∧ w = w' := by
  have H1 := hide h1
  have H2 := hide (And.intro h2 ok2)
  have H3 := hide h3
  clear h1 h2 h3 ok2
  unfold maxLen at hm1 hm2 hm3 hs1 hs2 hs3
  by_cases h0 : len1 ≤ 1048576
  · have t0 : decide ((1048576 : Int) < (len1 : Int)) = false := decide_eq_false (by omega)
    go_enter Try.func19, Try.ntmps19
    go_wp2_with fail
    go_loop [21, 22] (fun z i => ∃ k T : Nat, k ≤ len1 ∧ i = .int .i64 k ∧ z = .int .i64 (T : Int) ∧ T ≤ 1048576) (fun _ i => len1 - (intOf i).toNat)
    case atStart => exact ⟨0, len1, Nat.zero_le _, rfl, (by simp), by omega⟩
    case round =>
      obtain ⟨k1, T1, hk1, rfl, rfl, hT1⟩ := hrel
      by_cases hlt1 : k1 < len1
      · obtain ⟨b1, off1, rfl, hbl, c0, c1, c2, c3, c4, c5⟩ := H1.out k1 hlt1
        clear c0 c1 c3 c4 hbl
        generalize (ps k1).typ = s1a at *
        generalize (ps k1).act = s1b at *
        by_cases h2 : s1a.size ≤ 1048576
        · have t2 : decide ((1048576 : Int) < (s1a.size : Int)) = false := decide_eq_false (by omega)
          by_cases h3 : T1 + s1a.size ≤ 1048576
          · have t3 : decide ((1048576 : Int) < (T1 : Int) + (s1a.size : Int)) = false := decide_eq_false (by omega)
            by_cases h4 : T1 + s1a.size + 16 ≤ 1048576
            · have t4 : decide ((1048576 : Int) < (T1 : Int) + (s1a.size : Int) + 16) = false := decide_eq_false (by omega)
              by_cases h5 : s1b.size ≤ 1048576
              · have t5 : decide ((1048576 : Int) < (s1b.size : Int)) = false := decide_eq_false (by omega)
                by_cases h6 : T1 + s1a.size + 16 + s1b.size ≤ 1048576
                · have t6 : decide ((1048576 : Int) < (T1 : Int) + (s1a.size : Int) + 16 + (s1b.size : Int)) = false := decide_eq_false (by omega)
                  go_wp2_with fail
                  go_round
                  case rel => exact ⟨k1 + 1, T1 + s1a.size + 16 + s1b.size, by omega, by go_num, (by simp), by omega⟩
                  case measure => simp [intOf]; omega
                · have t6 : decide ((1048576 : Int) < (T1 : Int) + (s1a.size : Int) + 16 + (s1b.size : Int)) = true := decide_eq_true (by omega)
                  go_wp2_with fail
                  go_ret
                  exact ⟨SomeBool.mk _, rfl⟩
              · have t5 : decide ((1048576 : Int) < (s1b.size : Int)) = true := decide_eq_true (by omega)
                go_wp2_with fail
                go_ret
                exact ⟨SomeBool.mk _, rfl⟩
            · have t4 : decide ((1048576 : Int) < (T1 : Int) + (s1a.size : Int) + 16) = true := decide_eq_true (by omega)
              go_wp2_with fail
              go_ret
              exact ⟨SomeBool.mk _, rfl⟩
          · have t3 : decide ((1048576 : Int) < (T1 : Int) + (s1a.size : Int)) = true := decide_eq_true (by omega)
            go_wp2_with fail
            go_ret
            exact ⟨SomeBool.mk _, rfl⟩
        · have t2 : decide ((1048576 : Int) < (s1a.size : Int)) = true := decide_eq_true (by omega)
          go_wp2_with fail
          go_ret
          exact ⟨SomeBool.mk _, rfl⟩
      · obtain rfl : len1 = k1 := by omega
        by_cases h7 : len2 ≤ 1048576
        · have t7 : decide ((1048576 : Int) < (len2 : Int)) = false := decide_eq_false (by omega)
          by_cases h8 : T1 + len2 ≤ 1048576
          · have t8 : decide ((1048576 : Int) < (T1 : Int) + (len2 : Int)) = false := decide_eq_false (by omega)
            go_wp2_with fail
            go_loop [21, 23] (fun z i => ∃ k T : Nat, k ≤ len2 ∧ i = .int .i64 k ∧ z = .int .i64 (T : Int) ∧ T ≤ 1048576) (fun _ i => len2 - (intOf i).toNat)
            case atStart => exact ⟨0, T1 + len2, Nat.zero_le _, rfl, (by simp), by omega⟩
            case round =>
              obtain ⟨k9, T9, hk9, rfl, rfl, hT9⟩ := hrel
              by_cases hlt9 : k9 < len2
              · obtain ⟨b9, off9, rfl, hbl, c0, ce9, c2⟩ := H2.out.1 k9 hlt9
                have hll9 := (H2.out.2 k9 hlt9).len
                have HP9 := hide c2
                unfold maxLen at hll9
                clear c0 c2 hbl
                generalize (es k9).la = la9 at *
                generalize (es k9).ll = ll9 at *
                generalize (es k9).lc = lc9 at *
                generalize (es k9).ps = ps9 at *
                by_cases h10 : T9 + 16 ≤ 1048576
                · have t10 : decide ((1048576 : Int) < (T9 : Int) + 16) = false := decide_eq_false (by omega)
                  by_cases h11 : ll9 ≤ 1048576
                  · have t11 : decide ((1048576 : Int) < (ll9 : Int)) = false := decide_eq_false (by omega)
                    by_cases h12 : T9 + 16 + ll9 ≤ 1048576
                    · have t12 : decide ((1048576 : Int) < (T9 : Int) + 16 + (ll9 : Int)) = false := decide_eq_false (by omega)
                      go_wp2_with fail
                      go_loop [21, 24] (fun z i => ∃ k T : Nat, k ≤ ll9 ∧ i = .int .i64 k ∧ z = .int .i64 (T : Int) ∧ T ≤ 1048576) (fun _ i => ll9 - (intOf i).toNat)
                      case atStart => exact ⟨0, T9 + 16 + ll9, Nat.zero_le _, rfl, (by simp), by omega⟩
                      case round =>
                        obtain ⟨k13, T13, hk13, rfl, rfl, hT13⟩ := hrel
                        by_cases hlt13 : k13 < ll9
                        · obtain ⟨b13, off13, rfl, hbl, c0, c1, c2, c3, c4, c5⟩ := HP9.out k13 hlt13
                          clear c0 c1 c3 c4 hbl
                          generalize (ps9 k13).typ = s13a at *
                          generalize (ps9 k13).act = s13b at *
                          by_cases h14 : s13a.size ≤ 1048576
                          · have t14 : decide ((1048576 : Int) < (s13a.size : Int)) = false := decide_eq_false (by omega)
                            by_cases h15 : T13 + s13a.size ≤ 1048576
                            · have t15 : decide ((1048576 : Int) < (T13 : Int) + (s13a.size : Int)) = false := decide_eq_false (by omega)
                              by_cases h16 : T13 + s13a.size + 16 ≤ 1048576
                              · have t16 : decide ((1048576 : Int) < (T13 : Int) + (s13a.size : Int) + 16) = false := decide_eq_false (by omega)
                                by_cases h17 : s13b.size ≤ 1048576
                                · have t17 : decide ((1048576 : Int) < (s13b.size : Int)) = false := decide_eq_false (by omega)
                                  by_cases h18 : T13 + s13a.size + 16 + s13b.size ≤ 1048576
                                  · have t18 : decide ((1048576 : Int) < (T13 : Int) + (s13a.size : Int) + 16 + (s13b.size : Int)) = false := decide_eq_false (by omega)
                                    go_wp2_with fail
                                    go_round
                                    case rel => exact ⟨k13 + 1, T13 + s13a.size + 16 + s13b.size, by omega, by go_num, (by simp), by omega⟩
                                    case measure => simp [intOf]; omega
                                  · have t18 : decide ((1048576 : Int) < (T13 : Int) + (s13a.size : Int) + 16 + (s13b.size : Int)) = true := decide_eq_true (by omega)
                                    go_wp2_with fail
                                    go_ret
                                    exact ⟨SomeBool.mk _, rfl⟩
                                · have t17 : decide ((1048576 : Int) < (s13b.size : Int)) = true := decide_eq_true (by omega)
                                  go_wp2_with fail
                                  go_ret
                                  exact ⟨SomeBool.mk _, rfl⟩
                              · have t16 : decide ((1048576 : Int) < (T13 : Int) + (s13a.size : Int) + 16) = true := decide_eq_true (by omega)
                                go_wp2_with fail
                                go_ret
                                exact ⟨SomeBool.mk _, rfl⟩
                            · have t15 : decide ((1048576 : Int) < (T13 : Int) + (s13a.size : Int)) = true := decide_eq_true (by omega)
                              go_wp2_with fail
                              go_ret
                              exact ⟨SomeBool.mk _, rfl⟩
                          · have t14 : decide ((1048576 : Int) < (s13a.size : Int)) = true := decide_eq_true (by omega)
                            go_wp2_with fail
                            go_ret
                            exact ⟨SomeBool.mk _, rfl⟩
                        · obtain rfl : ll9 = k13 := by omega
                          go_wp2_with fail
                          go_round
                          case rel => exact ⟨k9 + 1, T13, by omega, by go_num, rfl, by omega⟩
                          case measure => simp [intOf]; omega
                    · have t12 : decide ((1048576 : Int) < (T9 : Int) + 16 + (ll9 : Int)) = true := decide_eq_true (by omega)
                      go_wp2_with fail
                      go_ret
                      exact ⟨SomeBool.mk _, rfl⟩
                  · have t11 : decide ((1048576 : Int) < (ll9 : Int)) = true := decide_eq_true (by omega)
                    go_wp2_with fail
                    go_ret
                    exact ⟨SomeBool.mk _, rfl⟩
                · have t10 : decide ((1048576 : Int) < (T9 : Int) + 16) = true := decide_eq_true (by omega)
                  go_wp2_with fail
                  go_ret
                  exact ⟨SomeBool.mk _, rfl⟩
              · obtain rfl : len2 = k9 := by omega
                by_cases h19 : len3 ≤ 1048576
                · have t19 : decide ((1048576 : Int) < (len3 : Int)) = false := decide_eq_false (by omega)
                  by_cases h20 : T9 + len3 ≤ 1048576
                  · have t20 : decide ((1048576 : Int) < (T9 : Int) + (len3 : Int)) = false := decide_eq_false (by omega)
                    go_wp2_with fail
                    go_loop [21, 25] (fun z i => ∃ k T : Nat, k ≤ len3 ∧ i = .int .i64 k ∧ z = .int .i64 (T : Int) ∧ T ≤ 1048576) (fun _ i => len3 - (intOf i).toNat)
                    case atStart => exact ⟨0, T9 + len3, Nat.zero_le _, rfl, (by simp), by omega⟩
                    case round =>
                      obtain ⟨k21, T21, hk21, rfl, rfl, hT21⟩ := hrel
                      by_cases hlt21 : k21 < len3
                      · obtain ⟨b21, off21, rfl, hbl, c0, c1, c2, c3, c4, c5⟩ := H3.out k21 hlt21
                        clear c0 c1 c3 c4 hbl
                        generalize (qs k21).typ = s21a at *
                        generalize (qs k21).act = s21b at *
                        by_cases h22 : s21a.size ≤ 1048576
                        · have t22 : decide ((1048576 : Int) < (s21a.size : Int)) = false := decide_eq_false (by omega)
                          by_cases h23 : T21 + s21a.size ≤ 1048576
                          · have t23 : decide ((1048576 : Int) < (T21 : Int) + (s21a.size : Int)) = false := decide_eq_false (by omega)
                            by_cases h24 : T21 + s21a.size + 16 ≤ 1048576
                            · have t24 : decide ((1048576 : Int) < (T21 : Int) + (s21a.size : Int) + 16) = false := decide_eq_false (by omega)
                              by_cases h25 : s21b.size ≤ 1048576
                              · have t25 : decide ((1048576 : Int) < (s21b.size : Int)) = false := decide_eq_false (by omega)
                                by_cases h26 : T21 + s21a.size + 16 + s21b.size ≤ 1048576
                                · have t26 : decide ((1048576 : Int) < (T21 : Int) + (s21a.size : Int) + 16 + (s21b.size : Int)) = false := decide_eq_false (by omega)
                                  go_wp2_with fail
                                  go_round
                                  case rel => exact ⟨k21 + 1, T21 + s21a.size + 16 + s21b.size, by omega, by go_num, (by simp), by omega⟩
                                  case measure => simp [intOf]; omega
                                · have t26 : decide ((1048576 : Int) < (T21 : Int) + (s21a.size : Int) + 16 + (s21b.size : Int)) = true := decide_eq_true (by omega)
                                  go_wp2_with fail
                                  go_ret
                                  exact ⟨SomeBool.mk _, rfl⟩
                              · have t25 : decide ((1048576 : Int) < (s21b.size : Int)) = true := decide_eq_true (by omega)
                                go_wp2_with fail
                                go_ret
                                exact ⟨SomeBool.mk _, rfl⟩
                            · have t24 : decide ((1048576 : Int) < (T21 : Int) + (s21a.size : Int) + 16) = true := decide_eq_true (by omega)
                              go_wp2_with fail
                              go_ret
                              exact ⟨SomeBool.mk _, rfl⟩
                          · have t23 : decide ((1048576 : Int) < (T21 : Int) + (s21a.size : Int)) = true := decide_eq_true (by omega)
                            go_wp2_with fail
                            go_ret
                            exact ⟨SomeBool.mk _, rfl⟩
                        · have t22 : decide ((1048576 : Int) < (s21a.size : Int)) = true := decide_eq_true (by omega)
                          go_wp2_with fail
                          go_ret
                          exact ⟨SomeBool.mk _, rfl⟩
                      · obtain rfl : len3 = k21 := by omega
                        by_cases h27 : x1.size ≤ 1048576
                        · have t27 : decide ((1048576 : Int) < (x1.size : Int)) = false := decide_eq_false (by omega)
                          by_cases h28 : T21 + x1.size ≤ 1048576
                          · have t28 : decide ((1048576 : Int) < (T21 : Int) + (x1.size : Int)) = false := decide_eq_false (by omega)
                            by_cases h29 : x2.size ≤ 1048576
                            · have t29 : decide ((1048576 : Int) < (x2.size : Int)) = false := decide_eq_false (by omega)
                              by_cases h30 : T21 + x1.size + x2.size ≤ 1048576
                              · have t30 : decide ((1048576 : Int) < (T21 : Int) + (x1.size : Int) + (x2.size : Int)) = false := decide_eq_false (by omega)
                                by_cases h31 : x3.size ≤ 1048576
                                · have t31 : decide ((1048576 : Int) < (x3.size : Int)) = false := decide_eq_false (by omega)
                                  by_cases h32 : T21 + x1.size + x2.size + x3.size ≤ 1048576
                                  · have t32 : decide ((1048576 : Int) < (T21 : Int) + (x1.size : Int) + (x2.size : Int) + (x3.size : Int)) = false := decide_eq_false (by omega)
                                    go_wp2_with fail
                                    go_ret
                                    exact ⟨SomeBool.mk _, rfl⟩
                                  · have t32 : decide ((1048576 : Int) < (T21 : Int) + (x1.size : Int) + (x2.size : Int) + (x3.size : Int)) = true := decide_eq_true (by omega)
                                    go_wp2_with fail
                                    go_ret
                                    exact ⟨SomeBool.mk _, rfl⟩
                                · have t31 : decide ((1048576 : Int) < (x3.size : Int)) = true := decide_eq_true (by omega)
                                  go_wp2_with fail
                                  go_ret
                                  exact ⟨SomeBool.mk _, rfl⟩
                              · have t30 : decide ((1048576 : Int) < (T21 : Int) + (x1.size : Int) + (x2.size : Int)) = true := decide_eq_true (by omega)
                                go_wp2_with fail
                                go_ret
                                exact ⟨SomeBool.mk _, rfl⟩
                            · have t29 : decide ((1048576 : Int) < (x2.size : Int)) = true := decide_eq_true (by omega)
                              go_wp2_with fail
                              go_ret
                              exact ⟨SomeBool.mk _, rfl⟩
                          · have t28 : decide ((1048576 : Int) < (T21 : Int) + (x1.size : Int)) = true := decide_eq_true (by omega)
                            go_wp2_with fail
                            go_ret
                            exact ⟨SomeBool.mk _, rfl⟩
                        · have t27 : decide ((1048576 : Int) < (x1.size : Int)) = true := decide_eq_true (by omega)
                          go_wp2_with fail
                          go_ret
                          exact ⟨SomeBool.mk _, rfl⟩
                  · have t20 : decide ((1048576 : Int) < (T9 : Int) + (len3 : Int)) = true := decide_eq_true (by omega)
                    go_wp2_with fail
                    go_ret
                    exact ⟨SomeBool.mk _, rfl⟩
                · have t19 : decide ((1048576 : Int) < (len3 : Int)) = true := decide_eq_true (by omega)
                  go_wp2_with fail
                  go_ret
                  exact ⟨SomeBool.mk _, rfl⟩
          · have t8 : decide ((1048576 : Int) < (T1 : Int) + (len2 : Int)) = true := decide_eq_true (by omega)
            go_wp2_with fail
            go_ret
            exact ⟨SomeBool.mk _, rfl⟩
        · have t7 : decide ((1048576 : Int) < (len2 : Int)) = true := decide_eq_true (by omega)
          go_wp2_with fail
          go_ret
          exact ⟨SomeBool.mk _, rfl⟩
  · have t0 : decide ((1048576 : Int) < (len1 : Int)) = true := decide_eq_true (by omega)
    go_enter Try.func19, Try.ntmps19
    go_wp2_with fail
    go_ret
    exact ⟨SomeBool.mk _, rfl⟩
end Go.Proofs.Qxb6602785a
