import Derived.Test.Qxb6001343aSteps
namespace Go.Proofs.Qxb6001343a.Cb
open Go.ChangeShapes Go.WideShapes Go.ChangeAt Go.RowKit
set_option linter.unusedVariables false
set_option linter.unusedSimpArgs false

theorem cls_other {c : UInt8} {ns : Bool} {r : List UInt8} (h : ¬ (c.toNat = 32 ∨ c.toNat = 9 ∨ c.toNat = 91 ∨ c.toNat = 123 ∨ c.toNat = 93 ∨ c.toNat = 125 ∨ c.toNat = 39 ∨ c.toNat = 34 ∨ c.toNat = 44 ∨ c.toNat = 63 ∨ c.toNat = 58)) :
    sp c = false ∧ opens c = false ∧ closes c = false ∧ quote c = false ∧ nsN c ns r = false := by
  have no : ∀ n : Nat, ¬ c.toNat = n → is (n : Int) c = false := by
    intro n hn
    show ((c.toNat : Int) == (n : Int)) = false
    simp only [beq_eq_false_iff_ne, ne_eq]; omega
  have e1 := no 32 (by omega); have e2 := no 9 (by omega); have e3 := no 91 (by omega); have e4 := no 123 (by omega)
  have e5 := no 93 (by omega); have e6 := no 125 (by omega); have e7 := no 39 (by omega); have e8 := no 34 (by omega)
  have e9 := no 44 (by omega); have e10 := no 63 (by omega); have e11 := no 58 (by omega)
  refine ⟨?_, ?_, ?_, ?_, ?_⟩
  · show (is 32 c || is 9 c) = false; rw [show is 32 c = false from e1, show is 9 c = false from e2]; rfl
  · show (is 91 c || is 123 c) = false; rw [show is 91 c = false from e3, show is 123 c = false from e4]; rfl
  · show (is 93 c || is 125 c) = false; rw [show is 93 c = false from e5, show is 125 c = false from e6]; rfl
  · show (is 39 c || is 34 c) = false; rw [show is 39 c = false from e7, show is 34 c = false from e8]; rfl
  · unfold nsN; rw [show is 44 c = false from e9, show is 63 c = false from e10, show is 58 c = false from e11]; rfl

set_option maxRecDepth 100000 in
set_option maxHeartbeats 4000000 in
theorem bracket_any (s : ByteArray) (i : Nat) (hi : i ≤ s.size) (w : World) (hs : s.size ≤ 1048576) :
    Calls Try.prog 28 #[.string s, .int .i64 (i : Int)] w fun e w' => e = .returned (.int .i64 (res i (cb (s.size - i) (from_ s i) 0 true))) ∧ w' = w := by
  go_enter Try.func28, Try.ntmps28
  go_wp2_with fail
  go_loop [5, 6, 7] (fun dd nn ii => ∃ (k f : Nat) (d : Int) (ns : Bool), i ≤ k ∧ k ≤ s.size ∧ s.size - k ≤ f ∧ -(k : Int) ≤ d ∧ d ≤ k ∧ ii = .int .i64 (k : Int) ∧ dd = .int .i64 d ∧ nn = .bool ns ∧
      Hid (res i (cb (s.size - i) (from_ s i) 0 true) = res k (cb f (from_ s k) d ns))) (fun _ _ ii => s.size - (intOf ii).toNat)
  case atStart => exact ⟨i, s.size - i, 0, true, Nat.le_refl _, hi, Nat.le_refl _, by omega, by omega, rfl, rfl, rfl, rfl⟩
  case round =>
    obtain ⟨k, f, d, ns, hik, hk, hf, hd0, hd1, rfl, rfl, rfl, H⟩ := hrel
    by_cases hlt : k < s.size
    · match f, hf, H with
      | 0, hf, H => exfalso; omega
      | f + 1, hf, H =>
        have hfk : s.size - (k + 1) ≤ f := by omega
        clear hf hk
        by_cases c1 : s[k].toNat = 32 ∨ s[k].toNat = 9
        · rcases c1 with c1 | c1
          all_goals
            have hcI : (s[k].toNat : Int) = _ := congrArg Nat.cast c1
            have hb := byte_eq c1 (by omega)
            have HB : Hid _ := hb
            clear hb c1
            by_cases hl1 : k + 1 < s.size
            · cases d35 : ((s[k + 1].toNat : Int) == 35)
              · have h1 := H.out.trans (b_sp s k f d ns hlt (by rw [HB.out]; rfl) (by rw [hd_lt s (k + 1) hl1]; exact d35))
                have H1 : Hid _ := h1
                clear h1 H
                go_wp2_with go_in
                go_round
                case rel => exact ⟨k + 1, f, d, ns, by omega, by omega, by omega, by omega, by omega, by go_num, by go_num, rfl, H1⟩
                case measure => simp [intOf]; omega
              · have h1 := H.out.trans (b_sp_no s k f d ns hlt (by rw [HB.out]; rfl) (by rw [hd_lt s (k + 1) hl1]; exact d35))
                have H1 : Hid _ := h1
                clear h1 H
                go_wp2_with go_in
                go_ret
                exact ⟨by rw [H1.out]; rfl, rfl⟩
            · have h1 := H.out.trans (b_sp s k f d ns hlt (by rw [HB.out]; rfl) (hd_ge s (k + 1) hl1 _))
              have H1 : Hid _ := h1
              clear h1 H
              go_wp2_with go_in
              go_round
              case rel => exact ⟨k + 1, f, d, ns, by omega, by omega, by omega, by omega, by omega, by go_num, by go_num, rfl, H1⟩
              case measure => simp [intOf]; omega
        · by_cases c2 : s[k].toNat = 91 ∨ s[k].toNat = 123
          · rcases c2 with c2 | c2
            all_goals
              have hcI : (s[k].toNat : Int) = _ := congrArg Nat.cast c2
              have hb := byte_eq c2 (by omega)
              have HB : Hid _ := hb
              clear hb c1 c2
              have h1 := H.out.trans (b_open s k f d ns hlt (by rw [HB.out]; rfl) (by rw [HB.out]; rfl))
              have H1 : Hid _ := h1
              clear h1 H
              go_wp2_with go_in
              go_round
              case rel => exact ⟨k + 1, f, d + 1, true, by omega, by omega, by omega, by omega, by omega, by go_num, by go_num, rfl, H1⟩
              case measure => simp [intOf]; omega
          · by_cases c3 : s[k].toNat = 93 ∨ s[k].toNat = 125
            · rcases c3 with c3 | c3
              all_goals
                have hcI : (s[k].toNat : Int) = _ := congrArg Nat.cast c3
                have hb := byte_eq c3 (by omega)
                have HB : Hid _ := hb
                clear hb c1 c2 c3
                by_cases hd : d - 1 = 0
                · have hdb : (d - 1 == 0) = true := by simp only [beq_iff_eq]; exact hd
                  have HD : Hid _ := hd
                  clear hd
                  have h1 := H.out.trans (b_close0 s k f d ns hlt (by rw [HB.out]; rfl) (by rw [HB.out]; rfl) (by rw [HB.out]; rfl) HD.out)
                  have H1 : Hid _ := h1
                  clear h1 H
                  go_wp2_with go_in
                  go_ret
                  exact ⟨by rw [H1.out]; rfl, rfl⟩
                · have hdb : (d - 1 == 0) = false := by simp only [beq_eq_false_iff_ne, ne_eq]; exact hd
                  have HD : Hid _ := hd
                  clear hd
                  have h1 := H.out.trans (b_close s k f d ns hlt (by rw [HB.out]; rfl) (by rw [HB.out]; rfl) (by rw [HB.out]; rfl) HD.out)
                  have H1 : Hid _ := h1
                  clear h1 H
                  go_wp2_with go_in
                  go_round
                  case rel => exact ⟨k + 1, f, d - 1, false, by omega, by omega, by omega, by omega, by omega, by go_num, by go_num, rfl, H1⟩
                  case measure => simp [intOf]; omega
            · by_cases c4 : s[k].toNat = 39 ∨ s[k].toNat = 34
              · cases ns
                · rcases c4 with c4 | c4
                  all_goals
                    have hcI : (s[k].toNat : Int) = _ := congrArg Nat.cast c4
                    have hb := byte_eq c4 (by omega)
                    have HB : Hid _ := hb
                    clear hb c1 c2 c3 c4
                    have h1 := H.out.trans (b_on s k f d false hlt (by rw [HB.out]; rfl) (by rw [HB.out]; rfl) (by rw [HB.out]; rfl) (by rw [HB.out]; rfl) (b := false) (by rw [HB.out]; rfl))
                    have H1 : Hid _ := h1
                    clear h1 H
                    go_wp2_with go_in
                    go_round
                    case rel => exact ⟨k + 1, f, d, false, by omega, by omega, by omega, by omega, by omega, by go_num, by go_num, rfl, H1⟩
                    case measure => simp [intOf]; omega
                · rcases c4 with c4 | c4
                  all_goals
                    have hcI : (s[k].toNat : Int) = _ := congrArg Nat.cast c4
                    have hb := byte_eq c4 (by omega)
                    have HB : Hid _ := hb
                    clear hb c1 c2 c3 c4
                    have hqc := fun wx => quote_any s (k : Int) k rfl hlt wx hs
                    cases hq : cq s[k] (from_ s (k + 1)) with
                    | none =>
                      rw [hq, res_none] at hqc
                      have HQ : Hid _ := hqc
                      clear hqc
                      have h1 := H.out.trans (b_q_none s k f d hlt (by rw [HB.out]; rfl) (by rw [HB.out]; rfl) (by rw [HB.out]; rfl) (by rw [HB.out]; rfl) hq)
                      have H1 : Hid _ := h1
                      clear h1 H
                      clear hq
                      go_wp2_with (first | (go_at_call 32; refine (HQ.out _).mono ?_; rintro e w' ⟨rfl, rfl⟩) | go_in)
                      go_ret
                      exact ⟨by rw [H1.out]; rfl, rfl⟩
                    | some j =>
                      rw [hq, res_some, show ((k + 1 : Nat) : Int) + (j : Int) = (k : Int) + 1 + (j : Int) from by omega] at hqc
                      have HQ : Hid _ := hqc
                      clear hqc
                      have hj := cq_le _ _ _ hq
                      rw [from_len] at hj
                      obtain ⟨hj1, hj2⟩ := hj
                      have h1 := H.out.trans (b_q_some s k f d hlt (by rw [HB.out]; rfl) (by rw [HB.out]; rfl) (by rw [HB.out]; rfl) (by rw [HB.out]; rfl) j hq)
                      have H1 : Hid _ := h1
                      clear h1 H
                      clear hq
                      go_wp2_with (first | (go_at_call 32; refine (HQ.out _).mono ?_; rintro e w' ⟨rfl, rfl⟩) | go_in)
                      go_round
                      case rel => exact ⟨k + 1 + j, f, d, false, by omega, by omega, by omega, by omega, by omega, by go_num, by go_num, rfl, H1⟩
                      case measure => simp [intOf]; omega
              · by_cases c5 : s[k].toNat = 44
                · have hcI : (s[k].toNat : Int) = _ := congrArg Nat.cast c5
                  have hb := byte_eq c5 (by omega)
                  have HB : Hid _ := hb
                  clear hb c1 c2 c3 c4 c5
                  have h1 := H.out.trans (b_on s k f d ns hlt (by rw [HB.out]; rfl) (by rw [HB.out]; rfl) (by rw [HB.out]; rfl) (by rw [HB.out]; rfl) (b := true) (by rw [HB.out]; rfl))
                  have H1 : Hid _ := h1
                  clear h1 H
                  go_wp2_with go_in
                  go_round
                  case rel => exact ⟨k + 1, f, d, true, by omega, by omega, by omega, by omega, by omega, by go_num, by go_num, rfl, H1⟩
                  case measure => simp [intOf]; omega
                · by_cases c6 : s[k].toNat = 63 ∨ s[k].toNat = 58
                  · rcases c6 with c6 | c6
                    · have HB : Hid (s[k] = UInt8.ofNat 63) := byte_eq c6 (by omega)
                      have t91 : ((s[k].toNat : Int) == 91) = false := by simp only [beq_eq_false_iff_ne, ne_eq]; omega
                      have t123 : ((s[k].toNat : Int) == 123) = false := by simp only [beq_eq_false_iff_ne, ne_eq]; omega
                      have t93 : ((s[k].toNat : Int) == 93) = false := by simp only [beq_eq_false_iff_ne, ne_eq]; omega
                      have t125 : ((s[k].toNat : Int) == 125) = false := by simp only [beq_eq_false_iff_ne, ne_eq]; omega
                      have t39 : ((s[k].toNat : Int) == 39) = false := by simp only [beq_eq_false_iff_ne, ne_eq]; omega
                      have t34 : ((s[k].toNat : Int) == 34) = false := by simp only [beq_eq_false_iff_ne, ne_eq]; omega
                      have t44 : ((s[k].toNat : Int) == 44) = false := by simp only [beq_eq_false_iff_ne, ne_eq]; omega
                      have t63 : ((s[k].toNat : Int) == 63) = true := by simp only [beq_iff_eq]; omega
                      have hspc : sp s[k] = false := by rw [HB.out]; rfl
                      clear c1 c2 c3 c4 c5 c6
                      cases ns
                      · by_cases hl1 : k + 1 < s.size
                        · cases hspd : sp s[k + 1]
                          · cases hfl : fl s[k + 1]
                            · have h1 := H.out.trans (b_on s k f d false hlt (by rw [HB.out]; rfl) (by rw [HB.out]; rfl) (by rw [HB.out]; rfl) (by rw [HB.out]; rfl) (b := false) (by unfold nsN; rw [hd_lt s (k + 1) hl1, HB.out, hspd, hfl]; rfl))
                              have H1 : Hid _ := h1
                              clear h1 H
                              go_wp2_with (first | (go_at_call 31; refine (sp_any _ rfl _).mono ?_; rintro e w' ⟨rfl, rfl⟩) | (go_at_call 33; refine (fl_any _ rfl _).mono ?_; rintro e w' ⟨rfl, rfl⟩))
                              go_round
                              case rel => exact ⟨k + 1, f, d, false, by omega, by omega, by omega, by omega, by omega, by go_num, by go_num, rfl, H1⟩
                              case measure => simp [intOf]; omega
                            · have h1 := H.out.trans (b_on s k f d false hlt (by rw [HB.out]; rfl) (by rw [HB.out]; rfl) (by rw [HB.out]; rfl) (by rw [HB.out]; rfl) (b := true) (by unfold nsN; rw [hd_lt s (k + 1) hl1, HB.out, hspd, hfl]; rfl))
                              have H1 : Hid _ := h1
                              clear h1 H
                              go_wp2_with (first | (go_at_call 31; refine (sp_any _ rfl _).mono ?_; rintro e w' ⟨rfl, rfl⟩) | (go_at_call 33; refine (fl_any _ rfl _).mono ?_; rintro e w' ⟨rfl, rfl⟩))
                              go_round
                              case rel => exact ⟨k + 1, f, d, true, by omega, by omega, by omega, by omega, by omega, by go_num, by go_num, rfl, H1⟩
                              case measure => simp [intOf]; omega
                          · have h1 := H.out.trans (b_on s k f d false hlt (by rw [HB.out]; rfl) (by rw [HB.out]; rfl) (by rw [HB.out]; rfl) (by rw [HB.out]; rfl) (b := true) (by unfold nsN; rw [hd_lt s (k + 1) hl1, HB.out, hspd]; rfl))
                            have H1 : Hid _ := h1
                            clear h1 H
                            go_wp2_with (first | (go_at_call 31; refine (sp_any _ rfl _).mono ?_; rintro e w' ⟨rfl, rfl⟩) | (go_at_call 33; refine (fl_any _ rfl _).mono ?_; rintro e w' ⟨rfl, rfl⟩))
                            go_round
                            case rel => exact ⟨k + 1, f, d, true, by omega, by omega, by omega, by omega, by omega, by go_num, by go_num, rfl, H1⟩
                            case measure => simp [intOf]; omega
                        · have h1 := H.out.trans (b_on s k f d false hlt (by rw [HB.out]; rfl) (by rw [HB.out]; rfl) (by rw [HB.out]; rfl) (by rw [HB.out]; rfl) (b := false) (by unfold nsN; rw [hd_ge s (k + 1) hl1, HB.out]; rfl))
                          have H1 : Hid _ := h1
                          clear h1 H
                          go_wp2_with (first | (go_at_call 31; refine (sp_any _ rfl _).mono ?_; rintro e w' ⟨rfl, rfl⟩) | (go_at_call 33; refine (fl_any _ rfl _).mono ?_; rintro e w' ⟨rfl, rfl⟩))
                          go_round
                          case rel => exact ⟨k + 1, f, d, false, by omega, by omega, by omega, by omega, by omega, by go_num, by go_num, rfl, H1⟩
                          case measure => simp [intOf]; omega
                      · have h1 := H.out.trans (b_on s k f d true hlt (by rw [HB.out]; rfl) (by rw [HB.out]; rfl) (by rw [HB.out]; rfl) (by rw [HB.out]; rfl) (b := true) (by unfold nsN; rw [HB.out]; rfl))
                        have H1 : Hid _ := h1
                        clear h1 H
                        go_wp2_with (first | (go_at_call 31; refine (sp_any _ rfl _).mono ?_; rintro e w' ⟨rfl, rfl⟩) | (go_at_call 33; refine (fl_any _ rfl _).mono ?_; rintro e w' ⟨rfl, rfl⟩))
                        go_round
                        case rel => exact ⟨k + 1, f, d, true, by omega, by omega, by omega, by omega, by omega, by go_num, by go_num, rfl, H1⟩
                        case measure => simp [intOf]; omega
                    · have HB : Hid (s[k] = UInt8.ofNat 58) := byte_eq c6 (by omega)
                      have t91 : ((s[k].toNat : Int) == 91) = false := by simp only [beq_eq_false_iff_ne, ne_eq]; omega
                      have t123 : ((s[k].toNat : Int) == 123) = false := by simp only [beq_eq_false_iff_ne, ne_eq]; omega
                      have t93 : ((s[k].toNat : Int) == 93) = false := by simp only [beq_eq_false_iff_ne, ne_eq]; omega
                      have t125 : ((s[k].toNat : Int) == 125) = false := by simp only [beq_eq_false_iff_ne, ne_eq]; omega
                      have t39 : ((s[k].toNat : Int) == 39) = false := by simp only [beq_eq_false_iff_ne, ne_eq]; omega
                      have t34 : ((s[k].toNat : Int) == 34) = false := by simp only [beq_eq_false_iff_ne, ne_eq]; omega
                      have t44 : ((s[k].toNat : Int) == 44) = false := by simp only [beq_eq_false_iff_ne, ne_eq]; omega
                      have t63 : ((s[k].toNat : Int) == 63) = false := by simp only [beq_eq_false_iff_ne, ne_eq]; omega
                      have t58 : ((s[k].toNat : Int) == 58) = true := by simp only [beq_iff_eq]; omega
                      have hspc : sp s[k] = false := by rw [HB.out]; rfl
                      clear c1 c2 c3 c4 c5 c6
                      cases ns
                      · by_cases hl1 : k + 1 < s.size
                        · cases hspd : sp s[k + 1]
                          · cases hfl : fl s[k + 1]
                            · have h1 := H.out.trans (b_on s k f d false hlt (by rw [HB.out]; rfl) (by rw [HB.out]; rfl) (by rw [HB.out]; rfl) (by rw [HB.out]; rfl) (b := false) (by unfold nsN; rw [hd_lt s (k + 1) hl1, HB.out, hspd, hfl]; rfl))
                              have H1 : Hid _ := h1
                              clear h1 H
                              go_wp2_with (first | (go_at_call 31; refine (sp_any _ rfl _).mono ?_; rintro e w' ⟨rfl, rfl⟩) | (go_at_call 33; refine (fl_any _ rfl _).mono ?_; rintro e w' ⟨rfl, rfl⟩))
                              go_round
                              case rel => exact ⟨k + 1, f, d, false, by omega, by omega, by omega, by omega, by omega, by go_num, by go_num, rfl, H1⟩
                              case measure => simp [intOf]; omega
                            · have h1 := H.out.trans (b_on s k f d false hlt (by rw [HB.out]; rfl) (by rw [HB.out]; rfl) (by rw [HB.out]; rfl) (by rw [HB.out]; rfl) (b := true) (by unfold nsN; rw [hd_lt s (k + 1) hl1, HB.out, hspd, hfl]; rfl))
                              have H1 : Hid _ := h1
                              clear h1 H
                              go_wp2_with (first | (go_at_call 31; refine (sp_any _ rfl _).mono ?_; rintro e w' ⟨rfl, rfl⟩) | (go_at_call 33; refine (fl_any _ rfl _).mono ?_; rintro e w' ⟨rfl, rfl⟩))
                              go_round
                              case rel => exact ⟨k + 1, f, d, true, by omega, by omega, by omega, by omega, by omega, by go_num, by go_num, rfl, H1⟩
                              case measure => simp [intOf]; omega
                          · have h1 := H.out.trans (b_on s k f d false hlt (by rw [HB.out]; rfl) (by rw [HB.out]; rfl) (by rw [HB.out]; rfl) (by rw [HB.out]; rfl) (b := true) (by unfold nsN; rw [hd_lt s (k + 1) hl1, HB.out, hspd]; rfl))
                            have H1 : Hid _ := h1
                            clear h1 H
                            go_wp2_with (first | (go_at_call 31; refine (sp_any _ rfl _).mono ?_; rintro e w' ⟨rfl, rfl⟩) | (go_at_call 33; refine (fl_any _ rfl _).mono ?_; rintro e w' ⟨rfl, rfl⟩))
                            go_round
                            case rel => exact ⟨k + 1, f, d, true, by omega, by omega, by omega, by omega, by omega, by go_num, by go_num, rfl, H1⟩
                            case measure => simp [intOf]; omega
                        · have h1 := H.out.trans (b_on s k f d false hlt (by rw [HB.out]; rfl) (by rw [HB.out]; rfl) (by rw [HB.out]; rfl) (by rw [HB.out]; rfl) (b := false) (by unfold nsN; rw [hd_ge s (k + 1) hl1, HB.out]; rfl))
                          have H1 : Hid _ := h1
                          clear h1 H
                          go_wp2_with (first | (go_at_call 31; refine (sp_any _ rfl _).mono ?_; rintro e w' ⟨rfl, rfl⟩) | (go_at_call 33; refine (fl_any _ rfl _).mono ?_; rintro e w' ⟨rfl, rfl⟩))
                          go_round
                          case rel => exact ⟨k + 1, f, d, false, by omega, by omega, by omega, by omega, by omega, by go_num, by go_num, rfl, H1⟩
                          case measure => simp [intOf]; omega
                      · have h1 := H.out.trans (b_on s k f d true hlt (by rw [HB.out]; rfl) (by rw [HB.out]; rfl) (by rw [HB.out]; rfl) (by rw [HB.out]; rfl) (b := true) (by unfold nsN; rw [HB.out]; rfl))
                        have H1 : Hid _ := h1
                        clear h1 H
                        go_wp2_with (first | (go_at_call 31; refine (sp_any _ rfl _).mono ?_; rintro e w' ⟨rfl, rfl⟩) | (go_at_call 33; refine (fl_any _ rfl _).mono ?_; rintro e w' ⟨rfl, rfl⟩))
                        go_round
                        case rel => exact ⟨k + 1, f, d, true, by omega, by omega, by omega, by omega, by omega, by go_num, by go_num, rfl, H1⟩
                        case measure => simp [intOf]; omega
                  · have t91 : ((s[k].toNat : Int) == 91) = false := by simp only [beq_eq_false_iff_ne, ne_eq]; omega
                    have t123 : ((s[k].toNat : Int) == 123) = false := by simp only [beq_eq_false_iff_ne, ne_eq]; omega
                    have t93 : ((s[k].toNat : Int) == 93) = false := by simp only [beq_eq_false_iff_ne, ne_eq]; omega
                    have t125 : ((s[k].toNat : Int) == 125) = false := by simp only [beq_eq_false_iff_ne, ne_eq]; omega
                    have t39 : ((s[k].toNat : Int) == 39) = false := by simp only [beq_eq_false_iff_ne, ne_eq]; omega
                    have t34 : ((s[k].toNat : Int) == 34) = false := by simp only [beq_eq_false_iff_ne, ne_eq]; omega
                    have t44 : ((s[k].toNat : Int) == 44) = false := by simp only [beq_eq_false_iff_ne, ne_eq]; omega
                    have t63 : ((s[k].toNat : Int) == 63) = false := by simp only [beq_eq_false_iff_ne, ne_eq]; omega
                    have t58 : ((s[k].toNat : Int) == 58) = false := by simp only [beq_eq_false_iff_ne, ne_eq]; omega
                    have HS : Hid (sp s[k] = false ∧ opens s[k] = false ∧ closes s[k] = false ∧ quote s[k] = false ∧ nsN s[k] ns (from_ s (k + 1)) = false) := cls_other (by omega)
                    have hspc := HS.out.1
                    clear c1 c2 c3 c4 c5 c6
                    have h1 := H.out.trans (b_on s k f d ns hlt HS.out.1 HS.out.2.1 HS.out.2.2.1 (by rw [HS.out.2.2.2.1]; rfl) HS.out.2.2.2.2)
                    have H1 : Hid _ := h1
                    clear h1 H
                    go_wp2_with (first | (go_at_call 31; refine (sp_any _ rfl _).mono ?_; rintro e w' ⟨rfl, rfl⟩) | (go_at_call 33; refine (fl_any _ rfl _).mono ?_; rintro e w' ⟨rfl, rfl⟩))
                    go_round
                    case rel => exact ⟨k + 1, f, d, false, by omega, by omega, by omega, by omega, by omega, by go_num, by go_num, rfl, H1⟩
                    case measure => simp [intOf]; omega
    · have h1 := H.out.trans (b_out s k f d ns hlt)
      have H1 : Hid _ := h1
      clear h1 H
      go_wp2_with fail
      go_ret
      exact ⟨by rw [H1.out]; rfl, rfl⟩
end Go.Proofs.Qxb6001343a.Cb
