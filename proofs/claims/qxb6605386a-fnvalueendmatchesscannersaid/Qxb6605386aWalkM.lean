/-
  The one-pass scanner: jsb1ValueEndModel.
-/
import Derived.Test.Qxb6605386aWalkE
namespace Go.Proofs.Qxb6605386a
open Go.RowKit

theorem scan_esc (xs : List Int) (k : Nat) (d : Int) (h : k < xs.length) :
    k + scan (xs.drop k) d true true = (k + 1) + scan (xs.drop (k + 1)) d true false := by
  rw [drop_at xs k h]
  simp only [scan]
  omega

theorem scan_slash (xs : List Int) (k : Nat) (d : Int) (h : k < xs.length) (hc : xs.getD k 0 = 92) :
    k + scan (xs.drop k) d true false = (k + 1) + scan (xs.drop (k + 1)) d true true := by
  rw [drop_at xs k h]
  simp only [scan]
  rw [if_pos hc]
  omega

theorem scan_shut0 (xs : List Int) (k : Nat) (d : Int) (h : k < xs.length) (hc : xs.getD k 0 = 34) (hd : d = 0) :
    k + scan (xs.drop k) d true false = k + 1 := by
  rw [drop_at xs k h]
  simp only [scan]
  rw [if_neg (by omega), if_pos hc, if_pos hd]

theorem scan_shut (xs : List Int) (k : Nat) (d : Int) (h : k < xs.length) (hc : xs.getD k 0 = 34) (hd : d ≠ 0) :
    k + scan (xs.drop k) d true false = (k + 1) + scan (xs.drop (k + 1)) d false false := by
  rw [drop_at xs k h]
  simp only [scan]
  rw [if_neg (by omega), if_pos hc, if_neg hd]
  omega

theorem scan_inside (xs : List Int) (k : Nat) (d : Int) (h : k < xs.length) (h1 : xs.getD k 0 ≠ 92) (h2 : xs.getD k 0 ≠ 34) :
    k + scan (xs.drop k) d true false = (k + 1) + scan (xs.drop (k + 1)) d true false := by
  rw [drop_at xs k h]
  simp only [scan]
  rw [if_neg h1, if_neg h2]
  omega

theorem scan_begin (xs : List Int) (k : Nat) (d : Int) (e : Bool) (h : k < xs.length) (hc : xs.getD k 0 = 34) :
    k + scan (xs.drop k) d false e = (k + 1) + scan (xs.drop (k + 1)) d true e := by
  rw [drop_at xs k h]
  simp only [scan]
  rw [if_pos hc]
  omega

theorem model_out (a : Option Addr) (len cap : Nat) (i : Int) (w : World) (h : (len : Int) ≤ i) :
    Calls Try.prog 18 #[.slice a len cap, .int .i64 i] w fun e w' => e = .returned (.int .i64 i) ∧ w' = w := by
  go_enter Try.func18, Try.ntmps18
  go_wp2
  go_ret
  exact ⟨rfl, rfl⟩

set_option maxHeartbeats 2000000 in
theorem model_scal (b off cap : Nat) (xs : List Int) (i0 : Nat) (w : World) (hcap : xs.length ≤ cap) (hm : cap ≤ 2000000)
    (HC : Hid (∀ i, i < xs.length → w.cell? ⟨b, off + i, none⟩ = some (.int .u8 (xs.getD i 0))))
    (hi : i0 < xs.length) (h34 : xs.getD i0 0 ≠ 34) (h123 : xs.getD i0 0 ≠ 123) (h91 : xs.getD i0 0 ≠ 91) :
    Calls Try.prog 18 #[.slice (some ⟨b, off, none⟩) xs.length cap, .int .i64 i0] w fun e w' => e = .returned (.int .i64 (i0 + scal isDl (xs.drop i0) : Nat)) ∧ w' = w := by
  obtain ⟨T, HT⟩ : ∃ T, Hid (i0 + scal isDl (xs.drop i0) = T) := ⟨_, rfl⟩
  rw [HT.out]
  have hge : decide (xs.length ≤ i0) = false := by simp; omega
  obtain ⟨c, Hc, hcc⟩ : ∃ c, Hid (xs.getD i0 0 = c) ∧ w.cell? ⟨b, off + i0, none⟩ = some (.int .u8 c) := ⟨_, rfl, HC.out i0 hi⟩
  have g1 : (c == 34) = false := by rw [← Hc.out]; simpa using h34
  have g2 : (c == 123) = false := by rw [← Hc.out]; simpa using h123
  have g3 : (c == 91) = false := by rw [← Hc.out]; simpa using h91
  have g1' : (c != 34) = true := by simpa using g1
  have g2' : (c != 123) = true := by simpa using g2
  have g3' : (c != 91) = true := by simpa using g3
  clear h34 h123 h91
  go_enter Try.func18, Try.ntmps18
  go_wp2
  clear hcc g1 g2 g3 g1' g2' g3'
  go_loop [6] (fun v => ∃ k : Nat, v = .int .i64 k ∧ k ≤ xs.length ∧ Hid (k + scal isDl (xs.drop k) = T)) (fun v => xs.length - (intOf v).toNat)
  case atStart => exact ⟨i0, rfl, by omega, HT⟩
  case round =>
    obtain ⟨k, rfl, hk, HR⟩ := hrel
    by_cases hlt : k < xs.length
    · obtain ⟨c, Hc, hcc⟩ : ∃ c, Hid (xs.getD k 0 = c) ∧ w.cell? ⟨b, off + k, none⟩ = some (.int .u8 c) := ⟨_, rfl, HC.out k hlt⟩
      by_cases hdl : isDl c = true
      · have H1 : Hid (isDl c = true) := hdl
        have HS : Hid (T = k) := show _ = _ by
          rw [← HR.out, scal_stop isDl xs k hlt (by rw [Hc.out]; exact hdl)]; rfl
        clear hdl
        go_wp2_with fail
        refine (isDelim_is c true _ H1).mono ?_
        rintro e w' ⟨rfl, rfl⟩
        go_wp2
        go_ret
        exact ⟨ret_int (by have := HS.out; omega), rfl⟩
      · have H1 : Hid (isDl c = false) := show _ = _ by simpa using hdl
        have HS : Hid (k + 1 + scal isDl (xs.drop (k + 1)) = T) := show _ = _ by
          rw [← HR.out, scal_go isDl xs k hlt (by rw [Hc.out]; exact H1.out)]; omega
        clear hdl
        go_wp2_with fail
        refine (isDelim_is c false _ H1).mono ?_
        rintro e w' ⟨rfl, rfl⟩
        go_wp2
        go_round
        case rel => exact ⟨k + 1, by go_num, by omega, HS⟩
        case measure => simp [intOf]; omega
    · have HS : Hid (T = k) := show _ = _ by
        rw [← HR.out, scal_end isDl xs k hlt]; rfl
      go_wp2
      go_ret
      exact ⟨ret_int (by have := HS.out; omega), rfl⟩

set_option maxHeartbeats 4000000 in
theorem model_scan (b off cap : Nat) (xs : List Int) (i0 : Nat) (w : World) (hcap : xs.length ≤ cap) (hm : cap ≤ 2000000)
    (HC : Hid (∀ i, i < xs.length → w.cell? ⟨b, off + i, none⟩ = some (.int .u8 (xs.getD i 0))))
    (hi : i0 < xs.length) (hop : xs.getD i0 0 = 34 ∨ xs.getD i0 0 = 123 ∨ xs.getD i0 0 = 91) :
    Calls Try.prog 18 #[.slice (some ⟨b, off, none⟩) xs.length cap, .int .i64 i0] w fun e w' => e = .returned (.int .i64 (i0 + scan (xs.drop i0) 0 false false : Nat)) ∧ w' = w := by
  obtain ⟨T, HT⟩ : ∃ T, Hid (i0 + scan (xs.drop i0) 0 false false = T) := ⟨_, rfl⟩
  rw [HT.out]
  have hge : decide (xs.length ≤ i0) = false := by simp; omega
  obtain ⟨c, Hc, hcc⟩ : ∃ c, Hid (xs.getD i0 0 = c) ∧ w.cell? ⟨b, off + i0, none⟩ = some (.int .u8 c) := ⟨_, rfl, HC.out i0 hi⟩
  rw [Hc.out] at hop
  clear Hc
  go_enter Try.func18, Try.ntmps18
  rcases hop with rfl | rfl | rfl
  all_goals
    go_wp2
    clear hcc
    go_loop [7, 8, 9, 10] (fun vd vs ve vj => ∃ (k : Nat) (d : Int) (s e : Bool), vd = .int .i64 d ∧ vs = .bool s ∧ ve = .bool e ∧ vj = .int .i64 k ∧ k ≤ xs.length ∧ -(k : Int) ≤ d ∧ d ≤ k ∧ Hid (k + scan (xs.drop k) d s e = T)) (fun _ _ _ vj => xs.length - (intOf vj).toNat)
    case atStart => exact ⟨i0, 0, false, false, rfl, rfl, rfl, rfl, by omega, by omega, by omega, HT⟩
    case round =>
      obtain ⟨k, d, s, e, rfl, rfl, rfl, rfl, hk, hd0, hd1, HR⟩ := hrel
      by_cases hlt : k < xs.length
      · obtain ⟨c, Hc, hcc⟩ : ∃ c, Hid (xs.getD k 0 = c) ∧ w.cell? ⟨b, off + k, none⟩ = some (.int .u8 c) := ⟨_, rfl, HC.out k hlt⟩
        cases s with
        | true =>
          cases e with
          | true =>
            have HS : Hid ((k + 1) + scan (xs.drop (k + 1)) d true false = T) := show _ = _ by rw [← HR.out, scan_esc xs k d hlt]
            go_wp2
            go_round
            case rel => exact ⟨k + 1, d, true, false, rfl, rfl, rfl, by go_num, by omega, by omega, by omega, HS⟩
            case measure => simp [intOf]; omega
          | false =>
            by_cases h92 : c = 92
            · subst h92
              have HS : Hid ((k + 1) + scan (xs.drop (k + 1)) d true true = T) := show _ = _ by rw [← HR.out, scan_slash xs k d hlt Hc.out]
              go_wp2
              go_round
              case rel => exact ⟨k + 1, d, true, true, rfl, rfl, rfl, by go_num, by omega, by omega, by omega, HS⟩
              case measure => simp [intOf]; omega
            · by_cases h34 : c = 34
              · subst h34
                by_cases hd : d = 0
                · have HS : Hid (T = k + 1) := show _ = _ by rw [← HR.out, scan_shut0 xs k d hlt Hc.out hd]
                  subst hd
                  go_wp2
                  go_ret
                  exact ⟨ret_int (by have := HS.out; omega), rfl⟩
                · have HS : Hid ((k + 1) + scan (xs.drop (k + 1)) d false false = T) := show _ = _ by rw [← HR.out, scan_shut xs k d hlt Hc.out hd]
                  have gd : (d == 0) = false := by simpa using hd
                  go_wp2
                  go_round
                  case rel => exact ⟨k + 1, d, false, false, rfl, rfl, rfl, by go_num, by omega, by omega, by omega, HS⟩
                  case measure => simp [intOf]; omega
              · have HS : Hid ((k + 1) + scan (xs.drop (k + 1)) d true false = T) := show _ = _ by rw [← HR.out, scan_inside xs k d hlt (by rw [Hc.out]; exact h92) (by rw [Hc.out]; exact h34)]
                have g1 : (c == 92) = false := by simpa using h92
                have g2 : (c == 34) = false := by simpa using h34
                clear h92 h34
                go_wp2
                go_round
                case rel => exact ⟨k + 1, d, true, false, rfl, rfl, rfl, by go_num, by omega, by omega, by omega, HS⟩
                case measure => simp [intOf]; omega
        | false =>
          by_cases h34 : c = 34
          · subst h34
            have HS : Hid ((k + 1) + scan (xs.drop (k + 1)) d true e = T) := show _ = _ by rw [← HR.out, scan_begin xs k d e hlt Hc.out]
            go_wp2
            go_round
            case rel => exact ⟨k + 1, d, true, e, rfl, rfl, rfl, by go_num, by omega, by omega, by omega, HS⟩
            case measure => simp [intOf]; omega
          · have g1 : (c == 34) = false := by simpa using h34
            by_cases hop : c = 123 ∨ c = 91
            · have HS : Hid ((k + 1) + scan (xs.drop (k + 1)) (d + 1) false e = T) := show _ = _ by rw [← HR.out, scan_open xs k d e hlt (by rw [Hc.out]; exact hop)]
              rcases hop with rfl | rfl
              all_goals
                go_wp2
                go_round
                case rel => exact ⟨k + 1, d + 1, false, e, rfl, rfl, rfl, by go_num, by omega, by omega, by omega, HS⟩
                case measure => simp [intOf]; omega
            · have g2 : (c == 123) = false := by simp; omega
              have g3 : (c == 91) = false := by simp; omega
              by_cases hcl : c = 125 ∨ c = 93
              · by_cases hd : d = 1
                · subst hd
                  have HS : Hid (T = k + 1) := show _ = _ by rw [← HR.out, scan_last xs k 1 e hlt (by rw [Hc.out]; exact hcl) rfl]
                  rcases hcl with rfl | rfl
                  all_goals
                    go_wp2
                    go_ret
                    exact ⟨ret_int (by have := HS.out; omega), rfl⟩
                · have HS : Hid ((k + 1) + scan (xs.drop (k + 1)) (d - 1) false e = T) := show _ = _ by rw [← HR.out, scan_close xs k d e hlt (by rw [Hc.out]; exact hcl) (by omega)]
                  have gd : (d - 1 == 0) = false := by simp; omega
                  rcases hcl with rfl | rfl
                  all_goals
                    go_wp2
                    go_round
                    case rel => exact ⟨k + 1, d - 1, false, e, rfl, rfl, rfl, by go_num, by omega, by omega, by omega, HS⟩
                    case measure => simp [intOf]; omega
              · have g4 : (c == 125) = false := by simp; omega
                have g5 : (c == 93) = false := by simp; omega
                have HS : Hid ((k + 1) + scan (xs.drop (k + 1)) d false e = T) := show _ = _ by
                  rw [← HR.out, scan_plain xs k d e hlt (by rw [Hc.out]; omega) (by rw [Hc.out]; omega) (by rw [Hc.out]; omega) (by rw [Hc.out]; omega) (by rw [Hc.out]; omega)]
                clear hop hcl h34
                go_wp2
                go_round
                case rel => exact ⟨k + 1, d, false, e, rfl, rfl, rfl, by go_num, by omega, by omega, by omega, HS⟩
                case measure => simp [intOf]; omega
      · have HS : Hid (T = k) := show _ = _ by rw [← HR.out, scan_end xs k d s e hlt]; rfl
        go_wp2
        go_ret
        exact ⟨ret_int (by have := HS.out; omega), rfl⟩

end Go.Proofs.Qxb6605386a
