/-
  scanString.
-/
import Derived.Test.Qxb6001225aWalkH
namespace Go.Proofs.Qxb6001225a
open Go.RowKit

/-- What scanString answers, given where its loop ends. -/
def res (xs : List Int) (T : Nat) (Bd : Int) : Int × Int × Bool :=
  if T < xs.length ∧ xs.getD T 0 = 34 then ((T : Int) + 1, Bd, false) else if Bd < 0 then ((T : Int), (T : Int), true) else ((T : Int), Bd, true)

theorem ret_trip {a a' b b' : Int} {c c' : Bool} (h : (a, b, c) = (a', b', c')) : Ending.returned (.tuple #[.int .i64 a, .int .i64 b, .bool c]) = .returned (.tuple #[.int .i64 a', .int .i64 b', .bool c']) := by
  simp only [Prod.mk.injEq] at h
  obtain ⟨rfl, rfl, rfl⟩ := h
  rfl

theorem ns_hex (s : ByteArray) (k : Nat) : ns (s.extract (k + 2) (k + 6)) = ((ns s).drop (k + 2)).take 4 := by
  rw [ns_extract]
  congr 1
  omega

set_option maxHeartbeats 4000000 in
set_option maxRecDepth 100000 in
theorem scan_any (s : ByteArray) (w : World) (hs : s.size ≤ 9000000) (h1 : 1 ≤ s.size) (T : Nat) (Bd : Int) (HT : Hid (fin ((ns s).drop 1) 0 1 (-1) = (T, Bd)))
    (N Bo : Int) (op : Bool) (HN : Hid (res (ns s) T Bd = (N, Bo, op))) :
    Calls Try.prog 40 #[.string s] w fun e w' => e = .returned (.tuple #[.int .i64 N, .int .i64 Bo, .bool op]) ∧ w' = w := by
  have HL : Hid ((ns s).length = s.size) := ns_length s
  go_enter Try.func40, Try.ntmps40
  go_wp2
  go_loop [3, 5] (fun v u => ∃ (k : Nat) (bd : Int), v = .int .i64 bd ∧ u = .int .i64 k ∧ k ≤ s.size ∧ -1 ≤ bd ∧ bd ≤ k ∧ Hid (fin ((ns s).drop k) 0 k bd = (T, Bd))) (fun _ u => s.size - (intOf u).toNat)
  case atStart => exact ⟨1, -1, rfl, rfl, h1, by omega, by omega, HT⟩
  case round =>
    obtain ⟨k, bd, rfl, rfl, hk, hb0, hb1, HR⟩ := hrel
    by_cases hlt : k < s.size
    · have hlt' : k < (ns s).length := by rw [HL.out]; exact hlt
      have hr := byte_range s k hlt
      obtain ⟨c, Hc, hcc, hc0, hc1⟩ : ∃ c, Hid ((ns s).getD k 0 = c) ∧ (s[k].toNat : Int) = c ∧ 0 ≤ c ∧ c < 256 := ⟨_, rfl, (ns_get s k hlt).symm, hr.1, hr.2⟩
      clear hr
      by_cases hst : stp c = true
      · have H1 : Hid (c ∈ ns ⟨#[34, 10, 13]⟩) := (stp_mem c).1 hst
        have h7 := HR.out
        rw [fin_stop (ns s) k bd hlt' (by rw [Hc.out]; exact hst)] at h7
        simp only [Prod.mk.injEq] at h7
        have H7 : Hid (k = T ∧ bd = Bd) := h7
        clear h7 hst
        by_cases h34 : c = 34
        · subst h34
          have HF : Hid (((k : Int) + 1, bd, false) = (N, Bo, op)) := show _ = _ by
            rw [← HN.out, ← H7.out.1, ← H7.out.2, res, if_pos ⟨hlt', Hc.out⟩]
          go_wp2_with fail
          refine (idx_yes _ _ _ hc0 hc1 H1).mono ?_
          rintro e w' ⟨q, rfl, rfl⟩
          go_wp2
          go_ret3
          exact ⟨ret_trip HF.out, rfl⟩
        · have g34 : (c == 34) = false := by simpa using h34
          by_cases hbd : bd < 0
          · have HF : Hid (((k : Int), (k : Int), true) = (N, Bo, op)) := show _ = _ by
              rw [← HN.out, ← H7.out.1, ← H7.out.2, res, if_neg (fun hx => h34 (by rw [← Hc.out]; exact hx.2)), if_pos hbd]
            clear h34
            go_wp2_with fail
            refine (idx_yes _ c _ hc0 hc1 H1).mono ?_
            rintro e w' ⟨q, rfl, rfl⟩
            go_wp2
            go_ret3
            exact ⟨ret_trip HF.out, rfl⟩
          · have HF : Hid (((k : Int), bd, true) = (N, Bo, op)) := show _ = _ by
              rw [← HN.out, ← H7.out.1, ← H7.out.2, res, if_neg (fun hx => h34 (by rw [← Hc.out]; exact hx.2)), if_neg hbd]
            clear h34
            go_wp2_with fail
            refine (idx_yes _ c _ hc0 hc1 H1).mono ?_
            rintro e w' ⟨q, rfl, rfl⟩
            go_wp2
            go_ret3
            exact ⟨ret_trip HF.out, rfl⟩
      · have hst' : stp c = false := by simpa using hst
        have H1 : Hid (c ∉ ns ⟨#[34, 10, 13]⟩) := fun h => hst ((stp_mem c).2 h)
        clear hst
        by_cases h92 : c = 92
        · subst h92
          by_cases hk1 : k + 1 < s.size
          · have hr := byte_range s (k + 1) hk1
            obtain ⟨d, Hd, hdd, hd0, hd1⟩ : ∃ c, Hid ((ns s).getD (k + 1) 0 = c) ∧ (s[k + 1].toNat : Int) = c ∧ 0 ≤ c ∧ c < 256 := ⟨_, rfl, (ns_get s (k + 1) hk1).symm, hr.1, hr.2⟩
            clear hr
            by_cases hE : isE d = true
            · have H2 : Hid (d ∈ ns ⟨#[34, 92, 47, 98, 102, 110, 114, 116]⟩) := (isE_mem d).1 hE
              have HS : Hid (fin ((ns s).drop (k + 2)) 0 (k + 2) bd = (T, Bd)) := show _ = _ by rw [← HR.out, fin_two (ns s) k bd hlt' Hc.out (by rw [HL.out]; exact hk1) (by rw [Hd.out]; exact hE)]
              clear hE
              go_wp2_with fail
              refine (idx_no _ _ _ hc0 hc1 H1).mono ?_
              rintro e w' ⟨rfl, rfl⟩
              go_wp2_with fail
              refine (idx_yes _ d _ hd0 hd1 H2).mono ?_
              rintro e w' ⟨q, rfl, rfl⟩
              go_wp2
              go_round
              case rel => exact ⟨k + 2, bd, rfl, by go_num, by omega, by omega, by omega, HS⟩
              case measure => simp [intOf]; omega
            · have hE' : isE d = false := by simpa using hE
              have H2 : Hid (d ∉ ns ⟨#[34, 92, 47, 98, 102, 110, 114, 116]⟩) := fun h => hE ((isE_mem d).2 h)
              clear hE
              by_cases hk5 : k + 5 < s.size
              · by_cases h117 : d = 117
                · subst h117
                  clear hE'
                  by_cases hh : allH (ns (s.extract (k + 2) (k + 6))) = true
                  · have H4 : Hid (allH (ns (s.extract (k + 2) (k + 6))) = true) := hh
                    have HS : Hid (fin ((ns s).drop (k + 6)) 0 (k + 6) bd = (T, Bd)) := show _ = _ by rw [← HR.out, fin_six (ns s) k bd hlt' Hc.out (by rw [HL.out]; exact hk5) Hd.out (by rw [← ns_hex s k]; exact hh)]
                    clear hh
                    go_wp2_with fail
                    refine (idx_no _ _ _ hc0 hc1 H1).mono ?_
                    rintro e w' ⟨rfl, rfl⟩
                    go_wp2_with fail
                    refine (idx_no _ _ _ hd0 hd1 H2).mono ?_
                    rintro e w' ⟨rfl, rfl⟩
                    go_wp2_with fail
                    refine (isHex_any _ _ (by simp; omega) true H4).mono ?_
                    rintro e w' ⟨rfl, rfl⟩
                    go_wp2
                    go_round
                    case rel => exact ⟨k + 6, bd, rfl, by go_num, by omega, by omega, by omega, HS⟩
                    case measure => simp [intOf]; omega
                  · have H4 : Hid (allH (ns (s.extract (k + 2) (k + 6))) = false) := show _ = _ by simpa using hh
                    clear hh
                    by_cases hbd : bd < 0
                    · have HS : Hid (fin ((ns s).drop (k + 1)) 0 (k + 1) k = (T, Bd)) := show _ = _ by
                        have h7 := HR.out
                        rw [fin_one (ns s) k bd hlt' (by rw [Hc.out]; exact hst') (fun hx => absurd hx.2.2 (by rw [Hd.out]; decide)) (fun hx => absurd hx.2.2.2 (by rw [← ns_hex s k, H4.out]; simp)), if_pos ⟨hbd, Or.inl Hc.out⟩] at h7
                        exact h7
                      go_wp2_with fail
                      refine (idx_no _ _ _ hc0 hc1 H1).mono ?_
                      rintro e w' ⟨rfl, rfl⟩
                      go_wp2_with fail
                      refine (idx_no _ _ _ hd0 hd1 H2).mono ?_
                      rintro e w' ⟨rfl, rfl⟩
                      go_wp2_with fail
                      refine (isHex_any _ _ (by simp; omega) false H4).mono ?_
                      rintro e w' ⟨rfl, rfl⟩
                      go_wp2
                      go_round
                      case rel => exact ⟨k + 1, k, rfl, by go_num, by omega, by omega, by omega, HS⟩
                      case measure => simp [intOf]; omega
                    · have HS : Hid (fin ((ns s).drop (k + 1)) 0 (k + 1) bd = (T, Bd)) := show _ = _ by
                        have h7 := HR.out
                        rw [fin_one (ns s) k bd hlt' (by rw [Hc.out]; exact hst') (fun hx => absurd hx.2.2 (by rw [Hd.out]; decide)) (fun hx => absurd hx.2.2.2 (by rw [← ns_hex s k, H4.out]; simp)), if_neg (fun hx => hbd hx.1)] at h7
                        exact h7
                      go_wp2_with fail
                      refine (idx_no _ _ _ hc0 hc1 H1).mono ?_
                      rintro e w' ⟨rfl, rfl⟩
                      go_wp2_with fail
                      refine (idx_no _ _ _ hd0 hd1 H2).mono ?_
                      rintro e w' ⟨rfl, rfl⟩
                      go_wp2_with fail
                      refine (isHex_any _ _ (by simp; omega) false H4).mono ?_
                      rintro e w' ⟨rfl, rfl⟩
                      go_wp2
                      go_round
                      case rel => exact ⟨k + 1, bd, rfl, by go_num, by omega, by omega, by omega, HS⟩
                      case measure => simp [intOf]; omega
                · have g117 : (d == 117) = false := by simpa using h117
                  by_cases hbd : bd < 0
                  · have HS : Hid (fin ((ns s).drop (k + 1)) 0 (k + 1) k = (T, Bd)) := show _ = _ by
                      have h7 := HR.out
                      rw [fin_one (ns s) k bd hlt' (by rw [Hc.out]; exact hst') (fun hx => absurd hx.2.2 (by rw [Hd.out, hE']; simp)) (fun hx => h117 (by have := hx.2.2.1; rw [Hd.out] at this; exact this)), if_pos ⟨hbd, Or.inl Hc.out⟩] at h7
                      exact h7
                    go_wp2_with fail
                    refine (idx_no _ _ _ hc0 hc1 H1).mono ?_
                    rintro e w' ⟨rfl, rfl⟩
                    go_wp2_with fail
                    refine (idx_no _ d _ hd0 hd1 H2).mono ?_
                    rintro e w' ⟨rfl, rfl⟩
                    go_wp2
                    go_round
                    case rel => exact ⟨k + 1, k, rfl, by go_num, by omega, by omega, by omega, HS⟩
                    case measure => simp [intOf]; omega
                  · have HS : Hid (fin ((ns s).drop (k + 1)) 0 (k + 1) bd = (T, Bd)) := show _ = _ by
                      have h7 := HR.out
                      rw [fin_one (ns s) k bd hlt' (by rw [Hc.out]; exact hst') (fun hx => absurd hx.2.2 (by rw [Hd.out, hE']; simp)) (fun hx => h117 (by have := hx.2.2.1; rw [Hd.out] at this; exact this)), if_neg (fun hx => hbd hx.1)] at h7
                      exact h7
                    go_wp2_with fail
                    refine (idx_no _ _ _ hc0 hc1 H1).mono ?_
                    rintro e w' ⟨rfl, rfl⟩
                    go_wp2_with fail
                    refine (idx_no _ d _ hd0 hd1 H2).mono ?_
                    rintro e w' ⟨rfl, rfl⟩
                    go_wp2
                    go_round
                    case rel => exact ⟨k + 1, bd, rfl, by go_num, by omega, by omega, by omega, HS⟩
                    case measure => simp [intOf]; omega
              · by_cases hbd : bd < 0
                · have HS : Hid (fin ((ns s).drop (k + 1)) 0 (k + 1) k = (T, Bd)) := show _ = _ by
                    have h7 := HR.out
                    rw [fin_one (ns s) k bd hlt' (by rw [Hc.out]; exact hst') (fun hx => absurd hx.2.2 (by rw [Hd.out, hE']; simp)) (fun hx => hk5 (by have := hx.2.1; rw [HL.out] at this; exact this)), if_pos ⟨hbd, Or.inl Hc.out⟩] at h7
                    exact h7
                  go_wp2_with fail
                  refine (idx_no _ _ _ hc0 hc1 H1).mono ?_
                  rintro e w' ⟨rfl, rfl⟩
                  go_wp2_with fail
                  refine (idx_no _ d _ hd0 hd1 H2).mono ?_
                  rintro e w' ⟨rfl, rfl⟩
                  go_wp2
                  go_round
                  case rel => exact ⟨k + 1, k, rfl, by go_num, by omega, by omega, by omega, HS⟩
                  case measure => simp [intOf]; omega
                · have HS : Hid (fin ((ns s).drop (k + 1)) 0 (k + 1) bd = (T, Bd)) := show _ = _ by
                    have h7 := HR.out
                    rw [fin_one (ns s) k bd hlt' (by rw [Hc.out]; exact hst') (fun hx => absurd hx.2.2 (by rw [Hd.out, hE']; simp)) (fun hx => hk5 (by have := hx.2.1; rw [HL.out] at this; exact this)), if_neg (fun hx => hbd hx.1)] at h7
                    exact h7
                  go_wp2_with fail
                  refine (idx_no _ _ _ hc0 hc1 H1).mono ?_
                  rintro e w' ⟨rfl, rfl⟩
                  go_wp2_with fail
                  refine (idx_no _ d _ hd0 hd1 H2).mono ?_
                  rintro e w' ⟨rfl, rfl⟩
                  go_wp2
                  go_round
                  case rel => exact ⟨k + 1, bd, rfl, by go_num, by omega, by omega, by omega, HS⟩
                  case measure => simp [intOf]; omega
          · by_cases hbd : bd < 0
            · have HS : Hid (fin ((ns s).drop (k + 1)) 0 (k + 1) k = (T, Bd)) := show _ = _ by
                have h7 := HR.out
                rw [fin_one (ns s) k bd hlt' (by rw [Hc.out]; exact hst') (fun hx => hk1 (by have := hx.2.1; rw [HL.out] at this; exact this)) (fun hx => hk1 (by have := hx.2.1; rw [HL.out] at this; omega)), if_pos ⟨hbd, Or.inl Hc.out⟩] at h7
                exact h7
              go_wp2_with fail
              refine (idx_no _ _ _ hc0 hc1 H1).mono ?_
              rintro e w' ⟨rfl, rfl⟩
              go_wp2
              go_round
              case rel => exact ⟨k + 1, k, rfl, by go_num, by omega, by omega, by omega, HS⟩
              case measure => simp [intOf]; omega
            · have HS : Hid (fin ((ns s).drop (k + 1)) 0 (k + 1) bd = (T, Bd)) := show _ = _ by
                have h7 := HR.out
                rw [fin_one (ns s) k bd hlt' (by rw [Hc.out]; exact hst') (fun hx => hk1 (by have := hx.2.1; rw [HL.out] at this; exact this)) (fun hx => hk1 (by have := hx.2.1; rw [HL.out] at this; omega)), if_neg (fun hx => hbd hx.1)] at h7
                exact h7
              go_wp2_with fail
              refine (idx_no _ _ _ hc0 hc1 H1).mono ?_
              rintro e w' ⟨rfl, rfl⟩
              go_wp2
              go_round
              case rel => exact ⟨k + 1, bd, rfl, by go_num, by omega, by omega, by omega, HS⟩
              case measure => simp [intOf]; omega
        · have g92 : (c == 92) = false := by simpa using h92
          by_cases hcs : bd < 0 ∧ c < 32
          · obtain ⟨hbd, hcs⟩ := hcs
            have HS : Hid (fin ((ns s).drop (k + 1)) 0 (k + 1) k = (T, Bd)) := show _ = _ by
              have h7 := HR.out
              rw [fin_one (ns s) k bd hlt' (by rw [Hc.out]; exact hst') (fun hx => h92 (by rw [← Hc.out]; exact hx.1)) (fun hx => h92 (by rw [← Hc.out]; exact hx.1)), if_pos ⟨hbd, Or.inr (by rw [Hc.out]; exact hcs)⟩] at h7
              exact h7
            clear h92
            go_wp2_with fail
            refine (idx_no _ _ _ hc0 hc1 H1).mono ?_
            rintro e w' ⟨rfl, rfl⟩
            go_wp2
            go_round
            case rel => exact ⟨k + 1, k, rfl, by go_num, by omega, by omega, by omega, HS⟩
            case measure => simp [intOf]; omega
          · have HS : Hid (fin ((ns s).drop (k + 1)) 0 (k + 1) bd = (T, Bd)) := show _ = _ by
              have h7 := HR.out
              rw [fin_one (ns s) k bd hlt' (by rw [Hc.out]; exact hst') (fun hx => h92 (by rw [← Hc.out]; exact hx.1)) (fun hx => h92 (by rw [← Hc.out]; exact hx.1)), if_neg (fun hx => by rw [Hc.out] at hx; omega)] at h7
              exact h7
            clear h92
            by_cases hbd : bd < 0
            · have hc32 : ¬ c < 32 := by omega
              clear hcs
              go_wp2_with fail
              refine (idx_no _ _ _ hc0 hc1 H1).mono ?_
              rintro e w' ⟨rfl, rfl⟩
              go_wp2
              go_round
              case rel => exact ⟨k + 1, bd, rfl, by go_num, by omega, by omega, by omega, HS⟩
              case measure => simp [intOf]; omega
            · clear hcs
              go_wp2_with fail
              refine (idx_no _ _ _ hc0 hc1 H1).mono ?_
              rintro e w' ⟨rfl, rfl⟩
              go_wp2
              go_round
              case rel => exact ⟨k + 1, bd, rfl, by go_num, by omega, by omega, by omega, HS⟩
              case measure => simp [intOf]; omega
    · have h7 := HR.out
      rw [fin_end (ns s) k bd (by rw [HL.out]; exact hlt)] at h7
      simp only [Prod.mk.injEq] at h7
      have H7 : Hid (k = T ∧ bd = Bd) := h7
      clear h7
      by_cases hbd : bd < 0
      · have HF : Hid (((k : Int), (k : Int), true) = (N, Bo, op)) := show _ = _ by
          rw [← HN.out, ← H7.out.1, ← H7.out.2, res, if_neg (fun hx => hlt (by have := hx.1; rw [HL.out] at this; exact this)), if_pos hbd]
        go_wp2
        go_ret3
        exact ⟨ret_trip HF.out, rfl⟩
      · have HF : Hid (((k : Int), bd, true) = (N, Bo, op)) := show _ = _ by
          rw [← HN.out, ← H7.out.1, ← H7.out.2, res, if_neg (fun hx => hlt (by have := hx.1; rw [HL.out] at this; exact this)), if_neg hbd]
        go_wp2
        go_ret3
        exact ⟨ret_trip HF.out, rfl⟩

theorem zzScan_any (s : ByteArray) (w : World) (hs : s.size ≤ 9000000) (h1 : 1 ≤ s.size) (T : Nat) (Bd : Int) (HT : Hid (fin ((ns s).drop 1) 0 1 (-1) = (T, Bd)))
    (N Bo : Int) (op : Bool) (HN : Hid (res (ns s) T Bd = (N, Bo, op))) :
    Calls Try.prog 33 #[.string s] w fun e w' => e = .returned (.tuple #[.int .i64 N, .int .i64 Bo, .bool op]) ∧ w' = w := by
  go_enter Try.func33, Try.ntmps33
  go_wp2_with fail
  refine (scan_any s w hs h1 T Bd HT N Bo op HN).mono ?_
  rintro e w' ⟨rfl, rfl⟩
  go_wp2
  go_ret3
  exact ⟨rfl, rfl⟩

end Go.Proofs.Qxb6001225a
