/-
  valueEnd.
-/
import Derived.Test.Qxb6605386aWalkV
namespace Go.Proofs.Qxb6605386a
open Go.RowKit

/-- What valueEnd and the scanner both answer inside the text. -/
def vEnd (xs : List Int) (i : Nat) : Nat :=
  if xs.getD i 0 = 34 ∨ xs.getD i 0 = 123 ∨ xs.getD i 0 = 91 then i + scan (xs.drop i) 0 false false else i + scal isDl (xs.drop i)

theorem scan_quote (xs : List Int) (k : Nat) (d : Int) (h : k < xs.length) (hc : xs.getD k 0 = 34) (hd : d ≠ 0) :
    k + scan (xs.drop k) d false false = (k + 1 + strF (xs.drop (k + 1)) false) + scan (xs.drop (k + 1 + strF (xs.drop (k + 1)) false)) d false false := by
  rw [drop_at xs k h, hc]
  simp only [scan, if_true]
  rw [scan_str d hd, List.drop_drop]
  omega

theorem scan_open (xs : List Int) (k : Nat) (d : Int) (e : Bool) (h : k < xs.length) (hc : xs.getD k 0 = 123 ∨ xs.getD k 0 = 91) :
    k + scan (xs.drop k) d false e = (k + 1) + scan (xs.drop (k + 1)) (d + 1) false e := by
  rw [drop_at xs k h]
  have h34 : xs.getD k 0 ≠ 34 := by omega
  simp only [scan]
  rw [if_neg h34, if_pos hc]
  omega

theorem scan_close (xs : List Int) (k : Nat) (d : Int) (e : Bool) (h : k < xs.length) (hc : xs.getD k 0 = 125 ∨ xs.getD k 0 = 93) (hd : d - 1 ≠ 0) :
    k + scan (xs.drop k) d false e = (k + 1) + scan (xs.drop (k + 1)) (d - 1) false e := by
  rw [drop_at xs k h]
  simp only [scan]
  rw [if_neg (by omega), if_neg (by omega), if_pos hc, if_neg hd]
  omega

theorem scan_last (xs : List Int) (k : Nat) (d : Int) (e : Bool) (h : k < xs.length) (hc : xs.getD k 0 = 125 ∨ xs.getD k 0 = 93) (hd : d - 1 = 0) :
    k + scan (xs.drop k) d false e = k + 1 := by
  rw [drop_at xs k h]
  simp only [scan]
  rw [if_neg (by omega), if_neg (by omega), if_pos hc, if_pos hd]

theorem scan_plain (xs : List Int) (k : Nat) (d : Int) (e : Bool) (h : k < xs.length) (h1 : xs.getD k 0 ≠ 34) (h2 : xs.getD k 0 ≠ 123) (h3 : xs.getD k 0 ≠ 91) (h4 : xs.getD k 0 ≠ 125) (h5 : xs.getD k 0 ≠ 93) :
    k + scan (xs.drop k) d false e = (k + 1) + scan (xs.drop (k + 1)) d false e := by
  rw [drop_at xs k h]
  simp only [scan]
  rw [if_neg h1, if_neg (by omega), if_neg (by omega)]
  omega

theorem scan_end (xs : List Int) (k : Nat) (d : Int) (s e : Bool) (h : ¬ k < xs.length) : scan (xs.drop k) d s e = 0 := by
  rw [List.drop_eq_nil_of_le (by omega), scan]

theorem stringEnd_is (b off cap : Nat) (xs : List Int) (i0 : Nat) (w : World) (hcap : xs.length ≤ cap) (hm : cap ≤ 2000000)
    (hc : ∀ i, i < xs.length → w.cell? ⟨b, off + i, none⟩ = some (.int .u8 (xs.getD i 0)))
    (hw : Hid (∀ x ∈ xs, 0 ≤ x ∧ x < 256)) (hi : i0 < xs.length) (HQ : Hid (xs.getD i0 0 = 34)) (n : Nat) (Hn : Hid (n = i0 + 1 + strF (xs.drop (i0 + 1)) false)) :
    Calls Try.prog 41 #[.slice (some ⟨b, off, none⟩) xs.length cap, .int .i64 i0] w fun e w' => e = .returned (.int .i64 n) ∧ w' = w := by
  have := stringEnd_any b off cap xs i0 w hcap hm hc hw hi (show _ ≠ _ by rw [HQ.out]; decide)
  rw [← Hn.out] at this
  exact this

theorem scalarEnd_is (b off cap : Nat) (xs : List Int) (i0 : Nat) (w : World) (hcap : xs.length ≤ cap) (hm : cap ≤ 2000000)
    (hc : ∀ i, i < xs.length → w.cell? ⟨b, off + i, none⟩ = some (.int .u8 (xs.getD i 0)))
    (hw : Hid (∀ x ∈ xs, 0 ≤ x ∧ x < 256)) (hi : i0 < xs.length) (n : Nat) (Hn : Hid (n = i0 + scal isDl (xs.drop i0))) :
    Calls Try.prog 42 #[.slice (some ⟨b, off, none⟩) xs.length cap, .int .i64 i0] w fun e w' => e = .returned (.int .i64 n) ∧ w' = w := by
  have := scalarEnd_any b off cap xs i0 w hcap hm hc hw hi
  rw [← Hn.out] at this
  exact this

theorem valueEnd_out (a : Option Addr) (len cap : Nat) (i : Int) (w : World) (h : (len : Int) ≤ i) :
    Calls Try.prog 35 #[.slice a len cap, .int .i64 i] w fun e w' => e = .returned (.int .i64 i) ∧ w' = w := by
  go_enter Try.func35, Try.ntmps35
  go_wp2
  go_ret
  exact ⟨rfl, rfl⟩

set_option maxHeartbeats 2000000 in
theorem valueEnd_any (b off cap : Nat) (xs : List Int) (i0 : Nat) (w : World) (hcap : xs.length ≤ cap) (hm : cap ≤ 2000000)
    (hc : ∀ i, i < xs.length → w.cell? ⟨b, off + i, none⟩ = some (.int .u8 (xs.getD i 0)))
    (hw : Hid (∀ x ∈ xs, 0 ≤ x ∧ x < 256)) (hi : i0 < xs.length) :
    Calls Try.prog 35 #[.slice (some ⟨b, off, none⟩) xs.length cap, .int .i64 i0] w fun e w' => e = .returned (.int .i64 (vEnd xs i0)) ∧ w' = w := by
  obtain ⟨T, HT⟩ : ∃ T, Hid (T = vEnd xs i0) := ⟨_, rfl⟩
  rw [← HT.out]
  have hcell := hc i0 hi
  obtain ⟨c, Hc, hcc⟩ : ∃ c, Hid (xs.getD i0 0 = c) ∧ w.cell? ⟨b, off + i0, none⟩ = some (.int .u8 c) := ⟨_, rfl, hcell⟩
  clear hcell
  by_cases h34 : c = 34
  · subst h34
    have Hn : Hid (T = i0 + 1 + strF (xs.drop (i0 + 1)) false) := show _ = _ by
      rw [HT.out, vEnd, if_pos (Or.inl Hc.out), drop_at xs i0 hi, Hc.out]
      simp only [scan, if_true]
      rw [scan_str0]; omega
    have hcon := stringEnd_is b off cap xs i0 w hcap hm hc hw hi Hc T Hn
    clear hc
    go_enter Try.func35, Try.ntmps35
    go_wp2_with fail
    refine hcon.mono ?_
    rintro e w' ⟨rfl, rfl⟩
    go_wp2
    go_ret
    exact ⟨rfl, rfl⟩
  · by_cases hop : c = 123 ∨ c = 91
    · have HT' : Hid (i0 + scan (xs.drop i0) 0 false false = T) := show _ = _ by
        rw [HT.out, vEnd, if_pos (by rw [Hc.out]; right; exact hop)]
      have HC : Hid (∀ i, i < xs.length → w.cell? ⟨b, off + i, none⟩ = some (.int .u8 (xs.getD i 0))) := hc
      have Hop : Hid (xs.getD i0 0 = 123 ∨ xs.getD i0 0 = 91) := show _ ∨ _ by rw [Hc.out]; exact hop
      have hge : decide (xs.length ≤ i0) = false := by simp; omega
      clear hc h34 HT Hc
      go_enter Try.func35, Try.ntmps35
      rcases hop with rfl | rfl
      all_goals
        go_wp2
        clear hcc
        go_loop [1, 5] (fun v u => ∃ (k : Nat) (d : Int), v = .int .i64 k ∧ u = .int .i64 d ∧ k ≤ xs.length ∧ 0 ≤ d ∧ d ≤ k ∧ Hid ((k = i0 ∧ d = 0) ∨ 1 ≤ d) ∧ Hid (k + scan (xs.drop k) d false false = T)) (fun v _ => xs.length - (intOf v).toNat)
        case atStart => exact ⟨i0, 0, rfl, rfl, by omega, by omega, by omega, Or.inl ⟨rfl, rfl⟩, HT'⟩
        case round =>
          obtain ⟨k, d, rfl, rfl, hk, hd0, hdk, HD, HR⟩ := hrel
          by_cases hlt : k < xs.length
          · obtain ⟨c, Hc, hcc⟩ : ∃ c, Hid (xs.getD k 0 = c) ∧ w.cell? ⟨b, off + k, none⟩ = some (.int .u8 c) := ⟨_, rfl, HC.out k hlt⟩
            by_cases h34 : c = 34
            · subst h34
              have hd : d ≠ 0 := by
                rcases HD.out with ⟨rfl, _⟩ | h
                · have := Hop.out; rw [Hc.out] at this; omega
                · omega
              obtain ⟨n, Hn⟩ : ∃ n, Hid (n = k + 1 + strF (xs.drop (k + 1)) false) := ⟨_, rfl⟩
              have hle := strF_le (xs.drop (k + 1)) false
              have hn1 : k + 1 ≤ n := by have := Hn.out; omega
              have hn2 : n ≤ xs.length := by have := Hn.out; simp at hle; omega
              have hcon := stringEnd_is b off cap xs k w hcap hm HC.out hw hlt Hc n Hn
              go_wp2_with fail
              refine hcon.mono ?_
              rintro e w' ⟨rfl, rfl⟩
              go_wp2
              have HS : Hid (n + scan (xs.drop n) d false false = T) := show _ = _ by rw [← HR.out, scan_quote xs k d hlt Hc.out hd, ← Hn.out]
              go_round
              case rel => first | exact ⟨n, d, rfl, rfl, hn2, hd0, by omega, Or.inr (by omega), HS⟩ | (refine ⟨trivial, ?_⟩; (repeat apply Exists.intro); exact ⟨⟨n, d, rfl, rfl, hn2, hd0, by omega, Or.inr (by omega), HS⟩, rfl⟩)
              case measure => simp [intOf]; omega
            · have g1 : (c == 34) = false := by simpa using h34
              by_cases hop : c = 123 ∨ c = 91
              · have hs := scan_open xs k d false hlt (by rw [Hc.out]; exact hop)
                have HS : Hid ((k + 1) + scan (xs.drop (k + 1)) (d + 1) false false = T) := show _ = _ by rw [← hs, HR.out]
                clear hs
                rcases hop with rfl | rfl
                all_goals
                  go_wp2
                  go_round
                  case rel => exact ⟨k + 1, d + 1, by go_num, rfl, by omega, by omega, by omega, Or.inr (by omega), HS⟩
                  case measure => simp [intOf]; omega
              · have g2 : (c == 123) = false := by simp; omega
                have g3 : (c == 91) = false := by simp; omega
                by_cases hcl : c = 125 ∨ c = 93
                · by_cases hd1 : d = 1
                  · subst hd1
                    have hs := scan_last xs k 1 false hlt (by rw [Hc.out]; exact hcl) rfl
                    have HS : Hid (T = k + 1) := show _ = _ by rw [← HR.out, hs]
                    clear hs
                    rcases hcl with rfl | rfl
                    all_goals
                      go_wp2
                      go_ret
                      exact ⟨ret_int (by have := HS.out; omega), rfl⟩
                  · have hd : 1 ≤ d := by
                      rcases HD.out with ⟨rfl, _⟩ | h
                      · have := Hop.out; rw [Hc.out] at this; omega
                      · omega
                    have hs := scan_close xs k d false hlt (by rw [Hc.out]; exact hcl) (by omega)
                    have HS : Hid ((k + 1) + scan (xs.drop (k + 1)) (d - 1) false false = T) := show _ = _ by rw [← hs, HR.out]
                    have gd : (d - 1 == 0) = false := by simp; omega
                    clear hs
                    rcases hcl with rfl | rfl
                    all_goals
                      go_wp2
                      go_round
                      case rel => exact ⟨k + 1, d - 1, by go_num, rfl, by omega, by omega, by omega, Or.inr (by omega), HS⟩
                      case measure => simp [intOf]; omega
                · have g4 : (c == 125) = false := by simp; omega
                  have g5 : (c == 93) = false := by simp; omega
                  have hd : 1 ≤ d := by
                    rcases HD.out with ⟨rfl, _⟩ | h
                    · have := Hop.out; rw [Hc.out] at this; omega
                    · omega
                  have hs := scan_plain xs k d false hlt (by rw [Hc.out]; omega) (by rw [Hc.out]; omega) (by rw [Hc.out]; omega) (by rw [Hc.out]; omega) (by rw [Hc.out]; omega)
                  have HS : Hid ((k + 1) + scan (xs.drop (k + 1)) d false false = T) := show _ = _ by rw [← hs, HR.out]
                  clear hs hop hcl h34
                  go_wp2
                  go_round
                  case rel => exact ⟨k + 1, d, by go_num, rfl, by omega, by omega, by omega, Or.inr (by omega), HS⟩
                  case measure => simp [intOf]; omega
          · go_wp2
            go_ret
            refine ⟨ret_int ?_, rfl⟩
            have h5 := HR.out
            rw [scan_end xs k d false false hlt] at h5
            omega
    · have Hn : Hid (T = i0 + scal isDl (xs.drop i0)) := show _ = _ by
        rw [HT.out, vEnd, if_neg (by rw [Hc.out]; omega)]
      have hcon := scalarEnd_is b off cap xs i0 w hcap hm hc hw hi T Hn
      clear hc
      have g1 : (c == 34) = false := by simpa using h34
      have g2 : (c == 123) = false := by simp; omega
      have g3 : (c == 91) = false := by simp; omega
      clear h34 hop
      go_enter Try.func35, Try.ntmps35
      go_wp2_with fail
      refine hcon.mono ?_
      rintro e w' ⟨rfl, rfl⟩
      go_wp2
      go_ret
      exact ⟨rfl, rfl⟩

end Go.Proofs.Qxb6605386a
