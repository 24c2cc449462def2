/-
  scalarEnd.
-/
import Derived.Test.Qxb6605386aWalkS
namespace Go.Proofs.Qxb6605386a
open Go.RowKit

def isPu (c : Int) : Bool := c == 44 || c == 58 || c == 91 || c == 93 || c == 123 || c == 125 || c == 34

theorem isDl_eq (c : Int) : isDl c = (isSp c || isPu c) := by
  unfold isDl isSp isPu
  simp only [Bool.or_assoc]

theorem puIdx_no (c : Int) (w : World) (h0 : 0 ≤ c) (h1 : c < 256) (h : isPu c = false) :
    Calls Try.prog 46 #[.string ⟨#[44, 58, 91, 93, 123, 125, 34]⟩, .int .u8 c] w fun e w' => e = .returned (.int .i64 (-1)) ∧ w' = w := by
  refine (stringsIndexByte_any _ _ _).mono ?_
  rintro e w' ⟨rfl, rfl⟩
  refine ⟨ret_int ?_, rfl⟩
  rcases idx_spec [44, 58, 91, 93, 123, 125, 34] c h0 h1 (by decide) with ⟨a, _⟩ | ⟨k, a, b, d, _⟩
  · exact a
  · exfalso
    unfold isPu at h
    simp at h
    have : k = 0 ∨ k = 1 ∨ k = 2 ∨ k = 3 ∨ k = 4 ∨ k = 5 ∨ k = 6 := by simp at b; omega
    rcases this with rfl | rfl | rfl | rfl | rfl | rfl | rfl <;> simp at d <;> omega

theorem puIdx_yes (c : Int) (w : World) (h0 : 0 ≤ c) (h1 : c < 256) (h : isPu c = true) :
    Calls Try.prog 46 #[.string ⟨#[44, 58, 91, 93, 123, 125, 34]⟩, .int .u8 c] w fun e w' => ∃ k : Nat, e = .returned (.int .i64 k) ∧ w' = w := by
  refine (stringsIndexByte_any _ _ _).mono ?_
  rintro e w' ⟨rfl, rfl⟩
  rcases idx_spec [44, 58, 91, 93, 123, 125, 34] c h0 h1 (by decide) with ⟨_, a⟩ | ⟨k, a, _⟩
  · exfalso
    unfold isPu at h
    simp at h
    simp at a
    omega
  · exact ⟨k, ret_int a, rfl⟩

theorem isSpace_is (c : Int) (b : Bool) (w : World) (h : Hid (isSp c = b)) :
    Calls Try.prog 45 #[.int .u8 c] w fun e w' => e = .returned (.bool b) ∧ w' = w := by
  have := isSpace_any c w
  rw [h.out] at this
  exact this

theorem isDelim_is (c : Int) (b : Bool) (w : World) (h : Hid (isDl c = b)) :
    Calls Try.prog 36 #[.int .u8 c] w fun e w' => e = .returned (.bool b) ∧ w' = w := by
  have := isDelim_any c w
  rw [h.out] at this
  exact this

theorem scal_stop (p : Int → Bool) (xs : List Int) (k : Nat) (h : k < xs.length) (hp : p (xs.getD k 0) = true) : scal p (xs.drop k) = 0 := by
  rw [drop_at xs k h, scal, if_pos hp]
theorem scal_go (p : Int → Bool) (xs : List Int) (k : Nat) (h : k < xs.length) (hp : p (xs.getD k 0) = false) : scal p (xs.drop k) = scal p (xs.drop (k + 1)) + 1 := by
  rw [drop_at xs k h, scal, if_neg (by rw [hp]; simp)]
theorem scal_end (p : Int → Bool) (xs : List Int) (k : Nat) (h : ¬ k < xs.length) : scal p (xs.drop k) = 0 := by
  rw [List.drop_eq_nil_of_le (by omega), scal]

theorem byte_of {xs : List Int} (hw : ∀ x ∈ xs, 0 ≤ x ∧ x < 256) (k : Nat) (h : k < xs.length) : 0 ≤ xs.getD k 0 ∧ xs.getD k 0 < 256 := by
  have := hw (xs[k]) (List.getElem_mem h)
  simpa [List.getD, List.getElem?_eq_getElem h] using this

set_option maxHeartbeats 1000000 in
theorem scalarEnd_any (b off cap : Nat) (xs : List Int) (i0 : Nat) (w : World) (hcap : xs.length ≤ cap) (hm : cap ≤ 2000000)
    (hc : ∀ i, i < xs.length → w.cell? ⟨b, off + i, none⟩ = some (.int .u8 (xs.getD i 0)))
    (hw : Hid (∀ x ∈ xs, 0 ≤ x ∧ x < 256)) (hi : i0 < xs.length) :
    Calls Try.prog 42 #[.slice (some ⟨b, off, none⟩) xs.length cap, .int .i64 i0] w fun e w' => e = .returned (.int .i64 (i0 + scal isDl (xs.drop i0) : Nat)) ∧ w' = w := by
  go_enter Try.func42, Try.ntmps42
  go_wp2
  go_loop [1] (fun v => ∃ k : Nat, v = .int .i64 k ∧ k ≤ xs.length ∧ Hid (k + scal isDl (xs.drop k) = i0 + scal isDl (xs.drop i0))) (fun v => xs.length - (intOf v).toNat)
  case atStart => exact ⟨i0, rfl, by omega, rfl⟩
  case round =>
    obtain ⟨k, rfl, hk, HT⟩ := hrel
    by_cases hlt : k < xs.length
    · have hcell := hc k hlt
      obtain ⟨c, Hc, hcc, hbd⟩ : ∃ c, Hid (xs.getD k 0 = c) ∧ w.cell? ⟨b, off + k, none⟩ = some (.int .u8 c) ∧ 0 ≤ c ∧ c < 256 := ⟨_, rfl, hcell, byte_of hw.out k hlt⟩
      obtain ⟨hb0, hb1⟩ := hbd
      clear hcell hc
      by_cases hsp : isSp c = true
      · have H1 : Hid (isSp c = true) := hsp
        clear hsp
        go_wp2_with fail
        refine (isSpace_is c true _ H1).mono ?_
        rintro e w' ⟨rfl, rfl⟩
        go_wp2
        go_ret
        refine ⟨ret_int ?_, rfl⟩
        have h5 := HT.out
        rw [scal_stop isDl xs k hlt (by rw [Hc.out, isDl_eq, H1.out]; rfl)] at h5
        omega
      · have H1 : Hid (isSp c = false) := show _ = _ by simpa using hsp
        clear hsp
        by_cases hpu : isPu c = true
        · have H2 : Hid (isPu c = true) := hpu
          clear hpu
          go_wp2_with fail
          refine (isSpace_is c false _ H1).mono ?_
          rintro e w' ⟨rfl, rfl⟩
          go_wp2_with fail
          refine (puIdx_yes c _ hb0 hb1 H2.out).mono ?_
          rintro e w' ⟨q, rfl, rfl⟩
          go_wp2
          go_ret
          refine ⟨ret_int ?_, rfl⟩
          have h5 := HT.out
          rw [scal_stop isDl xs k hlt (by rw [Hc.out, isDl_eq, H1.out, H2.out]; rfl)] at h5
          omega
        · have H2 : Hid (isPu c = false) := show _ = _ by simpa using hpu
          clear hpu
          go_wp2_with fail
          refine (isSpace_is c false _ H1).mono ?_
          rintro e w' ⟨rfl, rfl⟩
          go_wp2_with fail
          refine (puIdx_no c _ hb0 hb1 H2.out).mono ?_
          rintro e w' ⟨rfl, rfl⟩
          go_wp2
          go_round
          case rel => exact ⟨k + 1, by go_num, by omega, show _ = _ by
            have h5 := HT.out
            rw [scal_go isDl xs k hlt (by rw [Hc.out, isDl_eq, H1.out, H2.out]; rfl)] at h5
            omega⟩
          case measure => simp [intOf]; omega
    · go_wp2
      go_ret
      refine ⟨ret_int ?_, rfl⟩
      have h5 := HT.out
      rw [scal_end isDl xs k hlt] at h5
      omega

end Go.Proofs.Qxb6605386a
