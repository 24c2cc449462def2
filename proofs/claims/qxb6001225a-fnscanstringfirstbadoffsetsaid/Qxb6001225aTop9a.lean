/-
  FnScanStringFirstBadOffset: the law's own walk.
-/
import Derived.Test.Qxb6001225aTop8
namespace Go.Proofs.Qxb6001225a
open Go.RowKit

set_option maxRecDepth 100000 in
theorem top9_big (s t : ByteArray) (b : Bool) (kd bt : Int) (w : World) (hs : s.size ≤ maxLen) (ht : t.size ≤ maxLen) (h : 1048576 < s.size + t.size) :
    Calls Try.prog 9 #[.string s, .int .u8 kd, .int .u8 bt, .string t, .bool b] w fun e w' => e = .returned (.bool true) ∧ w' = w := by
  go_enter Try.func9, Try.ntmps9
  go_wp2_with fail
  refine (bytes9_no s t b kd bt w hs ht h).mono ?_
  rintro e w' ⟨rfl, rfl⟩
  go_wp2
  go_ret
  exact ⟨rfl, rfl⟩

theorem isHexByte_any (c : Int) (w : World) :
    Calls Try.prog 35 #[.int .u8 c] w fun e w' => e = .returned (.bool (isH c)) ∧ w' = w := by
  by_cases h1 : 48 ≤ c
  · by_cases h2 : c ≤ 57
    · go_enter Try.func35, Try.ntmps35
      go_wp2
      go_ret
      exact ⟨ret_bool (by simp [isH, h1, h2]), rfl⟩
    · by_cases h3 : 97 ≤ c
      · by_cases h4 : c ≤ 102
        · go_enter Try.func35, Try.ntmps35
          go_wp2
          go_ret
          exact ⟨ret_bool (by rw [Bool.eq_iff_iff]; simp [isH]; omega), rfl⟩
        · go_enter Try.func35, Try.ntmps35
          go_wp2
          go_ret
          exact ⟨ret_bool (by rw [Bool.eq_iff_iff]; simp [isH]; omega), rfl⟩
      · by_cases h5 : 65 ≤ c
        · by_cases h6 : c ≤ 70
          · go_enter Try.func35, Try.ntmps35
            go_wp2
            go_ret
            exact ⟨ret_bool (by rw [Bool.eq_iff_iff]; simp [isH]; omega), rfl⟩
          · go_enter Try.func35, Try.ntmps35
            go_wp2
            go_ret
            exact ⟨ret_bool (by rw [Bool.eq_iff_iff]; simp [isH]; omega), rfl⟩
        · go_enter Try.func35, Try.ntmps35
          go_wp2
          go_ret
          exact ⟨ret_bool (by rw [Bool.eq_iff_iff]; simp [isH]; omega), rfl⟩
  · go_enter Try.func35, Try.ntmps35
    go_wp2
    go_ret
    exact ⟨ret_bool (by rw [Bool.eq_iff_iff]; simp [isH]; omega), rfl⟩

theorem isHexByte_is (c : Int) (r : Bool) (w : World) (h : Hid (isH c = r)) :
    Calls Try.prog 35 #[.int .u8 c] w fun e w' => e = .returned (.bool r) ∧ w' = w := by
  have := isHexByte_any c w
  rw [h.out] at this
  exact this

/-- The loop's end on a text with one fault F. -/
theorem bad_fin (short : Bool) (l F R : List Int) (hl : ∀ x ∈ l, 0 ≤ x ∧ x < 256) (n T : Nat) (hn : ([34] ++ escL short l).length = n) (FL : fin (F ++ R) 0 n (-1) = (T, (n : Int))) :
    fin (([34] ++ escL short l ++ (F ++ R)).drop 1) 0 1 (-1) = (T, (n : Int)) := by
  rw [text_fin short l _ hl, hn, FL]

/-- Behind a fault: an encoded string and the closing quote. -/
theorem after_fault (short : Bool) (l : List Int) (hl : ∀ x ∈ l, 0 ≤ x ∧ x < 256) (i : Nat) (bad : Int) : fin (escL short l ++ [34]) 0 i bad = (i + (escL short l).length, bad) := by
  rw [fin_escL short l [34] i bad hl, fin_quote]

theorem fault0 (short : Bool) (l : List Int) (hl : ∀ x ∈ l, 0 ≤ x ∧ x < 256) (c : Int) (n : Nat) (h : c < 32) (h10 : c ≠ 10) (h13 : c ≠ 13) :
    fin ([c] ++ (escL short l ++ [34])) 0 n (-1) = (n + 1 + (escL short l).length, (n : Int)) := by
  rw [List.singleton_append, fault_ctl c _ n (by simp [stp]; omega) h, after_fault short l hl]

theorem fault1 (short : Bool) (l : List Int) (hl : ∀ x ∈ l, 0 ≤ x ∧ x < 256) (d : Int) (n : Nat) (hE : isE d = false) (hu : d ≠ 117) (h10 : d ≠ 10) (h13 : d ≠ 13) :
    fin ([92, d] ++ (escL short l ++ [34])) 0 n (-1) = (n + 2 + (escL short l).length, (n : Int)) := by
  rw [List.cons_append, List.singleton_append, fault_bad d _ n hE hu h10 h13, after_fault short l hl]

def hexs : List Int := [48, 97, 70, 57]

theorem fault2 (short : Bool) (l : List Int) (hl : ∀ x ∈ l, 0 ≤ x ∧ x < 256) (x : Int) (D n : Nat) (hD : D < 4) (hx : isH x = false) (h34 : x ≠ 34) (h92 : x ≠ 92) (h10 : x ≠ 10) (h13 : x ≠ 13) :
    fin ([92, 117] ++ hexs.take D ++ [x] ++ (escL short l ++ [34])) 0 n (-1) = (n + 2 + D + 1 + (escL short l).length, (n : Int)) := by
  have e : [92, 117] ++ hexs.take D ++ [x] ++ (escL short l ++ [34]) = 92 :: 117 :: (([48, 97, 70, 57] : List Int).take D ++ x :: (escL short l ++ [34])) := by simp [hexs]
  rw [e, fault_digits D x _ n hD hx, fin_raw x _ _ n (by simp [stp, h34, h10, h13]) h92 (Or.inl (by omega)), after_fault short l hl]

theorem fault3 (D n : Nat) (hD : D < 4) : fin ([92, 117] ++ hexs.take D ++ [34]) 0 n (-1) = (n + 2 + D, (n : Int)) := by
  have e : [92, 117] ++ hexs.take D ++ [34] = 92 :: 117 :: (([48, 97, 70, 57] : List Int).take D ++ 34 :: []) := by simp [hexs]
  rw [e, fault_digits D 34 _ n hD (by decide), fin_quote]

end Go.Proofs.Qxb6001225a
