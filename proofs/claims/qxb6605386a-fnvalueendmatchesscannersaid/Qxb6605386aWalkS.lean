/-
  stringEnd and scalarEnd.
-/
import Derived.Test.Qxb6605386aLeaf
import Derived.Test.Qxb6605386aPlain
namespace Go.Proofs.Qxb6605386a
open Go.RowKit

theorem ret_int {k : IntKind} {a b : Int} (h : a = b) : Ending.returned (.int k a) = .returned (.int k b) := by rw [h]

theorem idx_empty (b o n c : Nat) (w : World) (h : Hid (n = 0)) :
    Calls Try.prog 44 #[.slice (some ⟨b, o, none⟩) n c, .int .u8 34] w fun e w' => e = .returned (.int .i64 (-1)) ∧ w' = w := by
  obtain rfl := h.out
  exact bytesIndexByte_any b o 0 c [] 34 w rfl (fun i hi => by omega)

theorem idx_is (b o n c : Nat) (ys : List Int) (q : Int) (w : World) (hx : ys.length = n)
    (hc : ∀ i, i < n → w.cell? ⟨b, o + i, none⟩ = some (.int .u8 (ys.getD i 0))) (h : Hid (Lib.indexByte (Lib.bytesOf ys) (34 : Int).toNat.toUInt8 = q)) :
    Calls Try.prog 44 #[.slice (some ⟨b, o, none⟩) n c, .int .u8 34] w fun e w' => e = .returned (.int .i64 q) ∧ w' = w := by
  have := bytesIndexByte_any b o n c ys 34 w hx hc
  rw [h.out] at this
  exact this

theorem cells_drop {b off : Nat} {xs : List Int} {w : World} (hc : ∀ i, i < xs.length → w.cell? ⟨b, off + i, none⟩ = some (.int .u8 (xs.getD i 0))) (i : Nat) :
    ∀ j, j < xs.length - i → w.cell? ⟨b, off + i + j, none⟩ = some (.int .u8 ((xs.drop i).getD j 0)) := by
  intro j hj
  rw [Nat.add_assoc, hc (i + j) (by omega)]
  simp [List.getD]

set_option maxHeartbeats 2000000 in
theorem stringEnd_any (b off cap : Nat) (xs : List Int) (i0 : Nat) (w : World) (hcap : xs.length ≤ cap) (hm : cap ≤ 2000000)
    (hc : ∀ i, i < xs.length → w.cell? ⟨b, off + i, none⟩ = some (.int .u8 (xs.getD i 0)))
    (hw : Hid (∀ x ∈ xs, 0 ≤ x ∧ x < 256)) (hi : i0 < xs.length) (HQ : Hid (xs.getD i0 0 ≠ 92)) :
    Calls Try.prog 41 #[.slice (some ⟨b, off, none⟩) xs.length cap, .int .i64 i0] w fun e w' => e = .returned (.int .i64 (i0 + 1 + strF (xs.drop (i0 + 1)) false : Nat)) ∧ w' = w := by
  go_enter Try.func41, Try.ntmps41
  go_wp2
  go_loop [1] (fun v => ∃ i : Nat, v = .int .i64 i ∧ 1 ≤ i ∧ i ≤ xs.length ∧ Hid (xs.getD (i - 1) 0 ≠ 92) ∧ Hid (i + strF (xs.drop i) false = i0 + 1 + strF (xs.drop (i0 + 1)) false)) (fun v => xs.length - (intOf v).toNat)
  case atStart => exact ⟨i0 + 1, by go_num, by omega, by omega, by simpa using HQ, rfl⟩
  case round =>
    obtain ⟨i, rfl, hi1, hi2, HP, HT⟩ := hrel
    by_cases hlt : i < xs.length
    · have hcd := cells_drop hc i
      rcases idx_spec (xs.drop i) 34 (by omega) (by omega) (fun x hx => hw.out x (List.mem_of_mem_drop hx)) with ⟨h1, h2⟩ | ⟨k, h1, h2, h3, h4⟩
      · have H1 : Hid (Lib.indexByte (Lib.bytesOf (xs.drop i)) (34 : Int).toNat.toUInt8 = -1) := h1
        have H2 : Hid (∀ x ∈ xs.drop i, x ≠ 34) := h2
        clear h1 h2
        go_wp2_with fail
        refine (idx_is _ _ _ _ (xs.drop i) (-1) _ (by simp) hcd H1).mono ?_
        rintro e w' ⟨rfl, rfl⟩
        go_wp2
        go_ret
        refine ⟨ret_int ?_, rfl⟩
        have := strF_none _ false H2.out
        have h5 := HT.out
        rw [this, List.length_drop] at h5
        omega
      · have H1 : Hid (Lib.indexByte (Lib.bytesOf (xs.drop i)) (34 : Int).toNat.toUInt8 = k) := h1
        have H3 : Hid ((xs.drop i).getD k 0 = 34) := h3
        have H4 : Hid (∀ j, j < k → (xs.drop i).getD j 0 ≠ 34) := h4
        have hk : i + k < xs.length := by simp at h2; omega
        clear h1 h2 h3 h4
        go_wp2_with fail
        refine (idx_is _ _ _ _ (xs.drop i) k _ (by simp) hcd H1).mono ?_
        rintro e w' ⟨rfl, rfl⟩
        go_wp2
        go_loop [6] (fun v => ∃ r : Nat, v = .int .i64 r ∧ i ≤ r ∧ r ≤ i + k ∧ Hid (rb xs r = rb xs (i + k))) (fun v => (intOf v).toNat)
        case atStart => exact ⟨i + k, by go_num, by omega, by omega, rfl⟩
        case round =>
          obtain ⟨r, rfl, hr1, hr2, HR⟩ := hrel
          obtain ⟨m, rfl⟩ : ∃ m, r = m + 1 := ⟨r - 1, by omega⟩
          have hcm := hc m (by omega)
          go_wp2
          · have h9 : xs[m]?.getD 0 == 92 := by assumption
            go_round
            case rel => exact ⟨m, rfl, by
              have := HP.out
              by_cases e : i = m + 1
              · subst e; simp at h9; simp [h9] at this
              · omega, by omega, show _ = _ by rw [← HR.out, rb, if_pos (by simpa using h9)]⟩
            case measure => simp [intOf]
          · have h9 : (xs[m]?.getD 0 == 92) = false := by assumption
            have hb : rb xs (m + 1) = m + 1 := by rw [rb, if_neg (by simpa using h9)]
            go_ret
            refine ⟨ret_int ?_, rfl⟩
            have hev : ((i : Int) + k - (m + 1)) % 2 = 0 := by first | assumption | (simp at *; omega)
            have hs := quote_split xs i k hk (by simpa [List.getD] using H3.out) (fun j hj => by simpa [List.getD] using H4.out j hj) (Or.inr HP.out)
            rw [← HR.out, hb, if_neg (by omega)] at hs
            have h5 := HT.out
            omega
          · have h9 : (xs[m]?.getD 0 == 92) = false := by assumption
            have hb : rb xs (m + 1) = m + 1 := by rw [rb, if_neg (by simpa using h9)]
            go_round
            case rel => exact ⟨i + k + 1, by go_num, by omega, by omega, show _ ≠ _ by
              have := H3.out
              simp [List.getD] at this
              simp [this], show _ = _ by
              have hs := quote_split xs i k hk (by simpa [List.getD] using H3.out) (fun j hj => by simpa [List.getD] using H4.out j hj) (Or.inr HP.out)
              have hod : ¬ ((i : Int) + k - (m + 1)) % 2 = 0 := by first | assumption | (simp at *; omega)
              rw [← HR.out, hb, if_pos (by omega)] at hs
              have h5 := HT.out
              omega⟩
            case measure => simp [intOf]; omega
    · have H0 : Hid (xs.length - i = 0) := show _ = _ by omega
      go_wp2_with fail
      · refine (idx_empty b off (xs.length - i) 0 w H0).mono ?_
        rintro e w' ⟨rfl, rfl⟩
        go_wp2
        go_ret
        refine ⟨ret_int ?_, rfl⟩
        have h5 := HT.out
        rw [List.drop_eq_nil_of_le (show xs.length ≤ i by omega)] at h5
        simp only [strF] at h5
        omega
      · refine (idx_empty b (off + i) (xs.length - i) (cap - i) w H0).mono ?_
        rintro e w' ⟨rfl, rfl⟩
        go_wp2
        go_ret
        refine ⟨ret_int ?_, rfl⟩
        have h5 := HT.out
        rw [List.drop_eq_nil_of_le (show xs.length ≤ i by omega)] at h5
        simp only [strF] at h5
        omega

end Go.Proofs.Qxb6605386a
