/-
  bytes.IndexByte and stringLength.
-/
import Derived.Test.Qxb6605406aRows
import Derived.WalkKit
import Derived.WalkSpells
import Derived.Lib.BytesEntry
import Derived.Test.Qxb6605406aPlain
namespace Go.Proofs.Qxb6605406a
open Go.RowKit

theorem ret_int {k : IntKind} {a b : Int} (h : a = b) : Ending.returned (.int k a) = .returned (.int k b) := by rw [h]

/-- bytes.IndexByte at a slice whose cells are known. -/
theorem bytesIndexByte_any (b o n c : Nat) (xs : List Int) (cv : Int) (w : World) (hx : xs.length = n)
    (hc : ∀ i, i < n → w.cell? ⟨b, o + i, none⟩ = some (.int .u8 (xs.getD i 0))) :
    Calls Try.prog 33 #[.slice (some ⟨b, o, none⟩) n c, .int .u8 cv] w fun e w' => e = .returned (.int .i64 (Lib.indexByte (Lib.bytesOf xs) cv.toNat.toUInt8)) ∧ w' = w := by
  go_enter Try.func33, Try.ntmps33
  go_wp2
  rw [run_callFunc_extern Try.func38 (by kernel_rfl) (by kernel_rfl) (by kernel_rfl) (e := Extern.BytealgIndexByte.indexByte) (by kernel_rfl), Lib.run_indexByteSlice w b o n c xs hx hc cv]
  simp only [Result.andThen]
  rw [Oper.upon_value]
  go_wp2
  go_ret
  exact ⟨rfl, rfl⟩

theorem bytesIndexByte_nil (cv : Int) (w : World) :
    Calls Try.prog 33 #[.slice none 0 0, .int .u8 cv] w fun e w' => e = .returned (.int .i64 (-1)) ∧ w' = w := by
  go_enter Try.func33, Try.ntmps33
  go_wp2
  rw [run_callFunc_extern Try.func38 (by kernel_rfl) (by kernel_rfl) (by kernel_rfl) (e := Extern.BytealgIndexByte.indexByte) (by kernel_rfl), Lib.run_indexByteNil w 0 0 cv]
  simp only [Result.andThen]
  rw [Oper.upon_value]
  go_wp2
  go_ret
  exact ⟨rfl, rfl⟩

theorem idx_empty (b o n c : Nat) (w : World) (h : Hid (n = 0)) :
    Calls Try.prog 33 #[.slice (some ⟨b, o, none⟩) n c, .int .u8 34] w fun e w' => e = .returned (.int .i64 (-1)) ∧ w' = w := by
  obtain rfl := h.out
  exact bytesIndexByte_any b o 0 c [] 34 w rfl (fun i hi => by omega)

theorem idx_is (b o n c : Nat) (ys : List Int) (q : Int) (w : World) (hx : ys.length = n)
    (hc : ∀ i, i < n → w.cell? ⟨b, o + i, none⟩ = some (.int .u8 (ys.getD i 0))) (h : Hid (Lib.indexByte (Lib.bytesOf ys) (34 : Int).toNat.toUInt8 = q)) :
    Calls Try.prog 33 #[.slice (some ⟨b, o, none⟩) n c, .int .u8 34] w fun e w' => e = .returned (.int .i64 q) ∧ w' = w := by
  have := bytesIndexByte_any b o n c ys 34 w hx hc
  rw [h.out] at this
  exact this

theorem cells_drop {b off : Nat} {xs : List Int} {w : World} (hc : ∀ i, i < xs.length → w.cell? ⟨b, off + i, none⟩ = some (.int .u8 (xs.getD i 0))) (i : Nat) :
    ∀ j, j < xs.length - i → w.cell? ⟨b, off + i + j, none⟩ = some (.int .u8 ((xs.drop i).getD j 0)) := by
  intro j hj
  rw [Nat.add_assoc, hc (i + j) (by omega)]
  simp [List.getD]

theorem length_nil (w : World) :
    Calls Try.prog 25 #[.slice none 0 0] w fun e w' => e = .returned (.int .i64 0) ∧ w' = w := by
  go_enter Try.func25, Try.ntmps25
  go_wp2
  refine wp_loop_rounds 1 ?_
  rw [rounds_succ]
  go_wp2_with fail
  refine (bytesIndexByte_nil 34 w).mono ?_
  rintro e w' ⟨rfl, rfl⟩
  go_wp2
  go_ret
  exact ⟨rfl, rfl⟩

set_option maxHeartbeats 2000000 in
theorem length_any (b off cap : Nat) (xs : List Int) (w : World) (hcap : xs.length ≤ cap) (hm : cap ≤ 2000000)
    (hc : ∀ i, i < xs.length → w.cell? ⟨b, off + i, none⟩ = some (.int .u8 (xs.getD i 0)))
    (hw : Hid (∀ x ∈ xs, 0 ≤ x ∧ x < 256)) :
    Calls Try.prog 25 #[.slice (some ⟨b, off, none⟩) xs.length cap] w fun e w' => e = .returned (.int .i64 (strF xs false : Nat)) ∧ w' = w := by
  obtain ⟨T, HT0⟩ : ∃ T, Hid (0 + strF (xs.drop 0) false = T) := ⟨_, rfl⟩
  have hT : strF xs false = T := by have := HT0.out; simpa using this
  rw [hT]
  clear hT
  go_enter Try.func25, Try.ntmps25
  go_wp2
  go_loop [3] (fun v => ∃ i : Nat, v = .int .i64 i ∧ i ≤ xs.length ∧ Hid (i = 0 ∨ xs.getD (i - 1) 0 ≠ 92) ∧ Hid (i + strF (xs.drop i) false = T)) (fun v => xs.length - (intOf v).toNat)
  case atStart => exact ⟨0, rfl, by omega, Or.inl rfl, HT0⟩
  case round =>
    obtain ⟨i, rfl, hi2, HP, HT⟩ := hrel
    by_cases hlt : i < xs.length
    · have hcd := cells_drop hc i
      rcases idx_spec (xs.drop i) 34 (by omega) (by omega) (fun x hx => hw.out x (List.mem_of_mem_drop hx)) with ⟨h1, h2⟩ | ⟨k, h1, h2, h3, h4⟩
      · have H1 : Hid (Lib.indexByte (Lib.bytesOf (xs.drop i)) (34 : Int).toNat.toUInt8 = -1) := h1
        have H2 : Hid (∀ x ∈ xs.drop i, x ≠ 34) := h2
        clear h1 h2
        go_wp2_with fail
        refine (idx_is _ _ _ _ (xs.drop i) (-1) _ (by simp) hcd H1).mono ?_
        rintro e w' ⟨rfl, rfl⟩
        go_wp2
        go_ret
        refine ⟨ret_int ?_, rfl⟩
        have := strF_none _ false H2.out
        have h5 := HT.out
        rw [this, List.length_drop] at h5
        omega
      · have H1 : Hid (Lib.indexByte (Lib.bytesOf (xs.drop i)) (34 : Int).toNat.toUInt8 = k) := h1
        have H3 : Hid ((xs.drop i).getD k 0 = 34) := h3
        have H4 : Hid (∀ j, j < k → (xs.drop i).getD j 0 ≠ 34) := h4
        have hk : i + k < xs.length := by simp at h2; omega
        clear h1 h2 h3 h4
        go_wp2_with fail
        refine (idx_is _ _ _ _ (xs.drop i) k _ (by simp) hcd H1).mono ?_
        rintro e w' ⟨rfl, rfl⟩
        go_wp2
        go_loop [5, 6] (fun v u => ∃ r c : Nat, v = .int .i64 c ∧ ((r = 0 ∧ u = .int .i64 (-1)) ∨ ∃ m : Nat, r = m + 1 ∧ u = .int .i64 m) ∧ r + c ≤ i + k ∧ i + k ≤ r + c ∧ Hid (rb xs r = rb xs (i + k))) (fun _ u => (intOf u + 1).toNat)
        case atStart =>
          by_cases h0 : i + k = 0
          · have hi0 : i = 0 := by omega
            have hk0 : k = 0 := by omega
            subst hi0 hk0
            exact ⟨0, 0, rfl, Or.inl ⟨rfl, rfl⟩, by omega, by omega, rfl⟩
          · exact ⟨i + k, 0, rfl, Or.inr ⟨i + k - 1, by omega, by congr 1; omega⟩, by omega, by omega, rfl⟩
        case round =>
          obtain ⟨r, c, rfl, hr, hr1, hr2, HR⟩ := hrel
          rcases hr with ⟨rfl, rfl⟩ | ⟨m, rfl, rfl⟩
          · have hs := quote_split xs i k hk (by simpa [List.getD] using H3.out) (fun j hj => by simpa [List.getD] using H4.out j hj) HP.out
            rw [← HR.out, rb] at hs
            have HS : Hid (strF (xs.drop i) false = if (i + k - 0) % 2 = 1 then k + 1 + strF (xs.drop (i + k + 1)) false else k + 1) := hs
            clear hs
            by_cases hev : c % 2 = 0
            · have hev' : (c : Int) % 2 = 0 := by omega
              go_wp2
              go_ret
              refine ⟨ret_int ?_, rfl⟩
              have hs := HS.out
              rw [if_neg (by omega)] at hs
              have h5 := HT.out
              omega
            · have hev' : ¬ (c : Int) % 2 = 0 := by omega
              go_wp2
              go_round
              case rel => exact ⟨i + k + 1, by go_num, by omega, Or.inr (by
                have := H3.out
                simp [List.getD] at this
                simp [this]), show _ = _ by
                have hs := HS.out
                rw [if_pos (by omega)] at hs
                have h5 := HT.out
                omega⟩
              case measure => simp [intOf]; omega
          · obtain ⟨b0, Hb0, hcc⟩ : ∃ c, Hid (xs.getD m 0 = c) ∧ w'.cell? ⟨b, off + m, none⟩ = some (.int .u8 c) := ⟨_, rfl, hc m (by omega)⟩
            have HCs : Hid (∀ i, i < xs.length → w'.cell? ⟨b, off + i, none⟩ = some (.int .u8 (xs.getD i 0))) := hc
            clear hc hcd
            by_cases h92 : b0 = 92
            · subst h92
              go_wp2
              go_round
              case rel => exact ⟨m, c + 1, by go_num, by
                by_cases hm0 : m = 0
                · subst hm0; exact Or.inl ⟨rfl, rfl⟩
                · exact Or.inr ⟨m - 1, by omega, by congr 1; omega⟩, by omega, by omega, show _ = _ by rw [← HR.out, rb, if_pos Hb0.out]⟩
              case measure => simp [intOf]
            · have g92 : (b0 == 92) = false := by simpa using h92
              have hb : rb xs (m + 1) = m + 1 := by rw [rb, if_neg (by rw [Hb0.out]; exact h92)]
              have hs := quote_split xs i k hk (by simpa [List.getD] using H3.out) (fun j hj => by simpa [List.getD] using H4.out j hj) HP.out
              rw [← HR.out, hb] at hs
              have HS : Hid (strF (xs.drop i) false = if (i + k - (m + 1)) % 2 = 1 then k + 1 + strF (xs.drop (i + k + 1)) false else k + 1) := hs
              clear hs hb h92
              by_cases hev : c % 2 = 0
              · have hev' : (c : Int) % 2 = 0 := by omega
                go_wp2
                go_ret
                refine ⟨ret_int ?_, rfl⟩
                have hs := HS.out
                rw [if_neg (by omega)] at hs
                have h5 := HT.out
                omega
              · have hev' : ¬ (c : Int) % 2 = 0 := by omega
                go_wp2
                go_round
                case rel => exact ⟨i + k + 1, by go_num, by omega, Or.inr (by
                  have := H3.out
                  simp [List.getD] at this
                  simp [this]), show _ = _ by
                  have hs := HS.out
                  rw [if_pos (by omega)] at hs
                  have h5 := HT.out
                  omega⟩
                case measure => simp [intOf]; omega
    · have H0 : Hid (xs.length - i = 0) := show _ = _ by omega
      go_wp2_with fail
      · refine (idx_empty b off (xs.length - i) 0 w H0).mono ?_
        rintro e w' ⟨rfl, rfl⟩
        go_wp2
        go_ret
        refine ⟨ret_int ?_, rfl⟩
        have h5 := HT.out
        rw [List.drop_eq_nil_of_le (show xs.length ≤ i by omega)] at h5
        simp only [strF] at h5
        omega
      · refine (idx_empty b (off + i) (xs.length - i) (cap - i) w H0).mono ?_
        rintro e w' ⟨rfl, rfl⟩
        go_wp2
        go_ret
        refine ⟨ret_int ?_, rfl⟩
        have h5 := HT.out
        rw [List.drop_eq_nil_of_le (show xs.length ≤ i by omega)] at h5
        simp only [strF] at h5
        omega

end Go.Proofs.Qxb6605406a
