/-
  FnScanStringFirstBadOffset: a unicode escape cut short by a byte that is replaced by g.
-/
import Derived.Test.Qxb6001225aTop9a
namespace Go.Proofs.Qxb6001225a
open Go.RowKit

set_option maxHeartbeats 4000000 in
set_option maxRecDepth 100000 in
theorem top9_unig34 (s t : ByteArray) (b : Bool) (kd : Int) (w : World) (h : s.size + t.size ≤ 1048576) (hk0 : 0 ≤ kd) (hk1 : kd < 256) (hk : kd % 3 = 2) (D : Nat) (hD4 : D < 4) (hD : kd / 3 % 4 = (D : Int)) (h12 : kd / 12 % 2 = 0) :
    Calls Try.prog 9 #[.string s, .int .u8 kd, .int .u8 34, .string t, .bool b] w fun e w' => e = .returned (.bool true) ∧ Below w.heap.size w w' := by
  obtain ⟨B, HB⟩ : ∃ B, Hid (B = w.heap.size) := ⟨_, hid rfl⟩
  rw [← HB.out]
  have hB : B ≤ w.heap.size := Nat.le_of_eq HB.out
  obtain ⟨Y, HY⟩ : ∃ Y, Hid ([34] ++ escL b (ns s) = Y) := ⟨_, hid rfl⟩
  obtain ⟨n, HN⟩ : ∃ n, Hid (Y.length = n) := ⟨_, hid rfl⟩
  have hn : n ≤ 6 * s.size + 1 := by
    have := escL_len b (ns s)
    rw [← HN.out, ← HY.out, List.length_append]
    rw [ns_length] at this
    simp
    omega
  obtain ⟨Y4, HY4⟩ : ∃ Y4, Hid (Y ++ ([92, 117] ++ hexs.take D ++ [103]) = Y4) := ⟨_, hid rfl⟩
  have HN4 : Hid (Y4.length = n + 2 + D + 1) := show _ = _ by rw [← HY4.out, List.length_append, HN.out]; simp [hexs]; omega
  obtain ⟨Y5, HY5⟩ : ∃ Y5, Hid (Y4 ++ escL b (ns t) = Y5) := ⟨_, hid rfl⟩
  obtain ⟨n5, HN5⟩ : ∃ n5, Hid (Y5.length = n5) := ⟨_, hid rfl⟩
  have e5 : n5 = n + 2 + D + 1 + (escL b (ns t)).length := by rw [← HN5.out, ← HY5.out, List.length_append, HN4.out]
  have hn5 : n5 ≤ 6291500 := by
    have := escL_len b (ns t)
    rw [ns_length] at this
    omega
  have H4 : Hid (Y4.length ≤ 30000000) := show _ ≤ _ by rw [HN4.out]; omega
  obtain ⟨Y6, HY6⟩ : ∃ Y6, Hid (Y5 ++ [34] = Y6) := ⟨_, hid rfl⟩
  have HN6 : Hid (Y6.length = n5 + 1) := show _ = _ by rw [← HY6.out, List.length_append, HN5.out]; rfl
  obtain ⟨S, HS⟩ : ∃ S, Hid (strOfNums Y6 = S) := ⟨_, hid rfl⟩
  have e6 : Y6 = [34] ++ escL b (ns s) ++ (([92, 117] ++ hexs.take D ++ [103]) ++ (escL b (ns t) ++ [34])) := by rw [← HY6.out, ← HY5.out, ← HY4.out, ← HY.out]; simp
  have hbytes : ∀ x ∈ Y6, 0 ≤ x ∧ x < 256 := by
    rw [e6]
    intro x hx
    rcases List.mem_append.1 hx with hx | hx
    · rcases List.mem_append.1 hx with hx | hx
      · simp at hx; omega
      · exact escL_range b (ns s) (ns_range s) x hx
    · rcases List.mem_append.1 hx with hx | hx
      · simp only [List.mem_append] at hx
        rcases hx with (hx | hx) | hx
        · simp at hx; omega
        · have := List.mem_of_mem_take hx
          simp [hexs] at this; omega
        · simp at hx; omega
      · rcases List.mem_append.1 hx with hx | hx
        · exact escL_range b (ns t) (ns_range t) x hx
        · simp at hx; omega
  have hS : ns S = Y6 := by rw [← HS.out]; exact ns_of Y6 hbytes
  have hsz : S.size = n5 + 1 := by rw [← ns_length, hS, HN6.out]
  have HT : Hid (fin ((ns S).drop 1) 0 1 (-1) = (n5, (n : Int))) := show _ = _ by
    rw [hS, e6]
    refine bad_fin b (ns s) _ _ (ns_range s) n n5 (by rw [HY.out, HN.out]) ?_
    rw [e5]
    exact fault2 b (ns t) (ns_range t) 103 D n hD4 (by decide) (by decide) (by decide) (by decide) (by decide)
  have HRS : Hid (res (ns S) n5 (n : Int) = ((n5 : Int) + 1, (n : Int), false)) := show _ = _ by
    rw [hS, ← HY6.out, ← HN5.out]
    exact res_closed Y5 [] n
  have hS1 : S.size ≤ 9000000 := by omega
  have hS2 : 1 ≤ S.size := by omega
  have HO0 := fun (wx : World) => (show Hid (Own wx B (.slice none 0 0) []) from Own.nil wx B)
  have H34 : Hid (([34] : List Int).length ≤ 30000000) := show _ ≤ _ by simp
  have k0 : (kd % 3 == 0) = false := by simp; omega
  have k1 : (kd % 3 == 1) = false := by simp; omega
  obtain ⟨Ya, HYa⟩ : ∃ Ya, Hid (Y ++ [92, 117] = Ya) := ⟨_, hid rfl⟩
  have HNa : Hid (Ya.length = n + 2) := show _ = _ by rw [← HYa.out, List.length_append, HN.out]; rfl
  have HNk : Hid (∀ k, k ≤ 3 → (Ya ++ hexs.take k).length = n + 2 + k) := show ∀ k, _ from fun k hk => by rw [List.length_append, HNa.out]; simp [hexs]; omega
  have HE1 : Hid ((Ya ++ hexs.take 0) ++ [48] = Ya ++ hexs.take 1) := show _ = _ by simp [hexs]
  have HE2 : Hid ((Ya ++ hexs.take 1) ++ [97] = Ya ++ hexs.take 2) := show _ = _ by simp [hexs]
  have HE3 : Hid ((Ya ++ hexs.take 2) ++ [70] = Ya ++ hexs.take 3) := show _ = _ by simp [hexs]
  have HYx : Hid ((Ya ++ hexs.take D) ++ [103] = Y4) := show _ = _ by rw [← HY4.out, ← HYa.out]; simp [List.append_assoc]
  have HH : Hid (isH 34 = false) := show _ = _ by decide
  have g12 : (kd / 12 % 2 == 0) = true := by simp; omega
  have z1 : decide ((1048576 : Int) < s.size) = false := by simp; omega
  have z2 : decide ((1048576 : Int) < t.size) = false := by simp; omega
  have z3 : decide ((1048576 : Int) < (s.size : Int) + t.size) = false := by simp; omega
  clear hS hsz hbytes e5 e6
  clear hk h12
  go_enter Try.func9, Try.ntmps9
  go_wp2_with fail
  refine (bytes9_yes s t b kd 34 w h).mono ?_
  rintro e w' ⟨rfl, hx⟩
  obtain rfl := hx.symm
  clear hx
  go_wp2_with (at_builtin; refine app_one [34] rfl (.tmp 44) (.tmp 45) rfl B (.slice none 0 0) [] rfl (HO0 _) rfl rfl rfl hB [34] (hid rfl) 1 (hid rfl) _ (hid rfl) (by omega) ?_; intro a1 c1 w1 HO1 hl1 hcv1; clear hcv1)
  have hB1 : B ≤ w1.heap.size := Nat.le_trans hB hl1.size
  refine (esc_top a1 1 c1 s b [34] B w1 hB1 HO1 (by omega) H34 Y HY n HN).mono ?_
  rintro e w2 ⟨a2, c2, rfl, HO2, hl2⟩
  have hB2 : B ≤ w2.heap.size := Nat.le_trans hB1 hl2.size
  go_wp2_with (at_builtin; refine app_one [92, 117] rfl (.tmp 59) (.tmp 60) rfl B (.slice a2 n c2) Y rfl HO2 rfl rfl rfl hB2 Ya HYa (n + 2) HNa _ (hid rfl) (by omega) ?_; intro a3 c3 w3 HO3 hl3 hcv3; clear hcv3)
  have hB3 : B ≤ w3.heap.size := Nat.le_trans hB2 hl3.size
  go_loopw [11, 18] (fun u j wr => ∃ (k : Nat) (ax : Option Addr) (cx : Nat), j = .int .i64 k ∧ k ≤ D ∧ u = .slice ax (n + 2 + k) cx ∧ Hid (Own wr B (.slice ax (n + 2 + k) cx) (Ya ++ hexs.take k)) ∧ Below B w3 wr) (fun _ j _ => D - (intOf j).toNat)
  case atStart => exact ⟨0, a3, c3, rfl, by omega, rfl, by simpa using HO3, Below.refl _ _⟩
  case round =>
    obtain ⟨k, ax, cx, rfl, hkD, rfl, HOk, hlk⟩ := hrel
    have hBk : B ≤ wr.heap.size := Nat.le_trans hB3 hlk.size
    by_cases hlt : k < D
    · have hk3 : k = 0 ∨ k = 1 ∨ k = 2 := by omega
      rcases hk3 with rfl | rfl | rfl
      · have HNj := HNk.out 1 (by omega)
        have HNJ : Hid ((Ya ++ hexs.take 1).length = n + 2 + 1) := HNj
        clear HNj
        go_wp2_with (at_builtin; refine app_one [48] rfl (.tmp 67) (.tmp 71) rfl B (.slice ax (n + 2 + 0) cx) (Ya ++ hexs.take 0) rfl HOk rfl rfl rfl hBk (Ya ++ hexs.take 1) HE1 (n + 2 + 1) HNJ _ (hid rfl) (by omega) ?_; intro a5 c5 w5 HO5 hl5 hcv5; clear hcv5)
        go_roundw
        case rel => exact ⟨1, a5, c5, by go_num, by omega, rfl, HO5, hlk.trans hl5⟩
        case measure => simp [intOf]; omega
      · have HNj := HNk.out 2 (by omega)
        have HNJ : Hid ((Ya ++ hexs.take 2).length = n + 2 + 2) := HNj
        clear HNj
        go_wp2_with (at_builtin; refine app_one [97] rfl (.tmp 67) (.tmp 71) rfl B (.slice ax (n + 2 + 1) cx) (Ya ++ hexs.take 1) rfl HOk rfl rfl rfl hBk (Ya ++ hexs.take 2) HE2 (n + 2 + 2) HNJ _ (hid rfl) (by omega) ?_; intro a5 c5 w5 HO5 hl5 hcv5; clear hcv5)
        go_roundw
        case rel => exact ⟨2, a5, c5, by go_num, by omega, rfl, HO5, hlk.trans hl5⟩
        case measure => simp [intOf]; omega
      · have HNj := HNk.out 3 (by omega)
        have HNJ : Hid ((Ya ++ hexs.take 3).length = n + 2 + 3) := HNj
        clear HNj
        go_wp2_with (at_builtin; refine app_one [70] rfl (.tmp 67) (.tmp 71) rfl B (.slice ax (n + 2 + 2) cx) (Ya ++ hexs.take 2) rfl HOk rfl rfl rfl hBk (Ya ++ hexs.take 3) HE3 (n + 2 + 3) HNJ _ (hid rfl) (by omega) ?_; intro a5 c5 w5 HO5 hl5 hcv5; clear hcv5)
        go_roundw
        case rel => exact ⟨3, a5, c5, by go_num, by omega, rfl, HO5, hlk.trans hl5⟩
        case measure => simp [intOf]; omega
    · obtain rfl : k = D := by omega
      clear hlt hkD HE1 HE2 HE3 HNk
      go_wp2_with fail
      refine (isHexByte_is 34 false _ HH).mono ?_
      rintro e w' ⟨rfl, hx⟩
      obtain rfl := hx.symm
      clear hx
      go_wp2_with (at_builtin; refine app_one [103] rfl (.tmp 96) (.tmp 98) rfl B (.slice ax (n + 2 + k) cx) (Ya ++ hexs.take k) rfl HOk rfl rfl rfl hBk Y4 HYx (n + 2 + k + 1) HN4 _ (hid rfl) (by omega) ?_; intro a4 c4 w4 HO4 hl4x hcv4; clear hcv4)
      have hl4 : Below B w2 w4 := (hl3.trans hlk).trans hl4x
      have hB4 : B ≤ w4.heap.size := Nat.le_trans hB2 hl4.size
      refine (esc_top a4 (n + 2 + k + 1) c4 t b Y4 B w4 hB4 HO4 (by omega) H4 Y5 HY5 n5 HN5).mono ?_
      rintro e w5 ⟨a5, c5, rfl, HO5, hl5⟩
      have hB5 : B ≤ w5.heap.size := Nat.le_trans hB4 hl5.size
      go_wp2_with (at_builtin; refine app_one [34] rfl (.tmp 168) (.tmp 169) rfl B (.slice a5 n5 c5) Y5 rfl HO5 rfl rfl rfl hB5 Y6 HY6 (n5 + 1) HN6 S HS (by omega) ?_; intro a6 c6 w6 HO6 hl6 hcv6)
      refine (zzScan_any S w6 hS1 hS2 n5 n HT ((n5 : Int) + 1) n false HRS).mono ?_
      rintro e w' ⟨rfl, hx⟩
      obtain rfl := hx.symm
      clear hx
      go_wp2
      go_ret
      exact ⟨by simp, (((hl1.trans hl2).trans hl4).trans hl5).trans hl6⟩

set_option maxHeartbeats 4000000 in
set_option maxRecDepth 100000 in
theorem top9_unig92 (s t : ByteArray) (b : Bool) (kd : Int) (w : World) (h : s.size + t.size ≤ 1048576) (hk0 : 0 ≤ kd) (hk1 : kd < 256) (hk : kd % 3 = 2) (D : Nat) (hD4 : D < 4) (hD : kd / 3 % 4 = (D : Int)) (h12 : kd / 12 % 2 = 0) :
    Calls Try.prog 9 #[.string s, .int .u8 kd, .int .u8 92, .string t, .bool b] w fun e w' => e = .returned (.bool true) ∧ Below w.heap.size w w' := by
  obtain ⟨B, HB⟩ : ∃ B, Hid (B = w.heap.size) := ⟨_, hid rfl⟩
  rw [← HB.out]
  have hB : B ≤ w.heap.size := Nat.le_of_eq HB.out
  obtain ⟨Y, HY⟩ : ∃ Y, Hid ([34] ++ escL b (ns s) = Y) := ⟨_, hid rfl⟩
  obtain ⟨n, HN⟩ : ∃ n, Hid (Y.length = n) := ⟨_, hid rfl⟩
  have hn : n ≤ 6 * s.size + 1 := by
    have := escL_len b (ns s)
    rw [← HN.out, ← HY.out, List.length_append]
    rw [ns_length] at this
    simp
    omega
  obtain ⟨Y4, HY4⟩ : ∃ Y4, Hid (Y ++ ([92, 117] ++ hexs.take D ++ [103]) = Y4) := ⟨_, hid rfl⟩
  have HN4 : Hid (Y4.length = n + 2 + D + 1) := show _ = _ by rw [← HY4.out, List.length_append, HN.out]; simp [hexs]; omega
  obtain ⟨Y5, HY5⟩ : ∃ Y5, Hid (Y4 ++ escL b (ns t) = Y5) := ⟨_, hid rfl⟩
  obtain ⟨n5, HN5⟩ : ∃ n5, Hid (Y5.length = n5) := ⟨_, hid rfl⟩
  have e5 : n5 = n + 2 + D + 1 + (escL b (ns t)).length := by rw [← HN5.out, ← HY5.out, List.length_append, HN4.out]
  have hn5 : n5 ≤ 6291500 := by
    have := escL_len b (ns t)
    rw [ns_length] at this
    omega
  have H4 : Hid (Y4.length ≤ 30000000) := show _ ≤ _ by rw [HN4.out]; omega
  obtain ⟨Y6, HY6⟩ : ∃ Y6, Hid (Y5 ++ [34] = Y6) := ⟨_, hid rfl⟩
  have HN6 : Hid (Y6.length = n5 + 1) := show _ = _ by rw [← HY6.out, List.length_append, HN5.out]; rfl
  obtain ⟨S, HS⟩ : ∃ S, Hid (strOfNums Y6 = S) := ⟨_, hid rfl⟩
  have e6 : Y6 = [34] ++ escL b (ns s) ++ (([92, 117] ++ hexs.take D ++ [103]) ++ (escL b (ns t) ++ [34])) := by rw [← HY6.out, ← HY5.out, ← HY4.out, ← HY.out]; simp
  have hbytes : ∀ x ∈ Y6, 0 ≤ x ∧ x < 256 := by
    rw [e6]
    intro x hx
    rcases List.mem_append.1 hx with hx | hx
    · rcases List.mem_append.1 hx with hx | hx
      · simp at hx; omega
      · exact escL_range b (ns s) (ns_range s) x hx
    · rcases List.mem_append.1 hx with hx | hx
      · simp only [List.mem_append] at hx
        rcases hx with (hx | hx) | hx
        · simp at hx; omega
        · have := List.mem_of_mem_take hx
          simp [hexs] at this; omega
        · simp at hx; omega
      · rcases List.mem_append.1 hx with hx | hx
        · exact escL_range b (ns t) (ns_range t) x hx
        · simp at hx; omega
  have hS : ns S = Y6 := by rw [← HS.out]; exact ns_of Y6 hbytes
  have hsz : S.size = n5 + 1 := by rw [← ns_length, hS, HN6.out]
  have HT : Hid (fin ((ns S).drop 1) 0 1 (-1) = (n5, (n : Int))) := show _ = _ by
    rw [hS, e6]
    refine bad_fin b (ns s) _ _ (ns_range s) n n5 (by rw [HY.out, HN.out]) ?_
    rw [e5]
    exact fault2 b (ns t) (ns_range t) 103 D n hD4 (by decide) (by decide) (by decide) (by decide) (by decide)
  have HRS : Hid (res (ns S) n5 (n : Int) = ((n5 : Int) + 1, (n : Int), false)) := show _ = _ by
    rw [hS, ← HY6.out, ← HN5.out]
    exact res_closed Y5 [] n
  have hS1 : S.size ≤ 9000000 := by omega
  have hS2 : 1 ≤ S.size := by omega
  have HO0 := fun (wx : World) => (show Hid (Own wx B (.slice none 0 0) []) from Own.nil wx B)
  have H34 : Hid (([34] : List Int).length ≤ 30000000) := show _ ≤ _ by simp
  have k0 : (kd % 3 == 0) = false := by simp; omega
  have k1 : (kd % 3 == 1) = false := by simp; omega
  obtain ⟨Ya, HYa⟩ : ∃ Ya, Hid (Y ++ [92, 117] = Ya) := ⟨_, hid rfl⟩
  have HNa : Hid (Ya.length = n + 2) := show _ = _ by rw [← HYa.out, List.length_append, HN.out]; rfl
  have HNk : Hid (∀ k, k ≤ 3 → (Ya ++ hexs.take k).length = n + 2 + k) := show ∀ k, _ from fun k hk => by rw [List.length_append, HNa.out]; simp [hexs]; omega
  have HE1 : Hid ((Ya ++ hexs.take 0) ++ [48] = Ya ++ hexs.take 1) := show _ = _ by simp [hexs]
  have HE2 : Hid ((Ya ++ hexs.take 1) ++ [97] = Ya ++ hexs.take 2) := show _ = _ by simp [hexs]
  have HE3 : Hid ((Ya ++ hexs.take 2) ++ [70] = Ya ++ hexs.take 3) := show _ = _ by simp [hexs]
  have HYx : Hid ((Ya ++ hexs.take D) ++ [103] = Y4) := show _ = _ by rw [← HY4.out, ← HYa.out]; simp [List.append_assoc]
  have HH : Hid (isH 92 = false) := show _ = _ by decide
  have g12 : (kd / 12 % 2 == 0) = true := by simp; omega
  have z1 : decide ((1048576 : Int) < s.size) = false := by simp; omega
  have z2 : decide ((1048576 : Int) < t.size) = false := by simp; omega
  have z3 : decide ((1048576 : Int) < (s.size : Int) + t.size) = false := by simp; omega
  clear hS hsz hbytes e5 e6
  clear hk h12
  go_enter Try.func9, Try.ntmps9
  go_wp2_with fail
  refine (bytes9_yes s t b kd 92 w h).mono ?_
  rintro e w' ⟨rfl, hx⟩
  obtain rfl := hx.symm
  clear hx
  go_wp2_with (at_builtin; refine app_one [34] rfl (.tmp 44) (.tmp 45) rfl B (.slice none 0 0) [] rfl (HO0 _) rfl rfl rfl hB [34] (hid rfl) 1 (hid rfl) _ (hid rfl) (by omega) ?_; intro a1 c1 w1 HO1 hl1 hcv1; clear hcv1)
  have hB1 : B ≤ w1.heap.size := Nat.le_trans hB hl1.size
  refine (esc_top a1 1 c1 s b [34] B w1 hB1 HO1 (by omega) H34 Y HY n HN).mono ?_
  rintro e w2 ⟨a2, c2, rfl, HO2, hl2⟩
  have hB2 : B ≤ w2.heap.size := Nat.le_trans hB1 hl2.size
  go_wp2_with (at_builtin; refine app_one [92, 117] rfl (.tmp 59) (.tmp 60) rfl B (.slice a2 n c2) Y rfl HO2 rfl rfl rfl hB2 Ya HYa (n + 2) HNa _ (hid rfl) (by omega) ?_; intro a3 c3 w3 HO3 hl3 hcv3; clear hcv3)
  have hB3 : B ≤ w3.heap.size := Nat.le_trans hB2 hl3.size
  go_loopw [11, 18] (fun u j wr => ∃ (k : Nat) (ax : Option Addr) (cx : Nat), j = .int .i64 k ∧ k ≤ D ∧ u = .slice ax (n + 2 + k) cx ∧ Hid (Own wr B (.slice ax (n + 2 + k) cx) (Ya ++ hexs.take k)) ∧ Below B w3 wr) (fun _ j _ => D - (intOf j).toNat)
  case atStart => exact ⟨0, a3, c3, rfl, by omega, rfl, by simpa using HO3, Below.refl _ _⟩
  case round =>
    obtain ⟨k, ax, cx, rfl, hkD, rfl, HOk, hlk⟩ := hrel
    have hBk : B ≤ wr.heap.size := Nat.le_trans hB3 hlk.size
    by_cases hlt : k < D
    · have hk3 : k = 0 ∨ k = 1 ∨ k = 2 := by omega
      rcases hk3 with rfl | rfl | rfl
      · have HNj := HNk.out 1 (by omega)
        have HNJ : Hid ((Ya ++ hexs.take 1).length = n + 2 + 1) := HNj
        clear HNj
        go_wp2_with (at_builtin; refine app_one [48] rfl (.tmp 67) (.tmp 71) rfl B (.slice ax (n + 2 + 0) cx) (Ya ++ hexs.take 0) rfl HOk rfl rfl rfl hBk (Ya ++ hexs.take 1) HE1 (n + 2 + 1) HNJ _ (hid rfl) (by omega) ?_; intro a5 c5 w5 HO5 hl5 hcv5; clear hcv5)
        go_roundw
        case rel => exact ⟨1, a5, c5, by go_num, by omega, rfl, HO5, hlk.trans hl5⟩
        case measure => simp [intOf]; omega
      · have HNj := HNk.out 2 (by omega)
        have HNJ : Hid ((Ya ++ hexs.take 2).length = n + 2 + 2) := HNj
        clear HNj
        go_wp2_with (at_builtin; refine app_one [97] rfl (.tmp 67) (.tmp 71) rfl B (.slice ax (n + 2 + 1) cx) (Ya ++ hexs.take 1) rfl HOk rfl rfl rfl hBk (Ya ++ hexs.take 2) HE2 (n + 2 + 2) HNJ _ (hid rfl) (by omega) ?_; intro a5 c5 w5 HO5 hl5 hcv5; clear hcv5)
        go_roundw
        case rel => exact ⟨2, a5, c5, by go_num, by omega, rfl, HO5, hlk.trans hl5⟩
        case measure => simp [intOf]; omega
      · have HNj := HNk.out 3 (by omega)
        have HNJ : Hid ((Ya ++ hexs.take 3).length = n + 2 + 3) := HNj
        clear HNj
        go_wp2_with (at_builtin; refine app_one [70] rfl (.tmp 67) (.tmp 71) rfl B (.slice ax (n + 2 + 2) cx) (Ya ++ hexs.take 2) rfl HOk rfl rfl rfl hBk (Ya ++ hexs.take 3) HE3 (n + 2 + 3) HNJ _ (hid rfl) (by omega) ?_; intro a5 c5 w5 HO5 hl5 hcv5; clear hcv5)
        go_roundw
        case rel => exact ⟨3, a5, c5, by go_num, by omega, rfl, HO5, hlk.trans hl5⟩
        case measure => simp [intOf]; omega
    · obtain rfl : k = D := by omega
      clear hlt hkD HE1 HE2 HE3 HNk
      go_wp2_with fail
      refine (isHexByte_is 92 false _ HH).mono ?_
      rintro e w' ⟨rfl, hx⟩
      obtain rfl := hx.symm
      clear hx
      go_wp2_with (at_builtin; refine app_one [103] rfl (.tmp 96) (.tmp 98) rfl B (.slice ax (n + 2 + k) cx) (Ya ++ hexs.take k) rfl HOk rfl rfl rfl hBk Y4 HYx (n + 2 + k + 1) HN4 _ (hid rfl) (by omega) ?_; intro a4 c4 w4 HO4 hl4x hcv4; clear hcv4)
      have hl4 : Below B w2 w4 := (hl3.trans hlk).trans hl4x
      have hB4 : B ≤ w4.heap.size := Nat.le_trans hB2 hl4.size
      refine (esc_top a4 (n + 2 + k + 1) c4 t b Y4 B w4 hB4 HO4 (by omega) H4 Y5 HY5 n5 HN5).mono ?_
      rintro e w5 ⟨a5, c5, rfl, HO5, hl5⟩
      have hB5 : B ≤ w5.heap.size := Nat.le_trans hB4 hl5.size
      go_wp2_with (at_builtin; refine app_one [34] rfl (.tmp 168) (.tmp 169) rfl B (.slice a5 n5 c5) Y5 rfl HO5 rfl rfl rfl hB5 Y6 HY6 (n5 + 1) HN6 S HS (by omega) ?_; intro a6 c6 w6 HO6 hl6 hcv6)
      refine (zzScan_any S w6 hS1 hS2 n5 n HT ((n5 : Int) + 1) n false HRS).mono ?_
      rintro e w' ⟨rfl, hx⟩
      obtain rfl := hx.symm
      clear hx
      go_wp2
      go_ret
      exact ⟨by simp, (((hl1.trans hl2).trans hl4).trans hl5).trans hl6⟩

set_option maxHeartbeats 4000000 in
set_option maxRecDepth 100000 in
theorem top9_unig10 (s t : ByteArray) (b : Bool) (kd : Int) (w : World) (h : s.size + t.size ≤ 1048576) (hk0 : 0 ≤ kd) (hk1 : kd < 256) (hk : kd % 3 = 2) (D : Nat) (hD4 : D < 4) (hD : kd / 3 % 4 = (D : Int)) (h12 : kd / 12 % 2 = 0) :
    Calls Try.prog 9 #[.string s, .int .u8 kd, .int .u8 10, .string t, .bool b] w fun e w' => e = .returned (.bool true) ∧ Below w.heap.size w w' := by
  obtain ⟨B, HB⟩ : ∃ B, Hid (B = w.heap.size) := ⟨_, hid rfl⟩
  rw [← HB.out]
  have hB : B ≤ w.heap.size := Nat.le_of_eq HB.out
  obtain ⟨Y, HY⟩ : ∃ Y, Hid ([34] ++ escL b (ns s) = Y) := ⟨_, hid rfl⟩
  obtain ⟨n, HN⟩ : ∃ n, Hid (Y.length = n) := ⟨_, hid rfl⟩
  have hn : n ≤ 6 * s.size + 1 := by
    have := escL_len b (ns s)
    rw [← HN.out, ← HY.out, List.length_append]
    rw [ns_length] at this
    simp
    omega
  obtain ⟨Y4, HY4⟩ : ∃ Y4, Hid (Y ++ ([92, 117] ++ hexs.take D ++ [103]) = Y4) := ⟨_, hid rfl⟩
  have HN4 : Hid (Y4.length = n + 2 + D + 1) := show _ = _ by rw [← HY4.out, List.length_append, HN.out]; simp [hexs]; omega
  obtain ⟨Y5, HY5⟩ : ∃ Y5, Hid (Y4 ++ escL b (ns t) = Y5) := ⟨_, hid rfl⟩
  obtain ⟨n5, HN5⟩ : ∃ n5, Hid (Y5.length = n5) := ⟨_, hid rfl⟩
  have e5 : n5 = n + 2 + D + 1 + (escL b (ns t)).length := by rw [← HN5.out, ← HY5.out, List.length_append, HN4.out]
  have hn5 : n5 ≤ 6291500 := by
    have := escL_len b (ns t)
    rw [ns_length] at this
    omega
  have H4 : Hid (Y4.length ≤ 30000000) := show _ ≤ _ by rw [HN4.out]; omega
  obtain ⟨Y6, HY6⟩ : ∃ Y6, Hid (Y5 ++ [34] = Y6) := ⟨_, hid rfl⟩
  have HN6 : Hid (Y6.length = n5 + 1) := show _ = _ by rw [← HY6.out, List.length_append, HN5.out]; rfl
  obtain ⟨S, HS⟩ : ∃ S, Hid (strOfNums Y6 = S) := ⟨_, hid rfl⟩
  have e6 : Y6 = [34] ++ escL b (ns s) ++ (([92, 117] ++ hexs.take D ++ [103]) ++ (escL b (ns t) ++ [34])) := by rw [← HY6.out, ← HY5.out, ← HY4.out, ← HY.out]; simp
  have hbytes : ∀ x ∈ Y6, 0 ≤ x ∧ x < 256 := by
    rw [e6]
    intro x hx
    rcases List.mem_append.1 hx with hx | hx
    · rcases List.mem_append.1 hx with hx | hx
      · simp at hx; omega
      · exact escL_range b (ns s) (ns_range s) x hx
    · rcases List.mem_append.1 hx with hx | hx
      · simp only [List.mem_append] at hx
        rcases hx with (hx | hx) | hx
        · simp at hx; omega
        · have := List.mem_of_mem_take hx
          simp [hexs] at this; omega
        · simp at hx; omega
      · rcases List.mem_append.1 hx with hx | hx
        · exact escL_range b (ns t) (ns_range t) x hx
        · simp at hx; omega
  have hS : ns S = Y6 := by rw [← HS.out]; exact ns_of Y6 hbytes
  have hsz : S.size = n5 + 1 := by rw [← ns_length, hS, HN6.out]
  have HT : Hid (fin ((ns S).drop 1) 0 1 (-1) = (n5, (n : Int))) := show _ = _ by
    rw [hS, e6]
    refine bad_fin b (ns s) _ _ (ns_range s) n n5 (by rw [HY.out, HN.out]) ?_
    rw [e5]
    exact fault2 b (ns t) (ns_range t) 103 D n hD4 (by decide) (by decide) (by decide) (by decide) (by decide)
  have HRS : Hid (res (ns S) n5 (n : Int) = ((n5 : Int) + 1, (n : Int), false)) := show _ = _ by
    rw [hS, ← HY6.out, ← HN5.out]
    exact res_closed Y5 [] n
  have hS1 : S.size ≤ 9000000 := by omega
  have hS2 : 1 ≤ S.size := by omega
  have HO0 := fun (wx : World) => (show Hid (Own wx B (.slice none 0 0) []) from Own.nil wx B)
  have H34 : Hid (([34] : List Int).length ≤ 30000000) := show _ ≤ _ by simp
  have k0 : (kd % 3 == 0) = false := by simp; omega
  have k1 : (kd % 3 == 1) = false := by simp; omega
  obtain ⟨Ya, HYa⟩ : ∃ Ya, Hid (Y ++ [92, 117] = Ya) := ⟨_, hid rfl⟩
  have HNa : Hid (Ya.length = n + 2) := show _ = _ by rw [← HYa.out, List.length_append, HN.out]; rfl
  have HNk : Hid (∀ k, k ≤ 3 → (Ya ++ hexs.take k).length = n + 2 + k) := show ∀ k, _ from fun k hk => by rw [List.length_append, HNa.out]; simp [hexs]; omega
  have HE1 : Hid ((Ya ++ hexs.take 0) ++ [48] = Ya ++ hexs.take 1) := show _ = _ by simp [hexs]
  have HE2 : Hid ((Ya ++ hexs.take 1) ++ [97] = Ya ++ hexs.take 2) := show _ = _ by simp [hexs]
  have HE3 : Hid ((Ya ++ hexs.take 2) ++ [70] = Ya ++ hexs.take 3) := show _ = _ by simp [hexs]
  have HYx : Hid ((Ya ++ hexs.take D) ++ [103] = Y4) := show _ = _ by rw [← HY4.out, ← HYa.out]; simp [List.append_assoc]
  have HH : Hid (isH 10 = false) := show _ = _ by decide
  have g12 : (kd / 12 % 2 == 0) = true := by simp; omega
  have z1 : decide ((1048576 : Int) < s.size) = false := by simp; omega
  have z2 : decide ((1048576 : Int) < t.size) = false := by simp; omega
  have z3 : decide ((1048576 : Int) < (s.size : Int) + t.size) = false := by simp; omega
  clear hS hsz hbytes e5 e6
  clear hk h12
  go_enter Try.func9, Try.ntmps9
  go_wp2_with fail
  refine (bytes9_yes s t b kd 10 w h).mono ?_
  rintro e w' ⟨rfl, hx⟩
  obtain rfl := hx.symm
  clear hx
  go_wp2_with (at_builtin; refine app_one [34] rfl (.tmp 44) (.tmp 45) rfl B (.slice none 0 0) [] rfl (HO0 _) rfl rfl rfl hB [34] (hid rfl) 1 (hid rfl) _ (hid rfl) (by omega) ?_; intro a1 c1 w1 HO1 hl1 hcv1; clear hcv1)
  have hB1 : B ≤ w1.heap.size := Nat.le_trans hB hl1.size
  refine (esc_top a1 1 c1 s b [34] B w1 hB1 HO1 (by omega) H34 Y HY n HN).mono ?_
  rintro e w2 ⟨a2, c2, rfl, HO2, hl2⟩
  have hB2 : B ≤ w2.heap.size := Nat.le_trans hB1 hl2.size
  go_wp2_with (at_builtin; refine app_one [92, 117] rfl (.tmp 59) (.tmp 60) rfl B (.slice a2 n c2) Y rfl HO2 rfl rfl rfl hB2 Ya HYa (n + 2) HNa _ (hid rfl) (by omega) ?_; intro a3 c3 w3 HO3 hl3 hcv3; clear hcv3)
  have hB3 : B ≤ w3.heap.size := Nat.le_trans hB2 hl3.size
  go_loopw [11, 18] (fun u j wr => ∃ (k : Nat) (ax : Option Addr) (cx : Nat), j = .int .i64 k ∧ k ≤ D ∧ u = .slice ax (n + 2 + k) cx ∧ Hid (Own wr B (.slice ax (n + 2 + k) cx) (Ya ++ hexs.take k)) ∧ Below B w3 wr) (fun _ j _ => D - (intOf j).toNat)
  case atStart => exact ⟨0, a3, c3, rfl, by omega, rfl, by simpa using HO3, Below.refl _ _⟩
  case round =>
    obtain ⟨k, ax, cx, rfl, hkD, rfl, HOk, hlk⟩ := hrel
    have hBk : B ≤ wr.heap.size := Nat.le_trans hB3 hlk.size
    by_cases hlt : k < D
    · have hk3 : k = 0 ∨ k = 1 ∨ k = 2 := by omega
      rcases hk3 with rfl | rfl | rfl
      · have HNj := HNk.out 1 (by omega)
        have HNJ : Hid ((Ya ++ hexs.take 1).length = n + 2 + 1) := HNj
        clear HNj
        go_wp2_with (at_builtin; refine app_one [48] rfl (.tmp 67) (.tmp 71) rfl B (.slice ax (n + 2 + 0) cx) (Ya ++ hexs.take 0) rfl HOk rfl rfl rfl hBk (Ya ++ hexs.take 1) HE1 (n + 2 + 1) HNJ _ (hid rfl) (by omega) ?_; intro a5 c5 w5 HO5 hl5 hcv5; clear hcv5)
        go_roundw
        case rel => exact ⟨1, a5, c5, by go_num, by omega, rfl, HO5, hlk.trans hl5⟩
        case measure => simp [intOf]; omega
      · have HNj := HNk.out 2 (by omega)
        have HNJ : Hid ((Ya ++ hexs.take 2).length = n + 2 + 2) := HNj
        clear HNj
        go_wp2_with (at_builtin; refine app_one [97] rfl (.tmp 67) (.tmp 71) rfl B (.slice ax (n + 2 + 1) cx) (Ya ++ hexs.take 1) rfl HOk rfl rfl rfl hBk (Ya ++ hexs.take 2) HE2 (n + 2 + 2) HNJ _ (hid rfl) (by omega) ?_; intro a5 c5 w5 HO5 hl5 hcv5; clear hcv5)
        go_roundw
        case rel => exact ⟨2, a5, c5, by go_num, by omega, rfl, HO5, hlk.trans hl5⟩
        case measure => simp [intOf]; omega
      · have HNj := HNk.out 3 (by omega)
        have HNJ : Hid ((Ya ++ hexs.take 3).length = n + 2 + 3) := HNj
        clear HNj
        go_wp2_with (at_builtin; refine app_one [70] rfl (.tmp 67) (.tmp 71) rfl B (.slice ax (n + 2 + 2) cx) (Ya ++ hexs.take 2) rfl HOk rfl rfl rfl hBk (Ya ++ hexs.take 3) HE3 (n + 2 + 3) HNJ _ (hid rfl) (by omega) ?_; intro a5 c5 w5 HO5 hl5 hcv5; clear hcv5)
        go_roundw
        case rel => exact ⟨3, a5, c5, by go_num, by omega, rfl, HO5, hlk.trans hl5⟩
        case measure => simp [intOf]; omega
    · obtain rfl : k = D := by omega
      clear hlt hkD HE1 HE2 HE3 HNk
      go_wp2_with fail
      refine (isHexByte_is 10 false _ HH).mono ?_
      rintro e w' ⟨rfl, hx⟩
      obtain rfl := hx.symm
      clear hx
      go_wp2_with (at_builtin; refine app_one [103] rfl (.tmp 96) (.tmp 98) rfl B (.slice ax (n + 2 + k) cx) (Ya ++ hexs.take k) rfl HOk rfl rfl rfl hBk Y4 HYx (n + 2 + k + 1) HN4 _ (hid rfl) (by omega) ?_; intro a4 c4 w4 HO4 hl4x hcv4; clear hcv4)
      have hl4 : Below B w2 w4 := (hl3.trans hlk).trans hl4x
      have hB4 : B ≤ w4.heap.size := Nat.le_trans hB2 hl4.size
      refine (esc_top a4 (n + 2 + k + 1) c4 t b Y4 B w4 hB4 HO4 (by omega) H4 Y5 HY5 n5 HN5).mono ?_
      rintro e w5 ⟨a5, c5, rfl, HO5, hl5⟩
      have hB5 : B ≤ w5.heap.size := Nat.le_trans hB4 hl5.size
      go_wp2_with (at_builtin; refine app_one [34] rfl (.tmp 168) (.tmp 169) rfl B (.slice a5 n5 c5) Y5 rfl HO5 rfl rfl rfl hB5 Y6 HY6 (n5 + 1) HN6 S HS (by omega) ?_; intro a6 c6 w6 HO6 hl6 hcv6)
      refine (zzScan_any S w6 hS1 hS2 n5 n HT ((n5 : Int) + 1) n false HRS).mono ?_
      rintro e w' ⟨rfl, hx⟩
      obtain rfl := hx.symm
      clear hx
      go_wp2
      go_ret
      exact ⟨by simp, (((hl1.trans hl2).trans hl4).trans hl5).trans hl6⟩

set_option maxHeartbeats 4000000 in
set_option maxRecDepth 100000 in
theorem top9_unig13 (s t : ByteArray) (b : Bool) (kd : Int) (w : World) (h : s.size + t.size ≤ 1048576) (hk0 : 0 ≤ kd) (hk1 : kd < 256) (hk : kd % 3 = 2) (D : Nat) (hD4 : D < 4) (hD : kd / 3 % 4 = (D : Int)) (h12 : kd / 12 % 2 = 0) :
    Calls Try.prog 9 #[.string s, .int .u8 kd, .int .u8 13, .string t, .bool b] w fun e w' => e = .returned (.bool true) ∧ Below w.heap.size w w' := by
  obtain ⟨B, HB⟩ : ∃ B, Hid (B = w.heap.size) := ⟨_, hid rfl⟩
  rw [← HB.out]
  have hB : B ≤ w.heap.size := Nat.le_of_eq HB.out
  obtain ⟨Y, HY⟩ : ∃ Y, Hid ([34] ++ escL b (ns s) = Y) := ⟨_, hid rfl⟩
  obtain ⟨n, HN⟩ : ∃ n, Hid (Y.length = n) := ⟨_, hid rfl⟩
  have hn : n ≤ 6 * s.size + 1 := by
    have := escL_len b (ns s)
    rw [← HN.out, ← HY.out, List.length_append]
    rw [ns_length] at this
    simp
    omega
  obtain ⟨Y4, HY4⟩ : ∃ Y4, Hid (Y ++ ([92, 117] ++ hexs.take D ++ [103]) = Y4) := ⟨_, hid rfl⟩
  have HN4 : Hid (Y4.length = n + 2 + D + 1) := show _ = _ by rw [← HY4.out, List.length_append, HN.out]; simp [hexs]; omega
  obtain ⟨Y5, HY5⟩ : ∃ Y5, Hid (Y4 ++ escL b (ns t) = Y5) := ⟨_, hid rfl⟩
  obtain ⟨n5, HN5⟩ : ∃ n5, Hid (Y5.length = n5) := ⟨_, hid rfl⟩
  have e5 : n5 = n + 2 + D + 1 + (escL b (ns t)).length := by rw [← HN5.out, ← HY5.out, List.length_append, HN4.out]
  have hn5 : n5 ≤ 6291500 := by
    have := escL_len b (ns t)
    rw [ns_length] at this
    omega
  have H4 : Hid (Y4.length ≤ 30000000) := show _ ≤ _ by rw [HN4.out]; omega
  obtain ⟨Y6, HY6⟩ : ∃ Y6, Hid (Y5 ++ [34] = Y6) := ⟨_, hid rfl⟩
  have HN6 : Hid (Y6.length = n5 + 1) := show _ = _ by rw [← HY6.out, List.length_append, HN5.out]; rfl
  obtain ⟨S, HS⟩ : ∃ S, Hid (strOfNums Y6 = S) := ⟨_, hid rfl⟩
  have e6 : Y6 = [34] ++ escL b (ns s) ++ (([92, 117] ++ hexs.take D ++ [103]) ++ (escL b (ns t) ++ [34])) := by rw [← HY6.out, ← HY5.out, ← HY4.out, ← HY.out]; simp
  have hbytes : ∀ x ∈ Y6, 0 ≤ x ∧ x < 256 := by
    rw [e6]
    intro x hx
    rcases List.mem_append.1 hx with hx | hx
    · rcases List.mem_append.1 hx with hx | hx
      · simp at hx; omega
      · exact escL_range b (ns s) (ns_range s) x hx
    · rcases List.mem_append.1 hx with hx | hx
      · simp only [List.mem_append] at hx
        rcases hx with (hx | hx) | hx
        · simp at hx; omega
        · have := List.mem_of_mem_take hx
          simp [hexs] at this; omega
        · simp at hx; omega
      · rcases List.mem_append.1 hx with hx | hx
        · exact escL_range b (ns t) (ns_range t) x hx
        · simp at hx; omega
  have hS : ns S = Y6 := by rw [← HS.out]; exact ns_of Y6 hbytes
  have hsz : S.size = n5 + 1 := by rw [← ns_length, hS, HN6.out]
  have HT : Hid (fin ((ns S).drop 1) 0 1 (-1) = (n5, (n : Int))) := show _ = _ by
    rw [hS, e6]
    refine bad_fin b (ns s) _ _ (ns_range s) n n5 (by rw [HY.out, HN.out]) ?_
    rw [e5]
    exact fault2 b (ns t) (ns_range t) 103 D n hD4 (by decide) (by decide) (by decide) (by decide) (by decide)
  have HRS : Hid (res (ns S) n5 (n : Int) = ((n5 : Int) + 1, (n : Int), false)) := show _ = _ by
    rw [hS, ← HY6.out, ← HN5.out]
    exact res_closed Y5 [] n
  have hS1 : S.size ≤ 9000000 := by omega
  have hS2 : 1 ≤ S.size := by omega
  have HO0 := fun (wx : World) => (show Hid (Own wx B (.slice none 0 0) []) from Own.nil wx B)
  have H34 : Hid (([34] : List Int).length ≤ 30000000) := show _ ≤ _ by simp
  have k0 : (kd % 3 == 0) = false := by simp; omega
  have k1 : (kd % 3 == 1) = false := by simp; omega
  obtain ⟨Ya, HYa⟩ : ∃ Ya, Hid (Y ++ [92, 117] = Ya) := ⟨_, hid rfl⟩
  have HNa : Hid (Ya.length = n + 2) := show _ = _ by rw [← HYa.out, List.length_append, HN.out]; rfl
  have HNk : Hid (∀ k, k ≤ 3 → (Ya ++ hexs.take k).length = n + 2 + k) := show ∀ k, _ from fun k hk => by rw [List.length_append, HNa.out]; simp [hexs]; omega
  have HE1 : Hid ((Ya ++ hexs.take 0) ++ [48] = Ya ++ hexs.take 1) := show _ = _ by simp [hexs]
  have HE2 : Hid ((Ya ++ hexs.take 1) ++ [97] = Ya ++ hexs.take 2) := show _ = _ by simp [hexs]
  have HE3 : Hid ((Ya ++ hexs.take 2) ++ [70] = Ya ++ hexs.take 3) := show _ = _ by simp [hexs]
  have HYx : Hid ((Ya ++ hexs.take D) ++ [103] = Y4) := show _ = _ by rw [← HY4.out, ← HYa.out]; simp [List.append_assoc]
  have HH : Hid (isH 13 = false) := show _ = _ by decide
  have g12 : (kd / 12 % 2 == 0) = true := by simp; omega
  have z1 : decide ((1048576 : Int) < s.size) = false := by simp; omega
  have z2 : decide ((1048576 : Int) < t.size) = false := by simp; omega
  have z3 : decide ((1048576 : Int) < (s.size : Int) + t.size) = false := by simp; omega
  clear hS hsz hbytes e5 e6
  clear hk h12
  go_enter Try.func9, Try.ntmps9
  go_wp2_with fail
  refine (bytes9_yes s t b kd 13 w h).mono ?_
  rintro e w' ⟨rfl, hx⟩
  obtain rfl := hx.symm
  clear hx
  go_wp2_with (at_builtin; refine app_one [34] rfl (.tmp 44) (.tmp 45) rfl B (.slice none 0 0) [] rfl (HO0 _) rfl rfl rfl hB [34] (hid rfl) 1 (hid rfl) _ (hid rfl) (by omega) ?_; intro a1 c1 w1 HO1 hl1 hcv1; clear hcv1)
  have hB1 : B ≤ w1.heap.size := Nat.le_trans hB hl1.size
  refine (esc_top a1 1 c1 s b [34] B w1 hB1 HO1 (by omega) H34 Y HY n HN).mono ?_
  rintro e w2 ⟨a2, c2, rfl, HO2, hl2⟩
  have hB2 : B ≤ w2.heap.size := Nat.le_trans hB1 hl2.size
  go_wp2_with (at_builtin; refine app_one [92, 117] rfl (.tmp 59) (.tmp 60) rfl B (.slice a2 n c2) Y rfl HO2 rfl rfl rfl hB2 Ya HYa (n + 2) HNa _ (hid rfl) (by omega) ?_; intro a3 c3 w3 HO3 hl3 hcv3; clear hcv3)
  have hB3 : B ≤ w3.heap.size := Nat.le_trans hB2 hl3.size
  go_loopw [11, 18] (fun u j wr => ∃ (k : Nat) (ax : Option Addr) (cx : Nat), j = .int .i64 k ∧ k ≤ D ∧ u = .slice ax (n + 2 + k) cx ∧ Hid (Own wr B (.slice ax (n + 2 + k) cx) (Ya ++ hexs.take k)) ∧ Below B w3 wr) (fun _ j _ => D - (intOf j).toNat)
  case atStart => exact ⟨0, a3, c3, rfl, by omega, rfl, by simpa using HO3, Below.refl _ _⟩
  case round =>
    obtain ⟨k, ax, cx, rfl, hkD, rfl, HOk, hlk⟩ := hrel
    have hBk : B ≤ wr.heap.size := Nat.le_trans hB3 hlk.size
    by_cases hlt : k < D
    · have hk3 : k = 0 ∨ k = 1 ∨ k = 2 := by omega
      rcases hk3 with rfl | rfl | rfl
      · have HNj := HNk.out 1 (by omega)
        have HNJ : Hid ((Ya ++ hexs.take 1).length = n + 2 + 1) := HNj
        clear HNj
        go_wp2_with (at_builtin; refine app_one [48] rfl (.tmp 67) (.tmp 71) rfl B (.slice ax (n + 2 + 0) cx) (Ya ++ hexs.take 0) rfl HOk rfl rfl rfl hBk (Ya ++ hexs.take 1) HE1 (n + 2 + 1) HNJ _ (hid rfl) (by omega) ?_; intro a5 c5 w5 HO5 hl5 hcv5; clear hcv5)
        go_roundw
        case rel => exact ⟨1, a5, c5, by go_num, by omega, rfl, HO5, hlk.trans hl5⟩
        case measure => simp [intOf]; omega
      · have HNj := HNk.out 2 (by omega)
        have HNJ : Hid ((Ya ++ hexs.take 2).length = n + 2 + 2) := HNj
        clear HNj
        go_wp2_with (at_builtin; refine app_one [97] rfl (.tmp 67) (.tmp 71) rfl B (.slice ax (n + 2 + 1) cx) (Ya ++ hexs.take 1) rfl HOk rfl rfl rfl hBk (Ya ++ hexs.take 2) HE2 (n + 2 + 2) HNJ _ (hid rfl) (by omega) ?_; intro a5 c5 w5 HO5 hl5 hcv5; clear hcv5)
        go_roundw
        case rel => exact ⟨2, a5, c5, by go_num, by omega, rfl, HO5, hlk.trans hl5⟩
        case measure => simp [intOf]; omega
      · have HNj := HNk.out 3 (by omega)
        have HNJ : Hid ((Ya ++ hexs.take 3).length = n + 2 + 3) := HNj
        clear HNj
        go_wp2_with (at_builtin; refine app_one [70] rfl (.tmp 67) (.tmp 71) rfl B (.slice ax (n + 2 + 2) cx) (Ya ++ hexs.take 2) rfl HOk rfl rfl rfl hBk (Ya ++ hexs.take 3) HE3 (n + 2 + 3) HNJ _ (hid rfl) (by omega) ?_; intro a5 c5 w5 HO5 hl5 hcv5; clear hcv5)
        go_roundw
        case rel => exact ⟨3, a5, c5, by go_num, by omega, rfl, HO5, hlk.trans hl5⟩
        case measure => simp [intOf]; omega
    · obtain rfl : k = D := by omega
      clear hlt hkD HE1 HE2 HE3 HNk
      go_wp2_with fail
      refine (isHexByte_is 13 false _ HH).mono ?_
      rintro e w' ⟨rfl, hx⟩
      obtain rfl := hx.symm
      clear hx
      go_wp2_with (at_builtin; refine app_one [103] rfl (.tmp 96) (.tmp 98) rfl B (.slice ax (n + 2 + k) cx) (Ya ++ hexs.take k) rfl HOk rfl rfl rfl hBk Y4 HYx (n + 2 + k + 1) HN4 _ (hid rfl) (by omega) ?_; intro a4 c4 w4 HO4 hl4x hcv4; clear hcv4)
      have hl4 : Below B w2 w4 := (hl3.trans hlk).trans hl4x
      have hB4 : B ≤ w4.heap.size := Nat.le_trans hB2 hl4.size
      refine (esc_top a4 (n + 2 + k + 1) c4 t b Y4 B w4 hB4 HO4 (by omega) H4 Y5 HY5 n5 HN5).mono ?_
      rintro e w5 ⟨a5, c5, rfl, HO5, hl5⟩
      have hB5 : B ≤ w5.heap.size := Nat.le_trans hB4 hl5.size
      go_wp2_with (at_builtin; refine app_one [34] rfl (.tmp 168) (.tmp 169) rfl B (.slice a5 n5 c5) Y5 rfl HO5 rfl rfl rfl hB5 Y6 HY6 (n5 + 1) HN6 S HS (by omega) ?_; intro a6 c6 w6 HO6 hl6 hcv6)
      refine (zzScan_any S w6 hS1 hS2 n5 n HT ((n5 : Int) + 1) n false HRS).mono ?_
      rintro e w' ⟨rfl, hx⟩
      obtain rfl := hx.symm
      clear hx
      go_wp2
      go_ret
      exact ⟨by simp, (((hl1.trans hl2).trans hl4).trans hl5).trans hl6⟩

end Go.Proofs.Qxb6001225a
