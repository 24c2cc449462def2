/-
  FnScanStringFirstBadOffset: a backslash before a byte that is replaced by x (second part).
-/
import Derived.Test.Qxb6001225aTop9a
namespace Go.Proofs.Qxb6001225a
open Go.RowKit

set_option maxHeartbeats 4000000 in
set_option maxRecDepth 100000 in
theorem top9_escx114 (s t : ByteArray) (b : Bool) (kd : Int) (w : World) (h : s.size + t.size ≤ 1048576) (hk0 : 0 ≤ kd) (hk1 : kd < 256) (hk : kd % 3 = 1) :
    Calls Try.prog 9 #[.string s, .int .u8 kd, .int .u8 114, .string t, .bool b] w fun e w' => e = .returned (.bool true) ∧ Below w.heap.size w w' := by
  obtain ⟨B, HB⟩ : ∃ B, Hid (B = w.heap.size) := ⟨_, hid rfl⟩
  rw [← HB.out]
  have hB : B ≤ w.heap.size := Nat.le_of_eq HB.out
  obtain ⟨Y, HY⟩ : ∃ Y, Hid ([34] ++ escL b (ns s) = Y) := ⟨_, hid rfl⟩
  obtain ⟨n, HN⟩ : ∃ n, Hid (Y.length = n) := ⟨_, hid rfl⟩
  have hn : n ≤ 6 * s.size + 1 := by
    have := escL_len b (ns s)
    rw [← HN.out, ← HY.out, List.length_append]
    rw [ns_length] at this
    simp
    omega
  obtain ⟨Y4, HY4⟩ : ∃ Y4, Hid (Y ++ [92, 120] = Y4) := ⟨_, hid rfl⟩
  have HN4 : Hid (Y4.length = n + 2) := show _ = _ by rw [← HY4.out, List.length_append, HN.out]; rfl
  obtain ⟨Y5, HY5⟩ : ∃ Y5, Hid (Y4 ++ escL b (ns t) = Y5) := ⟨_, hid rfl⟩
  obtain ⟨n5, HN5⟩ : ∃ n5, Hid (Y5.length = n5) := ⟨_, hid rfl⟩
  have e5 : n5 = n + 2 + (escL b (ns t)).length := by rw [← HN5.out, ← HY5.out, List.length_append, HN4.out]
  have hn5 : n5 ≤ 6291500 := by
    have := escL_len b (ns t)
    rw [ns_length] at this
    omega
  have H4 : Hid (Y4.length ≤ 30000000) := show _ ≤ _ by rw [HN4.out]; omega
  obtain ⟨Y6, HY6⟩ : ∃ Y6, Hid (Y5 ++ [34] = Y6) := ⟨_, hid rfl⟩
  have HN6 : Hid (Y6.length = n5 + 1) := show _ = _ by rw [← HY6.out, List.length_append, HN5.out]; rfl
  obtain ⟨S, HS⟩ : ∃ S, Hid (strOfNums Y6 = S) := ⟨_, hid rfl⟩
  have e6 : Y6 = [34] ++ escL b (ns s) ++ ([92, 120] ++ (escL b (ns t) ++ [34])) := by rw [← HY6.out, ← HY5.out, ← HY4.out, ← HY.out]; simp
  have hbytes : ∀ x ∈ Y6, 0 ≤ x ∧ x < 256 := by
    rw [e6]
    intro x hx
    rcases List.mem_append.1 hx with hx | hx
    · rcases List.mem_append.1 hx with hx | hx
      · simp at hx; omega
      · exact escL_range b (ns s) (ns_range s) x hx
    · rcases List.mem_append.1 hx with hx | hx
      · simp at hx; omega
      · rcases List.mem_append.1 hx with hx | hx
        · exact escL_range b (ns t) (ns_range t) x hx
        · simp at hx; omega
  have hS : ns S = Y6 := by rw [← HS.out]; exact ns_of Y6 hbytes
  have hsz : S.size = n5 + 1 := by rw [← ns_length, hS, HN6.out]
  have HT : Hid (fin ((ns S).drop 1) 0 1 (-1) = (n5, (n : Int))) := show _ = _ by
    rw [hS, e6]
    refine bad_fin b (ns s) _ _ (ns_range s) n n5 (by rw [HY.out, HN.out]) ?_
    rw [e5]
    exact fault1 b (ns t) (ns_range t) 120 n (by decide) (by decide) (by decide) (by decide)
  have HRS : Hid (res (ns S) n5 (n : Int) = ((n5 : Int) + 1, (n : Int), false)) := show _ = _ by
    rw [hS, ← HY6.out, ← HN5.out]
    exact res_closed Y5 [] n
  have hS1 : S.size ≤ 9000000 := by omega
  have hS2 : 1 ≤ S.size := by omega
  have HO0 := fun (wx : World) => (show Hid (Own wx B (.slice none 0 0) []) from Own.nil wx B)
  have H34 : Hid (([34] : List Int).length ≤ 30000000) := show _ ≤ _ by simp
  have k0 : (kd % 3 == 0) = false := by simp; omega
  have k1 : (kd % 3 == 1) = true := by simp; omega
  clear hS hsz hbytes e5 e6
  clear hk
  go_enter Try.func9, Try.ntmps9
  go_wp2_with fail
  refine (bytes9_yes s t b kd 114 w h).mono ?_
  rintro e w' ⟨rfl, hx⟩
  obtain rfl := hx.symm
  clear hx
  go_wp2_with (at_builtin; refine app_one [34] rfl (.tmp 44) (.tmp 45) rfl B (.slice none 0 0) [] rfl (HO0 _) rfl rfl rfl hB [34] (hid rfl) 1 (hid rfl) _ (hid rfl) (by omega) ?_; intro a1 c1 w1 HO1 hl1 hcv1; clear hcv1)
  have hB1 : B ≤ w1.heap.size := Nat.le_trans hB hl1.size
  refine (esc_top a1 1 c1 s b [34] B w1 hB1 HO1 (by omega) H34 Y HY n HN).mono ?_
  rintro e w2 ⟨a2, c2, rfl, HO2, hl2⟩
  have hB2 : B ≤ w2.heap.size := Nat.le_trans hB1 hl2.size
  go_wp2_with (at_builtin; refine app_one [92, 120] rfl (.tmp 159) (.tmp 161) rfl B (.slice a2 n c2) Y rfl HO2 rfl rfl rfl hB2 Y4 HY4 (n + 2) HN4 _ (hid rfl) (by omega) ?_; intro a4 c4 w4 HO4 hl4 hcv4; clear hcv4)
  have hB4 : B ≤ w4.heap.size := Nat.le_trans hB2 hl4.size
  refine (esc_top a4 (n + 2) c4 t b Y4 B w4 hB4 HO4 (by omega) H4 Y5 HY5 n5 HN5).mono ?_
  rintro e w5 ⟨a5, c5, rfl, HO5, hl5⟩
  have hB5 : B ≤ w5.heap.size := Nat.le_trans hB4 hl5.size
  go_wp2_with (at_builtin; refine app_one [34] rfl (.tmp 168) (.tmp 169) rfl B (.slice a5 n5 c5) Y5 rfl HO5 rfl rfl rfl hB5 Y6 HY6 (n5 + 1) HN6 S HS (by omega) ?_; intro a6 c6 w6 HO6 hl6 hcv6)
  refine (zzScan_any S w6 hS1 hS2 n5 n HT ((n5 : Int) + 1) n false HRS).mono ?_
  rintro e w' ⟨rfl, hx⟩
  obtain rfl := hx.symm
  clear hx
  go_wp2
  go_ret
  exact ⟨by simp, (((hl1.trans hl2).trans hl4).trans hl5).trans hl6⟩

set_option maxHeartbeats 4000000 in
set_option maxRecDepth 100000 in
theorem top9_escx116 (s t : ByteArray) (b : Bool) (kd : Int) (w : World) (h : s.size + t.size ≤ 1048576) (hk0 : 0 ≤ kd) (hk1 : kd < 256) (hk : kd % 3 = 1) :
    Calls Try.prog 9 #[.string s, .int .u8 kd, .int .u8 116, .string t, .bool b] w fun e w' => e = .returned (.bool true) ∧ Below w.heap.size w w' := by
  obtain ⟨B, HB⟩ : ∃ B, Hid (B = w.heap.size) := ⟨_, hid rfl⟩
  rw [← HB.out]
  have hB : B ≤ w.heap.size := Nat.le_of_eq HB.out
  obtain ⟨Y, HY⟩ : ∃ Y, Hid ([34] ++ escL b (ns s) = Y) := ⟨_, hid rfl⟩
  obtain ⟨n, HN⟩ : ∃ n, Hid (Y.length = n) := ⟨_, hid rfl⟩
  have hn : n ≤ 6 * s.size + 1 := by
    have := escL_len b (ns s)
    rw [← HN.out, ← HY.out, List.length_append]
    rw [ns_length] at this
    simp
    omega
  obtain ⟨Y4, HY4⟩ : ∃ Y4, Hid (Y ++ [92, 120] = Y4) := ⟨_, hid rfl⟩
  have HN4 : Hid (Y4.length = n + 2) := show _ = _ by rw [← HY4.out, List.length_append, HN.out]; rfl
  obtain ⟨Y5, HY5⟩ : ∃ Y5, Hid (Y4 ++ escL b (ns t) = Y5) := ⟨_, hid rfl⟩
  obtain ⟨n5, HN5⟩ : ∃ n5, Hid (Y5.length = n5) := ⟨_, hid rfl⟩
  have e5 : n5 = n + 2 + (escL b (ns t)).length := by rw [← HN5.out, ← HY5.out, List.length_append, HN4.out]
  have hn5 : n5 ≤ 6291500 := by
    have := escL_len b (ns t)
    rw [ns_length] at this
    omega
  have H4 : Hid (Y4.length ≤ 30000000) := show _ ≤ _ by rw [HN4.out]; omega
  obtain ⟨Y6, HY6⟩ : ∃ Y6, Hid (Y5 ++ [34] = Y6) := ⟨_, hid rfl⟩
  have HN6 : Hid (Y6.length = n5 + 1) := show _ = _ by rw [← HY6.out, List.length_append, HN5.out]; rfl
  obtain ⟨S, HS⟩ : ∃ S, Hid (strOfNums Y6 = S) := ⟨_, hid rfl⟩
  have e6 : Y6 = [34] ++ escL b (ns s) ++ ([92, 120] ++ (escL b (ns t) ++ [34])) := by rw [← HY6.out, ← HY5.out, ← HY4.out, ← HY.out]; simp
  have hbytes : ∀ x ∈ Y6, 0 ≤ x ∧ x < 256 := by
    rw [e6]
    intro x hx
    rcases List.mem_append.1 hx with hx | hx
    · rcases List.mem_append.1 hx with hx | hx
      · simp at hx; omega
      · exact escL_range b (ns s) (ns_range s) x hx
    · rcases List.mem_append.1 hx with hx | hx
      · simp at hx; omega
      · rcases List.mem_append.1 hx with hx | hx
        · exact escL_range b (ns t) (ns_range t) x hx
        · simp at hx; omega
  have hS : ns S = Y6 := by rw [← HS.out]; exact ns_of Y6 hbytes
  have hsz : S.size = n5 + 1 := by rw [← ns_length, hS, HN6.out]
  have HT : Hid (fin ((ns S).drop 1) 0 1 (-1) = (n5, (n : Int))) := show _ = _ by
    rw [hS, e6]
    refine bad_fin b (ns s) _ _ (ns_range s) n n5 (by rw [HY.out, HN.out]) ?_
    rw [e5]
    exact fault1 b (ns t) (ns_range t) 120 n (by decide) (by decide) (by decide) (by decide)
  have HRS : Hid (res (ns S) n5 (n : Int) = ((n5 : Int) + 1, (n : Int), false)) := show _ = _ by
    rw [hS, ← HY6.out, ← HN5.out]
    exact res_closed Y5 [] n
  have hS1 : S.size ≤ 9000000 := by omega
  have hS2 : 1 ≤ S.size := by omega
  have HO0 := fun (wx : World) => (show Hid (Own wx B (.slice none 0 0) []) from Own.nil wx B)
  have H34 : Hid (([34] : List Int).length ≤ 30000000) := show _ ≤ _ by simp
  have k0 : (kd % 3 == 0) = false := by simp; omega
  have k1 : (kd % 3 == 1) = true := by simp; omega
  clear hS hsz hbytes e5 e6
  clear hk
  go_enter Try.func9, Try.ntmps9
  go_wp2_with fail
  refine (bytes9_yes s t b kd 116 w h).mono ?_
  rintro e w' ⟨rfl, hx⟩
  obtain rfl := hx.symm
  clear hx
  go_wp2_with (at_builtin; refine app_one [34] rfl (.tmp 44) (.tmp 45) rfl B (.slice none 0 0) [] rfl (HO0 _) rfl rfl rfl hB [34] (hid rfl) 1 (hid rfl) _ (hid rfl) (by omega) ?_; intro a1 c1 w1 HO1 hl1 hcv1; clear hcv1)
  have hB1 : B ≤ w1.heap.size := Nat.le_trans hB hl1.size
  refine (esc_top a1 1 c1 s b [34] B w1 hB1 HO1 (by omega) H34 Y HY n HN).mono ?_
  rintro e w2 ⟨a2, c2, rfl, HO2, hl2⟩
  have hB2 : B ≤ w2.heap.size := Nat.le_trans hB1 hl2.size
  go_wp2_with (at_builtin; refine app_one [92, 120] rfl (.tmp 159) (.tmp 161) rfl B (.slice a2 n c2) Y rfl HO2 rfl rfl rfl hB2 Y4 HY4 (n + 2) HN4 _ (hid rfl) (by omega) ?_; intro a4 c4 w4 HO4 hl4 hcv4; clear hcv4)
  have hB4 : B ≤ w4.heap.size := Nat.le_trans hB2 hl4.size
  refine (esc_top a4 (n + 2) c4 t b Y4 B w4 hB4 HO4 (by omega) H4 Y5 HY5 n5 HN5).mono ?_
  rintro e w5 ⟨a5, c5, rfl, HO5, hl5⟩
  have hB5 : B ≤ w5.heap.size := Nat.le_trans hB4 hl5.size
  go_wp2_with (at_builtin; refine app_one [34] rfl (.tmp 168) (.tmp 169) rfl B (.slice a5 n5 c5) Y5 rfl HO5 rfl rfl rfl hB5 Y6 HY6 (n5 + 1) HN6 S HS (by omega) ?_; intro a6 c6 w6 HO6 hl6 hcv6)
  refine (zzScan_any S w6 hS1 hS2 n5 n HT ((n5 : Int) + 1) n false HRS).mono ?_
  rintro e w' ⟨rfl, hx⟩
  obtain rfl := hx.symm
  clear hx
  go_wp2
  go_ret
  exact ⟨by simp, (((hl1.trans hl2).trans hl4).trans hl5).trans hl6⟩

set_option maxHeartbeats 4000000 in
set_option maxRecDepth 100000 in
theorem top9_escx117 (s t : ByteArray) (b : Bool) (kd : Int) (w : World) (h : s.size + t.size ≤ 1048576) (hk0 : 0 ≤ kd) (hk1 : kd < 256) (hk : kd % 3 = 1) :
    Calls Try.prog 9 #[.string s, .int .u8 kd, .int .u8 117, .string t, .bool b] w fun e w' => e = .returned (.bool true) ∧ Below w.heap.size w w' := by
  obtain ⟨B, HB⟩ : ∃ B, Hid (B = w.heap.size) := ⟨_, hid rfl⟩
  rw [← HB.out]
  have hB : B ≤ w.heap.size := Nat.le_of_eq HB.out
  obtain ⟨Y, HY⟩ : ∃ Y, Hid ([34] ++ escL b (ns s) = Y) := ⟨_, hid rfl⟩
  obtain ⟨n, HN⟩ : ∃ n, Hid (Y.length = n) := ⟨_, hid rfl⟩
  have hn : n ≤ 6 * s.size + 1 := by
    have := escL_len b (ns s)
    rw [← HN.out, ← HY.out, List.length_append]
    rw [ns_length] at this
    simp
    omega
  obtain ⟨Y4, HY4⟩ : ∃ Y4, Hid (Y ++ [92, 120] = Y4) := ⟨_, hid rfl⟩
  have HN4 : Hid (Y4.length = n + 2) := show _ = _ by rw [← HY4.out, List.length_append, HN.out]; rfl
  obtain ⟨Y5, HY5⟩ : ∃ Y5, Hid (Y4 ++ escL b (ns t) = Y5) := ⟨_, hid rfl⟩
  obtain ⟨n5, HN5⟩ : ∃ n5, Hid (Y5.length = n5) := ⟨_, hid rfl⟩
  have e5 : n5 = n + 2 + (escL b (ns t)).length := by rw [← HN5.out, ← HY5.out, List.length_append, HN4.out]
  have hn5 : n5 ≤ 6291500 := by
    have := escL_len b (ns t)
    rw [ns_length] at this
    omega
  have H4 : Hid (Y4.length ≤ 30000000) := show _ ≤ _ by rw [HN4.out]; omega
  obtain ⟨Y6, HY6⟩ : ∃ Y6, Hid (Y5 ++ [34] = Y6) := ⟨_, hid rfl⟩
  have HN6 : Hid (Y6.length = n5 + 1) := show _ = _ by rw [← HY6.out, List.length_append, HN5.out]; rfl
  obtain ⟨S, HS⟩ : ∃ S, Hid (strOfNums Y6 = S) := ⟨_, hid rfl⟩
  have e6 : Y6 = [34] ++ escL b (ns s) ++ ([92, 120] ++ (escL b (ns t) ++ [34])) := by rw [← HY6.out, ← HY5.out, ← HY4.out, ← HY.out]; simp
  have hbytes : ∀ x ∈ Y6, 0 ≤ x ∧ x < 256 := by
    rw [e6]
    intro x hx
    rcases List.mem_append.1 hx with hx | hx
    · rcases List.mem_append.1 hx with hx | hx
      · simp at hx; omega
      · exact escL_range b (ns s) (ns_range s) x hx
    · rcases List.mem_append.1 hx with hx | hx
      · simp at hx; omega
      · rcases List.mem_append.1 hx with hx | hx
        · exact escL_range b (ns t) (ns_range t) x hx
        · simp at hx; omega
  have hS : ns S = Y6 := by rw [← HS.out]; exact ns_of Y6 hbytes
  have hsz : S.size = n5 + 1 := by rw [← ns_length, hS, HN6.out]
  have HT : Hid (fin ((ns S).drop 1) 0 1 (-1) = (n5, (n : Int))) := show _ = _ by
    rw [hS, e6]
    refine bad_fin b (ns s) _ _ (ns_range s) n n5 (by rw [HY.out, HN.out]) ?_
    rw [e5]
    exact fault1 b (ns t) (ns_range t) 120 n (by decide) (by decide) (by decide) (by decide)
  have HRS : Hid (res (ns S) n5 (n : Int) = ((n5 : Int) + 1, (n : Int), false)) := show _ = _ by
    rw [hS, ← HY6.out, ← HN5.out]
    exact res_closed Y5 [] n
  have hS1 : S.size ≤ 9000000 := by omega
  have hS2 : 1 ≤ S.size := by omega
  have HO0 := fun (wx : World) => (show Hid (Own wx B (.slice none 0 0) []) from Own.nil wx B)
  have H34 : Hid (([34] : List Int).length ≤ 30000000) := show _ ≤ _ by simp
  have k0 : (kd % 3 == 0) = false := by simp; omega
  have k1 : (kd % 3 == 1) = true := by simp; omega
  clear hS hsz hbytes e5 e6
  clear hk
  go_enter Try.func9, Try.ntmps9
  go_wp2_with fail
  refine (bytes9_yes s t b kd 117 w h).mono ?_
  rintro e w' ⟨rfl, hx⟩
  obtain rfl := hx.symm
  clear hx
  go_wp2_with (at_builtin; refine app_one [34] rfl (.tmp 44) (.tmp 45) rfl B (.slice none 0 0) [] rfl (HO0 _) rfl rfl rfl hB [34] (hid rfl) 1 (hid rfl) _ (hid rfl) (by omega) ?_; intro a1 c1 w1 HO1 hl1 hcv1; clear hcv1)
  have hB1 : B ≤ w1.heap.size := Nat.le_trans hB hl1.size
  refine (esc_top a1 1 c1 s b [34] B w1 hB1 HO1 (by omega) H34 Y HY n HN).mono ?_
  rintro e w2 ⟨a2, c2, rfl, HO2, hl2⟩
  have hB2 : B ≤ w2.heap.size := Nat.le_trans hB1 hl2.size
  go_wp2_with (at_builtin; refine app_one [92, 120] rfl (.tmp 159) (.tmp 161) rfl B (.slice a2 n c2) Y rfl HO2 rfl rfl rfl hB2 Y4 HY4 (n + 2) HN4 _ (hid rfl) (by omega) ?_; intro a4 c4 w4 HO4 hl4 hcv4; clear hcv4)
  have hB4 : B ≤ w4.heap.size := Nat.le_trans hB2 hl4.size
  refine (esc_top a4 (n + 2) c4 t b Y4 B w4 hB4 HO4 (by omega) H4 Y5 HY5 n5 HN5).mono ?_
  rintro e w5 ⟨a5, c5, rfl, HO5, hl5⟩
  have hB5 : B ≤ w5.heap.size := Nat.le_trans hB4 hl5.size
  go_wp2_with (at_builtin; refine app_one [34] rfl (.tmp 168) (.tmp 169) rfl B (.slice a5 n5 c5) Y5 rfl HO5 rfl rfl rfl hB5 Y6 HY6 (n5 + 1) HN6 S HS (by omega) ?_; intro a6 c6 w6 HO6 hl6 hcv6)
  refine (zzScan_any S w6 hS1 hS2 n5 n HT ((n5 : Int) + 1) n false HRS).mono ?_
  rintro e w' ⟨rfl, hx⟩
  obtain rfl := hx.symm
  clear hx
  go_wp2
  go_ret
  exact ⟨by simp, (((hl1.trans hl2).trans hl4).trans hl5).trans hl6⟩

set_option maxHeartbeats 4000000 in
set_option maxRecDepth 100000 in
theorem top9_escx10 (s t : ByteArray) (b : Bool) (kd : Int) (w : World) (h : s.size + t.size ≤ 1048576) (hk0 : 0 ≤ kd) (hk1 : kd < 256) (hk : kd % 3 = 1) :
    Calls Try.prog 9 #[.string s, .int .u8 kd, .int .u8 10, .string t, .bool b] w fun e w' => e = .returned (.bool true) ∧ Below w.heap.size w w' := by
  obtain ⟨B, HB⟩ : ∃ B, Hid (B = w.heap.size) := ⟨_, hid rfl⟩
  rw [← HB.out]
  have hB : B ≤ w.heap.size := Nat.le_of_eq HB.out
  obtain ⟨Y, HY⟩ : ∃ Y, Hid ([34] ++ escL b (ns s) = Y) := ⟨_, hid rfl⟩
  obtain ⟨n, HN⟩ : ∃ n, Hid (Y.length = n) := ⟨_, hid rfl⟩
  have hn : n ≤ 6 * s.size + 1 := by
    have := escL_len b (ns s)
    rw [← HN.out, ← HY.out, List.length_append]
    rw [ns_length] at this
    simp
    omega
  obtain ⟨Y4, HY4⟩ : ∃ Y4, Hid (Y ++ [92, 120] = Y4) := ⟨_, hid rfl⟩
  have HN4 : Hid (Y4.length = n + 2) := show _ = _ by rw [← HY4.out, List.length_append, HN.out]; rfl
  obtain ⟨Y5, HY5⟩ : ∃ Y5, Hid (Y4 ++ escL b (ns t) = Y5) := ⟨_, hid rfl⟩
  obtain ⟨n5, HN5⟩ : ∃ n5, Hid (Y5.length = n5) := ⟨_, hid rfl⟩
  have e5 : n5 = n + 2 + (escL b (ns t)).length := by rw [← HN5.out, ← HY5.out, List.length_append, HN4.out]
  have hn5 : n5 ≤ 6291500 := by
    have := escL_len b (ns t)
    rw [ns_length] at this
    omega
  have H4 : Hid (Y4.length ≤ 30000000) := show _ ≤ _ by rw [HN4.out]; omega
  obtain ⟨Y6, HY6⟩ : ∃ Y6, Hid (Y5 ++ [34] = Y6) := ⟨_, hid rfl⟩
  have HN6 : Hid (Y6.length = n5 + 1) := show _ = _ by rw [← HY6.out, List.length_append, HN5.out]; rfl
  obtain ⟨S, HS⟩ : ∃ S, Hid (strOfNums Y6 = S) := ⟨_, hid rfl⟩
  have e6 : Y6 = [34] ++ escL b (ns s) ++ ([92, 120] ++ (escL b (ns t) ++ [34])) := by rw [← HY6.out, ← HY5.out, ← HY4.out, ← HY.out]; simp
  have hbytes : ∀ x ∈ Y6, 0 ≤ x ∧ x < 256 := by
    rw [e6]
    intro x hx
    rcases List.mem_append.1 hx with hx | hx
    · rcases List.mem_append.1 hx with hx | hx
      · simp at hx; omega
      · exact escL_range b (ns s) (ns_range s) x hx
    · rcases List.mem_append.1 hx with hx | hx
      · simp at hx; omega
      · rcases List.mem_append.1 hx with hx | hx
        · exact escL_range b (ns t) (ns_range t) x hx
        · simp at hx; omega
  have hS : ns S = Y6 := by rw [← HS.out]; exact ns_of Y6 hbytes
  have hsz : S.size = n5 + 1 := by rw [← ns_length, hS, HN6.out]
  have HT : Hid (fin ((ns S).drop 1) 0 1 (-1) = (n5, (n : Int))) := show _ = _ by
    rw [hS, e6]
    refine bad_fin b (ns s) _ _ (ns_range s) n n5 (by rw [HY.out, HN.out]) ?_
    rw [e5]
    exact fault1 b (ns t) (ns_range t) 120 n (by decide) (by decide) (by decide) (by decide)
  have HRS : Hid (res (ns S) n5 (n : Int) = ((n5 : Int) + 1, (n : Int), false)) := show _ = _ by
    rw [hS, ← HY6.out, ← HN5.out]
    exact res_closed Y5 [] n
  have hS1 : S.size ≤ 9000000 := by omega
  have hS2 : 1 ≤ S.size := by omega
  have HO0 := fun (wx : World) => (show Hid (Own wx B (.slice none 0 0) []) from Own.nil wx B)
  have H34 : Hid (([34] : List Int).length ≤ 30000000) := show _ ≤ _ by simp
  have k0 : (kd % 3 == 0) = false := by simp; omega
  have k1 : (kd % 3 == 1) = true := by simp; omega
  clear hS hsz hbytes e5 e6
  clear hk
  go_enter Try.func9, Try.ntmps9
  go_wp2_with fail
  refine (bytes9_yes s t b kd 10 w h).mono ?_
  rintro e w' ⟨rfl, hx⟩
  obtain rfl := hx.symm
  clear hx
  go_wp2_with (at_builtin; refine app_one [34] rfl (.tmp 44) (.tmp 45) rfl B (.slice none 0 0) [] rfl (HO0 _) rfl rfl rfl hB [34] (hid rfl) 1 (hid rfl) _ (hid rfl) (by omega) ?_; intro a1 c1 w1 HO1 hl1 hcv1; clear hcv1)
  have hB1 : B ≤ w1.heap.size := Nat.le_trans hB hl1.size
  refine (esc_top a1 1 c1 s b [34] B w1 hB1 HO1 (by omega) H34 Y HY n HN).mono ?_
  rintro e w2 ⟨a2, c2, rfl, HO2, hl2⟩
  have hB2 : B ≤ w2.heap.size := Nat.le_trans hB1 hl2.size
  go_wp2_with (at_builtin; refine app_one [92, 120] rfl (.tmp 159) (.tmp 161) rfl B (.slice a2 n c2) Y rfl HO2 rfl rfl rfl hB2 Y4 HY4 (n + 2) HN4 _ (hid rfl) (by omega) ?_; intro a4 c4 w4 HO4 hl4 hcv4; clear hcv4)
  have hB4 : B ≤ w4.heap.size := Nat.le_trans hB2 hl4.size
  refine (esc_top a4 (n + 2) c4 t b Y4 B w4 hB4 HO4 (by omega) H4 Y5 HY5 n5 HN5).mono ?_
  rintro e w5 ⟨a5, c5, rfl, HO5, hl5⟩
  have hB5 : B ≤ w5.heap.size := Nat.le_trans hB4 hl5.size
  go_wp2_with (at_builtin; refine app_one [34] rfl (.tmp 168) (.tmp 169) rfl B (.slice a5 n5 c5) Y5 rfl HO5 rfl rfl rfl hB5 Y6 HY6 (n5 + 1) HN6 S HS (by omega) ?_; intro a6 c6 w6 HO6 hl6 hcv6)
  refine (zzScan_any S w6 hS1 hS2 n5 n HT ((n5 : Int) + 1) n false HRS).mono ?_
  rintro e w' ⟨rfl, hx⟩
  obtain rfl := hx.symm
  clear hx
  go_wp2
  go_ret
  exact ⟨by simp, (((hl1.trans hl2).trans hl4).trans hl5).trans hl6⟩

set_option maxHeartbeats 4000000 in
set_option maxRecDepth 100000 in
theorem top9_escx13 (s t : ByteArray) (b : Bool) (kd : Int) (w : World) (h : s.size + t.size ≤ 1048576) (hk0 : 0 ≤ kd) (hk1 : kd < 256) (hk : kd % 3 = 1) :
    Calls Try.prog 9 #[.string s, .int .u8 kd, .int .u8 13, .string t, .bool b] w fun e w' => e = .returned (.bool true) ∧ Below w.heap.size w w' := by
  obtain ⟨B, HB⟩ : ∃ B, Hid (B = w.heap.size) := ⟨_, hid rfl⟩
  rw [← HB.out]
  have hB : B ≤ w.heap.size := Nat.le_of_eq HB.out
  obtain ⟨Y, HY⟩ : ∃ Y, Hid ([34] ++ escL b (ns s) = Y) := ⟨_, hid rfl⟩
  obtain ⟨n, HN⟩ : ∃ n, Hid (Y.length = n) := ⟨_, hid rfl⟩
  have hn : n ≤ 6 * s.size + 1 := by
    have := escL_len b (ns s)
    rw [← HN.out, ← HY.out, List.length_append]
    rw [ns_length] at this
    simp
    omega
  obtain ⟨Y4, HY4⟩ : ∃ Y4, Hid (Y ++ [92, 120] = Y4) := ⟨_, hid rfl⟩
  have HN4 : Hid (Y4.length = n + 2) := show _ = _ by rw [← HY4.out, List.length_append, HN.out]; rfl
  obtain ⟨Y5, HY5⟩ : ∃ Y5, Hid (Y4 ++ escL b (ns t) = Y5) := ⟨_, hid rfl⟩
  obtain ⟨n5, HN5⟩ : ∃ n5, Hid (Y5.length = n5) := ⟨_, hid rfl⟩
  have e5 : n5 = n + 2 + (escL b (ns t)).length := by rw [← HN5.out, ← HY5.out, List.length_append, HN4.out]
  have hn5 : n5 ≤ 6291500 := by
    have := escL_len b (ns t)
    rw [ns_length] at this
    omega
  have H4 : Hid (Y4.length ≤ 30000000) := show _ ≤ _ by rw [HN4.out]; omega
  obtain ⟨Y6, HY6⟩ : ∃ Y6, Hid (Y5 ++ [34] = Y6) := ⟨_, hid rfl⟩
  have HN6 : Hid (Y6.length = n5 + 1) := show _ = _ by rw [← HY6.out, List.length_append, HN5.out]; rfl
  obtain ⟨S, HS⟩ : ∃ S, Hid (strOfNums Y6 = S) := ⟨_, hid rfl⟩
  have e6 : Y6 = [34] ++ escL b (ns s) ++ ([92, 120] ++ (escL b (ns t) ++ [34])) := by rw [← HY6.out, ← HY5.out, ← HY4.out, ← HY.out]; simp
  have hbytes : ∀ x ∈ Y6, 0 ≤ x ∧ x < 256 := by
    rw [e6]
    intro x hx
    rcases List.mem_append.1 hx with hx | hx
    · rcases List.mem_append.1 hx with hx | hx
      · simp at hx; omega
      · exact escL_range b (ns s) (ns_range s) x hx
    · rcases List.mem_append.1 hx with hx | hx
      · simp at hx; omega
      · rcases List.mem_append.1 hx with hx | hx
        · exact escL_range b (ns t) (ns_range t) x hx
        · simp at hx; omega
  have hS : ns S = Y6 := by rw [← HS.out]; exact ns_of Y6 hbytes
  have hsz : S.size = n5 + 1 := by rw [← ns_length, hS, HN6.out]
  have HT : Hid (fin ((ns S).drop 1) 0 1 (-1) = (n5, (n : Int))) := show _ = _ by
    rw [hS, e6]
    refine bad_fin b (ns s) _ _ (ns_range s) n n5 (by rw [HY.out, HN.out]) ?_
    rw [e5]
    exact fault1 b (ns t) (ns_range t) 120 n (by decide) (by decide) (by decide) (by decide)
  have HRS : Hid (res (ns S) n5 (n : Int) = ((n5 : Int) + 1, (n : Int), false)) := show _ = _ by
    rw [hS, ← HY6.out, ← HN5.out]
    exact res_closed Y5 [] n
  have hS1 : S.size ≤ 9000000 := by omega
  have hS2 : 1 ≤ S.size := by omega
  have HO0 := fun (wx : World) => (show Hid (Own wx B (.slice none 0 0) []) from Own.nil wx B)
  have H34 : Hid (([34] : List Int).length ≤ 30000000) := show _ ≤ _ by simp
  have k0 : (kd % 3 == 0) = false := by simp; omega
  have k1 : (kd % 3 == 1) = true := by simp; omega
  clear hS hsz hbytes e5 e6
  clear hk
  go_enter Try.func9, Try.ntmps9
  go_wp2_with fail
  refine (bytes9_yes s t b kd 13 w h).mono ?_
  rintro e w' ⟨rfl, hx⟩
  obtain rfl := hx.symm
  clear hx
  go_wp2_with (at_builtin; refine app_one [34] rfl (.tmp 44) (.tmp 45) rfl B (.slice none 0 0) [] rfl (HO0 _) rfl rfl rfl hB [34] (hid rfl) 1 (hid rfl) _ (hid rfl) (by omega) ?_; intro a1 c1 w1 HO1 hl1 hcv1; clear hcv1)
  have hB1 : B ≤ w1.heap.size := Nat.le_trans hB hl1.size
  refine (esc_top a1 1 c1 s b [34] B w1 hB1 HO1 (by omega) H34 Y HY n HN).mono ?_
  rintro e w2 ⟨a2, c2, rfl, HO2, hl2⟩
  have hB2 : B ≤ w2.heap.size := Nat.le_trans hB1 hl2.size
  go_wp2_with (at_builtin; refine app_one [92, 120] rfl (.tmp 159) (.tmp 161) rfl B (.slice a2 n c2) Y rfl HO2 rfl rfl rfl hB2 Y4 HY4 (n + 2) HN4 _ (hid rfl) (by omega) ?_; intro a4 c4 w4 HO4 hl4 hcv4; clear hcv4)
  have hB4 : B ≤ w4.heap.size := Nat.le_trans hB2 hl4.size
  refine (esc_top a4 (n + 2) c4 t b Y4 B w4 hB4 HO4 (by omega) H4 Y5 HY5 n5 HN5).mono ?_
  rintro e w5 ⟨a5, c5, rfl, HO5, hl5⟩
  have hB5 : B ≤ w5.heap.size := Nat.le_trans hB4 hl5.size
  go_wp2_with (at_builtin; refine app_one [34] rfl (.tmp 168) (.tmp 169) rfl B (.slice a5 n5 c5) Y5 rfl HO5 rfl rfl rfl hB5 Y6 HY6 (n5 + 1) HN6 S HS (by omega) ?_; intro a6 c6 w6 HO6 hl6 hcv6)
  refine (zzScan_any S w6 hS1 hS2 n5 n HT ((n5 : Int) + 1) n false HRS).mono ?_
  rintro e w' ⟨rfl, hx⟩
  obtain rfl := hx.symm
  clear hx
  go_wp2
  go_ret
  exact ⟨by simp, (((hl1.trans hl2).trans hl4).trans hl5).trans hl6⟩

end Go.Proofs.Qxb6001225a
