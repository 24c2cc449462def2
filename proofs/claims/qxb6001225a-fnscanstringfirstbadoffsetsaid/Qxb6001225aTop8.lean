/-
  FnScanStringQuotedRoundTrip: the law's own walk.
-/
import Derived.Test.Qxb6001225aTopA
namespace Go.Proofs.Qxb6001225a
open Go.RowKit

theorem hid {p : Prop} (h : p) : Hid p := h

theorem top8_big (s t : ByteArray) (b : Bool) (c : Int) (w : World) (hs : s.size ≤ maxLen) (ht : t.size ≤ maxLen) (h : 1048576 < s.size + t.size) :
    Calls Try.prog 8 #[.string s, .bool b, .int .u8 c, .string t] w fun e w' => e = .returned (.bool true) ∧ w' = w := by
  go_enter Try.func8, Try.ntmps8
  go_wp2_with fail
  refine (bytes8_no s t b c w hs ht h).mono ?_
  rintro e w' ⟨rfl, rfl⟩
  go_wp2
  go_ret
  exact ⟨rfl, rfl⟩

set_option maxHeartbeats 4000000 in
set_option maxRecDepth 100000 in
theorem top8_quote (s t : ByteArray) (b : Bool) (c : Int) (w : World) (h : s.size + t.size ≤ 1048576) (hc0 : 0 ≤ c) (hc1 : c < 256) (hc : c % 4 = 0) :
    Calls Try.prog 8 #[.string s, .bool b, .int .u8 c, .string t] w fun e w' => e = .returned (.bool true) ∧ Below w.heap.size w w' := by
  obtain ⟨B, HB⟩ : ∃ B, Hid (B = w.heap.size) := ⟨_, hid rfl⟩
  rw [← HB.out]
  have hB : B ≤ w.heap.size := Nat.le_of_eq HB.out
  obtain ⟨Y, HY⟩ : ∃ Y, Hid ([34] ++ escL b (ns s) = Y) := ⟨_, hid rfl⟩
  obtain ⟨n, HN⟩ : ∃ n, Hid (Y.length = n) := ⟨_, hid rfl⟩
  have hn : n ≤ 6 * 1048576 + 1 := by
    have := escL_len b (ns s)
    rw [← HN.out, ← HY.out, List.length_append]
    rw [ns_length] at this
    simp
    omega
  obtain ⟨Y3, HY3⟩ : ∃ Y3, Hid (Y ++ [34] = Y3) := ⟨_, hid rfl⟩
  have HN3 : Hid (Y3.length = n + 1) := show _ = _ by rw [← HY3.out, List.length_append, HN.out]; rfl
  obtain ⟨Y4, HY4⟩ : ∃ Y4, Hid (Y3 ++ ns t = Y4) := ⟨_, hid rfl⟩
  have HN4 : Hid (Y4.length = n + 1 + t.size) := show _ = _ by rw [← HY4.out, List.length_append, HN3.out, ns_length]
  obtain ⟨S, HS⟩ : ∃ S, Hid (strOfNums Y4 = S) := ⟨_, hid rfl⟩
  have hbytes : ∀ x ∈ Y4, 0 ≤ x ∧ x < 256 := by
    rw [← HY4.out, ← HY3.out, ← HY.out]
    intro x hx
    simp only [List.mem_append, List.mem_singleton] at hx
    rcases hx with ((hx | hx) | hx) | hx
    · omega
    · exact escL_range b (ns s) (ns_range s) x hx
    · omega
    · exact ns_range t x hx
  have hS : ns S = Y4 := by rw [← HS.out]; exact ns_of Y4 hbytes
  have hsz : S.size = n + 1 + t.size := by rw [← ns_length, hS, HN4.out]
  have e4 : Y4 = [34] ++ escL b (ns s) ++ (34 :: ns t) := by rw [← HY4.out, ← HY3.out, ← HY.out]; simp
  have HT : Hid (fin ((ns S).drop 1) 0 1 (-1) = (n, -1)) := show _ = _ by
    rw [hS, e4, text_fin b (ns s) _ (ns_range s), fin_quote, HY.out, HN.out]
  have HRS : Hid (res (ns S) n (-1) = ((n : Int) + 1, -1, false)) := show _ = _ by
    rw [hS, e4, HY.out, ← HN.out]
    exact res_closed Y (ns t) (-1)
  clear e4
  have hS1 : S.size ≤ 9000000 := by omega
  have hS2 : 1 ≤ S.size := by omega
  have HO0 := fun (wx : World) => (show Hid (Own wx B (.slice none 0 0) []) from Own.nil wx B)
  have H34 : Hid (([34] : List Int).length ≤ 30000000) := show _ ≤ _ by simp
  have g0 : (c % 4 == 0) = true := by simp; omega
  have g1 : (c % 4 == 1) = false := by simp; omega
  have g2 : (c % 4 == 2) = false := by simp; omega
  clear hS hsz hbytes hc
  go_enter Try.func8, Try.ntmps8
  go_wp2_with fail
  refine (bytes8_yes s t b c w h).mono ?_
  rintro e w' ⟨rfl, hx⟩
  obtain rfl := hx.symm
  clear hx
  go_wp2_with (at_builtin; refine app_one [34] rfl (.tmp 34) (.tmp 35) rfl B (.slice none 0 0) [] rfl (HO0 _) rfl rfl rfl hB [34] (hid rfl) 1 (hid rfl) _ (hid rfl) (by omega) ?_; intro a1 c1 w1 HO1 hb1 hcv1; clear hcv1)
  have hB1 : B ≤ w1.heap.size := Nat.le_trans hB hb1.size
  refine (esc_top a1 1 c1 s b [34] B w1 hB1 HO1 (by omega) H34 Y HY n HN).mono ?_
  rintro e w2 ⟨a2, c2, rfl, HO2, hb2⟩
  have hB2 : B ≤ w2.heap.size := Nat.le_trans hB1 hb2.size
  go_wp2_with (first | (at_builtin; refine app_one [34] rfl (.tmp 47) (.tmp 48) rfl B (.slice a2 n c2) Y rfl HO2 rfl rfl rfl hB2 Y3 HY3 (n + 1) HN3 _ (hid rfl) (by omega) ?_; intro a3 c3 w3 HO3 hb3 hcv3; clear hcv3; have hB3 : B ≤ w3.heap.size := Nat.le_trans hB2 hb3.size) | (at_builtin; refine app_str rfl (.tmp 50) (.tmp 51) rfl B (.slice a3 (n + 1) c3) Y3 rfl HO3 t rfl hB3 Y4 HY4 (n + 1 + t.size) HN4 S HS (by omega) ?_; intro a4 c4 w4 HO4 hb4 hcv4))
  refine (zzScan_any S w4 hS1 hS2 n (-1) HT ((n : Int) + 1) (-1) false HRS).mono ?_
  rintro e w' ⟨rfl, hx⟩
  obtain rfl := hx.symm
  clear hx
  go_wp2
  go_ret
  exact ⟨by simp, (((hb1.trans hb2).trans hb3).trans hb4)⟩

set_option maxHeartbeats 4000000 in
set_option maxRecDepth 100000 in
theorem top8_lf (s t : ByteArray) (b : Bool) (c : Int) (w : World) (h : s.size + t.size ≤ 1048576) (hc0 : 0 ≤ c) (hc1 : c < 256) (hc : c % 4 = 1) :
    Calls Try.prog 8 #[.string s, .bool b, .int .u8 c, .string t] w fun e w' => e = .returned (.bool true) ∧ Below w.heap.size w w' := by
  obtain ⟨B, HB⟩ : ∃ B, Hid (B = w.heap.size) := ⟨_, hid rfl⟩
  rw [← HB.out]
  have hB : B ≤ w.heap.size := Nat.le_of_eq HB.out
  obtain ⟨Y, HY⟩ : ∃ Y, Hid ([34] ++ escL b (ns s) = Y) := ⟨_, hid rfl⟩
  obtain ⟨n, HN⟩ : ∃ n, Hid (Y.length = n) := ⟨_, hid rfl⟩
  have hn : n ≤ 6 * 1048576 + 1 := by
    have := escL_len b (ns s)
    rw [← HN.out, ← HY.out, List.length_append]
    rw [ns_length] at this
    simp
    omega
  obtain ⟨Y3, HY3⟩ : ∃ Y3, Hid (Y ++ [10] = Y3) := ⟨_, hid rfl⟩
  have HN3 : Hid (Y3.length = n + 1) := show _ = _ by rw [← HY3.out, List.length_append, HN.out]; rfl
  obtain ⟨Y4, HY4⟩ : ∃ Y4, Hid (Y3 ++ ns t = Y4) := ⟨_, hid rfl⟩
  have HN4 : Hid (Y4.length = n + 1 + t.size) := show _ = _ by rw [← HY4.out, List.length_append, HN3.out, ns_length]
  obtain ⟨S, HS⟩ : ∃ S, Hid (strOfNums Y4 = S) := ⟨_, hid rfl⟩
  have hbytes : ∀ x ∈ Y4, 0 ≤ x ∧ x < 256 := by
    rw [← HY4.out, ← HY3.out, ← HY.out]
    intro x hx
    simp only [List.mem_append, List.mem_singleton] at hx
    rcases hx with ((hx | hx) | hx) | hx
    · omega
    · exact escL_range b (ns s) (ns_range s) x hx
    · omega
    · exact ns_range t x hx
  have hS : ns S = Y4 := by rw [← HS.out]; exact ns_of Y4 hbytes
  have hsz : S.size = n + 1 + t.size := by rw [← ns_length, hS, HN4.out]
  have e4 : Y4 = [34] ++ escL b (ns s) ++ (10 :: ns t) := by rw [← HY4.out, ← HY3.out, ← HY.out]; simp
  have HT : Hid (fin ((ns S).drop 1) 0 1 (-1) = (n, -1)) := show _ = _ by
    rw [hS, e4, text_fin b (ns s) _ (ns_range s), fin_lf, HY.out, HN.out]
  have HRS : Hid (res (ns S) n (-1) = ((n : Int), (n : Int), true)) := show _ = _ by
    rw [hS, e4, HY.out, ← HN.out]
    exact res_open Y (ns t) 10 (by decide)
  clear e4
  have hS1 : S.size ≤ 9000000 := by omega
  have hS2 : 1 ≤ S.size := by omega
  have HO0 := fun (wx : World) => (show Hid (Own wx B (.slice none 0 0) []) from Own.nil wx B)
  have H34 : Hid (([34] : List Int).length ≤ 30000000) := show _ ≤ _ by simp
  have g0 : (c % 4 == 0) = false := by simp; omega
  have g1 : (c % 4 == 1) = true := by simp; omega
  have g2 : (c % 4 == 2) = false := by simp; omega
  clear hS hsz hbytes hc
  go_enter Try.func8, Try.ntmps8
  go_wp2_with fail
  refine (bytes8_yes s t b c w h).mono ?_
  rintro e w' ⟨rfl, hx⟩
  obtain rfl := hx.symm
  clear hx
  go_wp2_with (at_builtin; refine app_one [34] rfl (.tmp 34) (.tmp 35) rfl B (.slice none 0 0) [] rfl (HO0 _) rfl rfl rfl hB [34] (hid rfl) 1 (hid rfl) _ (hid rfl) (by omega) ?_; intro a1 c1 w1 HO1 hb1 hcv1; clear hcv1)
  have hB1 : B ≤ w1.heap.size := Nat.le_trans hB hb1.size
  refine (esc_top a1 1 c1 s b [34] B w1 hB1 HO1 (by omega) H34 Y HY n HN).mono ?_
  rintro e w2 ⟨a2, c2, rfl, HO2, hb2⟩
  have hB2 : B ≤ w2.heap.size := Nat.le_trans hB1 hb2.size
  go_wp2_with (first | (at_builtin; refine app_one [10] rfl (.tmp 55) (.tmp 56) rfl B (.slice a2 n c2) Y rfl HO2 rfl rfl rfl hB2 Y3 HY3 (n + 1) HN3 _ (hid rfl) (by omega) ?_; intro a3 c3 w3 HO3 hb3 hcv3; clear hcv3; have hB3 : B ≤ w3.heap.size := Nat.le_trans hB2 hb3.size) | (at_builtin; refine app_str rfl (.tmp 58) (.tmp 59) rfl B (.slice a3 (n + 1) c3) Y3 rfl HO3 t rfl hB3 Y4 HY4 (n + 1 + t.size) HN4 S HS (by omega) ?_; intro a4 c4 w4 HO4 hb4 hcv4))
  refine (zzScan_any S w4 hS1 hS2 n (-1) HT (n : Int) (n : Int) true HRS).mono ?_
  rintro e w' ⟨rfl, hx⟩
  obtain rfl := hx.symm
  clear hx
  go_wp2
  go_ret
  exact ⟨by simp, (((hb1.trans hb2).trans hb3).trans hb4)⟩

set_option maxHeartbeats 4000000 in
set_option maxRecDepth 100000 in
theorem top8_cr (s t : ByteArray) (b : Bool) (c : Int) (w : World) (h : s.size + t.size ≤ 1048576) (hc0 : 0 ≤ c) (hc1 : c < 256) (hc : c % 4 = 2) :
    Calls Try.prog 8 #[.string s, .bool b, .int .u8 c, .string t] w fun e w' => e = .returned (.bool true) ∧ Below w.heap.size w w' := by
  obtain ⟨B, HB⟩ : ∃ B, Hid (B = w.heap.size) := ⟨_, hid rfl⟩
  rw [← HB.out]
  have hB : B ≤ w.heap.size := Nat.le_of_eq HB.out
  obtain ⟨Y, HY⟩ : ∃ Y, Hid ([34] ++ escL b (ns s) = Y) := ⟨_, hid rfl⟩
  obtain ⟨n, HN⟩ : ∃ n, Hid (Y.length = n) := ⟨_, hid rfl⟩
  have hn : n ≤ 6 * 1048576 + 1 := by
    have := escL_len b (ns s)
    rw [← HN.out, ← HY.out, List.length_append]
    rw [ns_length] at this
    simp
    omega
  obtain ⟨Y3, HY3⟩ : ∃ Y3, Hid (Y ++ [13] = Y3) := ⟨_, hid rfl⟩
  have HN3 : Hid (Y3.length = n + 1) := show _ = _ by rw [← HY3.out, List.length_append, HN.out]; rfl
  obtain ⟨Y4, HY4⟩ : ∃ Y4, Hid (Y3 ++ ns t = Y4) := ⟨_, hid rfl⟩
  have HN4 : Hid (Y4.length = n + 1 + t.size) := show _ = _ by rw [← HY4.out, List.length_append, HN3.out, ns_length]
  obtain ⟨S, HS⟩ : ∃ S, Hid (strOfNums Y4 = S) := ⟨_, hid rfl⟩
  have hbytes : ∀ x ∈ Y4, 0 ≤ x ∧ x < 256 := by
    rw [← HY4.out, ← HY3.out, ← HY.out]
    intro x hx
    simp only [List.mem_append, List.mem_singleton] at hx
    rcases hx with ((hx | hx) | hx) | hx
    · omega
    · exact escL_range b (ns s) (ns_range s) x hx
    · omega
    · exact ns_range t x hx
  have hS : ns S = Y4 := by rw [← HS.out]; exact ns_of Y4 hbytes
  have hsz : S.size = n + 1 + t.size := by rw [← ns_length, hS, HN4.out]
  have e4 : Y4 = [34] ++ escL b (ns s) ++ (13 :: ns t) := by rw [← HY4.out, ← HY3.out, ← HY.out]; simp
  have HT : Hid (fin ((ns S).drop 1) 0 1 (-1) = (n, -1)) := show _ = _ by
    rw [hS, e4, text_fin b (ns s) _ (ns_range s), fin_cr, HY.out, HN.out]
  have HRS : Hid (res (ns S) n (-1) = ((n : Int), (n : Int), true)) := show _ = _ by
    rw [hS, e4, HY.out, ← HN.out]
    exact res_open Y (ns t) 13 (by decide)
  clear e4
  have hS1 : S.size ≤ 9000000 := by omega
  have hS2 : 1 ≤ S.size := by omega
  have HO0 := fun (wx : World) => (show Hid (Own wx B (.slice none 0 0) []) from Own.nil wx B)
  have H34 : Hid (([34] : List Int).length ≤ 30000000) := show _ ≤ _ by simp
  have g0 : (c % 4 == 0) = false := by simp; omega
  have g1 : (c % 4 == 1) = false := by simp; omega
  have g2 : (c % 4 == 2) = true := by simp; omega
  clear hS hsz hbytes hc
  go_enter Try.func8, Try.ntmps8
  go_wp2_with fail
  refine (bytes8_yes s t b c w h).mono ?_
  rintro e w' ⟨rfl, hx⟩
  obtain rfl := hx.symm
  clear hx
  go_wp2_with (at_builtin; refine app_one [34] rfl (.tmp 34) (.tmp 35) rfl B (.slice none 0 0) [] rfl (HO0 _) rfl rfl rfl hB [34] (hid rfl) 1 (hid rfl) _ (hid rfl) (by omega) ?_; intro a1 c1 w1 HO1 hb1 hcv1; clear hcv1)
  have hB1 : B ≤ w1.heap.size := Nat.le_trans hB hb1.size
  refine (esc_top a1 1 c1 s b [34] B w1 hB1 HO1 (by omega) H34 Y HY n HN).mono ?_
  rintro e w2 ⟨a2, c2, rfl, HO2, hb2⟩
  have hB2 : B ≤ w2.heap.size := Nat.le_trans hB1 hb2.size
  go_wp2_with (first | (at_builtin; refine app_one [13] rfl (.tmp 63) (.tmp 64) rfl B (.slice a2 n c2) Y rfl HO2 rfl rfl rfl hB2 Y3 HY3 (n + 1) HN3 _ (hid rfl) (by omega) ?_; intro a3 c3 w3 HO3 hb3 hcv3; clear hcv3; have hB3 : B ≤ w3.heap.size := Nat.le_trans hB2 hb3.size) | (at_builtin; refine app_str rfl (.tmp 66) (.tmp 67) rfl B (.slice a3 (n + 1) c3) Y3 rfl HO3 t rfl hB3 Y4 HY4 (n + 1 + t.size) HN4 S HS (by omega) ?_; intro a4 c4 w4 HO4 hb4 hcv4))
  refine (zzScan_any S w4 hS1 hS2 n (-1) HT (n : Int) (n : Int) true HRS).mono ?_
  rintro e w' ⟨rfl, hx⟩
  obtain rfl := hx.symm
  clear hx
  go_wp2
  go_ret
  exact ⟨by simp, (((hb1.trans hb2).trans hb3).trans hb4)⟩

set_option maxHeartbeats 4000000 in
set_option maxRecDepth 100000 in
theorem top8_end (s t : ByteArray) (b : Bool) (c : Int) (w : World) (h : s.size + t.size ≤ 1048576) (hc0 : 0 ≤ c) (hc1 : c < 256) (hc : c % 4 = 3) :
    Calls Try.prog 8 #[.string s, .bool b, .int .u8 c, .string t] w fun e w' => e = .returned (.bool true) ∧ Below w.heap.size w w' := by
  obtain ⟨B, HB⟩ : ∃ B, Hid (B = w.heap.size) := ⟨_, hid rfl⟩
  rw [← HB.out]
  have hB : B ≤ w.heap.size := Nat.le_of_eq HB.out
  obtain ⟨Y, HY⟩ : ∃ Y, Hid ([34] ++ escL b (ns s) = Y) := ⟨_, hid rfl⟩
  obtain ⟨n, HN⟩ : ∃ n, Hid (Y.length = n) := ⟨_, hid rfl⟩
  have hn : n ≤ 6 * 1048576 + 1 := by
    have := escL_len b (ns s)
    rw [← HN.out, ← HY.out, List.length_append]
    rw [ns_length] at this
    simp
    omega
  obtain ⟨S, HS⟩ : ∃ S, Hid (strOfNums Y = S) := ⟨_, hid rfl⟩
  have hbytes : ∀ x ∈ Y, 0 ≤ x ∧ x < 256 := by
    rw [← HY.out]
    intro x hx
    simp only [List.mem_append, List.mem_singleton] at hx
    rcases hx with hx | hx
    · omega
    · exact escL_range b (ns s) (ns_range s) x hx
  have hS : ns S = Y := by rw [← HS.out]; exact ns_of Y hbytes
  have hn1 : 1 ≤ n := by rw [← HN.out, ← HY.out, List.length_append]; simp
  have hsz : S.size = n := by rw [← ns_length, hS, HN.out]
  have HT : Hid (fin ((ns S).drop 1) 0 1 (-1) = (n, -1)) := show _ = _ by
    have := text_fin b (ns s) [] (ns_range s)
    rw [List.append_nil, HY.out, HN.out] at this
    rw [hS, this]; rfl
  have HRS : Hid (res (ns S) n (-1) = ((n : Int), (n : Int), true)) := show _ = _ by
    rw [hS, ← HN.out]
    exact res_end Y
  have hS1 : S.size ≤ 9000000 := by omega
  have hS2 : 1 ≤ S.size := by omega
  have HO0 := fun (wx : World) => (show Hid (Own wx B (.slice none 0 0) []) from Own.nil wx B)
  have H34 : Hid (([34] : List Int).length ≤ 30000000) := show _ ≤ _ by simp
  have g0 : (c % 4 == 0) = false := by simp; omega
  have g1 : (c % 4 == 1) = false := by simp; omega
  have g2 : (c % 4 == 2) = false := by simp; omega
  clear hS hsz hbytes hc
  go_enter Try.func8, Try.ntmps8
  go_wp2_with fail
  refine (bytes8_yes s t b c w h).mono ?_
  rintro e w' ⟨rfl, hx⟩
  obtain rfl := hx.symm
  clear hx
  go_wp2_with (at_builtin; refine app_one [34] rfl (.tmp 34) (.tmp 35) rfl B (.slice none 0 0) [] rfl (HO0 _) rfl rfl rfl hB [34] (hid rfl) 1 (hid rfl) _ (hid rfl) (by omega) ?_; intro a1 c1 w1 HO1 hb1 hcv1; clear hcv1)
  have hB1 : B ≤ w1.heap.size := Nat.le_trans hB hb1.size
  refine (esc_top a1 1 c1 s b [34] B w1 hB1 HO1 (by omega) H34 Y HY n HN).mono ?_
  rintro e w2 ⟨a2, c2, rfl, HO2, hb2⟩
  have hB2 : B ≤ w2.heap.size := Nat.le_trans hB1 hb2.size
  have hcv := HO2.out.conv
  rw [HS.out] at hcv
  go_wp2_with fail
  refine (zzScan_any S w2 hS1 hS2 n (-1) HT (n : Int) (n : Int) true HRS).mono ?_
  rintro e w' ⟨rfl, hx⟩
  obtain rfl := hx.symm
  clear hx
  go_wp2
  go_ret
  exact ⟨by simp, (hb1.trans hb2)⟩

end Go.Proofs.Qxb6001225a
