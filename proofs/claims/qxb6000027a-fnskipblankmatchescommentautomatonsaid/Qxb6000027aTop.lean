/-
  ZZSkipBlank and the two laws' own walks.
-/
import Derived.Test.Qxb6000027aWalkS
namespace Go.Proofs.Qxb6000027a
open Go.RowKit

set_option maxHeartbeats 1000000 in
theorem zzSkip_any (s : ByteArray) (p : Nat) (w : World) (hs : s.size ≤ 1048576) (hp : p ≤ s.size) (T : Nat) (HT : Hid (p + sk ((ns s).drop p) false = T)) :
    Calls Try.prog 6 #[.string s, .int .i64 p] w fun e w' => e = .returned (.int .i64 T) ∧ Below w.heap.size w w' := by
  have hcon := fun (v2 v3 v4 : Value) => skip_any w.heap.size s p (w.alloc (.cells #[.string s, .int .i64 p, v2, v3, v4] 29)) hs hp (by simp [World.cell?_alloc_at]) (by simp [World.cell?_alloc_at]) (by simp)
  rw [HT.out] at hcon
  go_enter Try.func6, Try.ntmps6
  go_wp2_with fail
  refine (hcon _ _ _).mono ?_
  rintro e w1 ⟨rfl, hb, hc1⟩
  go_wp2
  go_ret
  exact ⟨rfl, ((Below.refl _ _).alloc (Nat.le_refl _) _).trans hb⟩

theorem topM_big (s : ByteArray) (i : Int) (w : World) (h : 1048576 < s.size) :
    Calls Try.prog 3 #[.string s, .int .i64 i] w fun e w' => e = .returned (.bool true) ∧ w' = w := by
  go_enter Try.func3, Try.ntmps3
  go_wp2_with fail
  refine (zzBytesM_no s i w h).mono ?_
  rintro e w' ⟨rfl, rfl⟩
  go_wp2
  go_ret
  exact ⟨rfl, rfl⟩

theorem topM_out (s : ByteArray) (i : Int) (w : World) (h : s.size ≤ 1048576) (hi : i < 0 ∨ (s.size : Int) < i) :
    Calls Try.prog 3 #[.string s, .int .i64 i] w fun e w' => e = .returned (.bool true) ∧ w' = w := by
  by_cases hneg : i < 0
  · clear hi
    go_enter Try.func3, Try.ntmps3
    go_wp2_with fail
    refine (zzBytesM_yes s i w h).mono ?_
    rintro e w' ⟨rfl, rfl⟩
    go_wp2
    go_ret
    exact ⟨rfl, rfl⟩
  · have hi' : (s.size : Int) < i := by omega
    have hd : decide (i < 0) = false := by simpa using hneg
    clear hi
    go_enter Try.func3, Try.ntmps3
    go_wp2_with fail
    refine (zzBytesM_yes s i w h).mono ?_
    rintro e w' ⟨rfl, rfl⟩
    go_wp2
    go_ret
    exact ⟨rfl, rfl⟩

theorem topM_in (s : ByteArray) (p : Nat) (w : World) (h : s.size ≤ 1048576) (hp : p ≤ s.size) :
    Calls Try.prog 3 #[.string s, .int .i64 p] w fun e w' => e = .returned (.bool true) ∧ Below w.heap.size w w' := by
  obtain ⟨T, HT⟩ : ∃ T, Hid (p + sk ((ns s).drop p) false = T) := ⟨_, rfl⟩
  have hm := fun wx => model_any s p wx h hp
  rw [HT.out] at hm
  have hd : decide ((p : Int) < 0) = false := by simp
  have hd2 : decide ((s.size : Int) < (p : Int)) = false := by simp; omega
  go_enter Try.func3, Try.ntmps3
  go_wp2_with fail
  refine (zzBytesM_yes s p w h).mono ?_
  rintro e w' ⟨rfl, hx⟩
  obtain rfl := hx.symm
  clear hx
  go_wp2_with fail
  refine (zzSkip_any s p w h hp T HT).mono ?_
  rintro e w1 ⟨rfl, hb⟩
  go_wp2_with fail
  refine (hm w1).mono ?_
  rintro e w' ⟨rfl, rfl⟩
  go_wp2
  go_ret
  exact ⟨by simp, hb⟩

theorem topL_big (s : ByteArray) (i : Int) (w : World) (h : 1048576 < s.size) :
    Calls Try.prog 4 #[.string s, .int .i64 i] w fun e w' => e = .returned (.bool true) ∧ w' = w := by
  go_enter Try.func4, Try.ntmps4
  go_wp2_with fail
  refine (zzBytesL_no s i w h).mono ?_
  rintro e w' ⟨rfl, rfl⟩
  go_wp2
  go_ret
  exact ⟨rfl, rfl⟩

theorem topL_out (s : ByteArray) (i : Int) (w : World) (h : s.size ≤ 1048576) (hi : i < 0 ∨ (s.size : Int) < i) :
    Calls Try.prog 4 #[.string s, .int .i64 i] w fun e w' => e = .returned (.bool true) ∧ w' = w := by
  by_cases hneg : i < 0
  · clear hi
    go_enter Try.func4, Try.ntmps4
    go_wp2_with fail
    refine (zzBytesL_yes s i w h).mono ?_
    rintro e w' ⟨rfl, rfl⟩
    go_wp2
    go_ret
    exact ⟨rfl, rfl⟩
  · have hi' : (s.size : Int) < i := by omega
    have hd : decide (i < 0) = false := by simpa using hneg
    clear hi
    go_enter Try.func4, Try.ntmps4
    go_wp2_with fail
    refine (zzBytesL_yes s i w h).mono ?_
    rintro e w' ⟨rfl, rfl⟩
    go_wp2
    go_ret
    exact ⟨rfl, rfl⟩

set_option maxHeartbeats 1000000 in
theorem topL_in (s : ByteArray) (p : Nat) (w : World) (h : s.size ≤ 1048576) (hp : p ≤ s.size) :
    Calls Try.prog 4 #[.string s, .int .i64 p] w fun e w' => e = .returned (.bool true) ∧ Below w.heap.size w w' := by
  obtain ⟨T, HT⟩ : ∃ T, Hid (p + sk ((ns s).drop p) false = T) := ⟨_, rfl⟩
  have hle := sk_le ((ns s).drop p) false
  rw [List.length_drop, ns_length] at hle
  have hT1 : p ≤ T := by have := HT.out; omega
  have hT2 : T ≤ s.size := by have := HT.out; omega
  have hL : (ns s).getD T 0 = ((ns s).drop p).getD (sk ((ns s).drop p) false) 0 := by
    rw [← HT.out]; simp [List.getD]
  have HB : Hid (T < s.size → blank ((ns s).getD T 0) = false ∧ (ns s).getD T 0 ≠ 35) := show _ → _ from fun hlt => by
    rw [hL]
    exact sk_lands _ _ (by rw [List.length_drop, ns_length]; have := HT.out; omega)
  have HT2 : Hid (T + sk ((ns s).drop T) false = T) := show _ = _ by
    by_cases hlt : T < s.size
    · have := HB.out hlt
      rw [sk_stop (ns s) T (by rw [ns_length]; exact hlt) this.1 this.2]; rfl
    · rw [sk_end (ns s) T false (by rw [ns_length]; exact hlt)]; rfl
  clear hle hL
  have hd : decide ((p : Int) < 0) = false := by simp
  have hd2 : decide ((s.size : Int) < (p : Int)) = false := by simp; omega
  have hd3 : decide ((T : Int) < (p : Int)) = false := by simp; omega
  have hd4 : decide ((s.size : Int) < (T : Int)) = false := by simp; omega
  by_cases hlt : T < s.size
  · have hltI : (T : Int) < s.size := by omega
    obtain ⟨c, Hc, hcc⟩ : ∃ c, Hid ((ns s).getD T 0 = c) ∧ (s[T].toNat : Int) = c := ⟨_, rfl, (ns_get s T hlt).symm⟩
    have hB := HB.out hlt
    rw [Hc.out] at hB
    obtain ⟨hB1, hB2⟩ := hB
    simp only [blank, Bool.or_eq_false_iff] at hB1
    obtain ⟨⟨⟨g1, g2⟩, g3⟩, g4⟩ := hB1
    have g5 : (c == 35) = false := by simpa using hB2
    clear hB2
    go_enter Try.func4, Try.ntmps4
    go_wp2_with fail
    refine (zzBytesL_yes s p w h).mono ?_
    rintro e w' ⟨rfl, hx⟩
    obtain rfl := hx.symm
    clear hx
    go_wp2_with fail
    refine (zzSkip_any s p w h hp T HT).mono ?_
    rintro e w1 ⟨rfl, hb⟩
    go_wp2_with fail
    refine (zzSkip_any s T w1 h hT2 T HT2).mono ?_
    rintro e w2 ⟨rfl, hb2⟩
    go_wp2
    go_ret
    exact ⟨rfl, hb.trans (hb2.mono hb.size)⟩
  · have hltI : ¬ (T : Int) < s.size := by omega
    go_enter Try.func4, Try.ntmps4
    go_wp2_with fail
    refine (zzBytesL_yes s p w h).mono ?_
    rintro e w' ⟨rfl, hx⟩
    obtain rfl := hx.symm
    clear hx
    go_wp2_with fail
    refine (zzSkip_any s p w h hp T HT).mono ?_
    rintro e w1 ⟨rfl, hb⟩
    go_wp2_with fail
    refine (zzSkip_any s T w1 h hT2 T HT2).mono ?_
    rintro e w2 ⟨rfl, hb2⟩
    go_wp2
    go_ret
    exact ⟨rfl, hb.trans (hb2.mono hb.size)⟩

end Go.Proofs.Qxb6000027a
