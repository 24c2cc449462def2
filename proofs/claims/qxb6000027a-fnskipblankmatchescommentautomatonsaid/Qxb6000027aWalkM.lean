/-
  strings.IndexByte; the law's automaton skipBlankModel.
-/
import Derived.Test.Qxb6000027aRows
import Derived.WalkKit
import Derived.WalkSpells
import Derived.Lib.Bytealg
import Derived.Test.Qxb6000027aPlain
namespace Go.Proofs.Qxb6000027a
open Go.RowKit

theorem ret_int {k : IntKind} {a b : Int} (h : a = b) : Ending.returned (.int k a) = .returned (.int k b) := by rw [h]

theorem liteIndexByte_any (s : ByteArray) (c : Int) (w : World) :
    Calls Try.prog 11 #[.string s, .int .u8 c] w fun e w' => e = .returned (.int .i64 (Lib.indexByte s.data.toList c.toNat.toUInt8)) ∧ w' = w := by
  go_enter Try.func11, Try.ntmps11
  go_wp2
  rw [run_callFunc_extern Try.func12 (by kernel_rfl) (by kernel_rfl) (by kernel_rfl) (e := Extern.BytealgIndexByte.indexByte) (by kernel_rfl), Lib.run_indexByteString]
  simp only [Result.andThen]
  rw [Oper.upon_value]
  go_wp2
  go_ret
  exact ⟨rfl, rfl⟩

theorem stringsIndexByte_any (s : ByteArray) (c : Int) (w : World) :
    Calls Try.prog 10 #[.string s, .int .u8 c] w fun e w' => e = .returned (.int .i64 (Lib.indexByte s.data.toList c.toNat.toUInt8)) ∧ w' = w := by
  go_enter Try.func10, Try.ntmps10
  go_wp2_with fail
  refine (liteIndexByte_any _ _ _).mono ?_
  rintro e w' ⟨rfl, rfl⟩
  go_wp2
  go_ret
  exact ⟨rfl, rfl⟩

/-- strings.IndexByte(s[k:], 10), the answer named. -/
theorem idx_is (s : ByteArray) (k : Nat) (q : Int) (w : World) (h : Hid (Lib.indexByte (Lib.bytesOf ((ns s).drop k)) (10 : Int).toNat.toUInt8 = q)) :
    Calls Try.prog 10 #[.string (s.extract k s.size), .int .u8 10] w fun e w' => e = .returned (.int .i64 q) ∧ w' = w := by
  have := stringsIndexByte_any (s.extract k s.size) 10 w
  rw [← ns_bytes, ns_drop, h.out] at this
  exact this

theorem zzBytesM_no (s : ByteArray) (i : Int) (w : World) (h : 1048576 < s.size) :
    Calls Try.prog 5 #[.string s, .int .i64 i] w fun e w' => e = .returned (.bool false) ∧ w' = w := by
  go_enter Try.func5, Try.ntmps5
  go_wp2
  go_ret
  exact ⟨rfl, rfl⟩

theorem zzBytesM_yes (s : ByteArray) (i : Int) (w : World) (h : s.size ≤ 1048576) :
    Calls Try.prog 5 #[.string s, .int .i64 i] w fun e w' => e = .returned (.bool true) ∧ w' = w := by
  go_enter Try.func5, Try.ntmps5
  go_wp2
  go_ret
  exact ⟨rfl, rfl⟩

theorem zzBytesL_no (s : ByteArray) (i : Int) (w : World) (h : 1048576 < s.size) :
    Calls Try.prog 8 #[.string s, .int .i64 i] w fun e w' => e = .returned (.bool false) ∧ w' = w := by
  go_enter Try.func8, Try.ntmps8
  go_wp2
  go_ret
  exact ⟨rfl, rfl⟩

theorem zzBytesL_yes (s : ByteArray) (i : Int) (w : World) (h : s.size ≤ 1048576) :
    Calls Try.prog 8 #[.string s, .int .i64 i] w fun e w' => e = .returned (.bool true) ∧ w' = w := by
  go_enter Try.func8, Try.ntmps8
  go_wp2
  go_ret
  exact ⟨rfl, rfl⟩

set_option maxHeartbeats 1000000 in
theorem model_any (s : ByteArray) (p : Nat) (w : World) (hs : s.size ≤ 1048576) (hp : p ≤ s.size) :
    Calls Try.prog 7 #[.string s, .int .i64 p] w fun e w' => e = .returned (.int .i64 (p + sk ((ns s).drop p) false : Nat)) ∧ w' = w := by
  obtain ⟨T, HT⟩ : ∃ T, Hid (p + sk ((ns s).drop p) false = T) := ⟨_, rfl⟩
  rw [HT.out]
  have HL : Hid ((ns s).length = s.size) := ns_length s
  go_enter Try.func7, Try.ntmps7
  go_wp2
  go_loop [5, 6] (fun vc vi => ∃ (k : Nat) (c : Bool), vc = .bool c ∧ vi = .int .i64 k ∧ k ≤ s.size ∧ Hid (k + sk ((ns s).drop k) c = T)) (fun _ vi => s.size - (intOf vi).toNat)
  case atStart => exact ⟨p, false, rfl, rfl, hp, HT⟩
  case round =>
    obtain ⟨k, cm, rfl, rfl, hk, HR⟩ := hrel
    by_cases hlt : k < s.size
    · have hlt' : k < (ns s).length := by rw [HL.out]; exact hlt
      obtain ⟨c, Hc, hcc⟩ : ∃ c, Hid ((ns s).getD k 0 = c) ∧ (s[k].toNat : Int) = c := ⟨_, rfl, (ns_get s k hlt).symm⟩
      cases cm with
      | true =>
        by_cases h10 : c = 10
        · subst h10
          have HS : Hid ((k + 1) + sk ((ns s).drop (k + 1)) false = T) := show _ = _ by rw [← HR.out, sk_out (ns s) k hlt' Hc.out]
          go_wp2
          go_round
          case rel => exact ⟨k + 1, false, rfl, by go_num, by omega, HS⟩
          case measure => simp [intOf]; omega
        · have HS : Hid ((k + 1) + sk ((ns s).drop (k + 1)) true = T) := show _ = _ by rw [← HR.out, sk_in (ns s) k hlt' (by rw [Hc.out]; exact h10)]
          have g1 : (c == 10) = false := by simpa using h10
          go_wp2
          go_round
          case rel => exact ⟨k + 1, true, rfl, by go_num, by omega, HS⟩
          case measure => simp [intOf]; omega
      | false =>
        by_cases hbl : c = 32 ∨ c = 9 ∨ c = 13 ∨ c = 10
        · have HS : Hid ((k + 1) + sk ((ns s).drop (k + 1)) false = T) := show _ = _ by rw [← HR.out, sk_blank (ns s) k hlt' (by rw [Hc.out]; rcases hbl with rfl | rfl | rfl | rfl <;> rfl)]
          rcases hbl with rfl | rfl | rfl | rfl
          all_goals
            go_wp2
            go_round
            case rel => exact ⟨k + 1, false, rfl, by go_num, by omega, HS⟩
            case measure => simp [intOf]; omega
        · have g1 : (c == 32) = false := by simp; omega
          have g2 : (c == 9) = false := by simp; omega
          have g3 : (c == 13) = false := by simp; omega
          have g4 : (c == 10) = false := by simp; omega
          by_cases h35 : c = 35
          · subst h35
            have HS : Hid ((k + 1) + sk ((ns s).drop (k + 1)) true = T) := show _ = _ by rw [← HR.out, sk_enter (ns s) k hlt' Hc.out]
            clear g1 g2 g3 g4 hbl
            go_wp2
            go_round
            case rel => exact ⟨k + 1, true, rfl, by go_num, by omega, HS⟩
            case measure => simp [intOf]; omega
          · have g5 : (c == 35) = false := by simpa using h35
            have HS : Hid (T = k) := show _ = _ by rw [← HR.out, sk_stop (ns s) k hlt' (by rw [Hc.out]; simp [blank, g1, g2, g3, g4]) (by rw [Hc.out]; exact h35)]; rfl
            clear hbl h35
            go_wp2
            go_ret
            exact ⟨ret_int (by have := HS.out; omega), rfl⟩
    · have HS : Hid (T = k) := show _ = _ by rw [← HR.out, sk_end (ns s) k cm (by rw [HL.out]; exact hlt)]; rfl
      go_wp2
      go_ret
      exact ⟨ret_int (by have := HS.out; omega), rfl⟩

end Go.Proofs.Qxb6000027a
