/-
  strings.IndexByte, isHex.
-/
import Derived.Test.Qxb6001225aRows
import Derived.WalkKit
import Derived.WalkSpells
import Derived.Lib.Bytealg
import Derived.Test.Qxb6001225aPlain
namespace Go.Proofs.Qxb6001225a
open Go.RowKit

theorem ret_int {k : IntKind} {a b : Int} (h : a = b) : Ending.returned (.int k a) = .returned (.int k b) := by rw [h]
theorem ret_bool {a b : Bool} (h : a = b) : Ending.returned (.bool a) = .returned (.bool b) := by rw [h]

theorem liteIndexByte_any (s : ByteArray) (c : Int) (w : World) :
    Calls Try.prog 49 #[.string s, .int .u8 c] w fun e w' => e = .returned (.int .i64 (Lib.indexByte s.data.toList c.toNat.toUInt8)) ∧ w' = w := by
  go_enter Try.func49, Try.ntmps49
  go_wp2
  rw [run_callFunc_extern Try.func51 (by kernel_rfl) (by kernel_rfl) (by kernel_rfl) (e := Extern.BytealgIndexByte.indexByte) (by kernel_rfl), Lib.run_indexByteString]
  simp only [Result.andThen]
  rw [Oper.upon_value]
  go_wp2
  go_ret
  exact ⟨rfl, rfl⟩

theorem stringsIndexByte_any (s : ByteArray) (c : Int) (w : World) :
    Calls Try.prog 45 #[.string s, .int .u8 c] w fun e w' => e = .returned (.int .i64 (Lib.indexByte s.data.toList c.toNat.toUInt8)) ∧ w' = w := by
  go_enter Try.func45, Try.ntmps45
  go_wp2_with fail
  refine (liteIndexByte_any _ _ _).mono ?_
  rintro e w' ⟨rfl, rfl⟩
  go_wp2
  go_ret
  exact ⟨rfl, rfl⟩

theorem idx_spec : ∀ (xs : List Int) (cv : Int), 0 ≤ cv → cv < 256 → (∀ x ∈ xs, 0 ≤ x ∧ x < 256) →
    (Lib.indexByte (Lib.bytesOf xs) cv.toNat.toUInt8 = -1 ∧ ∀ x ∈ xs, x ≠ cv) ∨
    ∃ k : Nat, Lib.indexByte (Lib.bytesOf xs) cv.toNat.toUInt8 = k ∧ cv ∈ xs
  | [], cv, _, _, _ => by left; simp [Lib.bytesOf, Lib.indexByte]
  | x :: t, cv, h0, h1, hw => by
    have hx := hw x (by simp)
    have ih := idx_spec t cv h0 h1 (fun y hy => hw y (by simp [hy]))
    have e : Lib.bytesOf (x :: t) = x.toNat.toUInt8 :: Lib.bytesOf t := by simp [Lib.bytesOf]
    have heq : (x.toNat.toUInt8 == cv.toNat.toUInt8) = decide (x = cv) := by
      rw [Bool.eq_iff_iff]
      simp only [beq_iff_eq, decide_eq_true_eq, ← UInt8.toNat_inj]
      simp
      omega
    rw [e]
    simp only [Lib.indexByte, heq]
    by_cases hc : x = cv
    · right; exact ⟨0, by simp [hc], by simp [hc]⟩
    · rcases ih with ⟨h1, h2⟩ | ⟨k, h1, h2⟩
      · left
        refine ⟨by simp [hc, h1], ?_⟩
        intro y hy
        rcases List.mem_cons.1 hy with rfl | hy
        · exact hc
        · exact h2 y hy
      · right
        refine ⟨k + 1, ?_, by simp [h2]⟩
        have : ¬ ((k : Int) = -1) := by omega
        simp [hc, h1, this]

theorem idx_no (s : ByteArray) (c : Int) (w : World) (h0 : 0 ≤ c) (h1 : c < 256) (h : Hid (c ∉ ns s)) :
    Calls Try.prog 45 #[.string s, .int .u8 c] w fun e w' => e = .returned (.int .i64 (-1)) ∧ w' = w := by
  refine (stringsIndexByte_any s c w).mono ?_
  rintro e w' ⟨rfl, rfl⟩
  refine ⟨ret_int ?_, rfl⟩
  rw [← ns_bytes]
  rcases idx_spec (ns s) c h0 h1 (ns_range s) with ⟨a, _⟩ | ⟨k, _, b⟩
  · exact a
  · exact absurd b h.out

theorem idx_yes (s : ByteArray) (c : Int) (w : World) (h0 : 0 ≤ c) (h1 : c < 256) (h : Hid (c ∈ ns s)) :
    Calls Try.prog 45 #[.string s, .int .u8 c] w fun e w' => ∃ k : Nat, e = .returned (.int .i64 k) ∧ w' = w := by
  refine (stringsIndexByte_any s c w).mono ?_
  rintro e w' ⟨rfl, rfl⟩
  rcases idx_spec (ns s) c h0 h1 (ns_range s) with ⟨_, a⟩ | ⟨k, a, _⟩
  · exact absurd rfl (a c h.out)
  · exact ⟨k, ret_int (by rw [← ns_bytes]; exact a), rfl⟩

theorem hex_mem (c : Int) : isH c = true ↔ c ∈ ns ⟨#[48, 49, 50, 51, 52, 53, 54, 55, 56, 57, 97, 98, 99, 100, 101, 102, 65, 66, 67, 68, 69, 70]⟩ := by
  have e : ns ⟨#[48, 49, 50, 51, 52, 53, 54, 55, 56, 57, 97, 98, 99, 100, 101, 102, 65, 66, 67, 68, 69, 70]⟩ = [48, 49, 50, 51, 52, 53, 54, 55, 56, 57, 97, 98, 99, 100, 101, 102, 65, 66, 67, 68, 69, 70] := by decide
  rw [e]
  simp [isH]
  omega

theorem stp_mem (c : Int) : stp c = true ↔ c ∈ ns ⟨#[34, 10, 13]⟩ := by
  have e : ns ⟨#[34, 10, 13]⟩ = [34, 10, 13] := by decide
  rw [e]
  simp [stp]
  omega

theorem isE_mem (c : Int) : isE c = true ↔ c ∈ ns ⟨#[34, 92, 47, 98, 102, 110, 114, 116]⟩ := by
  have e : ns ⟨#[34, 92, 47, 98, 102, 110, 114, 116]⟩ = [34, 92, 47, 98, 102, 110, 114, 116] := by decide
  rw [e]
  simp [isE]
  omega

theorem allH_go (l : List Int) (k : Nat) (h : k < l.length) (hc : isH (l.getD k 0) = true) : allH (l.drop k) = allH (l.drop (k + 1)) := by
  rw [drop_at l k h, allH, hc]; rfl
theorem allH_no (l : List Int) (k : Nat) (h : k < l.length) (hc : isH (l.getD k 0) = false) : allH (l.drop k) = false := by
  rw [drop_at l k h, allH, hc]; rfl
theorem allH_end (l : List Int) (k : Nat) (h : ¬ k < l.length) : allH (l.drop k) = true := by
  rw [List.drop_eq_nil_of_le (by omega), allH]

theorem byte_range (s : ByteArray) (k : Nat) (h : k < s.size) : 0 ≤ (ns s).getD k 0 ∧ (ns s).getD k 0 < 256 := by
  rw [ns_get s k h]
  have := (s[k]).toNat_lt
  omega

set_option maxHeartbeats 1000000 in
theorem isHex_any (s : ByteArray) (w : World) (hs : s.size ≤ 10000000) (b : Bool) (HB : Hid (allH (ns s) = b)) :
    Calls Try.prog 46 #[.string s] w fun e w' => e = .returned (.bool b) ∧ w' = w := by
  have HL : Hid ((ns s).length = s.size) := ns_length s
  go_enter Try.func46, Try.ntmps46
  go_wp2
  go_loop [6] (fun v => ∃ k : Nat, v = .int .i64 k ∧ k ≤ s.size ∧ Hid (allH ((ns s).drop k) = b)) (fun v => s.size - (intOf v).toNat)
  case atStart => exact ⟨0, rfl, by omega, HB⟩
  case round =>
    obtain ⟨k, rfl, hk, HR⟩ := hrel
    by_cases hlt : k < s.size
    · have hlt' : k < (ns s).length := by rw [HL.out]; exact hlt
      have hr := byte_range s k hlt
      obtain ⟨c, Hc, hcc, hc0, hc1⟩ : ∃ c, Hid ((ns s).getD k 0 = c) ∧ (s[k].toNat : Int) = c ∧ 0 ≤ c ∧ c < 256 := ⟨_, rfl, (ns_get s k hlt).symm, hr.1, hr.2⟩
      clear hr
      by_cases hh : isH c = true
      · have H1 : Hid (c ∈ ns ⟨#[48, 49, 50, 51, 52, 53, 54, 55, 56, 57, 97, 98, 99, 100, 101, 102, 65, 66, 67, 68, 69, 70]⟩) := (hex_mem c).1 hh
        have HS : Hid (allH ((ns s).drop (k + 1)) = b) := show _ = _ by rw [← HR.out, allH_go (ns s) k hlt' (by rw [Hc.out]; exact hh)]
        clear hh
        go_wp2_with fail
        refine (idx_yes _ c _ hc0 hc1 H1).mono ?_
        rintro e w' ⟨q, rfl, rfl⟩
        go_wp2
        go_round
        case rel => exact ⟨k + 1, by go_num, by omega, HS⟩
        case measure => simp [intOf]; omega
      · have hf : isH c = false := by simpa using hh
        have H1 : Hid (c ∉ ns ⟨#[48, 49, 50, 51, 52, 53, 54, 55, 56, 57, 97, 98, 99, 100, 101, 102, 65, 66, 67, 68, 69, 70]⟩) := fun h => hh ((hex_mem c).2 h)
        have HS : Hid (b = false) := show _ = _ by rw [← HR.out, allH_no (ns s) k hlt' (by rw [Hc.out]; exact hf)]
        clear hh hf
        go_wp2_with fail
        refine (idx_no _ c _ hc0 hc1 H1).mono ?_
        rintro e w' ⟨rfl, rfl⟩
        go_wp2
        go_ret
        exact ⟨ret_bool HS.out.symm, rfl⟩
    · have HS : Hid (b = true) := show _ = _ by rw [← HR.out, allH_end (ns s) k (by rw [HL.out]; exact hlt)]
      go_wp2
      go_ret
      exact ⟨ret_bool HS.out.symm, rfl⟩

end Go.Proofs.Qxb6001225a
