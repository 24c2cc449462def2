/-
  The leaves of the road: isSpace, jsb1IsDelim, bytes.IndexByte, strings.IndexByte, over this seat's dump.
-/
import Derived.Test.Qxb6605386aRows
import Derived.WalkKit
import Derived.WalkSpells
import Derived.Lib.BytesEntry
namespace Go.Proofs.Qxb6605386a
open Go.RowKit

/-- bytes.IndexByte at a slice whose cells are known. -/
theorem bytesIndexByte_any (b o n c : Nat) (xs : List Int) (cv : Int) (w : World) (hx : xs.length = n)
    (hc : ∀ i, i < n → w.cell? ⟨b, o + i, none⟩ = some (.int .u8 (xs.getD i 0))) :
    Calls Try.prog 44 #[.slice (some ⟨b, o, none⟩) n c, .int .u8 cv] w fun e w' => e = .returned (.int .i64 (Lib.indexByte (Lib.bytesOf xs) cv.toNat.toUInt8)) ∧ w' = w := by
  go_enter Try.func44, Try.ntmps44
  go_wp2
  rw [run_callFunc_extern Try.func48 (by kernel_rfl) (by kernel_rfl) (by kernel_rfl) (e := Extern.BytealgIndexByte.indexByte) (by kernel_rfl), Lib.run_indexByteSlice w b o n c xs hx hc cv]
  simp only [Result.andThen]
  rw [Oper.upon_value]
  go_wp2
  go_ret
  exact ⟨rfl, rfl⟩

theorem liteIndexByte_any (s : ByteArray) (c : Int) (w : World) :
    Calls Try.prog 49 #[.string s, .int .u8 c] w fun e w' => e = .returned (.int .i64 (Lib.indexByte s.data.toList c.toNat.toUInt8)) ∧ w' = w := by
  go_enter Try.func49, Try.ntmps49
  go_wp2
  rw [run_callFunc_extern Try.func50 (by kernel_rfl) (by kernel_rfl) (by kernel_rfl) (e := Extern.BytealgIndexByte.indexByte) (by kernel_rfl), Lib.run_indexByteString]
  simp only [Result.andThen]
  rw [Oper.upon_value]
  go_wp2
  go_ret
  exact ⟨rfl, rfl⟩

theorem stringsIndexByte_any (s : ByteArray) (c : Int) (w : World) :
    Calls Try.prog 46 #[.string s, .int .u8 c] w fun e w' => e = .returned (.int .i64 (Lib.indexByte s.data.toList c.toNat.toUInt8)) ∧ w' = w := by
  go_enter Try.func46, Try.ntmps46
  go_wp2_with (go_at_call 49; refine (liteIndexByte_any _ _ _).mono ?_; rintro e w' ⟨rfl, rfl⟩)
  go_ret
  exact ⟨rfl, rfl⟩

def isSp (c : Int) : Bool := c == 32 || c == 9 || c == 13 || c == 10
def isDl (c : Int) : Bool := c == 32 || c == 9 || c == 13 || c == 10 || c == 44 || c == 58 || c == 91 || c == 93 || c == 123 || c == 125 || c == 34

theorem isSpace_any (c : Int) (w : World) :
    Calls Try.prog 45 #[.int .u8 c] w fun e w' => e = .returned (.bool (isSp c)) ∧ w' = w := by
  go_enter Try.func45, Try.ntmps45
  go_wp2
  all_goals
    go_ret
    refine ⟨?_, rfl⟩
    unfold isSp
    simp [*]

theorem isDelim_any (c : Int) (w : World) :
    Calls Try.prog 36 #[.int .u8 c] w fun e w' => e = .returned (.bool (isDl c)) ∧ w' = w := by
  go_enter Try.func36, Try.ntmps36
  go_wp2
  all_goals
    go_ret
    refine ⟨?_, rfl⟩
    unfold isDl
    simp [*]

end Go.Proofs.Qxb6605386a
