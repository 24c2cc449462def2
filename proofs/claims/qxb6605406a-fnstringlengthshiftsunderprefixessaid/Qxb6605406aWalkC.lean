/-
  zzCloneBytes, zzPrefix1, zzPrefix2.
-/
import Derived.Test.Qxb6605406aWalkS
import Derived.Deep.OwnRows
namespace Go.Proofs.Qxb6605406a
open Go.RowKit

theorem clone_nil (w : World) :
    Calls Try.prog 15 #[.slice none 0 0] w fun e w' => e = .returned (.slice none 0 0) ∧ w' = w := by
  have hnn := fun wx => Lib.run_eql_slice_nil (P := Try.prog) wx 25 5 none 0 0 0 0 Try.underlying25
  go_enter Try.func15, Try.ntmps15
  go_wp2
  go_ret
  exact ⟨rfl, rfl⟩

/-- A row of bytes: the first k are those of f, the others those of g. -/
def mix (k : Nat) (f g : Nat → Int) (j : Nat) : Value := .int .u8 (if j < k then f j else g j)

theorem row_start (w : World) (n : Nat) (f : Nat → Int) : (w.alloc (.cells (madeCells #[.int .u8 0] n) 5)).rowIs w.heap.size 5 n (mix 0 f (fun _ => 0)) :=
  (World.rowIs_made w (.int .u8 0) n 5).congr fun i _ => by simp [mix]

theorem row_step {w : World} {b n k : Nat} {f g : Nat → Int} (h : w.rowIs b 5 n (mix k f g)) (c : Int) (hc : f k = c) : (w.setCell ⟨b, k, none⟩ (.int .u8 c)).rowIs b 5 n (mix (k + 1) f g) :=
  (h.set k (.int .u8 c)).congr fun i _ => by
    by_cases e : i = k
    · subst e; simp [mix, hc]
    · have : (i < k + 1) = (i < k) := by simp; omega
      simp [mix, e, this]

set_option maxHeartbeats 1000000 in
theorem clone_pos (b off len cap : Nat) (zs : List Int) (w : World) (h : len ≤ 1048576) (hlc : len ≤ cap) (hb : Hid (0 < len → b < w.heap.size)) (hz : Hid (zs.length = cap))
    (HC : Hid (∀ i, i < zs.length → w.cell? ⟨b, off + i, none⟩ = some (.int .u8 (zs.getD i 0)))) :
    Calls Try.prog 15 #[.slice (some ⟨b, off, none⟩) len cap] w fun e w' => e = .returned (.slice (some ⟨w.heap.size, 0, none⟩) len len) ∧ Below w.heap.size w w' ∧ w'.rowIs w.heap.size 5 len (fun j => .int .u8 (zs.getD j 0)) := by
  have hnn := fun wx => Lib.run_eql_slice_nil (P := Try.prog) wx 25 5 (some ⟨b, off, none⟩) len cap 0 0 Try.underlying25
  have hmk := run_make_row' (P := Try.prog) 25 5 (.int .u8 0) 1 Try.underlying25 (by kernel_rfl) rfl .i64 .i64 len (by omega) (by omega)
  go_enter Try.func15, Try.ntmps15
  go_wp2
  go_loopw [4] (fun v wr => ∃ k : Nat, v = .int .i64 k ∧ k ≤ len ∧ Below w.heap.size w wr ∧ Hid (wr.rowIs w.heap.size 5 len (mix k (fun j => zs.getD j 0) (fun _ => 0)))) (fun v _ => len - (intOf v).toNat)
  case atStart => exact ⟨0, rfl, by omega, (Below.refl _ _).alloc (Nat.le_refl _) _, row_start w len _⟩
  case round =>
    obtain ⟨k, rfl, hk, hbl, HR⟩ := hrel
    by_cases hlt : k < len
    · obtain ⟨c, Hc, hcc⟩ : ∃ c, Hid (zs.getD k 0 = c) ∧ wr.cell? ⟨b, off + k, none⟩ = some (.int .u8 c) := ⟨_, rfl, (hbl.cell (p := ⟨b, off + k, none⟩) (hb.out (by omega))).trans (HC.out k (by have := hz.out; omega))⟩
      obtain ⟨v0, hst⟩ : ∃ v0, wr.cell? ⟨w.heap.size, k, none⟩ = some v0 := ⟨_, HR.out.cell hlt⟩
      have hfr := HR.out.frozen k
      go_wp2
      go_roundw
      case rel => exact ⟨k + 1, by go_num, by omega, hbl.setCell (Nat.le_refl _) _, row_step HR.out c Hc.out⟩
      case measure => simp [intOf]; omega
    · go_wp2
      go_ret
      have hkl : k = len := by omega
      subst hkl
      exact ⟨rfl, hbl, HR.out.congr fun i hi => by simp [mix, hi]⟩

theorem clone_zero (x : Addr) (w : World) :
    Calls Try.prog 15 #[.slice (some x) 0 0] w fun e w' => e = .returned (.slice (some ⟨w.heap.size, 0, none⟩) 0 0) ∧ Below w.heap.size w w' ∧ w'.rowIs w.heap.size 5 0 (fun j => .int .u8 (([] : List Int).getD j 0)) := by
  have hnn := fun wx => Lib.run_eql_slice_nil (P := Try.prog) wx 25 5 (some x) 0 0 0 0 Try.underlying25
  have hmk := run_make_row' (P := Try.prog) 25 5 (.int .u8 0) 1 Try.underlying25 (by kernel_rfl) rfl .i64 .i64 0 (by omega) (by omega)
  rw [show ((0 : Nat) : Int) = 0 from rfl] at hmk
  go_enter Try.func15, Try.ntmps15
  go_wp2
  refine wp_loop_rounds 1 ?_
  rw [rounds_succ]
  go_wp2
  go_ret
  exact ⟨rfl, (Below.refl _ _).alloc (Nat.le_refl _) _, (row_start w 0 (fun _ => 0)).congr fun i hi => by omega⟩

theorem row_first (w : World) (n : Nat) (a : Int) (f : Nat → Int) (hf : f 0 = a) : (w.alloc (.cells ((madeCells #[.int .u8 0] n).setIfInBounds 0 (.int .u8 a)) 5)).rowIs w.heap.size 5 n (mix 1 f (fun _ => 0)) := by
  have h := World.rowIs_alloc w ((madeCells #[.int .u8 0] n).setIfInBounds 0 (.int .u8 a)) 5 (mix 1 f (fun _ => 0)) (fun i hi => by
    simp [size_madeCells] at hi
    rw [Array.getElem?_setIfInBounds]
    by_cases e : i = 0
    · subst e; simp [mix, hf, size_madeCells, hi]
    · have : ¬ 0 = i := by omega
      simp [this, mix, madeCells, hi, Nat.mod_one, e])
  simpa [size_madeCells] using h

theorem made_at (n i : Nat) (h : i < n) : (madeCells #[Value.int .u8 0] n)[i]? = some (.int .u8 0) := by simp [madeCells, h, Nat.mod_one]

theorem row_second (w : World) (n : Nat) (a a' : Int) (f : Nat → Int) (hf : f 0 = a) (hf' : f 1 = a') :
    (w.alloc (.cells (((madeCells #[.int .u8 0] n).setIfInBounds 0 (.int .u8 a)).setIfInBounds 1 (.int .u8 a')) 5)).rowIs w.heap.size 5 n (mix 2 f (fun _ => 0)) := by
  have h := World.rowIs_alloc w (((madeCells #[.int .u8 0] n).setIfInBounds 0 (.int .u8 a)).setIfInBounds 1 (.int .u8 a')) 5 (mix 2 f (fun _ => 0)) (fun i hi => by
    simp [size_madeCells] at hi
    rw [Array.getElem?_setIfInBounds, Array.getElem?_setIfInBounds]
    by_cases e : i = 0
    · subst e; simp [mix, hf, size_madeCells, hi]
    · by_cases e1 : i = 1
      · subst e1; simp [mix, hf', size_madeCells, hi]
      · have h0 : ¬ 0 = i := by omega
        have h1 : ¬ 1 = i := by omega
        have h2 : ¬ i < 2 := by omega
        simp [h0, h1, h2, mix, madeCells, hi, Nat.mod_one])
  simpa [size_madeCells] using h

set_option maxHeartbeats 1000000 in
theorem prefix1_some (a : Int) (b off cap : Nat) (xs : List Int) (w : World) (h : xs.length ≤ 1048576) (hb : Hid (b < w.heap.size))
    (HC : Hid (∀ i, i < xs.length → w.cell? ⟨b, off + i, none⟩ = some (.int .u8 (xs.getD i 0)))) :
    Calls Try.prog 19 #[.int .u8 a, .slice (some ⟨b, off, none⟩) xs.length cap] w fun e w' => e = .returned (.slice (some ⟨w.heap.size, 0, none⟩) (xs.length + 1) (xs.length + 1)) ∧ Below w.heap.size w w' ∧ w'.rowIs w.heap.size 5 (xs.length + 1) (fun j => .int .u8 ((a :: xs).getD j 0)) := by
  have hmk := run_make_row' (P := Try.prog) 25 5 (.int .u8 0) 1 Try.underlying25 (by kernel_rfl) rfl .i64 .i64 (xs.length + 1) (by omega) (by omega)
  have ec : ((xs.length + 1 : Nat) : Int) = (xs.length : Int) + 1 := by omega
  rw [ec] at hmk
  clear ec
  have hm0 := made_at (xs.length + 1) 0 (by omega)
  go_enter Try.func19, Try.ntmps19
  go_wp2
  clear hm0 hmk
  go_loopw [6] (fun v wr => ∃ k : Nat, v = .int .i64 k ∧ k ≤ xs.length ∧ Below w.heap.size w wr ∧ Hid (wr.rowIs w.heap.size 5 (xs.length + 1) (mix (k + 1) (fun j => (a :: xs).getD j 0) (fun _ => 0)))) (fun v _ => xs.length - (intOf v).toNat)
  case atStart => exact ⟨0, rfl, by omega, (Below.refl _ _).alloc (Nat.le_refl _) _, row_first w (xs.length + 1) a _ (by simp)⟩
  case round =>
    obtain ⟨k, rfl, hk, hbl, HR⟩ := hrel
    by_cases hlt : k < xs.length
    · obtain ⟨c, Hc, hcc⟩ : ∃ c, Hid (xs.getD k 0 = c) ∧ wr.cell? ⟨b, off + k, none⟩ = some (.int .u8 c) := ⟨_, rfl, (hbl.cell (p := ⟨b, off + k, none⟩) hb.out).trans (HC.out k hlt)⟩
      obtain ⟨v0, hst⟩ : ∃ v0, wr.cell? ⟨w.heap.size, k + 1, none⟩ = some v0 := ⟨_, HR.out.cell (by omega)⟩
      have hfr := HR.out.frozen (k + 1)
      go_wp2
      go_roundw
      case rel => exact ⟨k + 1, by go_num, by omega, hbl.setCell (Nat.le_refl _) _, row_step HR.out c (by simpa [List.getD] using Hc.out)⟩
      case measure => simp [intOf]; omega
    · go_wp2
      go_ret
      have hkl : k = xs.length := by omega
      subst hkl
      exact ⟨rfl, hbl, HR.out.congr fun i hi => by simp [mix, hi]⟩

theorem prefix1_nil (a : Int) (w : World) :
    Calls Try.prog 19 #[.int .u8 a, .slice none 0 0] w fun e w' => e = .returned (.slice (some ⟨w.heap.size, 0, none⟩) 1 1) ∧ Below w.heap.size w w' ∧ w'.rowIs w.heap.size 5 1 (fun j => .int .u8 ([a].getD j 0)) := by
  have hmk := run_make_row' (P := Try.prog) 25 5 (.int .u8 0) 1 Try.underlying25 (by kernel_rfl) rfl .i64 .i64 1 (by omega) (by omega)
  rw [show ((1 : Nat) : Int) = 1 from rfl] at hmk
  have hm0 := made_at 1 0 (by omega)
  go_enter Try.func19, Try.ntmps19
  go_wp2
  refine wp_loop_rounds 1 ?_
  rw [rounds_succ]
  go_wp2
  go_ret
  exact ⟨rfl, (Below.refl _ _).alloc (Nat.le_refl _) _, (row_first w 1 a (fun j => [a].getD j 0) (by simp)).congr fun i hi => by simp [mix, hi]⟩

set_option maxHeartbeats 1000000 in
theorem prefix2_some (a a' : Int) (b off cap : Nat) (xs : List Int) (w : World) (h : xs.length ≤ 1048576) (hb : Hid (b < w.heap.size))
    (HC : Hid (∀ i, i < xs.length → w.cell? ⟨b, off + i, none⟩ = some (.int .u8 (xs.getD i 0)))) :
    Calls Try.prog 20 #[.int .u8 a, .int .u8 a', .slice (some ⟨b, off, none⟩) xs.length cap] w fun e w' => e = .returned (.slice (some ⟨w.heap.size, 0, none⟩) (xs.length + 2) (xs.length + 2)) ∧ Below w.heap.size w w' ∧ w'.rowIs w.heap.size 5 (xs.length + 2) (fun j => .int .u8 ((a :: a' :: xs).getD j 0)) := by
  have hmk := run_make_row' (P := Try.prog) 25 5 (.int .u8 0) 1 Try.underlying25 (by kernel_rfl) rfl .i64 .i64 (xs.length + 2) (by omega) (by omega)
  have ec : ((xs.length + 2 : Nat) : Int) = (xs.length : Int) + 2 := by omega
  rw [ec] at hmk
  clear ec
  have hm0 := made_at (xs.length + 2) 0 (by omega)
  have hm1 := made_at (xs.length + 2) 1 (by omega)
  have hms := size_madeCells #[Value.int .u8 0] (xs.length + 2)
  go_enter Try.func20, Try.ntmps20
  go_wp2
  clear hm0 hm1 hmk hms
  go_loopw [8] (fun v wr => ∃ k : Nat, v = .int .i64 k ∧ k ≤ xs.length ∧ Below w.heap.size w wr ∧ Hid (wr.rowIs w.heap.size 5 (xs.length + 2) (mix (k + 2) (fun j => (a :: a' :: xs).getD j 0) (fun _ => 0)))) (fun v _ => xs.length - (intOf v).toNat)
  case atStart => exact ⟨0, rfl, by omega, (Below.refl _ _).alloc (Nat.le_refl _) _, row_second w (xs.length + 2) a a' _ (by simp) (by simp)⟩
  case round =>
    obtain ⟨k, rfl, hk, hbl, HR⟩ := hrel
    by_cases hlt : k < xs.length
    · obtain ⟨c, Hc, hcc⟩ : ∃ c, Hid (xs.getD k 0 = c) ∧ wr.cell? ⟨b, off + k, none⟩ = some (.int .u8 c) := ⟨_, rfl, (hbl.cell (p := ⟨b, off + k, none⟩) hb.out).trans (HC.out k hlt)⟩
      obtain ⟨v0, hst⟩ : ∃ v0, wr.cell? ⟨w.heap.size, k + 2, none⟩ = some v0 := ⟨_, HR.out.cell (by omega)⟩
      have hfr := HR.out.frozen (k + 2)
      go_wp2
      go_roundw
      case rel => exact ⟨k + 1, by go_num, by omega, hbl.setCell (Nat.le_refl _) _, row_step HR.out c (by simpa [List.getD] using Hc.out)⟩
      case measure => simp [intOf]; omega
    · go_wp2
      go_ret
      have hkl : k = xs.length := by omega
      subst hkl
      exact ⟨rfl, hbl, HR.out.congr fun i hi => by simp [mix, hi]⟩

theorem prefix2_nil (a a' : Int) (w : World) :
    Calls Try.prog 20 #[.int .u8 a, .int .u8 a', .slice none 0 0] w fun e w' => e = .returned (.slice (some ⟨w.heap.size, 0, none⟩) 2 2) ∧ Below w.heap.size w w' ∧ w'.rowIs w.heap.size 5 2 (fun j => .int .u8 ([a, a'].getD j 0)) := by
  have hmk := run_make_row' (P := Try.prog) 25 5 (.int .u8 0) 1 Try.underlying25 (by kernel_rfl) rfl .i64 .i64 2 (by omega) (by omega)
  rw [show ((2 : Nat) : Int) = 2 from rfl] at hmk
  have hm0 := made_at 2 0 (by omega)
  have hm1 := made_at 2 1 (by omega)
  have hms := size_madeCells #[Value.int .u8 0] 2
  go_enter Try.func20, Try.ntmps20
  go_wp2
  refine wp_loop_rounds 1 ?_
  rw [rounds_succ]
  go_wp2
  go_ret
  exact ⟨rfl, (Below.refl _ _).alloc (Nat.le_refl _) _, (row_second w 2 a a' (fun j => [a, a'].getD j 0) (by simp) (by simp)).congr fun i hi => by simp [mix, hi]⟩

end Go.Proofs.Qxb6605406a
