/-
  The law's own walk.
-/
import Derived.Test.Qxb6605406aWalkC
import Derived.OpenShut
namespace Go.Proofs.Qxb6605406a
open Go.RowKit

theorem zzBytes_no (a : Option Addr) (len cap : Nat) (i : Int) (w : World) (h : 1048576 < len) :
    Calls Try.prog 18 #[.slice a len cap, .int .u8 i] w fun e w' => e = .returned (.bool false) ∧ w' = w := by
  go_enter Try.func18, Try.ntmps18
  go_wp2
  go_ret
  exact ⟨rfl, rfl⟩

theorem zzBytes_yes (a : Option Addr) (len cap : Nat) (i : Int) (w : World) (h : len ≤ 1048576) :
    Calls Try.prog 18 #[.slice a len cap, .int .u8 i] w fun e w' => e = .returned (.bool true) ∧ w' = w := by
  go_enter Try.func18, Try.ntmps18
  go_wp2
  go_ret
  exact ⟨rfl, rfl⟩

/-- A row of the bytes xs at block b. -/
def SRow (w : World) (b : Nat) (xs : List Int) : Prop := w.rowIs b 5 xs.length (fun j => .int .u8 (xs.getD j 0))

theorem SRow.cells {w : World} {b : Nat} {xs : List Int} (h : SRow w b xs) : ∀ i, i < xs.length → w.cell? ⟨b, 0 + i, none⟩ = some (.int .u8 (xs.getD i 0)) := by
  intro i hi
  have := World.rowIs.cell h hi
  rw [Nat.zero_add]
  exact this

theorem SRow.lt {w : World} {b : Nat} {xs : List Int} (h : SRow w b xs) : b < w.heap.size := World.rowIs.lt h

theorem SRow.keep {w w' : World} {b : Nat} {xs : List Int} (h : SRow w b xs) (hb : Below w.heap.size w w') : SRow w' b xs :=
  World.rowIs.of_block h (hb.block b h.lt)

theorem len_nil (w : World) : Calls Try.prog 16 #[.slice none 0 0] w fun e w' => e = .returned (.int .i64 0) ∧ w' = w := by
  go_enter Try.func16, Try.ntmps16
  go_wp2_with fail
  refine (length_nil w).mono ?_
  rintro e w' ⟨rfl, rfl⟩
  go_wp2
  go_ret
  exact ⟨rfl, rfl⟩

theorem len_row (b n : Nat) (ys : List Int) (T : Nat) (w : World) (hn : Hid (ys.length = n)) (hm : n ≤ 2000000) (hr : Hid (SRow w b ys)) (hw : Hid (∀ x ∈ ys, 0 ≤ x ∧ x < 256)) (hT : Hid (strF ys false = T)) :
    Calls Try.prog 16 #[.slice (some ⟨b, 0, none⟩) n n] w fun e w' => e = .returned (.int .i64 T) ∧ w' = w := by
  have hcon := length_any b 0 n ys w (Nat.le_of_eq hn.out) hm hr.out.cells hw
  rw [hn.out, hT.out] at hcon
  go_enter Try.func16, Try.ntmps16
  go_wp2_with fail
  refine hcon.mono ?_
  rintro e w' ⟨rfl, rfl⟩
  go_wp2
  go_ret
  exact ⟨rfl, rfl⟩

theorem pre1 (a : Int) (b : Nat) (xs : List Int) (w : World) (h : xs.length ≤ 1048576) (hr : Hid (SRow w b xs)) :
    Calls Try.prog 19 #[.int .u8 a, .slice (some ⟨b, 0, none⟩) xs.length xs.length] w fun e w' => e = .returned (.slice (some ⟨w.heap.size, 0, none⟩) (xs.length + 1) (xs.length + 1)) ∧ Below w.heap.size w w' ∧ Hid (SRow w' w.heap.size (a :: xs)) :=
  prefix1_some a b 0 xs.length xs w h hr.out.lt hr.out.cells

theorem pre2 (a a' : Int) (b : Nat) (xs : List Int) (w : World) (h : xs.length ≤ 1048576) (hr : Hid (SRow w b xs)) :
    Calls Try.prog 20 #[.int .u8 a, .int .u8 a', .slice (some ⟨b, 0, none⟩) xs.length xs.length] w fun e w' => e = .returned (.slice (some ⟨w.heap.size, 0, none⟩) (xs.length + 2) (xs.length + 2)) ∧ Below w.heap.size w w' ∧ Hid (SRow w' w.heap.size (a :: a' :: xs)) :=
  prefix2_some a a' b 0 xs.length xs w h hr.out.lt hr.out.cells

theorem top_big (a : Option Addr) (len cap : Nat) (c : Int) (w : World) (h : 1048576 < len) :
    Calls Try.prog 6 #[.slice a len cap, .int .u8 c] w fun e w' => e = .returned (.bool true) ∧ w' = w := by
  go_enter Try.func6, Try.ntmps6
  go_wp2_with fail
  refine (zzBytes_no a len cap c w h).mono ?_
  rintro e w' ⟨rfl, rfl⟩
  go_wp2
  go_ret
  exact ⟨rfl, rfl⟩

theorem top_sign (a : Option Addr) (len cap : Nat) (c : Int) (w : World) (h : len ≤ 1048576) (hc : c = 34 ∨ c = 92) :
    Calls Try.prog 6 #[.slice a len cap, .int .u8 c] w fun e w' => e = .returned (.bool true) ∧ w' = w := by
  rcases hc with rfl | rfl
  all_goals
    go_enter Try.func6, Try.ntmps6
    go_wp2_with fail
    refine (zzBytes_yes a len cap _ w h).mono ?_
    rintro e w' ⟨rfl, rfl⟩
    go_wp2
    go_ret
    exact ⟨rfl, rfl⟩

theorem bytes_cons {xs : List Int} (h : ∀ x ∈ xs, 0 ≤ x ∧ x < 256) (a : Int) (h0 : 0 ≤ a) (h1 : a < 256) : ∀ x ∈ a :: xs, 0 ≤ x ∧ x < 256 := by
  intro x hx
  rcases List.mem_cons.1 hx with rfl | hx
  · exact ⟨h0, h1⟩
  · exact h x hx

set_option maxHeartbeats 1000000 in
theorem top_some (a0 : Option Addr) (len cap : Nat) (xs : List Int) (c : Int) (w : World) (h : xs.length ≤ 1048576) (hlen : Hid (xs.length = len)) (hc0 : 0 ≤ c) (hc1 : c < 256) (h34 : c ≠ 34) (h92 : c ≠ 92)
    (HW : Hid (∀ x ∈ xs, 0 ≤ x ∧ x < 256))
    (hcl : Calls Try.prog 15 #[.slice a0 len cap] w fun e w' => e = .returned (.slice (some ⟨w.heap.size, 0, none⟩) xs.length xs.length) ∧ Below w.heap.size w w' ∧ Hid (SRow w' w.heap.size xs)) :
    Calls Try.prog 6 #[.slice a0 len cap, .int .u8 c] w fun e w' => e = .returned (.bool true) ∧ Below w.heap.size w w' := by
  obtain rfl := hlen.out
  obtain ⟨T, HT⟩ : ∃ T, Hid (strF xs false = T) := ⟨_, rfl⟩
  have hTl : T ≤ xs.length := by have := strF_le xs false; rw [HT.out] at this; exact this
  have g1 : (c == 34) = false := by simpa using h34
  have g2 : (c == 92) = false := by simpa using h92
  have T1 : Hid (strF (34 :: xs) false = 1) := strF_q xs
  have T2 : Hid (strF (c :: xs) false = T + 1) := show _ = _ by rw [strF_c c xs h34 h92, HT.out]
  have T3 : Hid (strF (92 :: 34 :: xs) false = T + 2) := show _ = _ by rw [strF_bq, HT.out]
  have T4 : Hid (strF (92 :: 92 :: xs) false = T + 2) := show _ = _ by rw [strF_bb, HT.out]
  have W1 : Hid (∀ x ∈ 34 :: xs, 0 ≤ x ∧ x < 256) := bytes_cons HW.out 34 (by decide) (by decide)
  have W2 : Hid (∀ x ∈ c :: xs, 0 ≤ x ∧ x < 256) := bytes_cons HW.out c hc0 hc1
  have W3 : Hid (∀ x ∈ 92 :: 34 :: xs, 0 ≤ x ∧ x < 256) := bytes_cons W1.out 92 (by decide) (by decide)
  have W4 : Hid (∀ x ∈ 92 :: 92 :: xs, 0 ≤ x ∧ x < 256) := bytes_cons (bytes_cons HW.out 92 (by decide) (by decide)) 92 (by decide) (by decide)
  clear h34 h92
  go_enter Try.func6, Try.ntmps6
  go_wp2_with fail
  refine (zzBytes_yes a0 xs.length cap c w h).mono ?_
  rintro e w' ⟨rfl, hx⟩
  obtain rfl := hx.symm
  clear hx
  go_wp2_with fail
  refine hcl.mono ?_
  rintro e w1 ⟨rfl, b1, R1⟩
  clear hcl
  go_wp2_with fail
  refine (len_row _ _ xs T w1 rfl (by omega) R1 HW HT).mono ?_
  rintro e w' ⟨rfl, hx⟩
  obtain rfl := hx.symm
  clear hx
  go_wp2_with fail
  refine (pre1 34 _ xs w1 h R1).mono ?_
  rintro e w2 ⟨rfl, b2, R2⟩
  go_wp2_with fail
  refine (len_row w1.heap.size (xs.length + 1) (34 :: xs) 1 w2 rfl (by omega) R2 W1 T1).mono ?_
  rintro e w' ⟨rfl, hx⟩
  obtain rfl := hx.symm
  clear hx
  go_wp2_with fail
  refine (pre1 c _ xs w2 h (R1.out.keep b2)).mono ?_
  rintro e w3 ⟨rfl, b3, R3⟩
  go_wp2_with fail
  refine (len_row w2.heap.size (xs.length + 1) (c :: xs) (T + 1) w3 rfl (by omega) R3 W2 T2).mono ?_
  rintro e w' ⟨rfl, hx⟩
  obtain rfl := hx.symm
  clear hx
  go_wp2_with fail
  refine (pre2 92 34 _ xs w3 h ((R1.out.keep b2).keep b3)).mono ?_
  rintro e w4 ⟨rfl, b4, R4⟩
  go_wp2_with fail
  refine (len_row w3.heap.size (xs.length + 2) (92 :: 34 :: xs) (T + 2) w4 rfl (by omega) R4 W3 T3).mono ?_
  rintro e w' ⟨rfl, hx⟩
  obtain rfl := hx.symm
  clear hx
  go_wp2_with fail
  refine (pre2 92 92 _ xs w4 h (((R1.out.keep b2).keep b3).keep b4)).mono ?_
  rintro e w5 ⟨rfl, b5, R5⟩
  go_wp2_with fail
  refine (len_row w4.heap.size (xs.length + 2) (92 :: 92 :: xs) (T + 2) w5 rfl (by omega) R5 W4 T4).mono ?_
  rintro e w' ⟨rfl, hx⟩
  obtain rfl := hx.symm
  clear hx
  go_wp2
  go_ret
  have s1 := b1.size
  have s2 := b2.size
  have s3 := b3.size
  have s4 := b4.size
  exact ⟨rfl, (((b1.trans (b2.mono s1)).trans (b3.mono (by omega))).trans (b4.mono (by omega))).trans (b5.mono (by omega))⟩

set_option maxHeartbeats 1000000 in
theorem top_nil (c : Int) (w : World) (hc0 : 0 ≤ c) (hc1 : c < 256) (h34 : c ≠ 34) (h92 : c ≠ 92) :
    Calls Try.prog 6 #[.slice none 0 0, .int .u8 c] w fun e w' => e = .returned (.bool true) ∧ Below w.heap.size w w' := by
  have g1 : (c == 34) = false := by simpa using h34
  have g2 : (c == 92) = false := by simpa using h92
  have T1 : Hid (strF [34] false = 1) := rfl
  have T2 : Hid (strF [c] false = 1) := show _ = _ by rw [strF_c c [] h34 h92]; rfl
  have T3 : Hid (strF [92, 34] false = 2) := rfl
  have T4 : Hid (strF [92, 92] false = 2) := rfl
  have W1 : Hid (∀ x ∈ [(34 : Int)], 0 ≤ x ∧ x < 256) := show ∀ x ∈ [(34 : Int)], 0 ≤ x ∧ x < 256 by decide
  have W2 : Hid (∀ x ∈ [c], 0 ≤ x ∧ x < 256) := bytes_cons (by simp) c hc0 hc1
  have W3 : Hid (∀ x ∈ [(92 : Int), 34], 0 ≤ x ∧ x < 256) := show ∀ x ∈ [(92 : Int), 34], 0 ≤ x ∧ x < 256 by decide
  have W4 : Hid (∀ x ∈ [(92 : Int), 92], 0 ≤ x ∧ x < 256) := show ∀ x ∈ [(92 : Int), 92], 0 ≤ x ∧ x < 256 by decide
  clear h34 h92
  go_enter Try.func6, Try.ntmps6
  go_wp2_with fail
  refine (zzBytes_yes none 0 0 c w (by omega)).mono ?_
  rintro e w' ⟨rfl, hx⟩
  obtain rfl := hx.symm
  clear hx
  go_wp2_with fail
  refine (clone_nil w).mono ?_
  rintro e w' ⟨rfl, hx⟩
  obtain rfl := hx.symm
  clear hx
  go_wp2_with fail
  refine (len_nil w).mono ?_
  rintro e w' ⟨rfl, hx⟩
  obtain rfl := hx.symm
  clear hx
  go_wp2_with fail
  refine (prefix1_nil 34 w).mono ?_
  rintro e w2 ⟨rfl, b2, R2⟩
  have R2' : Hid (SRow w2 w.heap.size [34]) := R2
  clear R2
  go_wp2_with fail
  refine (len_row w.heap.size 1 [34] 1 w2 rfl (by omega) R2' W1 T1).mono ?_
  rintro e w' ⟨rfl, hx⟩
  obtain rfl := hx.symm
  clear hx
  go_wp2_with fail
  refine (prefix1_nil c w2).mono ?_
  rintro e w3 ⟨rfl, b3, R3⟩
  have R3' : Hid (SRow w3 w2.heap.size [c]) := R3
  clear R3
  go_wp2_with fail
  refine (len_row w2.heap.size 1 [c] 1 w3 rfl (by omega) R3' W2 T2).mono ?_
  rintro e w' ⟨rfl, hx⟩
  obtain rfl := hx.symm
  clear hx
  go_wp2_with fail
  refine (prefix2_nil 92 34 w3).mono ?_
  rintro e w4 ⟨rfl, b4, R4⟩
  have R4' : Hid (SRow w4 w3.heap.size [92, 34]) := R4
  clear R4
  go_wp2_with fail
  refine (len_row w3.heap.size 2 [92, 34] 2 w4 rfl (by omega) R4' W3 T3).mono ?_
  rintro e w' ⟨rfl, hx⟩
  obtain rfl := hx.symm
  clear hx
  go_wp2_with fail
  refine (prefix2_nil 92 92 w4).mono ?_
  rintro e w5 ⟨rfl, b5, R5⟩
  have R5' : Hid (SRow w5 w4.heap.size [92, 92]) := R5
  clear R5
  go_wp2_with fail
  refine (len_row w4.heap.size 2 [92, 92] 2 w5 rfl (by omega) R5' W4 T4).mono ?_
  rintro e w' ⟨rfl, hx⟩
  obtain rfl := hx.symm
  clear hx
  go_wp2
  go_ret
  have s2 := b2.size
  have s3 := b3.size
  have s4 := b4.size
  exact ⟨rfl, ((b2.trans (b3.mono s2)).trans (b4.mono (by omega))).trans (b5.mono (by omega))⟩

/-- The clone of whatever slice that is not nil. -/
theorem clone_some (x : Addr) (len cap : Nat) (zs : List Int) (w : World) (h : len ≤ 1048576) (hlc : len ≤ cap) (hz : zs.length = cap)
    (hc : ∀ i, i < zs.length → w.cell? (x.add i) = some (.int .u8 (zs.getD i 0))) :
    Calls Try.prog 15 #[.slice (some x) len cap] w fun e w' => e = .returned (.slice (some ⟨w.heap.size, 0, none⟩) (zs.take len).length (zs.take len).length) ∧ Below w.heap.size w w' ∧ Hid (SRow w' w.heap.size (zs.take len)) := by
  have hl : (zs.take len).length = len := by simp; omega
  rw [hl]
  by_cases h0 : 0 < zs.length
  · obtain ⟨b, off, rfl, hc'⟩ := ints_at hc h0
    refine (clone_pos b off len cap zs w h hlc (fun _ => World.block_lt_of_cell? _ _ (hc' 0 h0)) hz hc').mono ?_
    rintro e w' ⟨rfl, b1, R⟩
    refine ⟨rfl, b1, ?_⟩
    show World.rowIs _ _ _ _ _
    rw [hl]
    exact R.congr fun i hi => by simp [List.getElem?_take_of_lt hi]
  · have hcap : cap = 0 := by omega
    have hlen : len = 0 := by omega
    subst hcap hlen
    refine (clone_zero x w).mono ?_
    rintro e w' ⟨rfl, b1, R⟩
    exact ⟨rfl, b1, show SRow _ _ _ by simpa [SRow] using R⟩

end Go.Proofs.Qxb6605406a
