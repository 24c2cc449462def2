/-
  The law's own walk.
-/
import Derived.Test.Qxb6605386aWalkM
import Derived.Laws.CopyOwn
import Derived.OpenShut
import Derived.Deep.OwnRows
namespace Go.Proofs.Qxb6605386a
open Go.RowKit

theorem zzBytes_no (a : Option Addr) (len cap : Nat) (i : Int) (w : World) (h : 1048576 < len) :
    Calls Try.prog 16 #[.slice a len cap, .int .i64 i] w fun e w' => e = .returned (.bool false) ∧ w' = w := by
  go_enter Try.func16, Try.ntmps16
  go_wp2
  go_ret
  exact ⟨rfl, rfl⟩

theorem zzBytes_yes (a : Option Addr) (len cap : Nat) (i : Int) (w : World) (h : len ≤ 1048576) :
    Calls Try.prog 16 #[.slice a len cap, .int .i64 i] w fun e w' => e = .returned (.bool true) ∧ w' = w := by
  go_enter Try.func16, Try.ntmps16
  go_wp2
  go_ret
  exact ⟨rfl, rfl⟩

theorem zzValueEnd_out (a : Option Addr) (len cap : Nat) (i : Int) (w : World) (h : (len : Int) ≤ i) :
    Calls Try.prog 17 #[.slice a len cap, .int .i64 i] w fun e w' => e = .returned (.int .i64 i) ∧ w' = w := by
  go_enter Try.func17, Try.ntmps17
  go_wp2_with fail
  refine (valueEnd_out a len cap i w h).mono ?_
  rintro e w' ⟨rfl, rfl⟩
  go_wp2
  go_ret
  exact ⟨rfl, rfl⟩

theorem zzValueEnd_any (b off cap : Nat) (xs : List Int) (i0 : Nat) (w : World) (hcap : xs.length ≤ cap) (hm : cap ≤ 2000000)
    (HC : Hid (∀ i, i < xs.length → w.cell? ⟨b, off + i, none⟩ = some (.int .u8 (xs.getD i 0))))
    (hw : Hid (∀ x ∈ xs, 0 ≤ x ∧ x < 256)) (hi : i0 < xs.length) :
    Calls Try.prog 17 #[.slice (some ⟨b, off, none⟩) xs.length cap, .int .i64 i0] w fun e w' => e = .returned (.int .i64 (vEnd xs i0)) ∧ w' = w := by
  have hcon := valueEnd_any b off cap xs i0 w hcap hm HC.out hw hi
  obtain ⟨T, hT⟩ : ∃ T, T = vEnd xs i0 := ⟨_, rfl⟩
  rw [← hT] at hcon ⊢
  clear hT
  go_enter Try.func17, Try.ntmps17
  go_wp2_with fail
  refine hcon.mono ?_
  rintro e w' ⟨rfl, rfl⟩
  go_wp2
  go_ret
  exact ⟨rfl, rfl⟩

theorem model_any (b off cap : Nat) (xs : List Int) (i0 : Nat) (w : World) (hcap : xs.length ≤ cap) (hm : cap ≤ 2000000)
    (HC : Hid (∀ i, i < xs.length → w.cell? ⟨b, off + i, none⟩ = some (.int .u8 (xs.getD i 0)))) (hi : i0 < xs.length) :
    Calls Try.prog 18 #[.slice (some ⟨b, off, none⟩) xs.length cap, .int .i64 i0] w fun e w' => e = .returned (.int .i64 (vEnd xs i0)) ∧ w' = w := by
  by_cases h : xs.getD i0 0 = 34 ∨ xs.getD i0 0 = 123 ∨ xs.getD i0 0 = 91
  · have := model_scan b off cap xs i0 w hcap hm HC hi h
    rw [vEnd, if_pos h]
    exact this
  · have := model_scal b off cap xs i0 w hcap hm HC hi (by omega) (by omega) (by omega)
    rw [vEnd, if_neg h]
    exact this

theorem top_big (a : Option Addr) (len cap : Nat) (i : Int) (w : World) (h : 1048576 < len) :
    Calls Try.prog 5 #[.slice a len cap, .int .i64 i] w fun e w' => e = .returned (.bool true) ∧ w' = w := by
  go_enter Try.func5, Try.ntmps5
  go_wp2_with fail
  refine (zzBytes_no a len cap i w h).mono ?_
  rintro e w' ⟨rfl, rfl⟩
  go_wp2
  go_ret
  exact ⟨rfl, rfl⟩

theorem top_neg (a : Option Addr) (len cap : Nat) (i : Int) (w : World) (h : len ≤ 1048576) (hi : i < 0) :
    Calls Try.prog 5 #[.slice a len cap, .int .i64 i] w fun e w' => e = .returned (.bool true) ∧ w' = w := by
  go_enter Try.func5, Try.ntmps5
  go_wp2_with fail
  refine (zzBytes_yes a len cap i w h).mono ?_
  rintro e w' ⟨rfl, rfl⟩
  go_wp2
  go_ret
  exact ⟨rfl, rfl⟩

theorem top_nil (i : Int) (w : World) (hi : 0 ≤ i) :
    Calls Try.prog 5 #[.slice none 0 0, .int .i64 i] w fun e w' => e = .returned (.bool true) ∧ w' = w := by
  have hnn := fun wx => run_neq_slice_nil_any (P := Try.prog) wx 22 5 none 0 0 0 0 Try.underlying22
  have h1 : ¬ i < 0 := by omega
  go_enter Try.func5, Try.ntmps5
  go_wp2_with fail
  refine (zzBytes_yes none 0 0 i w (by omega)).mono ?_
  rintro e w' ⟨rfl, rfl⟩
  go_wp2_with fail
  refine (zzValueEnd_out none 0 0 i _ (by simpa using hi)).mono ?_
  rintro e w' ⟨rfl, rfl⟩
  go_wp2_with fail
  refine (model_out none 0 0 i _ (by simpa using hi)).mono ?_
  rintro e w' ⟨rfl, rfl⟩
  go_wp2
  go_ret
  exact ⟨rfl, rfl⟩

theorem add_zero_addr (g j : Nat) : (⟨g, 0, none⟩ : Addr).add j = ⟨g, 0 + j, none⟩ := by unfold Addr.add; split <;> simp_all

/-- The run of 'copy' from a row that came in into a row just made. -/
theorem copy_fresh (x : Addr) (len cap : Nat) (zs : List Int) (w : World) (hlc : len ≤ cap) (hz : zs.length = cap)
    (hc : ∀ i, i < zs.length → w.cell? (x.add i) = some (.int .u8 (zs.getD i 0))) :
    ∃ w1, (∀ ty, (Builtin.copy_ #[22, 22] ty #[.slice (some ⟨w.heap.size, 0, none⟩) len len, .slice (some x) len cap]).run Try.prog (w.alloc (.cells (madeCells #[.int .u8 0] len) 5)) = .ok (.int .i64 len) w1)
      ∧ Below w.heap.size w w1 ∧ ∀ i, i < (zs.take len).length → w1.cell? ⟨w.heap.size, 0 + i, none⟩ = some (.int .u8 ((zs.take len).getD i 0)) := by
  obtain ⟨cs, hcs⟩ : ∃ cs, cs = (zs.take len).map (fun n => Value.int .u8 n) := ⟨_, rfl⟩
  have hlen : cs.length = len := by rw [hcs]; simp; omega
  have hg : (w.alloc (.cells (madeCells #[.int .u8 0] len) 5)).heap[w.heap.size]? = some (.cells (madeCells #[.int .u8 0] len) 5 (0, 0)) := Go.Deep.blk_alloc_new _ _
  have hb : Below w.heap.size w (w.alloc (.cells (madeCells #[.int .u8 0] len) 5)) := (Below.refl _ _).alloc (Nat.le_refl _) _
  have hsrc : ∀ j v, cs[j]? = some v → (w.alloc (.cells (madeCells #[.int .u8 0] len) 5)).cell? (x.add j) = some v := by
    intro j v hj
    have hjl : j < cs.length := (List.getElem?_eq_some_iff.1 hj).1
    have := hc j (by omega)
    rw [hcs] at hj
    simp only [List.getElem?_map, List.getElem?_take_of_lt (show j < len by omega)] at hj
    rw [List.getElem?_eq_getElem (by omega)] at hj
    simp at hj
    rw [List.getD_eq_getElem?_getD, List.getElem?_eq_getElem (by omega)] at this
    rw [← hj]
    exact cell_later hb this
  have hrun := fun ty => run_copy_row (P := Try.prog) (w.alloc (.cells (madeCells #[.int .u8 0] len) 5)) 22 22 ty 5 w.heap.size 0 len len x len cap (madeCells #[.int .u8 0] len) 5 cs Try.underlying22 (by kernel_rfl) hg (by rw [hlen]; simp) hsrc (by rw [size_madeCells]; omega) (by rw [hcs]; intro v hv; obtain ⟨n, _, rfl⟩ := List.mem_map.1 hv; rfl)
  have hrow := setRow_heap (w.alloc (.cells (madeCells #[.int .u8 0] len) 5)) w.heap.size (madeCells #[.int .u8 0] len) ((madeCells #[.int .u8 0] len).toList.take 0 ++ cs ++ (madeCells #[.int .u8 0] len).toList.drop (0 + cs.length)).toArray 5 (0, 0) hg
  refine ⟨_, fun ty => by rw [hrun ty, hlen]; rfl, below_setRow hb (Nat.le_refl _) _, ?_⟩
  intro i hi
  have hil : i < len := by simp at hi; omega
  rw [hlen] at hrow
  have e : (madeCells #[.int .u8 0] len).toList.take 0 ++ cs ++ (madeCells #[.int .u8 0] len).toList.drop (0 + len) = cs := by
    rw [List.drop_eq_nil_of_le (by simp [size_madeCells])]; simp
  rw [e] at hrow ⊢
  simp only [World.cell?, hrow]
  simp [hcs, List.getElem?_take_of_lt hil, List.getElem?_eq_getElem (show i < zs.length by omega)]

set_option maxHeartbeats 1000000 in
theorem top_some (x : Addr) (len cap : Nat) (zs : List Int) (i : Int) (w : World) (hi : 0 ≤ i) (h : len ≤ 1048576) (hlc : len ≤ cap) (hz : Hid (zs.length = cap))
    (HC : Hid (∀ i, i < zs.length → w.cell? (x.add i) = some (.int .u8 (zs.getD i 0)))) (HW : Hid (∀ n ∈ zs, (Lit.int .u8 n).wf = true)) :
    Calls Try.prog 5 #[.slice (some x) len cap, .int .i64 i] w fun e w' => e = .returned (.bool true) ∧ Below w.heap.size w w' := by
  have hnn := fun wx => run_neq_slice_nil_any (P := Try.prog) wx 22 5 (some x) len cap 0 0 Try.underlying22
  have h1 : ¬ i < 0 := by omega
  obtain ⟨w1, hcp, hb1, hc1⟩ := copy_fresh x len cap zs w hlc hz.out HC.out
  obtain ⟨xs, Hxs⟩ : ∃ xs, Hid (xs = zs.take len) := ⟨_, rfl⟩
  have Hl : Hid (xs.length = len) := show _ = _ by rw [Hxs.out]; have := hz.out; simp; omega
  have HC1 : Hid (∀ i, i < xs.length → w1.cell? ⟨w.heap.size, 0 + i, none⟩ = some (.int .u8 (xs.getD i 0))) := by rw [Hxs.out]; exact hc1
  have HW1 : Hid (∀ x ∈ xs, 0 ≤ x ∧ x < 256) := by
    show ∀ x ∈ xs, _
    intro x hx
    rw [Hxs.out] at hx
    have := bounds_u8 (HW.out x (List.mem_of_mem_take hx))
    omega
  clear hc1
  have hl := Hl.out
  subst hl
  clear Hl Hxs HC HW hz
  have hmk := run_make_row' (P := Try.prog) 22 5 (.int .u8 0) 1 Try.underlying22 (by kernel_rfl) rfl .i64 .i64 xs.length (by omega) (by omega)
  by_cases hin : i < xs.length
  · obtain ⟨k, rfl⟩ : ∃ k : Nat, i = k := ⟨i.toNat, by omega⟩
    have hk : k < xs.length := by omega
    have c1 := zzValueEnd_any w.heap.size 0 xs.length xs k w1 (Nat.le_refl _) (by omega) HC1 HW1 hk
    have c2 := model_any w.heap.size 0 xs.length xs k w1 (Nat.le_refl _) (by omega) HC1 hk
    obtain ⟨T, hT⟩ : ∃ T, T = vEnd xs k := ⟨_, rfl⟩
    rw [← hT] at c1 c2
    clear hT HC1 HW1
    go_enter Try.func5, Try.ntmps5
    go_wp2_with fail
    refine (zzBytes_yes (some x) xs.length cap k w h).mono ?_
    rintro e w' ⟨rfl, rfl⟩
    go_wp2_with fail
    refine c1.mono ?_
    rintro e w' ⟨rfl, rfl⟩
    go_wp2_with fail
    refine c2.mono ?_
    rintro e w' ⟨rfl, rfl⟩
    go_wp2
    go_ret
    exact ⟨by simp, hb1⟩
  · have hle : (xs.length : Int) ≤ i := by omega
    go_enter Try.func5, Try.ntmps5
    go_wp2_with fail
    refine (zzBytes_yes (some x) xs.length cap i w h).mono ?_
    rintro e w' ⟨rfl, rfl⟩
    go_wp2_with fail
    refine (zzValueEnd_out _ _ _ i _ hle).mono ?_
    rintro e w' ⟨rfl, rfl⟩
    go_wp2_with fail
    refine (model_out _ _ _ i _ hle).mono ?_
    rintro e w' ⟨rfl, rfl⟩
    go_wp2
    go_ret
    exact ⟨by simp, hb1⟩

end Go.Proofs.Qxb6605386a
