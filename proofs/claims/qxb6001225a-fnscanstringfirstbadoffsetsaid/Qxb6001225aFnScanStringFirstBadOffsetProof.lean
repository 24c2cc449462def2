/-
  The proof of 'Rows.FnScanStringFirstBadOffsetSaid', in the guide's own frame (the shell given with the seat), its walk filled; the frame's last step says 'Below' (Derived/Below.lean) where the shell said 'Grown'.
-/
import Derived.Test.Qxb6001225aRows
import Derived.WalkKit
import Derived.ProofKit
import Derived.OpenShut
import Derived.ShutString
import Derived.ChangeOld
import Derived.Below
import Derived.Test.Qxb6001225aTop9b
import Derived.Test.Qxb6001225aTop9c
import Derived.Test.Qxb6001225aTop9d
import Derived.Test.Qxb6001225aTop9e
import Derived.Test.Qxb6001225aTop9f
import Derived.Test.Qxb6001225aTop9g
namespace Go.Proofs.Qxb6001225a.fnScanStringFirstBadOffset
open Go.ChangeShapes Go.WideShapes Go.ChangeAt Go.RowKit
open Go.ChangeMaps (open_string shut_string)
set_option linter.unusedVariables false      -- a walk need not use every 'w<i>' (that an integer argument fits its kind)

theorem own : ownKnob Try.prog.godebug = none := by kernel_rfl

/-! ### STEP 1: the walk. -/
theorem walk (a0 : ByteArray) (a1 : Int) (a2 : Int) (a3 : ByteArray) (a4 : Bool) (w0 : a0.size ≤ maxLen) (w1 : (Lit.int .u8 a1).wf = true) (w2 : (Lit.int .u8 a2).wf = true) (w3 : a3.size ≤ maxLen) (w : World) :
    Calls Try.prog 9 #[.string a0, .int .u8 a1, .int .u8 a2, .string a3, .bool a4] w fun e w' => e = .returned (.bool true) ∧ Below w.heap.size w w' := by
  have bd1 := bounds_u8 w1
  have bd2 := bounds_u8 w2
  by_cases hbig : 1048576 < a0.size + a3.size
  · refine (top9_big a0 a3 a4 a1 a2 w w0 w3 hbig).mono ?_
    rintro e w' ⟨rfl, rfl⟩
    exact ⟨rfl, Below.refl _ _⟩
  · have h : a0.size + a3.size ≤ 1048576 := by omega
    have h3 : a1 % 3 = 0 ∨ a1 % 3 = 1 ∨ a1 % 3 = 2 := by omega
    rcases h3 with h3 | h3 | h3
    · by_cases h10 : a2 % 32 = 10
      · exact top9_ctl10 a0 a3 a4 a1 a2 w h (by omega) (by omega) (by omega) (by omega) h3 h10
      · by_cases h13 : a2 % 32 = 13
        · exact top9_ctl13 a0 a3 a4 a1 a2 w h (by omega) (by omega) (by omega) (by omega) h3 h13
        · exact top9_ctl a0 a3 a4 a1 a2 w h (by omega) (by omega) (by omega) (by omega) h3 h10 h13
    · by_cases q34 : a2 = 34
      · subst q34; exact top9_escx34 a0 a3 a4 a1 w h (by omega) (by omega) h3
      · by_cases q92 : a2 = 92
        · subst q92; exact top9_escx92 a0 a3 a4 a1 w h (by omega) (by omega) h3
        · by_cases q47 : a2 = 47
          · subst q47; exact top9_escx47 a0 a3 a4 a1 w h (by omega) (by omega) h3
          · by_cases q98 : a2 = 98
            · subst q98; exact top9_escx98 a0 a3 a4 a1 w h (by omega) (by omega) h3
            · by_cases q102 : a2 = 102
              · subst q102; exact top9_escx102 a0 a3 a4 a1 w h (by omega) (by omega) h3
              · by_cases q110 : a2 = 110
                · subst q110; exact top9_escx110 a0 a3 a4 a1 w h (by omega) (by omega) h3
                · by_cases q114 : a2 = 114
                  · subst q114; exact top9_escx114 a0 a3 a4 a1 w h (by omega) (by omega) h3
                  · by_cases q116 : a2 = 116
                    · subst q116; exact top9_escx116 a0 a3 a4 a1 w h (by omega) (by omega) h3
                    · by_cases q117 : a2 = 117
                      · subst q117; exact top9_escx117 a0 a3 a4 a1 w h (by omega) (by omega) h3
                      · by_cases q10 : a2 = 10
                        · subst q10; exact top9_escx10 a0 a3 a4 a1 w h (by omega) (by omega) h3
                        · by_cases q13 : a2 = 13
                          · subst q13; exact top9_escx13 a0 a3 a4 a1 w h (by omega) (by omega) h3
                          · exact top9_esc a0 a3 a4 a1 a2 w h (by omega) (by omega) (by omega) (by omega) h3 q34 q92 q47 q98 q102 q110 q114 q116 q117 q10 q13
    · obtain ⟨D, hD⟩ : ∃ D : Nat, a1 / 3 % 4 = (D : Int) := ⟨(a1 / 3 % 4).toNat, by omega⟩
      have hD4 : D < 4 := by omega
      by_cases h12 : a1 / 12 % 2 = 0
      · by_cases hH : isH a2 = true
        · exact top9_unihex a0 a3 a4 a1 a2 w h (by omega) (by omega) h3 D hD4 hD h12 hH
        · by_cases q34 : a2 = 34
          · subst q34; exact top9_unig34 a0 a3 a4 a1 w h (by omega) (by omega) h3 D hD4 hD h12
          · by_cases q92 : a2 = 92
            · subst q92; exact top9_unig92 a0 a3 a4 a1 w h (by omega) (by omega) h3 D hD4 hD h12
            · by_cases q10 : a2 = 10
              · subst q10; exact top9_unig10 a0 a3 a4 a1 w h (by omega) (by omega) h3 D hD4 hD h12
              · by_cases q13 : a2 = 13
                · subst q13; exact top9_unig13 a0 a3 a4 a1 w h (by omega) (by omega) h3 D hD4 hD h12
                · exact top9_uni a0 a3 a4 a1 a2 w h (by omega) (by omega) (by omega) (by omega) h3 D hD4 hD h12 (by simpa using hH) q34 q92 q10 q13
      · exact top9_unishut a0 a3 a4 a1 a2 w h (by omega) (by omega) h3 D hD4 hD (by omega)

/-! ### THE ROW's STEP: WRITTEN OUT: LEAVE IT -/
set_option maxRecDepth 100000 in
theorem lifted (os : Os) (started : os.Started) (H : Type) (enc : TypeId × Value → H) :
    ReturnsInHanded {} Try.checked os 9 .any (Rows.fnScanStringFirstBadOffsetSpec.pre6 enc Try.prog Try.f9 Rows.fnScanStringFirstBadOffsetRow.domain false) (Rows.fnScanStringFirstBadOffsetSpec.post enc Try.prog Try.f9 false true false false) := by
  refine returnsInHanded_of_change (C := Try.checked) own started (by kernel_rfl) Try.func9
    (ChangeSpec.witness6 (enc := enc) (C := Try.checked) false ⟨#[], #[.string ByteArray.empty, .int .u8 0, .int .u8 0, .string ByteArray.empty, .bool false], []⟩ 8 (by kernel_rfl) (by kernel_rfl) (by kernel_rfl) (by kernel_rfl)) ?_
  intro W base args ds gs before hval0 hW hcnd _
  have hval : ∀ (j : Nat) t v, Try.f9.params[j]? = some t → args[j]? = some v → Value.okWide Try.prog W .any base t v := hval0
  have hW' := hW
  obtain ⟨p, q, hA0, hV, rfl, hfz, hnd⟩ := hW
  have hA : DataW.TrodAll enc Try.prog W 0 (fun _ => true) true Try.f9.params.toList args.toList ds p := hA0
  rw [Try.params9] at hA hval
  obtain ⟨v0, vs0, d0, ds0, p0, q0, hargs, rfl, rfl, h0, r0⟩ := trodAll_cons hA
  obtain ⟨v1, vs1, d1, ds1, p1, q1, rfl, rfl, rfl, h1, r1⟩ := trodAll_cons r0
  obtain ⟨v2, vs2, d2, ds2, p2, q2, rfl, rfl, rfl, h2, r2⟩ := trodAll_cons r1
  obtain ⟨v3, vs3, d3, ds3, p3, q3, rfl, rfl, rfl, h3, r3⟩ := trodAll_cons r2
  obtain ⟨v4, vs4, d4, ds4, p4, q4, rfl, rfl, rfl, h4, r4⟩ := trodAll_cons r3
  obtain ⟨rfl, rfl, rfl⟩ := trodAll_nil r4
  obtain rfl : args = #[v0, v1, v2, v3, v4] := by cases args; simp_all
  obtain ⟨rfl, rfl⟩ := trodVars_none hV
  obtain ⟨a0, rfl, rfl, rfl, w0⟩ := open_string Try.underlying9 (hval 0 9 v0 rfl rfl) h0
  obtain ⟨a1, rfl, rfl, rfl, w1⟩ := open_int Try.underlying5 (hval 1 5 v1 rfl rfl) h1
  obtain ⟨a2, rfl, rfl, rfl, w2⟩ := open_int Try.underlying5 (hval 2 5 v2 rfl rfl) h2
  obtain ⟨a3, rfl, rfl, rfl, w3⟩ := open_string Try.underlying9 (hval 3 9 v3 rfl rfl) h3
  obtain ⟨a4, rfl, rfl, rfl⟩ := open_bool Try.underlying4 (hval 4 4 v4 rfl rfl) h4
  clear hA0 hval0
  refine (walk a0 a1 a2 a3 a4 w0 w1 w2 w3 W).mono fun e W' ⟨he, bel⟩ => ?_
  subst he
  exact ⟨_, rfl, _, _, _, [], _, [], hW', trodAll_mk1 (shut_bool Try.underlying4 _), (trodAll_cons_mk (shut_string Try.underlying9 w0) (trodAll_cons_mk (shut_int Try.underlying5 w1) (trodAll_cons_mk (shut_int Try.underlying5 w2) (trodAll_cons_mk (shut_string Try.underlying9 w3) (trodAll_cons_mk (shut_bool Try.underlying4 _) trodAll_mk0))))), rfl, bel.frame _, fun h => by cases h⟩

theorem over : Rows.fnScanStringFirstBadOffsetRow.holds Try.pinned (OpenSpec.ofChange Rows.fnScanStringFirstBadOffsetSpec) :=
  OpenClaim.holds_of_wide 9 Try.f9 rfl rfl rfl rfl rfl rfl rfl ⟨rfl, rfl, rfl, rfl, rfl⟩ rfl rfl rfl rfl rfl (by kernel_rfl) Try.func9 (by kernel_rfl)
    (of_decide_eq_true (by kernel_rfl)) (by unfold Func.isWrapper; first | (rw [if_pos (by decide +kernel)]; kernel_rfl) | (rw [if_neg (by decide +kernel)]; exact ⟨rfl, rfl⟩))
    (fun os started H enc _ => lifted os started H enc)

/-- ████ THE STATEMENT ████ -/
theorem proved : Rows.FnScanStringFirstBadOffsetSaid :=
  over
#print axioms proved
end Go.Proofs.Qxb6001225a.fnScanStringFirstBadOffset
