/-
  (*lineScanner).skipBlank.
-/
import Derived.Test.Qxb6000027aWalkM
import Derived.Deep.QuietTactic
import Derived.Deep.LoopGhost
import Derived.BigQuiet
namespace Go.Proofs.Qxb6000027a
open Go.RowKit

theorem drewN_below {B : Nat} {a w : World} (h : Below B a w) (n : Nat) : Below B a (w.drewN n) := h.trans ⟨rfl, rfl, rfl, Nat.le_refl _, fun _ _ => rfl⟩

/-- What a store into the field 'pos' leaves. -/
theorem rel_set {g m : Nat} {wr w : World} {s : ByteArray} {k : Int} (v : Int) (c0 : wr.cell? ⟨g, 0, none⟩ = some (.string s)) (c1 : wr.cell? ⟨g, 1, none⟩ = some (.int .i64 k)) (cf : wr.frozen? ⟨g, 1, none⟩ = false) (hb : Below g w wr) :
    ((wr.drewN m).setCell ⟨g, 1, none⟩ (.int .i64 v)).cell? ⟨g, 0, none⟩ = some (.string s) ∧ ((wr.drewN m).setCell ⟨g, 1, none⟩ (.int .i64 v)).cell? ⟨g, 1, none⟩ = some (.int .i64 v) ∧
    ((wr.drewN m).setCell ⟨g, 1, none⟩ (.int .i64 v)).frozen? ⟨g, 1, none⟩ = false ∧ Below g w ((wr.drewN m).setCell ⟨g, 1, none⟩ (.int .i64 v)) := by
  refine ⟨?_, ?_, ?_, (drewN_below hb m).setCell (Nat.le_refl _) _⟩
  · exact (World.cell?_setCell_other _ _ _ _ (by simp)).trans c0
  · exact World.cell?_setCell_same (u := .int .i64 k) _ _ _ c1
  · rw [World.frozen?_setCell]; exact cf

set_option maxHeartbeats 2000000 in
theorem skip_any (g : Nat) (s : ByteArray) (p : Nat) (w : World) (hs : s.size ≤ 1048576) (hp : p ≤ s.size)
    (h0 : w.cell? ⟨g, 0, none⟩ = some (.string s)) (h1 : w.cell? ⟨g, 1, none⟩ = some (.int .i64 p)) (hf : w.frozen? ⟨g, 1, none⟩ = false) :
    Calls Try.prog 9 #[.pointer (some ⟨g, 0, none⟩)] w fun e w' => e = .returned (.tuple #[]) ∧ Below g w w' ∧ w'.cell? ⟨g, 1, none⟩ = some (.int .i64 (p + sk ((ns s).drop p) false : Nat)) := by
  obtain ⟨T, HT⟩ : ∃ T, Hid (p + sk ((ns s).drop p) false = T) := ⟨_, rfl⟩
  rw [HT.out]
  have HL : Hid ((ns s).length = s.size) := ns_length s
  go_enter Try.func9, Try.ntmps9
  go_wp2
  go_loopg [] (s.size - p) (fun n wr => ∃ k : Nat, Hid (n = s.size - k) ∧ k ≤ s.size ∧ wr.cell? ⟨g, 0, none⟩ = some (.string s) ∧ wr.cell? ⟨g, 1, none⟩ = some (.int .i64 k) ∧ wr.frozen? ⟨g, 1, none⟩ = false ∧ Below g w wr ∧ Hid (k + sk ((ns s).drop k) false = T))
  case atStart => exact ⟨p, rfl, hp, h0, h1, hf, Below.refl _ _, HT⟩
  case round =>
    obtain ⟨k, Hn, hk, c0, c1, cf, hb, HR⟩ := hrel
    clear h0 h1 hf
    by_cases hlt : k < s.size
    · have hlt' : k < (ns s).length := by rw [HL.out]; exact hlt
      have hlI : (k : Int) < s.size := by omega
      obtain ⟨c, Hc, hcc⟩ : ∃ c, Hid ((ns s).getD k 0 = c) ∧ (s[k].toNat : Int) = c := ⟨_, rfl, (ns_get s k hlt).symm⟩
      by_cases hbl : c = 32 ∨ c = 9 ∨ c = 13 ∨ c = 10
      · have HS : Hid ((k + 1) + sk ((ns s).drop (k + 1)) false = T) := show _ = _ by rw [← HR.out, sk_blank (ns s) k hlt' (by rw [Hc.out]; rcases hbl with rfl | rfl | rfl | rfl <;> rfl)]
        rcases hbl with rfl | rfl | rfl | rfl
        all_goals
          go_wp2
          go_quiet (fail)
          go_wp2
          go_quiet (fail)
          go_wp2
          go_roundg (s.size - (k + 1))
          case measure => have := Hn.out; omega
          case rel =>
            have R := fun m => rel_set (m := m) ((k : Int) + 1) c0 c1 cf hb
            exact ⟨k + 1, rfl, by omega, (R _).1, (R _).2.1, (R _).2.2.1, (R _).2.2.2, HS⟩
      · have g1 : (c == 32) = false := by simp; omega
        have g2 : (c == 9) = false := by simp; omega
        have g3 : (c == 13) = false := by simp; omega
        have g4 : (c == 10) = false := by simp; omega
        by_cases h35 : c = 35
        · subst h35
          have hsh := sk_hash (ns s) k hlt' Hc.out
          clear g1 g2 g3 g4 hbl
          rcases idx_spec ((ns s).drop k) 10 (by omega) (by omega) (fun x hx => ns_range s x (List.mem_of_mem_drop hx)) with ⟨e1, e2⟩ | ⟨q, e1, e2, e3, e4⟩
          · have H1 : Hid (Lib.indexByte (Lib.bytesOf ((ns s).drop k)) (10 : Int).toNat.toUInt8 = -1) := e1
            have HS : Hid (s.size + sk ((ns s).drop s.size) false = T) := show _ = _ by
              have h5 := HR.out
              rw [hsh, sk_none _ e2, List.length_drop, HL.out] at h5
              rw [sk_end (ns s) s.size false (by rw [HL.out]; omega)]
              omega
            clear e1 e2 hsh
            go_wp2
            go_quiet (fail)
            go_wp2
            go_quiet (fail)
            go_wp2
            go_quiet ((go_at_call 10; exact (idx_is s k (-1) _ H1).mono (fun _ _ h => ⟨h.1, _, h.2⟩)))
            go_wp2
            go_roundg 0
            case measure => have := Hn.out; omega
            case rel =>
              have R := fun m => rel_set (m := m) (s.size : Int) c0 c1 cf hb
              exact ⟨s.size, show _ = _ by omega, by omega, (R _).1, (R _).2.1, (R _).2.2.1, (R _).2.2.2, HS⟩
          · have H1 : Hid (Lib.indexByte (Lib.bytesOf ((ns s).drop k)) (10 : Int).toNat.toUInt8 = q) := e1
            have hq : 1 ≤ q := by
              rcases Nat.eq_zero_or_pos q with h | h
              · subst h
                rw [List.getD_eq_getElem?_getD, List.getElem?_drop] at e3
                have := Hc.out
                rw [List.getD_eq_getElem?_getD] at this
                simp at e3
                rw [e3] at this
                omega
              · exact h
            have hq2 : k + q < s.size := by rw [List.length_drop, HL.out] at e2; omega
            have HS : Hid ((k + q) + sk ((ns s).drop (k + q)) false = T) := show _ = _ by
              have h5 := HR.out
              rw [hsh, sk_first _ q e2 e3 e4, List.drop_drop] at h5
              omega
            clear e1 e2 e3 e4 hsh
            go_wp2
            go_quiet (fail)
            go_wp2
            go_quiet (fail)
            go_wp2
            go_quiet ((go_at_call 10; exact (idx_is s k q _ H1).mono (fun _ _ h => ⟨h.1, _, h.2⟩)))
            go_wp2
            go_roundg (s.size - (k + q))
            case measure => have := Hn.out; omega
            case rel =>
              have R := fun m => rel_set (m := m) ((k : Int) + q) c0 c1 cf hb
              exact ⟨k + q, rfl, by omega, (R _).1, (R _).2.1, (R _).2.2.1, (R _).2.2.2, HS⟩
        · have g5 : (c == 35) = false := by simpa using h35
          have HS : Hid (T = k) := show _ = _ by rw [← HR.out, sk_stop (ns s) k hlt' (by rw [Hc.out]; simp [blank, g1, g2, g3, g4]) (by rw [Hc.out]; exact h35)]; rfl
          clear hbl h35
          go_wp2
          go_quiet (fail)
          go_wp2
          go_quiet (fail)
          go_wp2
          refine bodyPost_ret (results_none rfl _ _ _) rfl ?_
          exact ⟨rfl, drewN_below hb _, by rw [HS.out]; exact c1⟩
    · have HS : Hid (T = k) := show _ = _ by rw [← HR.out, sk_end (ns s) k false (by rw [HL.out]; exact hlt)]; rfl
      go_wp2
      go_quiet (fail)
      go_wp2
      go_end0
      exact ⟨rfl, drewN_below hb _, by rw [HS.out]; exact c1⟩

end Go.Proofs.Qxb6000027a
