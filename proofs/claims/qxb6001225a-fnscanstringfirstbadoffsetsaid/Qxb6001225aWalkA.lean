/-
  zzHexDigit, zzAppendEscaped.
-/
import Derived.Test.Qxb6001225aWalkH
import Derived.Lib.AppendStr
namespace Go.Proofs.Qxb6001225a
open Go.RowKit

theorem hexDigit_any (v : Int) (u : Bool) (w : World) (h0 : 0 ≤ v) (h1 : v < 16) :
    Calls Try.prog 38 #[.int .u8 v, .bool u] w fun e w' => e = .returned (.int .u8 (hexd v u)) ∧ w' = w := by
  by_cases h : v < 10
  · go_enter Try.func38, Try.ntmps38
    go_wp2
    go_ret
    refine ⟨ret_int ?_, rfl⟩
    rw [hexd, if_pos h]
  · cases u
    · go_enter Try.func38, Try.ntmps38
      go_wp2
      go_ret
      refine ⟨ret_int ?_, rfl⟩
      rw [hexd, if_neg (by omega), if_neg (by simp)]
      omega
    · go_enter Try.func38, Try.ntmps38
      go_wp2
      go_ret
      refine ⟨ret_int ?_, rfl⟩
      rw [hexd, if_neg (by omega), if_pos rfl]
      omega

theorem info5 : (Try.prog.info? 5).map (fun i => (i.zero, i.size, i.bytes)) = some (some (.int .u8 0), 1, 1) := by kernel_rfl

/-- The slice value v owns the bytes xs, in a block from B on. -/
def Own (w : World) (B : Nat) (v : Value) (xs : List Int) : Prop := w.ownsRow B 5 1 v xs.length (xs.map (Value.int .u8))

/-- 'append(v, b0, b1, ..)' on a slice of the call's own. -/
theorem app_law {ops : Array Oper} {rest : List Oper} {o : Oper} {a : Act} {Q : Exit → Act → World → Prop} {w : World} {arr : Array Value} {m : Nat} (news : List Int) (hgd : o.guard = none) (s x : Operand)
    (ho : o.op = .call { callee := .builtin .append, args := #[s, x], argTypes := #[38, 38] }) (B : Nat) (v : Value) (xs : List Int) (hs : a.eval s = v) (HO : Hid (Own w B v xs))
    (harr : arr.toList = news.map (Value.int .u8)) (hm : m = news.length) (hx : a.eval x = .slice (some ⟨w.heap.size, 0, none⟩) m m) (hB : B ≤ w.heap.size) (hlen : Hid (xs.length + news.length ≤ 100000000))
    (h : ∀ v' w', Hid (Own w' B v' (xs ++ news)) → Below B w w' → wpList Try.prog ops Q rest (a.put o.dst v') w') :
    wpList Try.prog ops Q (o :: rest) a (w.alloc (.cells arr 5)) := by
  obtain ⟨i, hi, hz0, hz1, hz2⟩ := info_parts info5
  have hl := hlen.out
  subst hm
  refine wpList_append_own (P := Try.prog) _ hgd s x 38 ho B 5 i (.int .u8 0) 1 1 Try.underlying38 hi hz0 hz1 hz2 rfl (by decide) v xs.length (xs.map (Value.int .u8)) hs (HO.out.alloc _) ⟨w.heap.size, 0, none⟩ news.length news.length (news.map (Value.int .u8)) hx (by simp) ?_ ?_ ?_ ?_ ?_ ?_
  · intro j u hj
    rw [← harr] at hj
    have hadd : (⟨w.heap.size, 0, none⟩ : Addr).add j = ⟨w.heap.size, j, none⟩ := by unfold Addr.add; split <;> simp_all
    rw [hadd]
    simp only [World.cell?_alloc_at]
    simpa using hj
  · intro u hu
    obtain ⟨n, _, rfl⟩ := List.mem_map.1 hu
    rfl
  · unfold maxLen; omega
  · omega
  · simp; omega
  · intro v' w' h1 h2 _
    refine h v' w' ?_ ?_
    · show World.ownsRow _ _ _ _ _ _ _
      rw [List.length_append, List.map_append]
      exact h1
    · exact ((Below.refl B w).alloc hB _).grown h2 (by simp; omega) (fun k hk => (World.ownsRow.lt HO.out k hk).1)

theorem own_step {w : World} {B : Nat} {v : Value} {xs l news : List Int} {short : Bool} {k : Nat} {c : Int} (h : Own w B v ((xs ++ escL short (l.take k)) ++ news)) (hk : k < l.length) (hc : l.getD k 0 = c) (he : escB short c = news) :
    Own w B v (xs ++ escL short (l.take (k + 1))) := by
  have e : l.take (k + 1) = l.take k ++ [c] := by
    rw [List.take_succ_eq_append_getElem hk, ← hc]
    simp [List.getD, List.getElem?_eq_getElem hk]
  rw [e, escL_snoc, he, ← List.append_assoc]
  exact h

theorem esc_bound {xs l : List Int} {short : Bool} {k : Nat} (hk : k ≤ 1048576) (hx : xs.length ≤ 30000000) (n : Nat) (hn : n ≤ 6) : (xs ++ escL short (l.take k)).length + n ≤ 100000000 := by
  have h1 := escL_len short (l.take k)
  have h2 : (l.take k).length ≤ k := List.length_take_le _ _
  rw [List.length_append]
  omega

theorem hexDigit_is (v : Int) (u : Bool) (x : Int) (w : World) (h0 : 0 ≤ v) (h1 : v < 16) (X : Hid (hexd v u = x)) :
    Calls Try.prog 38 #[.int .u8 v, .bool u] w fun e w' => e = .returned (.int .u8 x) ∧ w' = w := by
  have := hexDigit_any v u w h0 h1
  rw [X.out] at this
  exact this

set_option maxHeartbeats 8000000 in
set_option maxRecDepth 100000 in
theorem esc_any (v : Value) (s : ByteArray) (short : Bool) (xs : List Int) (B : Nat) (w : World) (hB : B ≤ w.heap.size) (HO : Hid (Own w B v xs)) (hs : s.size ≤ 1048576) (hx : xs.length ≤ 30000000) :
    Calls Try.prog 28 #[v, .string s, .bool short] w fun e w' => ∃ v', e = .returned v' ∧ Hid (Own w' B v' (xs ++ escL short (ns s))) ∧ Below B w w' := by
  have HL : Hid ((ns s).length = s.size) := ns_length s
  go_enter Try.func28, Try.ntmps28
  go_wp2
  go_loopw [0, 7] (fun u i wr => ∃ k : Nat, i = .int .i64 k ∧ k ≤ s.size ∧ Hid (Own wr B u (xs ++ escL short ((ns s).take k))) ∧ Below B w wr) (fun _ i _ => s.size - (intOf i).toNat)
  case atStart => exact ⟨0, rfl, by omega, by simpa [escL] using HO, Below.refl _ _⟩
  case round =>
    obtain ⟨k, rfl, hk, HR, hbl⟩ := hrel
    have hBr : B ≤ wr.heap.size := Nat.le_trans hB hbl.size
    by_cases hlt : k < s.size
    · have hlt' : k < (ns s).length := by rw [HL.out]; exact hlt
      have hr := byte_range s k hlt
      obtain ⟨c, Hc, hcc, hc0, hc1⟩ : ∃ c, Hid ((ns s).getD k 0 = c) ∧ (s[k].toNat : Int) = c ∧ 0 ≤ c ∧ c < 256 := ⟨_, rfl, (ns_get s k hlt).symm, hr.1, hr.2⟩
      clear hr
      by_cases h34 : c = 34
      · subst h34
        have HE : Hid (escB short 34 = [92, 34]) := rfl
        have Hb : Hid ((xs ++ escL short ((ns s).take k)).length + ([92, 34] : List Int).length ≤ 100000000) := esc_bound (by omega) hx 2 (by omega)
        go_wp2_with (at_builtin; refine app_law [92, 34] rfl (.tmp 29) (.tmp 31) rfl B _ _ rfl HR rfl rfl rfl hBr Hb ?_; intro v1 w1 HO1 hb1)
        go_roundw
        case rel => exact ⟨k + 1, by go_num, by omega, own_step HO1.out hlt' Hc.out HE.out, hbl.trans hb1⟩
        case measure => simp [intOf]; omega
      · by_cases h92 : c = 92
        · subst h92
          have HE : Hid (escB short 92 = [92, 92]) := rfl
          have Hb : Hid ((xs ++ escL short ((ns s).take k)).length + ([92, 92] : List Int).length ≤ 100000000) := esc_bound (by omega) hx 2 (by omega)
          go_wp2_with (at_builtin; refine app_law [92, 92] rfl (.tmp 29) (.tmp 31) rfl B _ _ rfl HR rfl rfl rfl hBr Hb ?_; intro v1 w1 HO1 hb1)
          go_roundw
          case rel => exact ⟨k + 1, by go_num, by omega, own_step HO1.out hlt' Hc.out HE.out, hbl.trans hb1⟩
          case measure => simp [intOf]; omega
        · have g1 : (c == 34) = false := by simpa using h34
          have g2 : (c == 92) = false := by simpa using h92
          cases short with
          | true =>
            by_cases h47 : c = 47
            · subst h47
              have HE : Hid (escB true 47 = [92, 47]) := rfl
              have Hb : Hid ((xs ++ escL true ((ns s).take k)).length + ([92, 47] : List Int).length ≤ 100000000) := esc_bound (by omega) hx 2 (by omega)
              go_wp2_with (at_builtin; refine app_law [92, 47] rfl (.tmp 39) (.tmp 41) rfl B _ _ rfl HR rfl rfl rfl hBr Hb ?_; intro v1 w1 HO1 hb1)
              go_roundw
              case rel => exact ⟨k + 1, by go_num, by omega, own_step HO1.out hlt' Hc.out HE.out, hbl.trans hb1⟩
              case measure => simp [intOf]; omega
            · have g47 : (c == 47) = false := by simpa using h47
              by_cases h8 : c = 8
              · subst h8
                have HE : Hid (escB true 8 = [92, 98]) := rfl
                have Hb : Hid ((xs ++ escL true ((ns s).take k)).length + ([92, 98] : List Int).length ≤ 100000000) := esc_bound (by omega) hx 2 (by omega)
                go_wp2_with (at_builtin; refine app_law [92, 98] rfl (.tmp 49) (.tmp 50) rfl B _ _ rfl HR rfl rfl rfl hBr Hb ?_; intro v1 w1 HO1 hb1)
                go_roundw
                case rel => exact ⟨k + 1, by go_num, by omega, own_step HO1.out hlt' Hc.out HE.out, hbl.trans hb1⟩
                case measure => simp [intOf]; omega
              · have g8 : (c == 8) = false := by simpa using h8
                by_cases h12 : c = 12
                · subst h12
                  have HE : Hid (escB true 12 = [92, 102]) := rfl
                  have Hb : Hid ((xs ++ escL true ((ns s).take k)).length + ([92, 102] : List Int).length ≤ 100000000) := esc_bound (by omega) hx 2 (by omega)
                  go_wp2_with (at_builtin; refine app_law [92, 102] rfl (.tmp 58) (.tmp 59) rfl B _ _ rfl HR rfl rfl rfl hBr Hb ?_; intro v1 w1 HO1 hb1)
                  go_roundw
                  case rel => exact ⟨k + 1, by go_num, by omega, own_step HO1.out hlt' Hc.out HE.out, hbl.trans hb1⟩
                  case measure => simp [intOf]; omega
                · have g12 : (c == 12) = false := by simpa using h12
                  by_cases h10 : c = 10
                  · subst h10
                    have HE : Hid (escB true 10 = [92, 110]) := rfl
                    have Hb : Hid ((xs ++ escL true ((ns s).take k)).length + ([92, 110] : List Int).length ≤ 100000000) := esc_bound (by omega) hx 2 (by omega)
                    go_wp2_with (at_builtin; refine app_law [92, 110] rfl (.tmp 67) (.tmp 68) rfl B _ _ rfl HR rfl rfl rfl hBr Hb ?_; intro v1 w1 HO1 hb1)
                    go_roundw
                    case rel => exact ⟨k + 1, by go_num, by omega, own_step HO1.out hlt' Hc.out HE.out, hbl.trans hb1⟩
                    case measure => simp [intOf]; omega
                  · have g10 : (c == 10) = false := by simpa using h10
                    by_cases h13 : c = 13
                    · subst h13
                      have HE : Hid (escB true 13 = [92, 114]) := rfl
                      have Hb : Hid ((xs ++ escL true ((ns s).take k)).length + ([92, 114] : List Int).length ≤ 100000000) := esc_bound (by omega) hx 2 (by omega)
                      go_wp2_with (at_builtin; refine app_law [92, 114] rfl (.tmp 76) (.tmp 77) rfl B _ _ rfl HR rfl rfl rfl hBr Hb ?_; intro v1 w1 HO1 hb1)
                      go_roundw
                      case rel => exact ⟨k + 1, by go_num, by omega, own_step HO1.out hlt' Hc.out HE.out, hbl.trans hb1⟩
                      case measure => simp [intOf]; omega
                    · have g13 : (c == 13) = false := by simpa using h13
                      by_cases h9 : c = 9
                      · subst h9
                        have HE : Hid (escB true 9 = [92, 116]) := rfl
                        have Hb : Hid ((xs ++ escL true ((ns s).take k)).length + ([92, 116] : List Int).length ≤ 100000000) := esc_bound (by omega) hx 2 (by omega)
                        go_wp2_with (at_builtin; refine app_law [92, 116] rfl (.tmp 85) (.tmp 86) rfl B _ _ rfl HR rfl rfl rfl hBr Hb ?_; intro v1 w1 HO1 hb1)
                        go_roundw
                        case rel => exact ⟨k + 1, by go_num, by omega, own_step HO1.out hlt' Hc.out HE.out, hbl.trans hb1⟩
                        case measure => simp [intOf]; omega
                      · have g9 : (c == 9) = false := by simpa using h9
                        by_cases h32 : c < 32
                        · have d0 : 0 ≤ c / 16 := by omega
                          have d1 : c / 16 < 16 := by omega
                          have d2 : 0 ≤ c % 16 := by omega
                          have d3 : c % 16 < 16 := by omega
                          obtain ⟨x1, X1⟩ : ∃ x, Hid (hexd (c / 16) false = x) := ⟨_, rfl⟩
                          obtain ⟨x2, X2⟩ : ∃ x, Hid (hexd (c % 16) false = x) := ⟨_, rfl⟩
                          have HE : Hid (escB true c = [92, 117, 48, 48, x1, x2]) := show _ = _ by
                            rw [← X1.out, ← X2.out]
                            simp [escB, h34, h92, h32, h47, h8, h12, h10, h13, h9]
                          have Hb : Hid ((xs ++ escL true ((ns s).take k)).length + ([92, 117, 48, 48, x1, x2] : List Int).length ≤ 100000000) := esc_bound (by omega) hx 6 (by omega)
                          clear h34 h92
                          go_wp2_with fail
                          refine (hexDigit_is (c / 16) false x1 _ d0 d1 X1).mono ?_
                          rintro e w' ⟨rfl, hxx⟩
                          obtain rfl := hxx.symm
                          clear hxx
                          go_wp2_with fail
                          refine (hexDigit_is (c % 16) false x2 _ d2 d3 X2).mono ?_
                          rintro e w' ⟨rfl, hxx⟩
                          obtain rfl := hxx.symm
                          clear hxx
                          go_wp2_with (at_builtin; refine app_law [92, 117, 48, 48, x1, x2] rfl (.tmp 91) (.tmp 102) rfl B _ _ rfl HR rfl rfl rfl hBr Hb ?_; intro v1 w1 HO1 hb1)
                          go_roundw
                          case rel => exact ⟨k + 1, by go_num, by omega, own_step HO1.out hlt' Hc.out HE.out, hbl.trans hb1⟩
                          case measure => simp [intOf]; omega
                        · have HE : Hid (escB true c = [c]) := show _ = _ by
                            simp [escB, h34, h92, h32, h47, h8, h12, h10, h13, h9]
                          have Hb : Hid ((xs ++ escL true ((ns s).take k)).length + ([c] : List Int).length ≤ 100000000) := esc_bound (by omega) hx 1 (by omega)
                          clear h34 h92
                          go_wp2_with (at_builtin; refine app_law [c] rfl (.tmp 18) (.tmp 20) rfl B _ _ rfl HR rfl rfl rfl hBr Hb ?_; intro v1 w1 HO1 hb1)
                          go_roundw
                          case rel => exact ⟨k + 1, by go_num, by omega, own_step HO1.out hlt' Hc.out HE.out, hbl.trans hb1⟩
                          case measure => simp [intOf]; omega
          | false =>
            by_cases h32 : c < 32
            · have d0 : 0 ≤ c / 16 := by omega
              have d1 : c / 16 < 16 := by omega
              have d2 : 0 ≤ c % 16 := by omega
              have d3 : c % 16 < 16 := by omega
              obtain ⟨x1, X1⟩ : ∃ x, Hid (hexd (c / 16) true = x) := ⟨_, rfl⟩
              obtain ⟨x2, X2⟩ : ∃ x, Hid (hexd (c % 16) true = x) := ⟨_, rfl⟩
              have HE : Hid (escB false c = [92, 117, 48, 48, x1, x2]) := show _ = _ by
                rw [← X1.out, ← X2.out]
                simp [escB, h34, h92, h32]
              have Hb : Hid ((xs ++ escL false ((ns s).take k)).length + ([92, 117, 48, 48, x1, x2] : List Int).length ≤ 100000000) := esc_bound (by omega) hx 6 (by omega)
              clear h34 h92
              go_wp2_with fail
              refine (hexDigit_is (c / 16) true x1 _ d0 d1 X1).mono ?_
              rintro e w' ⟨rfl, hxx⟩
              obtain rfl := hxx.symm
              clear hxx
              go_wp2_with fail
              refine (hexDigit_is (c % 16) true x2 _ d2 d3 X2).mono ?_
              rintro e w' ⟨rfl, hxx⟩
              obtain rfl := hxx.symm
              clear hxx
              go_wp2_with (at_builtin; refine app_law [92, 117, 48, 48, x1, x2] rfl (.tmp 91) (.tmp 102) rfl B _ _ rfl HR rfl rfl rfl hBr Hb ?_; intro v1 w1 HO1 hb1)
              go_roundw
              case rel => exact ⟨k + 1, by go_num, by omega, own_step HO1.out hlt' Hc.out HE.out, hbl.trans hb1⟩
              case measure => simp [intOf]; omega
            · have HE : Hid (escB false c = [c]) := show _ = _ by
                simp [escB, h34, h92, h32]
              have Hb : Hid ((xs ++ escL false ((ns s).take k)).length + ([c] : List Int).length ≤ 100000000) := esc_bound (by omega) hx 1 (by omega)
              clear h34 h92
              go_wp2_with (at_builtin; refine app_law [c] rfl (.tmp 18) (.tmp 20) rfl B _ _ rfl HR rfl rfl rfl hBr Hb ?_; intro v1 w1 HO1 hb1)
              go_roundw
              case rel => exact ⟨k + 1, by go_num, by omega, own_step HO1.out hlt' Hc.out HE.out, hbl.trans hb1⟩
              case measure => simp [intOf]; omega
    · have hkl : k = s.size := by omega
      have HF : Hid (Own wr B u0 (xs ++ escL short (ns s))) := by
        have := HR.out
        rw [List.take_of_length_le (by rw [HL.out]; omega)] at this
        exact this
      clear hkl
      go_wp2
      go_ret
      exact ⟨_, rfl, HF, hbl⟩

end Go.Proofs.Qxb6001225a
