/-
  Laws for both tops: appends, the conversion, the encoder with the slice written out, the guards on sizes.
-/
import Derived.Test.Qxb6001225aWalkA
import Derived.Test.Qxb6001225aWalkT
import Derived.Laws.BytesArg
namespace Go.Proofs.Qxb6001225a
open Go.RowKit

theorem Own.form {w : World} {B : Nat} {v : Value} {xs : List Int} (h : Own w B v xs) : ∃ a c, v = .slice a xs.length c := by
  rcases h.2 with ⟨rfl, h0⟩ | ⟨g, cap, cur, rfl, _⟩
  · exact ⟨none, 0, by rw [h0]⟩
  · exact ⟨_, _, rfl⟩

theorem Own.nil (w : World) (B : Nat) : Own w B (.slice none 0 0) [] := World.ownsRow_nil w B 5 1

/-- 'string(v)' of a slice of the call's own. -/
theorem Own.conv {w : World} {B n c : Nat} {a : Option Addr} {xs : List Int} (h : Own w B (.slice a n c) xs) :
    (convert 38 9 (.slice a n c)).run Try.prog w = .ok (.string (strOfNums xs)) w := by
  have h5 : Try.prog.underlying 5 = some (.int .u8) := Try.underlying5
  have h9 : Try.prog.underlying 9 = some .string := Try.underlying9
  rcases h.2 with ⟨hv, h0⟩ | ⟨g, cap, cur, hv, _, hg, _, _, _, htake⟩
  · injection hv with ha hn hc
    subst ha hn hc
    have hx : xs = [] := List.eq_nil_of_length_eq_zero h0
    subst hx
    exact run_convert_bytes_nil (P := Try.prog) w 38 5 Try.underlying38 h5 0 0 9 h9
  · injection hv with ha hn hc
    subst ha hn hc
    refine run_convert_bytes_arg (P := Try.prog) w 38 5 Try.underlying38 h5 g 0 xs.length c xs rfl ?_ 9 h9
    intro i hi
    have hcl := World.ownsRow.cells (g := g) h rfl i (.int .u8 (xs.getD i 0)) (by simp [List.getElem?_eq_getElem hi])
    have hadd : (⟨g, 0, none⟩ : Addr).add i = ⟨g, 0 + i, none⟩ := by unfold Addr.add; split <;> simp_all
    rw [hadd] at hcl
    exact hcl

/-- 'append(v, b0, b1, ..)', the slice behind it written out, and what 'string' of it gives. -/
theorem app_one {ops : Array Oper} {rest : List Oper} {o : Oper} {a : Act} {Q : Exit → Act → World → Prop} {w : World} {arr : Array Value} {m : Nat} (news : List Int) (hgd : o.guard = none) (s x : Operand)
    (ho : o.op = .call { callee := .builtin .append, args := #[s, x], argTypes := #[38, 38] }) (B : Nat) (v : Value) (xs : List Int) (hs : a.eval s = v) (HO : Hid (Own w B v xs))
    (harr : arr.toList = news.map (Value.int .u8)) (hm : m = news.length) (hx : a.eval x = .slice (some ⟨w.heap.size, 0, none⟩) m m) (hB : B ≤ w.heap.size)
    (ys : List Int) (HY : Hid (xs ++ news = ys)) (N : Nat) (HN : Hid (ys.length = N)) (S : ByteArray) (HS : Hid (strOfNums ys = S)) (hlen : N ≤ 100000000)
    (h : ∀ a' c' w', Hid (Own w' B (.slice a' N c') ys) → Below B w w' → (convert 38 9 (.slice a' N c')).run Try.prog w' = .ok (.string S) w' → wpList Try.prog ops Q rest (a.put o.dst (.slice a' N c')) w') :
    wpList Try.prog ops Q (o :: rest) a (w.alloc (.cells arr 5)) := by
  have hy := HY.out
  have hn := HN.out
  refine app_law news hgd s x ho B v xs hs HO harr hm hx hB (show _ ≤ _ by rw [← hn, ← hy, List.length_append] at hlen; exact hlen) ?_
  intro v' w' HO' hb'
  obtain ⟨a', c', hv⟩ := HO'.out.form
  have HO2 := HO'.out
  rw [hy] at HO2 hv
  rw [hn] at hv
  rw [hv] at HO2 ⊢
  refine h a' c' w' HO2 hb' ?_
  rw [HO2.conv, HS.out]

/-- 'append(v, t...)', t a string. -/
theorem app_str {ops : Array Oper} {rest : List Oper} {o : Oper} {a : Act} {Q : Exit → Act → World → Prop} {w : World} (hgd : o.guard = none) (s x : Operand)
    (ho : o.op = .call { callee := .builtin .append, args := #[s, x], argTypes := #[38, 9] }) (B : Nat) (v : Value) (xs : List Int) (hs : a.eval s = v) (HO : Hid (Own w B v xs))
    (t : ByteArray) (hx : a.eval x = .string t) (hB : B ≤ w.heap.size)
    (ys : List Int) (HY : Hid (xs ++ ns t = ys)) (N : Nat) (HN : Hid (ys.length = N)) (S : ByteArray) (HS : Hid (strOfNums ys = S)) (hlen : N ≤ 100000000)
    (h : ∀ a' c' w', Hid (Own w' B (.slice a' N c') ys) → Below B w w' → (convert 38 9 (.slice a' N c')).run Try.prog w' = .ok (.string S) w' → wpList Try.prog ops Q rest (a.put o.dst (.slice a' N c')) w') :
    wpList Try.prog ops Q (o :: rest) a w := by
  have hy := HY.out
  have hn := HN.out
  have hl : xs.length + t.size = N := by rw [← hn, ← hy, List.length_append, ns_length]
  have hcells : Lib.strCells t = (ns t).map (Value.int .u8) := by simp [Lib.strCells, ns]
  obtain ⟨i, hi, hz0, hz1, hz2⟩ := info_parts info5
  refine Lib.wpList_append_own_string (P := Try.prog) w hgd s x 38 9 ho B 5 i Try.underlying38 Try.underlying9 hi hz0 hz1 hz2 v xs.length (xs.map (Value.int .u8)) hs HO.out t hx (by unfold maxLen; omega) (by omega) hB ?_
  intro v' w' h1 h2 _
  have HO1 : Own w' B v' ys := by
    show World.ownsRow _ _ _ _ _ _ _
    rw [← hy, List.length_append, List.map_append, ns_length, ← hcells]
    exact h1
  obtain ⟨a', c', hv⟩ := HO1.form
  rw [hn] at hv
  rw [hv] at HO1 ⊢
  refine h a' c' w' HO1 ((Below.refl B w).grown h2 hB (fun k hk => (World.ownsRow.lt HO.out k hk).1)) ?_
  rw [HO1.conv, HS.out]

theorem esc_top (a : Option Addr) (n c : Nat) (s : ByteArray) (short : Bool) (xs : List Int) (B : Nat) (w : World) (hB : B ≤ w.heap.size) (HO : Hid (Own w B (.slice a n c) xs)) (hs : s.size ≤ 1048576) (hx : Hid (xs.length ≤ 30000000))
    (ys : List Int) (HY : Hid (xs ++ escL short (ns s) = ys)) (N : Nat) (HN : Hid (ys.length = N)) :
    Calls Try.prog 28 #[.slice a n c, .string s, .bool short] w fun e w' => ∃ a' c', e = .returned (.slice a' N c') ∧ Hid (Own w' B (.slice a' N c') ys) ∧ Below B w w' := by
  refine (esc_any (.slice a n c) s short xs B w hB HO hs hx.out).mono ?_
  rintro e w' ⟨v', rfl, HO', hb⟩
  have HO2 := HO'.out
  rw [HY.out] at HO2
  obtain ⟨a', c', hv⟩ := HO2.form
  rw [HN.out] at hv
  rw [hv] at HO2 ⊢
  exact ⟨a', c', rfl, HO2, hb⟩

theorem bytes8_no (s t : ByteArray) (b : Bool) (c : Int) (w : World) (hs : s.size ≤ maxLen) (ht : t.size ≤ maxLen) (h : 1048576 < s.size + t.size) :
    Calls Try.prog 32 #[.string s, .bool b, .int .u8 c, .string t] w fun e w' => e = .returned (.bool false) ∧ w' = w := by
  unfold maxLen at hs ht
  by_cases h1 : 1048576 < s.size
  · go_enter Try.func32, Try.ntmps32
    go_wp2
    go_ret
    exact ⟨rfl, rfl⟩
  · by_cases h2 : 1048576 < t.size
    · go_enter Try.func32, Try.ntmps32
      go_wp2
      go_ret
      exact ⟨rfl, rfl⟩
    · go_enter Try.func32, Try.ntmps32
      go_wp2
      go_ret
      exact ⟨rfl, rfl⟩

theorem bytes8_yes (s t : ByteArray) (b : Bool) (c : Int) (w : World) (h : s.size + t.size ≤ 1048576) :
    Calls Try.prog 32 #[.string s, .bool b, .int .u8 c, .string t] w fun e w' => e = .returned (.bool true) ∧ w' = w := by
  go_enter Try.func32, Try.ntmps32
  go_wp2
  go_ret
  exact ⟨rfl, rfl⟩

theorem bytes9_no (s t : ByteArray) (b : Bool) (c d : Int) (w : World) (hs : s.size ≤ maxLen) (ht : t.size ≤ maxLen) (h : 1048576 < s.size + t.size) :
    Calls Try.prog 34 #[.string s, .int .u8 c, .int .u8 d, .string t, .bool b] w fun e w' => e = .returned (.bool false) ∧ w' = w := by
  unfold maxLen at hs ht
  by_cases h1 : 1048576 < s.size
  · go_enter Try.func34, Try.ntmps34
    go_wp2
    go_ret
    exact ⟨rfl, rfl⟩
  · by_cases h2 : 1048576 < t.size
    · go_enter Try.func34, Try.ntmps34
      go_wp2
      go_ret
      exact ⟨rfl, rfl⟩
    · go_enter Try.func34, Try.ntmps34
      go_wp2
      go_ret
      exact ⟨rfl, rfl⟩

theorem bytes9_yes (s t : ByteArray) (b : Bool) (c d : Int) (w : World) (h : s.size + t.size ≤ 1048576) :
    Calls Try.prog 34 #[.string s, .int .u8 c, .int .u8 d, .string t, .bool b] w fun e w' => e = .returned (.bool true) ∧ w' = w := by
  go_enter Try.func34, Try.ntmps34
  go_wp2
  go_ret
  exact ⟨rfl, rfl⟩

/-! ### what scanString answers on a text of the laws' own -/

theorem text_fin (short : Bool) (l R : List Int) (hl : ∀ x ∈ l, 0 ≤ x ∧ x < 256) : fin (([34] ++ escL short l ++ R).drop 1) 0 1 (-1) = fin R 0 ([34] ++ escL short l).length (-1) := by
  have e : ([34] ++ escL short l ++ R).drop 1 = escL short l ++ R := by simp
  rw [e, fin_escL short l R 1 (-1) hl, List.length_append]
  rfl

theorem res_closed (Y R : List Int) (bd : Int) : res (Y ++ 34 :: R) Y.length bd = ((Y.length : Int) + 1, bd, false) := by
  rw [res, if_pos]
  refine ⟨by simp, by simp [List.getD]⟩

theorem res_open (Y R : List Int) (x : Int) (hx : x ≠ 34) : res (Y ++ x :: R) Y.length (-1) = ((Y.length : Int), (Y.length : Int), true) := by
  rw [res, if_neg, if_pos (by omega)]
  intro h
  apply hx
  simpa [List.getD] using h.2

theorem res_end (Y : List Int) : res Y Y.length (-1) = ((Y.length : Int), (Y.length : Int), true) := by
  rw [res, if_neg (by omega), if_pos (by omega)]

end Go.Proofs.Qxb6001225a
