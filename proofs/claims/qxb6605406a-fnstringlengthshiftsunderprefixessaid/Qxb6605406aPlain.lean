/-
  The plain mathematics of stringLength: lists of integers, nothing of the dump.
-/
import Derived.Lib.Bytealg
import Derived.Lib.Bytes
namespace Go.Proofs.Qxb6605406a

/-- What is left of a JSON string behind its opening quote (or behind a byte of it): how many bytes up to and with its closing quote. 'e': the next byte is escaped. -/
def strF : List Int → Bool → Nat
  | [], _ => 0
  | _ :: t, true => strF t false + 1
  | b :: t, false => if b = 92 then strF t true + 1 else if b = 34 then 1 else strF t false + 1

/-- The escape flag behind bytes none of which is a quote that closes. -/
def st : List Int → Bool → Bool
  | [], e => e
  | b :: t, e => st t (b == 92 && !e)

/-- Where the run of backslashes that ends at place k begins. -/
def rb (l : List Int) : Nat → Nat
  | 0 => 0
  | k + 1 => if l.getD k 0 = 92 then rb l k else k + 1

theorem drop_at (l : List Int) (j : Nat) (h : j < l.length) : l.drop j = l.getD j 0 :: l.drop (j + 1) := by
  rw [List.drop_eq_getElem_cons h]
  simp [List.getD, List.getElem?_eq_getElem h]

theorem strF_le : ∀ (l : List Int) (e : Bool), strF l e ≤ l.length
  | [], _ => by simp [strF]
  | _ :: t, true => by have := strF_le t false; simp [strF]; omega
  | b :: t, false => by
    have h1 := strF_le t false
    have h2 := strF_le t true
    simp only [strF, List.length_cons]
    split
    · omega
    · split <;> omega

theorem strF_other (b : Int) (t : List Int) (e : Bool) (h : b ≠ 34) : strF (b :: t) e = strF t (b == 92 && !e) + 1 := by
  cases e
  · by_cases h9 : b = 92
    · simp [strF, h9]
    · have h9' : (b == 92) = false := by simpa using h9
      simp [strF, h9, h, h9']
  · simp [strF]

theorem strF_append : ∀ (a m : List Int) (e : Bool), (∀ x ∈ a, x ≠ 34) → strF (a ++ m) e = a.length + strF m (st a e)
  | [], m, e, _ => by simp [st]
  | b :: t, m, e, h => by
    rw [List.cons_append, strF_other b _ e (h b (by simp)), strF_append t m _ (fun x hx => h x (by simp [hx])), st]
    simp only [List.length_cons]; omega

theorem strF_none (a : List Int) (e : Bool) (h : ∀ x ∈ a, x ≠ 34) : strF a e = a.length := by
  have := strF_append a [] e h
  simp [strF] at this
  exact this

theorem st_snoc : ∀ (a : List Int) (b : Int) (e : Bool), st (a ++ [b]) e = (b == 92 && !st a e)
  | [], b, e => by simp [st]
  | c :: t, b, e => by rw [List.cons_append, st, st_snoc t b, st]

theorem rb_le (l : List Int) : ∀ k, rb l k ≤ k
  | 0 => by simp [rb]
  | k + 1 => by have := rb_le l k; simp only [rb]; split <;> omega

theorem rb_ge (l : List Int) (i : Nat) (h : l.getD (i - 1) 0 ≠ 92) (hi : 1 ≤ i) : ∀ k, i ≤ rb l (i + k)
  | 0 => by
    obtain ⟨m, rfl⟩ : ∃ m, i = m + 1 := ⟨i - 1, by omega⟩
    simp only [Nat.add_sub_cancel] at h
    simp only [rb]
    rw [if_neg h]; omega
  | k + 1 => by
    have := rb_ge l i h hi k
    show i ≤ rb l (i + k + 1)
    simp only [rb]; split <;> omega

theorem st_rb (l : List Int) (i : Nat) (h : i = 0 ∨ l.getD (i - 1) 0 ≠ 92) : ∀ k, i + k ≤ l.length → st ((l.drop i).take k) false = decide ((i + k - rb l (i + k)) % 2 = 1)
  | 0, _ => by
    have e : rb l i = i := by
      cases i with
      | zero => rfl
      | succ m =>
        have h' : l.getD m 0 ≠ 92 := by simpa using h
        simp only [rb]; rw [if_neg h']
    simp [st, e]
  | k + 1, hk => by
    have ih := st_rb l i h k (by omega)
    have hb := rb_le l (i + k)
    have e : (l.drop i).take (k + 1) = (l.drop i).take k ++ [l.getD (i + k) 0] := by
      rw [List.take_succ_eq_append_getElem (by simp; omega)]
      simp [List.getD, List.getElem?_eq_getElem (show i + k < l.length by omega)]
    rw [e, st_snoc, ih]
    have er : rb l (i + (k + 1)) = if l.getD (i + k) 0 = 92 then rb l (i + k) else i + k + 1 := rfl
    by_cases h9 : l.getD (i + k) 0 = 92
    · rw [if_pos h9] at er
      rw [er, h9, Bool.eq_iff_iff]; simp; omega
    · rw [if_neg h9] at er
      rw [er, Bool.eq_iff_iff]
      have h9' : (l.getD (i + k) 0 == 92) = false := by simpa using h9
      rw [h9']; simp; omega

theorem quote_split (l : List Int) (i q : Nat) (hq : i + q < l.length) (h34 : l.getD (i + q) 0 = 34) (hn : ∀ j, j < q → l.getD (i + j) 0 ≠ 34) (hi : i = 0 ∨ l.getD (i - 1) 0 ≠ 92) :
    strF (l.drop i) false = if (i + q - rb l (i + q)) % 2 = 1 then q + 1 + strF (l.drop (i + q + 1)) false else q + 1 := by
  have e : l.drop i = (l.drop i).take q ++ (34 :: l.drop (i + q + 1)) := by
    conv => lhs; rw [← List.take_append_drop q (l.drop i)]
    rw [List.drop_drop, drop_at l (i + q) hq, h34]
  have hno : ∀ x ∈ (l.drop i).take q, x ≠ 34 := by
    intro x hx
    obtain ⟨j, hj, rfl⟩ := List.mem_iff_getElem.1 hx
    simp only [List.length_take, List.length_drop] at hj
    have := hn j (by omega)
    simpa [List.getD, List.getElem?_eq_getElem (show i + j < l.length by omega)] using this
  have hlen : ((l.drop i).take q).length = q := by simp; omega
  have hst := st_rb l i hi q (by omega)
  rw [e, strF_append _ _ _ hno, hlen, hst]
  by_cases hp : (i + q - rb l (i + q)) % 2 = 1
  · rw [if_pos hp]; simp [hp, strF]; omega
  · rw [if_neg hp]; simp [hp, strF]

theorem idx_spec : ∀ (xs : List Int) (cv : Int), 0 ≤ cv → cv < 256 → (∀ x ∈ xs, 0 ≤ x ∧ x < 256) →
    (Lib.indexByte (Lib.bytesOf xs) cv.toNat.toUInt8 = -1 ∧ ∀ x ∈ xs, x ≠ cv) ∨
    ∃ k : Nat, Lib.indexByte (Lib.bytesOf xs) cv.toNat.toUInt8 = k ∧ k < xs.length ∧ xs.getD k 0 = cv ∧ ∀ j, j < k → xs.getD j 0 ≠ cv
  | [], cv, _, _, _ => by left; simp [Lib.bytesOf, Lib.indexByte]
  | x :: t, cv, h0, h1, hw => by
    have hx := hw x (by simp)
    have ih := idx_spec t cv h0 h1 (fun y hy => hw y (by simp [hy]))
    have e : Lib.bytesOf (x :: t) = x.toNat.toUInt8 :: Lib.bytesOf t := by simp [Lib.bytesOf]
    have heq : (x.toNat.toUInt8 == cv.toNat.toUInt8) = decide (x = cv) := by
      rw [Bool.eq_iff_iff]
      simp only [beq_iff_eq, decide_eq_true_eq, ← UInt8.toNat_inj]
      simp
      omega
    rw [e]
    simp only [Lib.indexByte, heq]
    by_cases hc : x = cv
    · right; exact ⟨0, by simp [hc], by simp, by simp [hc], fun j hj => by omega⟩
    · rcases ih with ⟨h1, h2⟩ | ⟨k, h1, h2, h3, h4⟩
      · left
        refine ⟨by simp [hc, h1], ?_⟩
        intro y hy
        rcases List.mem_cons.1 hy with rfl | hy
        · exact hc
        · exact h2 y hy
      · right
        refine ⟨k + 1, ?_, by simp; omega, by simpa using h3, ?_⟩
        · have : ¬ ((k : Int) = -1) := by omega
          simp [hc, h1, this]
        · intro j hj
          cases j with
          | zero => simpa using hc
          | succ j => simpa using h4 j (by omega)

theorem strF_q (t : List Int) : strF (34 :: t) false = 1 := by simp [strF]
theorem strF_c (c : Int) (t : List Int) (h1 : c ≠ 34) (h2 : c ≠ 92) : strF (c :: t) false = strF t false + 1 := by simp [strF, h1, h2]
theorem strF_bq (t : List Int) : strF (92 :: 34 :: t) false = strF t false + 2 := by simp [strF]
theorem strF_bb (t : List Int) : strF (92 :: 92 :: t) false = strF t false + 2 := by simp [strF]

end Go.Proofs.Qxb6605406a
