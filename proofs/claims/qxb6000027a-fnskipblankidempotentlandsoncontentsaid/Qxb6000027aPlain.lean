/-
  The plain mathematics of skipBlank: lists of integers, nothing of the dump.
-/
import Derived.Lib.Bytealg
import Derived.Lib.Bytes
import Derived.Lib.IndexBytes
namespace Go.Proofs.Qxb6000027a

def blank (c : Int) : Bool := c == 32 || c == 9 || c == 13 || c == 10

/-- How many bytes the automaton passes: in a comment, or not. -/
def sk : List Int → Bool → Nat
  | [], _ => 0
  | b :: t, true => if b = 10 then sk t false + 1 else sk t true + 1
  | b :: t, false => if blank b = true then sk t false + 1 else if b = 35 then sk t true + 1 else 0

/-- The bytes of a string as numbers. -/
def ns (s : ByteArray) : List Int := s.data.toList.map fun x => (x.toNat : Int)

theorem ns_length (s : ByteArray) : (ns s).length = s.size := by simp [ns]

theorem ns_get (s : ByteArray) (k : Nat) (h : k < s.size) : (ns s).getD k 0 = (s[k].toNat : Int) := by
  have h' : k < s.data.toList.length := by simpa using h
  simp only [ns, List.getD, List.getElem?_map]
  rw [List.getElem?_eq_getElem h']
  simp [ByteArray.getElem_eq_getElem_data]

theorem ns_bytes (s : ByteArray) : Lib.bytesOf (ns s) = s.data.toList := by
  unfold Lib.bytesOf ns
  rw [List.map_map]
  conv => rhs; rw [← List.map_id s.data.toList]
  apply List.map_congr_left
  intro x _
  simp

theorem ns_range (s : ByteArray) : ∀ x ∈ ns s, 0 ≤ x ∧ x < 256 := by
  intro x hx
  obtain ⟨y, _, rfl⟩ := List.mem_map.1 hx
  have := y.toNat_lt
  omega

theorem ns_drop (s : ByteArray) (k : Nat) : ns (s.extract k s.size) = (ns s).drop k := by
  unfold ns
  rw [Lib.extract_to_end, List.map_drop]

theorem drop_at (l : List Int) (j : Nat) (h : j < l.length) : l.drop j = l.getD j 0 :: l.drop (j + 1) := by
  rw [List.drop_eq_getElem_cons h]
  simp [List.getD, List.getElem?_eq_getElem h]

theorem sk_le : ∀ (l : List Int) (e : Bool), sk l e ≤ l.length
  | [], _ => by simp [sk]
  | b :: t, true => by
    have h1 := sk_le t false
    have h2 := sk_le t true
    simp only [sk, List.length_cons]
    split <;> omega
  | b :: t, false => by
    have h1 := sk_le t false
    have h2 := sk_le t true
    simp only [sk, List.length_cons]
    split
    · omega
    · split <;> omega

theorem sk_none : ∀ (l : List Int), (∀ x ∈ l, x ≠ 10) → sk l true = l.length
  | [], _ => rfl
  | b :: t, h => by
    rw [sk, if_neg (h b (by simp)), sk_none t (fun x hx => h x (by simp [hx]))]
    rfl

theorem sk_first : ∀ (l : List Int) (q : Nat), q < l.length → l.getD q 0 = 10 → (∀ j, j < q → l.getD j 0 ≠ 10) → sk l true = q + sk (l.drop q) false
  | [], q, h, _, _ => by simp at h
  | b :: t, 0, _, h, _ => by
    have hb : b = 10 := by simpa using h
    subst hb
    simp [sk, blank]
  | b :: t, q + 1, h, h1, h2 => by
    have hb : b ≠ 10 := by simpa using h2 0 (by omega)
    rw [sk, if_neg hb, sk_first t q (by simpa using h) (by simpa using h1) (fun j hj => by simpa using h2 (j + 1) (by omega))]
    simp only [List.drop_succ_cons]; omega

theorem sk_hash (l : List Int) (k : Nat) (h : k < l.length) (hc : l.getD k 0 = 35) : sk (l.drop k) false = sk (l.drop k) true := by
  rw [drop_at l k h, hc]
  simp [sk, blank]

theorem sk_blank (l : List Int) (k : Nat) (h : k < l.length) (hc : blank (l.getD k 0) = true) : k + sk (l.drop k) false = (k + 1) + sk (l.drop (k + 1)) false := by
  rw [drop_at l k h, sk, if_pos hc]; omega

theorem sk_enter (l : List Int) (k : Nat) (h : k < l.length) (hc : l.getD k 0 = 35) : k + sk (l.drop k) false = (k + 1) + sk (l.drop (k + 1)) true := by
  rw [drop_at l k h, hc]
  simp [sk, blank]; omega

theorem sk_stop (l : List Int) (k : Nat) (h : k < l.length) (hb : blank (l.getD k 0) = false) (hc : l.getD k 0 ≠ 35) : sk (l.drop k) false = 0 := by
  rw [drop_at l k h, sk, if_neg (by rw [hb]; simp), if_neg hc]

theorem sk_end (l : List Int) (k : Nat) (e : Bool) (h : ¬ k < l.length) : sk (l.drop k) e = 0 := by
  rw [List.drop_eq_nil_of_le (by omega)]; cases e <;> rfl

theorem sk_in (l : List Int) (k : Nat) (h : k < l.length) (hc : l.getD k 0 ≠ 10) : k + sk (l.drop k) true = (k + 1) + sk (l.drop (k + 1)) true := by
  rw [drop_at l k h, sk, if_neg hc]; omega

theorem sk_out (l : List Int) (k : Nat) (h : k < l.length) (hc : l.getD k 0 = 10) : k + sk (l.drop k) true = (k + 1) + sk (l.drop (k + 1)) false := by
  rw [drop_at l k h, sk, if_pos hc]; omega

/-- Where it stops: at the end, or on a byte that is neither blank nor '#'; and from there it moves no more. -/
theorem sk_lands : ∀ (l : List Int) (e : Bool), sk l e < l.length → blank (l.getD (sk l e) 0) = false ∧ l.getD (sk l e) 0 ≠ 35
  | [], _, h => by simp at h
  | b :: t, true, h => by
    simp only [sk] at h ⊢
    split
    · rename_i hb
      rw [if_pos hb] at h
      have := sk_lands t false (by simpa using h)
      simpa using this
    · rename_i hb
      rw [if_neg hb] at h
      have := sk_lands t true (by simpa using h)
      simpa using this
  | b :: t, false, h => by
    simp only [sk] at h ⊢
    by_cases hb : blank b = true
    · simp only [if_pos hb] at h ⊢
      have := sk_lands t false (by simpa using h)
      simpa using this
    · by_cases hc : b = 35
      · simp only [if_neg hb, if_pos hc] at h ⊢
        have := sk_lands t true (by simpa using h)
        simpa using this
      · simp only [if_neg hb, if_neg hc]
        exact ⟨by simpa using hb, by simpa using hc⟩

theorem idx_spec : ∀ (xs : List Int) (cv : Int), 0 ≤ cv → cv < 256 → (∀ x ∈ xs, 0 ≤ x ∧ x < 256) →
    (Lib.indexByte (Lib.bytesOf xs) cv.toNat.toUInt8 = -1 ∧ ∀ x ∈ xs, x ≠ cv) ∨
    ∃ k : Nat, Lib.indexByte (Lib.bytesOf xs) cv.toNat.toUInt8 = k ∧ k < xs.length ∧ xs.getD k 0 = cv ∧ ∀ j, j < k → xs.getD j 0 ≠ cv
  | [], cv, _, _, _ => by left; simp [Lib.bytesOf, Lib.indexByte]
  | x :: t, cv, h0, h1, hw => by
    have hx := hw x (by simp)
    have ih := idx_spec t cv h0 h1 (fun y hy => hw y (by simp [hy]))
    have e : Lib.bytesOf (x :: t) = x.toNat.toUInt8 :: Lib.bytesOf t := by simp [Lib.bytesOf]
    have heq : (x.toNat.toUInt8 == cv.toNat.toUInt8) = decide (x = cv) := by
      rw [Bool.eq_iff_iff]
      simp only [beq_iff_eq, decide_eq_true_eq, ← UInt8.toNat_inj]
      simp
      omega
    rw [e]
    simp only [Lib.indexByte, heq]
    by_cases hc : x = cv
    · right; exact ⟨0, by simp [hc], by simp, by simp [hc], fun j hj => by omega⟩
    · rcases ih with ⟨h1, h2⟩ | ⟨k, h1, h2, h3, h4⟩
      · left
        refine ⟨by simp [hc, h1], ?_⟩
        intro y hy
        rcases List.mem_cons.1 hy with rfl | hy
        · exact hc
        · exact h2 y hy
      · right
        refine ⟨k + 1, ?_, by simp; omega, by simpa using h3, ?_⟩
        · have : ¬ ((k : Int) = -1) := by omega
          simp [hc, h1, this]
        · intro j hj
          cases j with
          | zero => simpa using hc
          | succ j => simpa using h4 j (by omega)

end Go.Proofs.Qxb6000027a
