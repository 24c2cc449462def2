/-
  The plain mathematics of scanString and of the laws' own encoder: lists of integers, nothing of the dump.
-/
import Derived.Lib.Bytealg
import Derived.Lib.Bytes
import Derived.Lib.IndexBytes
import Derived.Laws.BytesArg
namespace Go.Proofs.Qxb6001225a

/-! ### the bytes of a string as numbers -/

def ns (s : ByteArray) : List Int := s.data.toList.map fun x => (x.toNat : Int)

theorem ns_length (s : ByteArray) : (ns s).length = s.size := by simp [ns]

theorem ns_get (s : ByteArray) (k : Nat) (h : k < s.size) : (ns s).getD k 0 = (s[k].toNat : Int) := by
  have h' : k < s.data.toList.length := by simpa using h
  simp only [ns, List.getD, List.getElem?_map]
  rw [List.getElem?_eq_getElem h']
  simp [ByteArray.getElem_eq_getElem_data]

theorem ns_bytes (s : ByteArray) : Lib.bytesOf (ns s) = s.data.toList := by
  unfold Lib.bytesOf ns
  rw [List.map_map]
  conv => rhs; rw [← List.map_id s.data.toList]
  apply List.map_congr_left
  intro x _
  simp

theorem ns_range (s : ByteArray) : ∀ x ∈ ns s, 0 ≤ x ∧ x < 256 := by
  intro x hx
  obtain ⟨y, _, rfl⟩ := List.mem_map.1 hx
  have := y.toNat_lt
  omega

theorem ns_extract (s : ByteArray) (a b : Nat) : ns (s.extract a b) = ((ns s).drop a).take (b - a) := by
  unfold ns
  rw [Lib.extract_data, List.map_take, List.map_drop]

theorem ns_of (xs : List Int) (h : ∀ x ∈ xs, 0 ≤ x ∧ x < 256) : ns (strOfNums xs) = xs := by
  unfold ns strOfNums
  simp only [List.map_map]
  conv => rhs; rw [← List.map_id xs]
  apply List.map_congr_left
  intro x hx
  have := h x hx
  simp
  omega

theorem size_of (xs : List Int) : (strOfNums xs).size = xs.length := by
  simp [strOfNums, ByteArray.size]

theorem drop_at (l : List Int) (j : Nat) (h : j < l.length) : l.drop j = l.getD j 0 :: l.drop (j + 1) := by
  rw [List.drop_eq_getElem_cons h]
  simp [List.getD, List.getElem?_eq_getElem h]

/-! ### scanString -/

def isE (c : Int) : Bool := c == 34 || c == 92 || c == 47 || c == 98 || c == 102 || c == 110 || c == 114 || c == 116
def isH (c : Int) : Bool := (decide (48 ≤ c) && decide (c ≤ 57)) || (decide (97 ≤ c) && decide (c ≤ 102)) || (decide (65 ≤ c) && decide (c ≤ 70))
def stp (c : Int) : Bool := c == 34 || c == 10 || c == 13
def allH : List Int → Bool
  | [] => true
  | c :: t => isH c && allH t

/-- How far one round goes, at a byte that does not stop it. -/
def adv (l : List Int) : Nat :=
  if l.getD 0 0 = 92 ∧ 1 < l.length ∧ isE (l.getD 1 0) = true then 2
  else if l.getD 0 0 = 92 ∧ 5 < l.length ∧ l.getD 1 0 = 117 ∧ allH ((l.drop 2).take 4) = true then 6 else 1

/-- Where the loop ends, and 'bad' there; the second argument: so many bytes still belong to the round. -/
def fin : List Int → Nat → Nat → Int → Nat × Int
  | [], _, i, bad => (i, bad)
  | _ :: t, k + 1, i, bad => fin t k (i + 1) bad
  | b :: t, 0, i, bad => if stp b = true then (i, bad) else fin t (adv (b :: t) - 1) (i + 1) (if adv (b :: t) = 1 ∧ bad < 0 ∧ (b = 92 ∨ b < 32) then i else bad)

theorem fin_skip : ∀ (l : List Int) (k i : Nat) (bad : Int), k ≤ l.length → fin l k i bad = fin (l.drop k) 0 (i + k) bad
  | l, 0, i, bad, _ => by simp
  | [], k + 1, i, bad, h => by simp at h
  | b :: t, k + 1, i, bad, h => by
    rw [fin, fin_skip t k (i + 1) bad (by simpa using h), List.drop_succ_cons]
    congr 1; omega

theorem fin_two (l : List Int) (k : Nat) (bad : Int) (h : k < l.length) (hc : l.getD k 0 = 92) (h1 : k + 1 < l.length) (he : isE (l.getD (k + 1) 0) = true) :
    fin (l.drop k) 0 k bad = fin (l.drop (k + 2)) 0 (k + 2) bad := by
  have ha : adv (l.drop k) = 2 := by
    unfold adv
    rw [if_pos]
    exact ⟨by simpa [List.getD] using hc, by simp; omega, by simpa [List.getD] using he⟩
  rw [drop_at l k h] at ha ⊢
  rw [fin, if_neg (by rw [hc]; decide), ha, if_neg (by omega), fin_skip _ _ _ _ (by simp; omega), List.drop_drop]

theorem fin_six (l : List Int) (k : Nat) (bad : Int) (h : k < l.length) (hc : l.getD k 0 = 92) (h5 : k + 5 < l.length) (hu : l.getD (k + 1) 0 = 117) (hh : allH ((l.drop (k + 2)).take 4) = true) :
    fin (l.drop k) 0 k bad = fin (l.drop (k + 6)) 0 (k + 6) bad := by
  have ha : adv (l.drop k) = 6 := by
    unfold adv
    have hu' : (l.drop k).getD 1 0 = 117 := by simpa [List.getD] using hu
    rw [if_neg, if_pos]
    · exact ⟨by simpa [List.getD] using hc, by simp; omega, hu', by rw [List.drop_drop]; exact hh⟩
    · rw [hu']
      intro hx
      exact absurd hx.2.2 (by decide)
  rw [drop_at l k h] at ha ⊢
  rw [fin, if_neg (by rw [hc]; decide), ha, if_neg (by omega), fin_skip _ _ _ _ (by simp; omega), List.drop_drop]

theorem fin_one (l : List Int) (k : Nat) (bad : Int) (h : k < l.length) (hs : stp (l.getD k 0) = false)
    (h2 : ¬ (l.getD k 0 = 92 ∧ k + 1 < l.length ∧ isE (l.getD (k + 1) 0) = true)) (h6 : ¬ (l.getD k 0 = 92 ∧ k + 5 < l.length ∧ l.getD (k + 1) 0 = 117 ∧ allH ((l.drop (k + 2)).take 4) = true)) :
    fin (l.drop k) 0 k bad = fin (l.drop (k + 1)) 0 (k + 1) (if bad < 0 ∧ (l.getD k 0 = 92 ∨ l.getD k 0 < 32) then k else bad) := by
  have ha : adv (l.drop k) = 1 := by
    unfold adv
    rw [if_neg, if_neg]
    · intro hx
      apply h6
      refine ⟨by simpa [List.getD] using hx.1, ?_, by simpa [List.getD] using hx.2.2.1, ?_⟩
      · have := hx.2.1; simp at this; omega
      · have := hx.2.2.2; rw [List.drop_drop] at this; exact this
    · intro hx
      apply h2
      refine ⟨by simpa [List.getD] using hx.1, ?_, by simpa [List.getD] using hx.2.2⟩
      have := hx.2.1; simp at this; omega
  rw [drop_at l k h] at ha ⊢
  rw [fin, if_neg (by rw [hs]; simp), ha]
  simp

theorem fin_stop (l : List Int) (k : Nat) (bad : Int) (h : k < l.length) (hs : stp (l.getD k 0) = true) : fin (l.drop k) 0 k bad = (k, bad) := by
  rw [drop_at l k h, fin, if_pos hs]

theorem fin_end (l : List Int) (k : Nat) (bad : Int) (h : ¬ k < l.length) : fin (l.drop k) 0 k bad = (k, bad) := by
  rw [List.drop_eq_nil_of_le (by omega), fin]

/-! ### the encoder -/

def hexd (v : Int) (upper : Bool) : Int := if v < 10 then 48 + v else if upper = true then 55 + v else 87 + v

def escB (short : Bool) (c : Int) : List Int :=
  if c = 34 ∨ c = 92 then [92, c]
  else if short = true ∧ c = 47 then [92, c]
  else if short = true ∧ c = 8 then [92, 98]
  else if short = true ∧ c = 12 then [92, 102]
  else if short = true ∧ c = 10 then [92, 110]
  else if short = true ∧ c = 13 then [92, 114]
  else if short = true ∧ c = 9 then [92, 116]
  else if c < 32 then [92, 117, 48, 48, hexd (c / 16) (!short), hexd (c % 16) (!short)]
  else [c]

def escL (short : Bool) : List Int → List Int
  | [] => []
  | c :: t => escB short c ++ escL short t

theorem escL_snoc (short : Bool) : ∀ (l : List Int) (c : Int), escL short (l ++ [c]) = escL short l ++ escB short c
  | [], c => by simp [escL]
  | b :: t, c => by rw [List.cons_append, escL, escL_snoc short t c, escL, List.append_assoc]

theorem escB_len (short : Bool) (c : Int) : (escB short c).length ≤ 6 := by
  unfold escB
  repeat' split
  all_goals simp

theorem escL_len (short : Bool) : ∀ l : List Int, (escL short l).length ≤ 6 * l.length
  | [] => by simp [escL]
  | c :: t => by
    have h1 := escB_len short c
    have h2 := escL_len short t
    rw [escL, List.length_append, List.length_cons]
    omega

theorem hexd_isH (v : Int) (u : Bool) (h0 : 0 ≤ v) (h1 : v < 16) : isH (hexd v u) = true := by
  unfold hexd isH
  by_cases h : v < 10
  · simp [h]; omega
  · cases u <;> simp [h] <;> omega

theorem hexd_range (v : Int) (u : Bool) (h0 : 0 ≤ v) (h1 : v < 16) : 0 ≤ hexd v u ∧ hexd v u < 256 := by
  unfold hexd
  by_cases h : v < 10
  · simp [h]; omega
  · cases u <;> simp [h] <;> omega

theorem escB_range (short : Bool) (c : Int) (h0 : 0 ≤ c) (h1 : c < 256) : ∀ x ∈ escB short c, 0 ≤ x ∧ x < 256 := by
  unfold escB
  intro x hx
  split at hx
  · simp at hx; omega
  · split at hx
    · simp at hx; omega
    · split at hx
      · simp at hx; omega
      · split at hx
        · simp at hx; omega
        · split at hx
          · simp at hx; omega
          · split at hx
            · simp at hx; omega
            · split at hx
              · simp at hx; omega
              · split at hx
                · have r1 := hexd_range (c / 16) (!short) (by omega) (by omega)
                  have r2 := hexd_range (c % 16) (!short) (by omega) (by omega)
                  simp only [List.mem_cons, List.not_mem_nil, or_false] at hx
                  rcases hx with rfl | rfl | rfl | rfl | rfl | rfl <;> omega
                · simp at hx; omega

theorem escL_range (short : Bool) : ∀ (l : List Int), (∀ x ∈ l, 0 ≤ x ∧ x < 256) → ∀ x ∈ escL short l, 0 ≤ x ∧ x < 256
  | [], _ => by simp [escL]
  | c :: t, h => by
    intro x hx
    rw [escL, List.mem_append] at hx
    rcases hx with hx | hx
    · have := h c (by simp)
      exact escB_range short c this.1 this.2 x hx
    · exact escL_range short t (fun y hy => h y (by simp [hy])) x hx

theorem fin_pair (e : Int) (t : List Int) (i : Nat) (bad : Int) (he : isE e = true) : fin (92 :: e :: t) 0 i bad = fin t 0 (i + 2) bad := by
  have ha : adv (92 :: e :: t) = 2 := by
    unfold adv
    rw [if_pos]
    exact ⟨rfl, by simp, by simpa using he⟩
  rw [fin, if_neg (by decide), ha, if_neg (by omega)]
  rfl

theorem fin_uni (h1 h2 : Int) (t : List Int) (i : Nat) (bad : Int) (e1 : isH h1 = true) (e2 : isH h2 = true) : fin (92 :: 117 :: 48 :: 48 :: h1 :: h2 :: t) 0 i bad = fin t 0 (i + 6) bad := by
  have ha : adv (92 :: 117 :: 48 :: 48 :: h1 :: h2 :: t) = 6 := by
    unfold adv
    rw [if_neg, if_pos]
    · refine ⟨rfl, by simp, rfl, ?_⟩
      simp [allH, e1, e2]
      decide
    · intro hx
      have h' := hx.2.2
      simp [isE] at h'
  rw [fin, if_neg (by decide), ha, if_neg (by omega)]
  rfl

/-- A byte that is taken as it is. -/
theorem fin_raw (c : Int) (t : List Int) (i : Nat) (bad : Int) (hs : stp c = false) (h92 : c ≠ 92) (h : 0 ≤ bad ∨ 32 ≤ c) : fin (c :: t) 0 i bad = fin t 0 (i + 1) bad := by
  have ha : adv (c :: t) = 1 := by
    unfold adv
    rw [if_neg, if_neg]
    · intro hx; exact h92 (by simpa using hx.1)
    · intro hx; exact h92 (by simpa using hx.1)
  rw [fin, if_neg (by rw [hs]; simp), ha, if_neg (by omega)]

theorem fin_escB (short : Bool) (c : Int) (rest : List Int) (i : Nat) (bad : Int) (h0 : 0 ≤ c) (h1 : c < 256) :
    fin (escB short c ++ rest) 0 i bad = fin rest 0 (i + (escB short c).length) bad := by
  unfold escB
  split
  · rename_i h; exact fin_pair c rest i bad (by rcases h with rfl | rfl <;> decide)
  · split
    · rename_i h; rw [h.2]; exact fin_pair 47 rest i bad (by decide)
    · split
      · exact fin_pair _ rest i bad (by decide)
      · split
        · exact fin_pair _ rest i bad (by decide)
        · split
          · exact fin_pair _ rest i bad (by decide)
          · split
            · exact fin_pair _ rest i bad (by decide)
            · split
              · exact fin_pair _ rest i bad (by decide)
              · split
                · exact fin_uni _ _ rest i bad (hexd_isH _ _ (by omega) (by omega)) (hexd_isH _ _ (by omega) (by omega))
                · exact fin_raw c rest i bad (by simp [stp]; omega) (by omega) (Or.inr (by omega))

theorem fin_escL (short : Bool) : ∀ (l rest : List Int) (i : Nat) (bad : Int), (∀ x ∈ l, 0 ≤ x ∧ x < 256) →
    fin (escL short l ++ rest) 0 i bad = fin rest 0 (i + (escL short l).length) bad
  | [], rest, i, bad, _ => by simp [escL]
  | c :: t, rest, i, bad, h => by
    have hc := h c (by simp)
    rw [escL, List.append_assoc, fin_escB short c _ i bad hc.1 hc.2, fin_escL short t rest _ bad (fun y hy => h y (by simp [hy])), List.length_append]
    congr 1; omega

/-! ### the faults -/

theorem fault_ctl (c : Int) (t : List Int) (i : Nat) (hs : stp c = false) (h : c < 32) : fin (c :: t) 0 i (-1) = fin t 0 (i + 1) i := by
  have ha : adv (c :: t) = 1 := by
    unfold adv
    rw [if_neg, if_neg]
    · intro hx; have : c = 92 := by simpa using hx.1
      omega
    · intro hx; have : c = 92 := by simpa using hx.1
      omega
  rw [fin, if_neg (by rw [hs]; simp), ha, if_pos (by omega)]

theorem fault_slash (l : List Int) (i : Nat) (h2 : ∀ e t, l = e :: t → isE e = false) (h6 : allH ((l.drop 1).take 4) = false ∨ l.getD 0 0 ≠ 117) : fin (92 :: l) 0 i (-1) = fin l 0 (i + 1) i := by
  have ha : adv (92 :: l) = 1 := by
    unfold adv
    rw [if_neg, if_neg]
    · intro hx
      rcases h6 with h | h
      · have := hx.2.2.2
        simp at this
        simp [this] at h
      · exact h (by have := hx.2.2.1; simpa using this)
    · intro hx
      cases l with
      | nil => simp at hx
      | cons e t =>
        have := h2 e t rfl
        have h' := hx.2.2
        simp at h'
        rw [h'] at this
        cases this
  rw [fin, if_neg (by decide), ha, if_pos (by omega)]

theorem fault_bad (d : Int) (t : List Int) (i : Nat) (hE : isE d = false) (hu : d ≠ 117) (h10 : d ≠ 10) (h13 : d ≠ 13) : fin (92 :: d :: t) 0 i (-1) = fin t 0 (i + 2) i := by
  rw [fault_slash (d :: t) i (fun e t' h => by injection h with h _; rw [← h]; exact hE) (Or.inr (by simpa using hu))]
  have h34 : d ≠ 34 := by intro h; subst h; simp [isE] at hE
  have h92 : d ≠ 92 := by intro h; subst h; simp [isE] at hE
  rw [fin_raw d t (i + 1) i (by simp [stp, h34, h10, h13]) h92 (Or.inl (by omega))]

/-- The first 'n' of the digits 0, a, F, 9, then a byte that is no hex digit. -/
theorem fault_digits (n : Nat) (x : Int) (t : List Int) (i : Nat) (hn : n < 4) (hx : isH x = false) :
    fin (92 :: 117 :: ((([48, 97, 70, 57] : List Int).take n) ++ x :: t)) 0 i (-1) = fin (x :: t) 0 (i + 2 + n) i := by
  have hsl := fault_slash (117 :: ((([48, 97, 70, 57] : List Int).take n) ++ x :: t)) i (fun e t' h => by injection h with h _; rw [← h]; decide) (Or.inl (by
    have : n = 0 ∨ n = 1 ∨ n = 2 ∨ n = 3 := by omega
    rcases this with rfl | rfl | rfl | rfl <;> simp [allH, hx]))
  rw [hsl, fin_raw 117 _ (i + 1) i (by decide) (by decide) (Or.inl (by omega))]
  have : n = 0 ∨ n = 1 ∨ n = 2 ∨ n = 3 := by omega
  rcases this with rfl | rfl | rfl | rfl
  · simp
  · simp only [List.take_succ_cons, List.take_zero, List.cons_append, List.nil_append]
    rw [fin_raw 48 _ _ i (by decide) (by decide) (Or.inl (by omega))]
  · simp only [List.take_succ_cons, List.take_zero, List.cons_append, List.nil_append]
    rw [fin_raw 48 _ _ i (by decide) (by decide) (Or.inl (by omega)), fin_raw 97 _ _ i (by decide) (by decide) (Or.inl (by omega))]
  · simp only [List.take_succ_cons, List.take_zero, List.cons_append, List.nil_append]
    rw [fin_raw 48 _ _ i (by decide) (by decide) (Or.inl (by omega)), fin_raw 97 _ _ i (by decide) (by decide) (Or.inl (by omega)), fin_raw 70 _ _ i (by decide) (by decide) (Or.inl (by omega))]

theorem fin_quote (t : List Int) (i : Nat) (bad : Int) : fin (34 :: t) 0 i bad = (i, bad) := by rw [fin, if_pos (by decide)]
theorem fin_lf (t : List Int) (i : Nat) (bad : Int) : fin (10 :: t) 0 i bad = (i, bad) := by rw [fin, if_pos (by decide)]
theorem fin_cr (t : List Int) (i : Nat) (bad : Int) : fin (13 :: t) 0 i bad = (i, bad) := by rw [fin, if_pos (by decide)]

end Go.Proofs.Qxb6001225a
