/- The plain law of masking: lists of bytes, no Go. -/
import Derived.Lib.Index
import Derived.Lib.IndexLaws
import Derived.Lib.IndexMore
namespace Go.Proofs.Qxb6605388a.Mk
open Go (Lib.occAt)

def mask : List UInt8 := [120, 120, 120, 120, 120]

/-- what is written once k bytes have been looked at; c: which bytes are covered -/
def mo (l : List UInt8) (c : Nat → Bool) : Nat → List UInt8
  | 0 => []
  | k + 1 => mo l c k ++ (if c k = false then [l.getD k 0] else if k = 0 ∨ c (k - 1) = false then mask else [])

theorem mo_plain (l : List UInt8) (c : Nat → Bool) (k : Nat) (h : c k = false) : mo l c (k + 1) = mo l c k ++ [l.getD k 0] := by
  simp [mo, h]
theorem mo_mask (l : List UInt8) (c : Nat → Bool) (k : Nat) (h : c k = true) (h2 : k = 0 ∨ c (k - 1) = false) : mo l c (k + 1) = mo l c k ++ mask := by
  simp only [mo]; rw [if_neg (by simp [h]), if_pos h2]
theorem mo_in (l : List UInt8) (c : Nat → Bool) (k : Nat) (h : c k = true) (h0 : 0 < k) (h2 : c (k - 1) = true) : mo l c (k + 1) = mo l c k := by
  have hn : ¬ (k = 0 ∨ c (k - 1) = false) := by
    rintro (e | e)
    · omega
    · rw [h2] at e; cases e
  simp only [mo]
  rw [if_neg (by simp [h]), if_neg hn, List.append_nil]

theorem mo_len (l : List UInt8) (c : Nat → Bool) : ∀ k, (mo l c k).length ≤ 5 * k
  | 0 => by simp [mo]
  | k + 1 => by
    have ih := mo_len l c k
    have : (if c k = false then [l.getD k 0] else if k = 0 ∨ c (k - 1) = false then mask else []).length ≤ 5 := by
      split
      · simp
      · split <;> simp [mask]
    simp only [mo, List.length_append]
    omega

theorem mo_congr (l : List UInt8) (c c' : Nat → Bool) : ∀ k, (∀ j, j < k → c j = c' j) → mo l c k = mo l c' k
  | 0, _ => rfl
  | k + 1, h => by
    simp only [mo]
    rw [mo_congr l c c' k (fun j hj => h j (by omega)), h k (by omega)]
    by_cases h0 : k = 0
    · simp [h0]
    · rw [h (k - 1) (by omega)]

theorem mo_none (l : List UInt8) (c : Nat → Bool) : ∀ k, k ≤ l.length → (∀ j, j < k → c j = false) → mo l c k = l.take k
  | 0, _, _ => by simp [mo]
  | k + 1, hk, h => by
    rw [mo_plain l c k (h k (by omega)), mo_none l c k (by omega) (fun j hj => h j (by omega))]
    rw [List.take_succ_eq_append_getElem (by omega)]
    congr 2
    simp [List.getD_eq_getElem?_getD, List.getElem?_eq_getElem (show k < l.length by omega)]

theorem mo_all (l : List UInt8) (c : Nat → Bool) : ∀ k, (∀ j, j < k + 1 → c j = true) → mo l c (k + 1) = mask
  | 0, h => by rw [mo_mask l c 0 (h 0 (by omega)) (.inl rfl)]; rfl
  | k + 1, h => by
    rw [mo_in l c (k + 1) (h (k + 1) (by omega)) (by omega) (h k (by omega))]
    exact mo_all l c k (fun j hj => h j (by omega))

/-- an instance of x at p covers j -/
def OccJ (l x : List UInt8) (p j : Nat) : Prop := Lib.occAt l x p = true ∧ p ≤ j ∧ j < p + x.length
/-- x, not empty, covers j -/
def CovOne (l x : List UInt8) (j : Nat) : Prop := x ≠ [] ∧ ∃ p, OccJ l x p j
/-- one of xs covers j -/
def CovP (l : List UInt8) (xs : List (List UInt8)) (j : Nat) : Prop := ∃ x ∈ xs, CovOne l x j

theorem occ_room {l x : List UInt8} {p : Nat} (h : Lib.occAt l x p = true) : x.length ≤ l.length - p := by
  unfold Lib.occAt at h
  have := List.IsPrefix.length_le (List.isPrefixOf_iff_prefix.1 h)
  simpa using this

/-- c tells what the first k of xs cover -/
def Cv (l : List UInt8) (xs : List (List UInt8)) (k : Nat) (c : Nat → Bool) : Prop := ∀ j, j < l.length → (c j = true ↔ ∃ i, i < k ∧ i < xs.length ∧ CovOne l (xs.getD i []) j)
/-- .. and besides what instances of x ahead of st cover -/
def Cm (l : List UInt8) (xs : List (List UInt8)) (k : Nat) (x : List UInt8) (st : Nat) (c : Nat → Bool) : Prop :=
  ∀ j, j < l.length → (c j = true ↔ (∃ i, i < k ∧ i < xs.length ∧ CovOne l (xs.getD i []) j) ∨ ∃ p, p < st ∧ OccJ l x p j)

theorem Cv.zero (l : List UInt8) (xs : List (List UInt8)) : Cv l xs 0 (fun _ => false) := by
  intro j _; simp
theorem Cv.skip {l : List UInt8} {xs : List (List UInt8)} {k : Nat} {c : Nat → Bool} (h : Cv l xs k c) (hx : xs.getD k [] = []) : Cv l xs (k + 1) c := by
  intro j hj
  rw [h j hj]
  constructor
  · rintro ⟨i, h1, h2, h3⟩; exact ⟨i, by omega, h2, h3⟩
  · rintro ⟨i, h1, h2, h3⟩
    by_cases e : i = k
    · subst e; rw [hx] at h3; exact absurd rfl h3.1
    · exact ⟨i, by omega, h2, h3⟩
theorem Cv.start {l : List UInt8} {xs : List (List UInt8)} {k : Nat} {c : Nat → Bool} (h : Cv l xs k c) (x : List UInt8) : Cm l xs k x 0 c := by
  intro j hj
  rw [h j hj]
  constructor
  · exact .inl
  · rintro (h | ⟨p, h, _⟩)
    · exact h
    · omega
/-- no instance of x from st on: x is done with -/
theorem Cm.done {l : List UInt8} {xs : List (List UInt8)} {k st : Nat} {x : List UInt8} {c : Nat → Bool} (h : Cm l xs k x st c) (hk : k < xs.length) (hx : xs.getD k [] = x) (hne : x ≠ []) (hno : ∀ p, st ≤ p → Lib.occAt l x p = false) : Cv l xs (k + 1) c := by
  intro j hj
  rw [h j hj]
  constructor
  · rintro (⟨i, h1, h2, h3⟩ | ⟨p, _, h2⟩)
    · exact ⟨i, by omega, h2, h3⟩
    · exact ⟨k, by omega, hk, by rw [hx]; exact ⟨hne, p, h2⟩⟩
  · rintro ⟨i, h1, h2, h3⟩
    by_cases e : i = k
    · subst e
      rw [hx] at h3
      obtain ⟨_, p, hp⟩ := h3
      by_cases hps : p < st
      · exact .inr ⟨p, hps, hp⟩
      · have := hno p (by omega); rw [hp.1] at this; cases this
    · exact .inl ⟨i, by omega, h2, h3⟩
/-- the first instance from st on is at q -/
theorem Cm.next {l : List UInt8} {xs : List (List UInt8)} {k st q : Nat} {x : List UInt8} {c : Nat → Bool} (h : Cm l xs k x st c) (hq : Lib.occAt l x q = true) (hst : st ≤ q) (hno : ∀ p, st ≤ p → p < q → Lib.occAt l x p = false) :
    Cm l xs k x (q + 1) (fun j => c j || (decide (q ≤ j) && decide (j < q + x.length))) := by
  intro j hj
  simp only [Bool.or_eq_true, Bool.and_eq_true, decide_eq_true_eq]
  rw [h j hj]
  constructor
  · rintro ((h1 | ⟨p, h1, h2⟩) | ⟨h1, h2⟩)
    · exact .inl h1
    · exact .inr ⟨p, by omega, h2⟩
    · exact .inr ⟨q, by omega, hq, h1, h2⟩
  · rintro (h1 | ⟨p, h1, h2⟩)
    · exact .inl (.inl h1)
    · by_cases hps : p < st
      · exact .inl (.inr ⟨p, hps, h2⟩)
      · by_cases e : p = q
        · subst e; exact .inr ⟨h2.2.1, h2.2.2⟩
        · have := hno p (by omega) (by omega); rw [h2.1] at this; cases this

theorem Cv.all {l : List UInt8} {xs : List (List UInt8)} {c : Nat → Bool} (h : Cv l xs xs.length c) : ∀ j, j < l.length → (c j = true ↔ CovP l xs j) := by
  intro j hj
  rw [h j hj]
  constructor
  · rintro ⟨i, _, h2, h3⟩
    refine ⟨xs[i], List.getElem_mem h2, ?_⟩
    simpa [List.getD_eq_getElem?_getD, List.getElem?_eq_getElem h2] using h3
  · rintro ⟨x, hx, h3⟩
    obtain ⟨i, hi, rfl⟩ := List.getElem_of_mem hx
    exact ⟨i, hi, hi, by simpa [List.getD_eq_getElem?_getD, List.getElem?_eq_getElem hi] using h3⟩

/-- how a search in the rest of the text tells the next instance -/
theorem find_rest (l x : List UInt8) (st : Nat) (hne : x ≠ []) (hst : st ≤ l.length) :
    (Lib.index (l.drop st) x = -1 ∧ ∀ p, st ≤ p → Lib.occAt l x p = false) ∨
    ∃ i : Nat, Lib.index (l.drop st) x = i ∧ st + i + x.length ≤ l.length ∧ Lib.occAt l x (st + i) = true ∧ ∀ p, st ≤ p → p < st + i → Lib.occAt l x p = false := by
  have shift : ∀ j, Lib.occAt (l.drop st) x j = Lib.occAt l x (st + j) := by
    intro j; unfold Lib.occAt; rw [List.drop_drop]
  rcases Lib.index_spec (l.drop st) x with ⟨h, hn⟩ | ⟨i, h, hi, ho, hn⟩
  · refine .inl ⟨h, fun p hp => ?_⟩
    by_cases hpl : p - st ≤ (l.drop st).length
    · have := hn (p - st) hpl
      rwa [shift, show st + (p - st) = p by omega] at this
    · rw [List.length_drop] at hpl
      unfold Lib.occAt
      rw [List.drop_of_length_le (by omega)]
      cases x with
      | nil => exact absurd rfl hne
      | cons => rfl
  · rw [shift] at ho
    have hr := occ_room ho
    have hx : 0 < x.length := List.length_pos_iff.2 hne
    refine .inr ⟨i, h, by omega, ho, fun p hp hpi => ?_⟩
    have := hn (p - st) (by omega)
    rwa [shift, show st + (p - st) = p by omega] at this

/-! ### the laws -/
theorem covP_nil (l : List UInt8) (j : Nat) : ¬ CovP l [] j := by rintro ⟨x, hx, _⟩; cases hx
theorem covP_congr {l : List UInt8} {xs ys : List (List UInt8)} (h : ∀ x, x ∈ xs ↔ x ∈ ys) (j : Nat) : CovP l xs j ↔ CovP l ys j := by
  constructor
  · rintro ⟨x, hx, h2⟩; exact ⟨x, (h x).1 hx, h2⟩
  · rintro ⟨x, hx, h2⟩; exact ⟨x, (h x).2 hx, h2⟩
theorem covP_whole (l : List UInt8) (xs : List (List UInt8)) (j : Nat) (hj : j < l.length) : CovP l (xs ++ [l]) j := by
  refine ⟨l, by simp, ?_, 0, ?_, Nat.zero_le _, by omega⟩
  · intro e; rw [e] at hj; simp at hj
  · simp [Lib.occAt]

end Go.Proofs.Qxb6605388a.Mk
