/- The plain law of the reach-and-sweep model. -/
import Derived.Test.Qxb6605388aMaskPlain
namespace Go.Proofs.Qxb6605388a.Mk

/-- an instance of x, not empty, begins at q and reaches beyond t -/
def Rea (l x : List UInt8) (q t : Nat) : Prop := x ≠ [] ∧ Lib.occAt l x q = true ∧ t < q + x.length

/-- R tells how far the first k of xs reach from each place -/
def RS (l : List UInt8) (xs : List (List UInt8)) (k : Nat) (R : Nat → Nat) : Prop := ∀ q, q < l.length → ∀ t, (t < R q ↔ ∃ i, i < k ∧ i < xs.length ∧ Rea l (xs.getD i []) q t)
/-- .. and besides x from the places below q0 -/
def RI (l : List UInt8) (xs : List (List UInt8)) (k : Nat) (x : List UInt8) (q0 : Nat) (R : Nat → Nat) : Prop :=
  ∀ q, q < l.length → ∀ t, (t < R q ↔ (∃ i, i < k ∧ i < xs.length ∧ Rea l (xs.getD i []) q t) ∨ (q < q0 ∧ Rea l x q t))

theorem RS.zero (l : List UInt8) (xs : List (List UInt8)) : RS l xs 0 (fun _ => 0) := by intro q _ t; simp
theorem RS.skip {l : List UInt8} {xs : List (List UInt8)} {k : Nat} {R : Nat → Nat} (h : RS l xs k R) (hx : xs.getD k [] = [] ∨ l.length < (xs.getD k []).length) : RS l xs (k + 1) R := by
  intro q hq t
  rw [h q hq t]
  constructor
  · rintro ⟨i, h1, h2, h3⟩; exact ⟨i, by omega, h2, h3⟩
  · rintro ⟨i, h1, h2, h3⟩
    by_cases e : i = k
    · subst e
      rcases hx with hx | hx
      · exact absurd hx h3.1
      · have := occ_room h3.2.1; omega
    · exact ⟨i, by omega, h2, h3⟩
theorem RS.start {l : List UInt8} {xs : List (List UInt8)} {k : Nat} {R : Nat → Nat} (h : RS l xs k R) (x : List UInt8) : RI l xs k x 0 R := by
  intro q hq t
  rw [h q hq t]
  constructor
  · exact .inl
  · rintro (h | ⟨h, _⟩)
    · exact h
    · omega
theorem RI.done {l : List UInt8} {xs : List (List UInt8)} {k q0 : Nat} {x : List UInt8} {R : Nat → Nat} (h : RI l xs k x q0 R) (hk : k < xs.length) (hx : xs.getD k [] = x) (hq0 : l.length < q0 + x.length) : RS l xs (k + 1) R := by
  intro q hq t
  rw [h q hq t]
  constructor
  · rintro (⟨i, h1, h2, h3⟩ | ⟨_, h3⟩)
    · exact ⟨i, by omega, h2, h3⟩
    · exact ⟨k, by omega, hk, by rw [hx]; exact h3⟩
  · rintro ⟨i, h1, h2, h3⟩
    by_cases e : i = k
    · subst e
      rw [hx] at h3
      refine .inr ⟨?_, h3⟩
      have := occ_room h3.2.1
      have hp : 0 < x.length := List.length_pos_iff.2 h3.1
      omega
    · exact .inl ⟨i, by omega, h2, h3⟩
/-- the place q0 needs no store -/
theorem RI.keep {l : List UInt8} {xs : List (List UInt8)} {k q0 : Nat} {x : List UInt8} {R : Nat → Nat} (h : RI l xs k x q0 R) (hn : Lib.occAt l x q0 = false ∨ q0 + x.length ≤ R q0) : RI l xs k x (q0 + 1) R := by
  intro q hq t
  constructor
  · intro ht
    rcases (h q hq t).1 ht with h1 | ⟨h1, h2⟩
    · exact .inl h1
    · exact .inr ⟨by omega, h2⟩
  · rintro (h1 | ⟨h1, h2⟩)
    · exact (h q hq t).2 (.inl h1)
    · by_cases e : q = q0
      · subst e
        rcases hn with hn | hn
        · rw [h2.2.1] at hn; cases hn
        · have := h2.2.2; omega
      · exact (h q hq t).2 (.inr ⟨by omega, h2⟩)
/-- the place q0 is stored -/
theorem RI.put {l : List UInt8} {xs : List (List UInt8)} {k q0 : Nat} {x : List UInt8} {R : Nat → Nat} (h : RI l xs k x q0 R) (hne : x ≠ []) (ho : Lib.occAt l x q0 = true) (hr : R q0 < q0 + x.length) : RI l xs k x (q0 + 1) (fun q => if q = q0 then q0 + x.length else R q) := by
  intro q hq t
  show t < (if q = q0 then q0 + x.length else R q) ↔ _
  by_cases e : q = q0
  · subst e
    rw [if_pos rfl]
    constructor
    · intro ht; exact .inr ⟨by omega, hne, ho, ht⟩
    · rintro (h1 | ⟨_, h2⟩)
      · have := (h q hq t).2 (.inl h1); omega
      · exact h2.2.2
  · rw [if_neg e, h q hq t]
    constructor
    · rintro (h1 | ⟨h1, h2⟩)
      · exact .inl h1
      · exact .inr ⟨by omega, h2⟩
    · rintro (h1 | ⟨h1, h2⟩)
      · exact .inl h1
      · exact .inr ⟨by omega, h2⟩

theorem RI.le {l : List UInt8} {xs : List (List UInt8)} {k q0 : Nat} {x : List UInt8} {R : Nat → Nat} (h : RI l xs k x q0 R) (q : Nat) (hq : q < l.length) : R q ≤ l.length := by
  rcases Nat.lt_or_ge l.length (R q) with hlt | hge
  · rcases (h q hq l.length).1 hlt with ⟨i, _, _, h3⟩ | ⟨_, h3⟩
    · have := occ_room h3.2.1; have := h3.2.2; have hp : 0 < (xs.getD i []).length := List.length_pos_iff.2 h3.1; omega
    · have := occ_room h3.2.1; have := h3.2.2; have hp : 0 < x.length := List.length_pos_iff.2 h3.1; omega
  · exact hge

/-- how far the coverage reaches once i places have been swept -/
def emax (R : Nat → Nat) : Nat → Nat
  | 0 => 0
  | i + 1 => if emax R i < R i then R i else emax R i

theorem lt_emax (R : Nat → Nat) (t : Nat) : ∀ i, (t < emax R i ↔ ∃ q, q < i ∧ t < R q)
  | 0 => by simp [emax]
  | i + 1 => by
    have ih := lt_emax R t i
    simp only [emax]
    by_cases h : emax R i < R i
    · rw [if_pos h]
      constructor
      · intro ht; exact ⟨i, by omega, ht⟩
      · rintro ⟨q, h1, h2⟩
        by_cases e : q = i
        · subst e; exact h2
        · have := ih.2 ⟨q, by omega, h2⟩; omega
    · rw [if_neg h, ih]
      constructor
      · rintro ⟨q, h1, h2⟩; exact ⟨q, by omega, h2⟩
      · rintro ⟨q, h1, h2⟩
        by_cases e : q = i
        · subst e; exact ih.1 (by omega)
        · exact ⟨q, by omega, h2⟩

/-- what the sweep finds covered -/
def swc (R : Nat → Nat) (i : Nat) : Bool := decide (i < emax R (i + 1))

theorem swc_cov {l : List UInt8} {xs : List (List UInt8)} {R : Nat → Nat} (h : RS l xs xs.length R) (j : Nat) (hj : j < l.length) : swc R j = true ↔ CovP l xs j := by
  unfold swc
  rw [decide_eq_true_eq, lt_emax]
  constructor
  · rintro ⟨q, h1, h2⟩
    obtain ⟨i, _, hi, h3⟩ := (h q (by omega) j).1 h2
    refine ⟨xs[i], List.getElem_mem hi, ?_⟩
    have e : xs.getD i [] = xs[i] := by simp [List.getD_eq_getElem?_getD, List.getElem?_eq_getElem hi]
    rw [e] at h3
    exact ⟨h3.1, q, h3.2.1, by omega, h3.2.2⟩
  · rintro ⟨x, hx, hne, q, ho, h1, h2⟩
    obtain ⟨i, hi, rfl⟩ := List.getElem_of_mem hx
    refine ⟨q, by omega, (h q (by omega) j).2 ⟨i, hi, hi, ?_⟩⟩
    have e : xs.getD i [] = xs[i] := by simp [List.getD_eq_getElem?_getD, List.getElem?_eq_getElem hi]
    rw [e]
    exact ⟨hne, ho, h2⟩

/-- the flag 'inStretch' ahead of place i -/
def flag (c : Nat → Bool) (i : Nat) : Bool := if i = 0 then false else c (i - 1)
theorem flag_zero (c : Nat → Bool) : flag c 0 = false := rfl
theorem flag_succ (c : Nat → Bool) (i : Nat) : flag c (i + 1) = c i := by simp [flag]
theorem mo_flag_mask (l : List UInt8) (c : Nat → Bool) (i : Nat) (h : c i = true) (hf : flag c i = false) : mo l c (i + 1) = mo l c i ++ mask := by
  refine mo_mask l c i h ?_
  unfold flag at hf
  by_cases h0 : i = 0
  · exact .inl h0
  · rw [if_neg h0] at hf; exact .inr hf
theorem mo_flag_in (l : List UInt8) (c : Nat → Bool) (i : Nat) (h : c i = true) (hf : flag c i = true) : mo l c (i + 1) = mo l c i := by
  unfold flag at hf
  by_cases h0 : i = 0
  · rw [if_pos h0] at hf; cases hf
  · rw [if_neg h0] at hf; exact mo_in l c i h (by omega) hf

/-- an instance, byte by byte -/
theorem occ_iff (l x : List UInt8) (q : Nat) : Lib.occAt l x q = true ↔ ∀ j, j < x.length → l[q + j]? = x[j]? := by
  unfold Lib.occAt
  rw [List.isPrefixOf_iff_prefix, List.prefix_iff_eq_take]
  constructor
  · intro h j hj
    have e : x[j]? = (List.take x.length (List.drop q l))[j]? := by rw [← h]
    rw [e, List.getElem?_take_of_lt hj, List.getElem?_drop]
  · intro h
    apply List.ext_getElem?
    intro j
    by_cases hj : j < x.length
    · rw [List.getElem?_take_of_lt hj, List.getElem?_drop, h j hj]
    · rw [List.getElem?_eq_none (by omega), List.getElem?_eq_none (by simp; omega)]

end Go.Proofs.Qxb6605388a.Mk
