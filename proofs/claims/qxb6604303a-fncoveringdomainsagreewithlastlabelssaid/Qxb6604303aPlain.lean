/- The plain law of this seat: lists of bytes, no Go. -/
import Derived.Lib.Bytealg
namespace Go.Proofs.Qxb6604303a.Pl

/-- what stands behind the first dot -/
def cut (l : List UInt8) : List UInt8 := (l.dropWhile (fun c => c != 46)).drop 1

theorem cut_nil : cut [] = [] := rfl
theorem cut_cons (c : UInt8) (t : List UInt8) : cut (c :: t) = if c = 46 then t else cut t := by
  unfold cut
  by_cases h : c = 46 <;> simp [h]

theorem cut_le (l : List UInt8) : (cut l).length ≤ l.length - 1 := by
  unfold cut
  have : (l.dropWhile (fun c => c != 46)).length ≤ l.length := (List.dropWhile_sublist _).length_le
  simp only [List.length_drop]; omega

/-- the suffixes that the checker looks for -/
def good (prev : Bool) : List UInt8 → List (List UInt8)
  | [] => []
  | c :: t => if prev = true ∧ (c :: t).length ≤ 253 then (c :: t) :: good (c == 46) t else good (c == 46) t

theorem good_false (l : List UInt8) : good false l = good true (cut l) := by
  induction l with
  | nil => rfl
  | cons c t ih =>
    rw [cut_cons]
    by_cases h : c = 46
    · subst h; simp [good]
    · have hb : (c == 46) = false := by simp [h]
      rw [if_neg h, ← ih]
      simp [good, hb]

theorem good_short (l : List UInt8) (h0 : l ≠ []) (h : l.length ≤ 253) : good true l = l :: good true (cut l) := by
  cases l with
  | nil => exact absurd rfl h0
  | cons c t =>
    rw [← good_false]
    simp only [good]
    rw [if_pos ⟨trivial, h⟩]
    simp

theorem good_long (l : List UInt8) (h : 253 < l.length) : good true l = good true (cut l) := by
  cases l with
  | nil => simp at h
  | cons c t =>
    rw [← good_false]
    simp only [good]
    rw [if_neg (by simp at h ⊢; omega)]
    simp

/-- how far the checker is: what stands ahead -/
def prevDot (l : List UInt8) (s : Nat) : Bool := if s = 0 then true else l.getD (s - 1) 0 == 46

theorem good_step_skip (l : List UInt8) (s : Nat) (hs : s < l.length) (h : prevDot l s = false ∨ 253 < l.length - s) :
    good (prevDot l s) (l.drop s) = good (prevDot l (s + 1)) (l.drop (s + 1)) := by
  rw [List.drop_eq_getElem_cons hs]
  simp only [good]
  have e : prevDot l (s + 1) = (l[s] == 46) := by simp [prevDot, List.getD_eq_getElem?_getD, hs]
  rw [if_neg, e]
  rintro ⟨h1, h2⟩
  rcases h with h | h
  · rw [h1] at h; cases h
  · simp at h2; omega

theorem good_step_take (l : List UInt8) (s : Nat) (hs : s < l.length) (h : prevDot l s = true) (h2 : l.length - s ≤ 253) :
    good (prevDot l s) (l.drop s) = l.drop s :: good (prevDot l (s + 1)) (l.drop (s + 1)) := by
  have e : prevDot l (s + 1) = (l[s] == 46) := by simp [prevDot, List.getD_eq_getElem?_getD, hs]
  rw [List.drop_eq_getElem_cons hs]
  simp only [good]
  rw [if_pos, e]
  exact ⟨h, by simp; omega⟩

theorem good_len (p : Bool) (l : List UInt8) : (good p l).length ≤ l.length := by
  induction l generalizing p with
  | nil => simp [good]
  | cons c t ih =>
    simp only [good]
    split
    · have := ih (c == 46); simp; omega
    · have := ih (c == 46); simp; omega

/-! ### the last labels -/
/-- the longest suffix that holds fewer than n dots -/
def ll (n : Nat) : List UInt8 → List UInt8
  | [] => []
  | c :: t => if (c :: t).count 46 < n then c :: t else ll n t

theorem ll_few (n : Nat) (l : List UInt8) (h : l.count 46 < n) : ll n l = l := by
  cases l with
  | nil => rfl
  | cons c t => simp only [ll]; rw [if_pos h]

theorem ll_at (a b : List UInt8) : ll (b.count 46 + 1) (a ++ 46 :: b) = b := by
  induction a with
  | nil =>
    simp only [List.nil_append, ll]
    rw [if_neg (by simp)]
    exact ll_few _ _ (by omega)
  | cons x a ih =>
    simp only [List.cons_append, ll]
    rw [if_neg (by simp [List.count_cons]; omega), ih]

/-- v is the whole of l, or stands right behind a dot of it -/
def After (l v : List UInt8) : Prop := l = v ∨ ∃ a, l = a ++ 46 :: v

theorem After.refl (l : List UInt8) : After l l := .inl rfl

theorem cut_after (v : List UInt8) : (46 ∈ v ∧ ∃ a, v = a ++ 46 :: cut v) ∨ (46 ∉ v ∧ cut v = []) := by
  induction v with
  | nil => right; simp [cut]
  | cons c t ih =>
    rw [cut_cons]
    by_cases h : c = 46
    · subst h; left; simp only [if_pos]; exact ⟨by simp, [], rfl⟩
    · rw [if_neg h]
      rcases ih with ⟨hm, a, ha⟩ | ⟨hm, hc⟩
      · left; exact ⟨by simp [hm], c :: a, by rw [List.cons_append, ← ha]⟩
      · right; refine ⟨?_, hc⟩; simp [hm]; exact fun e => h e.symm

theorem After.cut {l v : List UInt8} (h : After l v) (hn : cut v ≠ []) : After l (cut v) := by
  rcases cut_after v with ⟨_, a, ha⟩ | ⟨_, hc⟩
  · rcases h with rfl | ⟨b, rfl⟩
    · exact .inr ⟨a, ha⟩
    · refine .inr ⟨b ++ 46 :: a, ?_⟩
      rw [List.append_assoc, List.cons_append, ← ha]
  · exact absurd hc hn

theorem After.ll {l v : List UInt8} (h : After l v) : ll (v.count 46 + 1) l = v := by
  rcases h with rfl | ⟨a, rfl⟩
  · exact ll_few _ _ (by omega)
  · exact ll_at a v

/-- 1 where the text ends in a dot -/
def off (l : List UInt8) : Nat := if l.getLast? = some 46 then 1 else 0

theorem After.off {l v : List UInt8} (h : After l v) (hv : v ≠ []) : off v = off l := by
  rcases h with rfl | ⟨a, rfl⟩
  · rfl
  · unfold Pl.off
    congr 1
    rw [List.getLast?_append, List.getLast?_cons, List.getLast?_eq_some_getLast hv]
    simp

theorem count_cut (v : List UInt8) (h : 46 ∈ v) : v.count 46 = (cut v).count 46 + 1 := by
  induction v with
  | nil => simp at h
  | cons c t ih =>
    rw [cut_cons]
    by_cases hc : c = 46
    · subst hc; simp
    · rw [if_neg hc, List.count_cons_of_ne hc]
      exact ih (by
        rcases List.mem_cons.1 h with e | e
        · exact absurd e.symm hc
        · exact e)

/-- the number of covering domains of a short text that is not empty, and the dots in it -/
theorem good_count : ∀ (n : Nat) (v : List UInt8), v.length ≤ n → v ≠ [] → v.length ≤ 253 → (good true v).length + off v = v.count 46 + 1 := by
  intro n
  induction n with
  | zero => intro v h h0; exact absurd (List.eq_nil_of_length_eq_zero (by omega)) h0
  | succ n ih =>
    intro v hn h0 hs
    rw [good_short v h0 hs]
    have hl := cut_le v
    have hpos : 0 < v.length := List.length_pos_iff.2 h0
    rcases cut_after v with ⟨hm, a, ha⟩ | ⟨hm, hc⟩
    · have hcc := count_cut v hm
      by_cases he : cut v = []
      · have : v.count 46 = 1 := by rw [hcc, he]; rfl
        have ho : off v = 1 := by
          unfold off
          rw [if_pos]
          rw [ha, he]; simp
        rw [he, ho, this]; rfl
      · have hA : After v (cut v) := .inr ⟨a, ha⟩
        have := ih (cut v) (by omega) he (by omega)
        rw [hA.off he] at this
        simp only [List.length_cons]
        omega
    · have ho : off v = 0 := by
        unfold off
        rw [if_neg]
        intro h
        exact hm (List.mem_of_getLast? h)
      rw [hc, ho, List.count_eq_zero_of_not_mem hm]; rfl

/-- every covering domain is what lastLabels gives -/
theorem good_get (l v : List UInt8) (hA : After l v) (hv : v ≠ []) (hs : v.length ≤ 253) : ∀ i, i < (good true v).length →
    (good true v)[i]? = some (ll ((good true v).length - i + off l) l) := by
  suffices H : ∀ (n : Nat) (v : List UInt8), v.length ≤ n → After l v → v ≠ [] → v.length ≤ 253 → ∀ i, i < (good true v).length →
      (good true v)[i]? = some (ll ((good true v).length - i + off l) l) from H v.length v (Nat.le_refl _) hA hv hs
  intro n
  induction n with
  | zero => intro v h _ h0; exact absurd (List.eq_nil_of_length_eq_zero (by omega)) h0
  | succ n ih =>
    intro v hn hA hv hs i hi
    have hc := good_count _ v (Nat.le_refl _) hv hs
    rw [hA.off hv] at hc
    cases i with
    | zero =>
      rw [Nat.sub_zero, hc, hA.ll, good_short v hv hs]; rfl
    | succ i =>
      rw [good_short v hv hs] at hi ⊢
      simp only [List.length_cons, List.getElem?_cons_succ] at hi ⊢
      have hne : cut v ≠ [] := by intro e; rw [e] at hi; simp [good] at hi
      have hl := cut_le v
      have hpos : 0 < v.length := List.length_pos_iff.2 hv
      have := ih (cut v) (by omega) (hA.cut hne) hne (by omega) i (by omega)
      rw [this]
      congr 2
      omega

/-- the last test, where the whole text is too long -/
theorem good_stop : ∀ (n : Nat) (l v : List UInt8), v.length ≤ n → After l v → 253 < v.length →
    253 < (ll ((good true v).length + off l + 1) l).length := by
  intro n
  induction n with
  | zero => intro l v h _ h2; omega
  | succ n ih =>
    intro l v hn hA h2
    rw [good_long v h2]
    have hv : v ≠ [] := by intro e; rw [e] at h2; simp at h2
    have hl := cut_le v
    by_cases hc : 253 < (cut v).length
    · have hne : cut v ≠ [] := by intro e; rw [e] at hc; simp at hc
      exact ih l (cut v) (by omega) (hA.cut hne) hc
    · have key : (good true (cut v)).length + off l = v.count 46 := by
        rcases cut_after v with ⟨hm, a, ha⟩ | ⟨hm, hc0⟩
        · have hcc := count_cut v hm
          by_cases he : cut v = []
          · have ho : off v = 1 := by
              unfold off
              rw [if_pos]
              rw [ha, he]; simp
            rw [hA.off hv] at ho
            rw [hcc, he, ho]; rfl
          · have := good_count _ (cut v) (Nat.le_refl _) he (by omega)
            rw [(hA.cut he).off he] at this
            omega
        · have ho : off v = 0 := by
            unfold off
            rw [if_neg]
            intro h
            exact hm (List.mem_of_getLast? h)
          rw [hA.off hv] at ho
          rw [hc0, ho, List.count_eq_zero_of_not_mem hm]; rfl
      rw [key, hA.ll]
      exact h2

/-! ### the last dot -/
/-- r is the place of the last dot of l, or -1 -/
def LastAt (l : List UInt8) (r : Int) : Prop := (r = -1 ∧ 46 ∉ l) ∨ ∃ i : Nat, r = i ∧ i < l.length ∧ l = l.take i ++ 46 :: l.drop (i + 1) ∧ 46 ∉ l.drop (i + 1)

theorem lastAt_hit (l : List UInt8) (k : Nat) (h : k < l.length) (hc : l[k] = 46) (hn : 46 ∉ l.drop (k + 1)) : LastAt l k := by
  refine .inr ⟨k, rfl, h, ?_, hn⟩
  rw [← hc, ← List.drop_eq_getElem_cons h, List.take_append_drop]

theorem lastAt_step (l : List UInt8) (k : Nat) (h : k < l.length) (hc : l[k] ≠ 46) (hn : 46 ∉ l.drop (k + 1)) : 46 ∉ l.drop k := by
  rw [List.drop_eq_getElem_cons h]
  intro hm
  rcases List.mem_cons.1 hm with e | e
  · exact hc e.symm
  · exact hn e

theorem lastAt_none (l : List UInt8) (hn : 46 ∉ l.drop 0) : LastAt l (-1) := .inl ⟨rfl, by simpa using hn⟩

/-- a round of lastLabels: the text ahead of p holds no dot -/
theorem ll_round_none (l : List UInt8) (n j p : Nat) (hj : j < n) (hc : (l.drop p).count 46 = j) (h : LastAt (l.take p) (-1)) : ll n l = l := by
  refine ll_few n l ?_
  rcases h with ⟨_, hm⟩ | ⟨i, e, _⟩
  · have : (l.take p ++ l.drop p).count 46 = j := by rw [List.count_append, List.count_eq_zero_of_not_mem hm, hc]; omega
    rw [List.take_append_drop] at this
    omega
  · omega

/-- .. or its last dot is at i -/
theorem ll_round_some (l : List UInt8) (j p i : Nat) (hp : p ≤ l.length) (hc : (l.drop p).count 46 = j) (h : LastAt (l.take p) i) :
    i < p ∧ (l.drop i).count 46 = j + 1 ∧ l = l.take i ++ 46 :: l.drop (i + 1) := by
  rcases h with ⟨e, _⟩ | ⟨i', e, hi, he, hn⟩
  · omega
  · obtain rfl : i = i' := by omega
    have hip : i < p := by simp at hi; omega
    have hil : i < l.length := by omega
    have h46 : l[i] = 46 := by
      have h1 : (l.take p)[i]? = some 46 := by
        rw [he, List.getElem?_append_right (by simp; omega)]
        simp only [List.length_take]
        rw [show i - min i (min p l.length) = 0 by omega]
        rfl
      rw [List.getElem?_take_of_lt hip, List.getElem?_eq_getElem hil] at h1
      exact Option.some.inj h1
    have hsplit : l = l.take i ++ 46 :: l.drop (i + 1) := by
      rw [← h46, ← List.drop_eq_getElem_cons hil, List.take_append_drop]
    refine ⟨hip, ?_, hsplit⟩
    rw [List.drop_eq_getElem_cons hil, h46, List.count_cons_self]
    have e2 : l.drop (i + 1) = (l.take p).drop (i + 1) ++ l.drop p := by
      conv => lhs; rw [← List.take_append_drop p l]
      rw [List.drop_append_of_le_length (by simp; omega)]
    rw [e2, List.count_append, List.count_eq_zero_of_not_mem hn, hc]
    omega

theorem ll_done (l : List UInt8) (n p : Nat) (hc : (l.drop p).count 46 = n) (h : l = l.take p ++ 46 :: l.drop (p + 1)) (hp : p < l.length) : ll n l = l.drop (p + 1) := by
  have h46 : l[p] = 46 := by
    have h1 : l[p]? = some 46 := by
      rw [h, List.getElem?_append_right (by simp; omega)]
      simp only [List.length_take]
      rw [show p - min p l.length = 0 by omega]
      rfl
    rw [List.getElem?_eq_getElem hp] at h1
    exact Option.some.inj h1
  rw [List.drop_eq_getElem_cons hp, h46, List.count_cons_self] at hc
  have e := ll_at (l.take p) (l.drop (p + 1))
  rw [← h, hc] at e
  exact e

end Go.Proofs.Qxb6604303a.Pl
