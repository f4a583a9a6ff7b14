/- The plain law of this seat: lists of bytes, no Go. -/
import Derived.Lib.Strings
namespace Go.Proofs.Qxb6605297a.Pl

/-- the bytes of 'module.' -/
def pre : List UInt8 := [109, 111, 100, 117, 108, 101, 46]
theorem pre_len : pre.length = 7 := rfl

/-- a byte read in a name: what is written, the next state -/
def nameStep (b : UInt8) (m : Nat) : List UInt8 × Nat × Nat :=
  if b = 46 then ([46], 0, 0) else if b = 91 then ([46], 2, m) else ([b], 1, m)

/-- a byte read at the start of a step, m bytes of 'module.' matched -/
def preStep (b : UInt8) (m : Nat) : List UInt8 × Nat × Nat :=
  if b = pre.getD m 0 then ([], if m + 1 = 7 then 1 else 0, m + 1) else (pre.take m ++ (nameStep b m).1, (nameStep b m).2)

/-- states: 0 at a step's start, 1 in a name, 2 a key just opened, 3 in a plain key, 4 in a quoted key, 5 behind a backslash, 6 behind the closing quote, 7 behind a key -/
def step (st m : Nat) (b : UInt8) : List UInt8 × Nat × Nat :=
  if st = 0 then preStep b m
  else if st = 1 then nameStep b m
  else if st = 2 then ([], if b = 34 then 4 else if b = 93 then 7 else 3, m)
  else if st = 3 then ([], if b = 93 then 7 else 3, m)
  else if st = 4 then ([], if b = 92 then 5 else if b = 34 then 6 else 4, m)
  else if st = 5 then ([], 4, m)
  else if st = 6 then ([], if b = 93 then 7 else 6, m)
  else if b = 46 then ([], 0, 0) else preStep b 0

def fin (st m : Nat) : List UInt8 := if st = 1 then [46] else if st = 0 ∧ 0 < m then pre.take m ++ [46] else []

def sc : Nat → Nat → List UInt8 → List UInt8
  | st, m, [] => fin st m
  | st, m, b :: t => (step st m b).1 ++ sc (step st m b).2.1 (step st m b).2.2 t

theorem sc_nil (st m : Nat) : sc st m [] = fin st m := rfl
theorem sc_cons (st m : Nat) (b : UInt8) (t : List UInt8) : sc st m (b :: t) = (step st m b).1 ++ sc (step st m b).2.1 (step st m b).2.2 t := rfl

/-- outside of state 0 the count m is not looked at -/
theorem sc_m : ∀ (l : List UInt8) (st m m' : Nat), st ≠ 0 → sc st m l = sc st m' l
  | [], st, m, m', h => by simp [sc, fin, h]
  | b :: t, st, m, m', h => by
    have ih := fun st' => sc_m t st' m m'
    rw [sc_cons, sc_cons]
    unfold step
    simp only [if_neg h]
    by_cases h1 : st = 1
    · simp only [if_pos h1, nameStep]
      by_cases hb : b = 46
      · simp only [if_pos hb]
      · by_cases hb2 : b = 91
        · simp only [if_neg hb, if_pos hb2]; rw [ih 2 (by decide)]
        · simp only [if_neg hb, if_neg hb2]; rw [ih 1 (by decide)]
    · simp only [if_neg h1]
      by_cases h2 : st = 2
      · simp only [if_pos h2]
        rw [ih _ (by split; · decide
                     · split <;> decide)]
      · simp only [if_neg h2]
        by_cases h3 : st = 3
        · simp only [if_pos h3]; rw [ih _ (by split <;> decide)]
        · simp only [if_neg h3]
          by_cases h4 : st = 4
          · simp only [if_pos h4]
            rw [ih _ (by split; · decide
                         · split <;> decide)]
          · simp only [if_neg h4]
            by_cases h5 : st = 5
            · simp only [if_pos h5]; rw [ih 4 (by decide)]
            · simp only [if_neg h5]
              by_cases h6 : st = 6
              · simp only [if_pos h6]; rw [ih _ (by split <;> decide)]
              · simp only [if_neg h6]

def trimPre (l : List UInt8) : List UInt8 := if pre.isPrefixOf l then l.drop 7 else l

theorem pre_plain (m : Nat) (h : m < 6) : pre.getD m 0 ≠ 46 ∧ pre.getD m 0 ≠ 91 := by
  rcases (show m = 0 ∨ m = 1 ∨ m = 2 ∨ m = 3 ∨ m = 4 ∨ m = 5 by omega) with rfl | rfl | rfl | rfl | rfl | rfl <;> decide

theorem pre_take (m : Nat) (h : m < 7) : pre.take (m + 1) = pre.take m ++ [pre.getD m 0] := by
  rcases (show m = 0 ∨ m = 1 ∨ m = 2 ∨ m = 3 ∨ m = 4 ∨ m = 5 ∨ m = 6 by omega) with rfl | rfl | rfl | rfl | rfl | rfl | rfl <;> decide

theorem pre_drop (m : Nat) (h : m < 7) : pre.drop m = pre.getD m 0 :: pre.drop (m + 1) := by
  rcases (show m = 0 ∨ m = 1 ∨ m = 2 ∨ m = 3 ∨ m = 4 ∨ m = 5 ∨ m = 6 by omega) with rfl | rfl | rfl | rfl | rfl | rfl | rfl <;> decide

theorem sc_pre : ∀ (l : List UInt8) (m : Nat), m < 7 → (l ≠ [] ∨ 0 < m) →
    sc 0 m l = if (pre.drop m).isPrefixOf l then sc 1 7 (l.drop (7 - m)) else pre.take m ++ sc 1 m l
  | [], m, h, h0 => by
    have h0 : 0 < m := by rcases h0 with h0 | h0; · exact absurd rfl h0
                          · exact h0
    rw [pre_drop m h]
    simp [sc, fin, h0]
  | b :: t, m, h, _ => by
    rw [pre_drop m h, sc_cons]
    simp only [step, if_true, preStep]
    by_cases hb : b = pre.getD m 0
    · simp only [if_pos hb]
      have hbb : (pre.getD m 0 == b) = true := by rw [hb]; exact beq_self_eq_true _
      have hpx : (pre.getD m 0 :: pre.drop (m + 1)).isPrefixOf (b :: t) = (pre.drop (m + 1)).isPrefixOf t := by rw [List.isPrefixOf, hbb, Bool.true_and]
      rw [hpx]
      by_cases h7 : m + 1 = 7
      · obtain rfl : m = 6 := by omega
        simp [pre]
      · rw [if_neg h7]
        have ih := sc_pre t (m + 1) (by omega) (.inr (by omega))
        simp only [List.nil_append]
        rw [ih, show 7 - m = (7 - (m + 1)) + 1 by omega, List.drop_succ_cons]
        by_cases hp : ((pre.drop (m + 1)).isPrefixOf t) = true
        · rw [if_pos hp, if_pos hp]
        · rw [if_neg hp, if_neg hp, pre_take m h, List.append_assoc]
          congr 1
          obtain ⟨n1, n2⟩ := pre_plain m (by omega)
          rw [sc_cons]
          simp only [step, nameStep]
          rw [← hb] at n1 n2 ⊢
          rw [sc_m t 1 (m + 1) m (by decide)]
          simp [n1, n2]
    · simp only [if_neg hb]
      have hbb : (pre.getD m 0 == b) = false := by rw [beq_eq_false_iff_ne]; exact fun e => hb e.symm
      have hpx : (pre.getD m 0 :: pre.drop (m + 1)).isPrefixOf (b :: t) = false := by rw [List.isPrefixOf, hbb, Bool.false_and]
      rw [hpx, if_neg (by decide), List.append_assoc, sc_cons]
      simp [step]

theorem sc_start (l : List UInt8) (h : l ≠ []) : sc 0 0 l = sc 1 0 (trimPre l) := by
  rw [sc_pre l 0 (by omega) (.inl h)]
  unfold trimPre
  simp only [List.drop_zero, List.take_zero, List.nil_append, Nat.sub_zero]
  by_cases hp : pre.isPrefixOf l = true
  · rw [if_pos hp, if_pos hp, sc_m _ 1 7 0 (by decide)]
  · rw [if_neg hp, if_neg hp]

def isName (c : UInt8) : Bool := c != 46 && c != 91
def nameOf (l : List UInt8) : List UInt8 := l.takeWhile isName
def nameRest (l : List UInt8) : List UInt8 := l.dropWhile isName

/-- what stands behind the first closing bracket -/
def afterBr (l : List UInt8) : List UInt8 := (l.dropWhile (fun c => c != 93)).drop 1
theorem afterBr_cons (c : UInt8) (t : List UInt8) : afterBr (c :: t) = if c = 93 then t else afterBr t := by
  unfold afterBr
  by_cases h : c = 93 <;> simp [h]

/-- what stands behind the quote that closes; q: the byte ahead was a backslash -/
def quoted : Bool → List UInt8 → List UInt8
  | _, [] => []
  | true, _ :: t => quoted false t
  | false, c :: t => if c = 92 then quoted true t else if c = 34 then t else quoted false t

/-- what stands behind the key whose bracket has just been opened -/
def keyRest (t : List UInt8) : List UInt8 := if t.head? = some 34 then afterBr (quoted false t.tail) else afterBr t

theorem sc_plain (m : Nat) : ∀ l : List UInt8, sc 3 m l = sc 7 m (afterBr l)
  | [] => by simp [sc, fin, afterBr]
  | c :: t => by
    rw [sc_cons, afterBr_cons]
    by_cases h : c = 93
    · simp [step, h]
    · simp [step, h]; exact sc_plain m t

theorem sc_tail (m : Nat) : ∀ l : List UInt8, sc 6 m l = sc 7 m (afterBr l)
  | [] => by simp [sc, fin, afterBr]
  | c :: t => by
    rw [sc_cons, afterBr_cons]
    by_cases h : c = 93
    · simp [step, h]
    · simp [step, h]; exact sc_tail m t

theorem sc_quoted (m : Nat) : ∀ (l : List UInt8) (q : Bool), sc (if q then 5 else 4) m l = sc 7 m (afterBr (quoted q l))
  | [], q => by cases q <;> simp [sc, fin, afterBr, quoted]
  | c :: t, true => by
    rw [sc_cons]
    simp only [if_true, step]
    have := sc_quoted m t false
    simpa [quoted] using this
  | c :: t, false => by
    rw [sc_cons]
    by_cases h1 : c = 92
    · have := sc_quoted m t true
      simpa [step, quoted, h1] using this
    · by_cases h2 : c = 34
      · have := sc_tail m t
        simpa [step, quoted, h1, h2] using this
      · have := sc_quoted m t false
        simpa [step, quoted, h1, h2] using this

theorem sc_key (m : Nat) (t : List UInt8) : sc 2 m t = sc 7 m (keyRest t) := by
  cases t with
  | nil => simp [sc, fin, keyRest, afterBr]
  | cons c t =>
    rw [sc_cons]
    unfold keyRest
    by_cases h1 : c = 34
    · have := sc_quoted m t false
      simpa [step, h1] using this
    · by_cases h2 : c = 93
      · subst h2; simp [step, afterBr_cons]
      · have := sc_plain m t
        simpa [step, h1, h2, afterBr_cons] using this

def trimDot (l : List UInt8) : List UInt8 := if l.head? = some 46 then l.tail else l

theorem sc_after (m : Nat) (l : List UInt8) : sc 7 m l = sc 0 0 (trimDot l) := by
  cases l with
  | nil => simp [sc, fin, trimDot]
  | cons c t =>
    unfold trimDot
    by_cases h : c = 46
    · rw [sc_cons]; simp [step, h]
    · rw [sc_cons]
      simp only [List.head?_cons, Option.some.injEq, if_neg h]
      rw [sc_cons]
      simp [step, h]

/-- what is left of the text behind a step whose name has been read -/
def behind (l : List UInt8) : List UInt8 := if l.head? = some 91 then trimDot (keyRest l.tail) else trimDot l

theorem sc_name (m : Nat) : ∀ l : List UInt8, sc 1 m l = nameOf l ++ 46 :: sc 0 0 (behind (nameRest l))
  | [] => by simp [sc, fin, nameOf, nameRest, behind, trimDot]
  | c :: t => by
    rw [sc_cons]
    by_cases h1 : c = 46
    · subst h1; simp [step, nameStep, nameOf, nameRest, isName, behind, trimDot]
    · by_cases h2 : c = 91
      · subst h2
        have := sc_key m t
        rw [sc_after] at this
        simpa [step, nameStep, nameOf, nameRest, isName, behind] using this
      · have := sc_name m t
        have hn : isName c = true := by simp [isName, h1, h2]
        simpa [step, nameStep, nameOf, nameRest, hn, h1, h2] using this

/-- ONE STEP OF modulePath -/
theorem sc_step (l : List UInt8) (h : l ≠ []) : sc 0 0 l = nameOf (trimPre l) ++ 46 :: sc 0 0 (behind (nameRest (trimPre l))) := by
  rw [sc_start l h, sc_name]

theorem afterBr_le (l : List UInt8) : (afterBr l).length ≤ l.length := by
  unfold afterBr
  have := (List.dropWhile_sublist (l := l) (fun c => c != 93)).length_le
  simp only [List.length_drop]; omega
theorem quoted_le : ∀ (l : List UInt8) (q : Bool), (quoted q l).length ≤ l.length
  | [], _ => by simp [quoted]
  | _ :: t, true => by have := quoted_le t false; simp [quoted]; omega
  | c :: t, false => by
    have h1 := quoted_le t false
    have h2 := quoted_le t true
    simp only [quoted]
    split
    · simp; omega
    · split <;> simp; omega
theorem keyRest_le (t : List UInt8) : (keyRest t).length ≤ t.length := by
  unfold keyRest
  split
  · have h1 := afterBr_le (quoted false t.tail); have h2 := quoted_le t.tail false; simp at h2; omega
  · exact afterBr_le t
theorem trimDot_le (l : List UInt8) : (trimDot l).length ≤ l.length := by
  unfold trimDot; split <;> simp
theorem trimPre_le (l : List UInt8) : (trimPre l).length ≤ l.length := by
  unfold trimPre; split <;> simp

theorem behind_lt (l : List UInt8) (h : l ≠ []) : (behind (nameRest (trimPre l))).length < l.length := by
  have hp := trimPre_le l
  generalize hl : trimPre l = u at hp
  have hu := (List.dropWhile_sublist (l := u) isName).length_le
  change (nameRest u).length ≤ _ at hu
  have hb : (behind (nameRest u)).length ≤ (nameRest u).length ∧ ((nameRest u) ≠ [] → (behind (nameRest u)).length < (nameRest u).length) := by
    cases hn : nameRest u with
    | nil => simp [behind, trimDot]
    | cons c t =>
      have hc : isName c = false := by
        have := List.head?_dropWhile_not isName u
        rw [show u.dropWhile isName = c :: t from hn] at this
        exact this
      have hc' : c = 46 ∨ c = 91 := by
        by_cases h1 : c = 46
        · exact .inl h1
        · by_cases h2 : c = 91
          · exact .inr h2
          · simp [isName, h1, h2] at hc
      unfold behind
      rcases hc' with rfl | rfl
      · simp [trimDot]
      · have h1 := trimDot_le (keyRest t)
        have h2 := keyRest_le t
        simp; omega
  by_cases hz : nameRest u = []
  · have hpos : 0 < l.length := List.length_pos_iff.2 h
    rw [hz] at hb ⊢
    simp [behind, trimDot]
    exact hpos
  · have := hb.2 hz
    omega

/-- how much is written -/
theorem step_len (st m : Nat) (b : UInt8) : (step st m b).1.length ≤ 8 := by
  have hn : ∀ m, (nameStep b m).1.length = 1 := by intro m; unfold nameStep; split; · rfl
                                                   · split <;> rfl
  have ht : ∀ m, (pre.take m).length ≤ 7 := by intro m; rw [List.length_take, pre_len]; omega
  have hp : ∀ m, (preStep b m).1.length ≤ 8 := by
    intro m
    unfold preStep
    split
    · simp
    · have h1 := hn m; have h2 := ht m; rw [List.length_append]; omega
  unfold step
  split
  · exact hp m
  · split
    · rw [hn]; decide
    · repeat' split
      all_goals first | exact hp 0 | simp

theorem sc_len : ∀ (l : List UInt8) (st m : Nat), (sc st m l).length ≤ 8 * (l.length + 1)
  | [], st, m => by
    have ht : (pre.take m).length ≤ 7 := by rw [List.length_take, pre_len]; omega
    unfold sc fin
    split
    · simp
    · split
      · simp at ht ⊢; omega
      · simp
  | b :: t, st, m => by
    have ih := sc_len t (step st m b).2.1 (step st m b).2.2
    have h := step_len st m b
    rw [sc_cons, List.length_append]
    simp only [List.length_cons]
    omega

end Go.Proofs.Qxb6605297a.Pl
