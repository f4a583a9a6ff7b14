/- The texts that the law makes, as the scanner meets them: plain facts, no Go in sight. -/
import Derived.Test.Qxb6604368aFmtDocB
namespace Go.Proofs.Qxb6604368aFmt

theorem byt_left {a c : List UInt8} {i : Nat} (h : i < a.length) : byt (a ++ c) i = byt a i := by
  unfold byt
  rw [List.getD_eq_getElem?_getD, List.getD_eq_getElem?_getD, List.getElem?_append_left h]
theorem byt_right {a c : List UInt8} {i j : Nat} (h : i = a.length + j) : byt (a ++ c) i = byt c j := by
  subst h
  unfold byt
  rw [List.getD_eq_getElem?_getD, List.getD_eq_getElem?_getD, List.getElem?_append_right (by omega), Nat.add_sub_cancel_left]

theorem dots_shift {l k : List UInt8} {p : Nat} (n : Nat) (h : ∀ i, i < n → byt l (p + i) = byt k i) : dots l p n = dots k 0 n := by
  induction n with
  | zero => rfl
  | succ n ih =>
    show dots l p n + _ = dots k 0 n + _
    rw [ih (fun i hi => h i (by omega)), h n (by omega), Nat.zero_add]

theorem keyAt_of {l k : List UInt8} {p : Nat} (hk : DK k) (hb : ∀ i, i < k.length → byt l (p + i) = byt k i) (hl : p + k.length < l.length) : KeyAt l p (p + k.length) := by
  have h0 := hk.ne
  refine ⟨by omega, hl, fun i h1 h2 => ?_, ?_, fun i h1 h2 h3 => ?_⟩
  · have := hb (i - p) (by omega)
    rw [show p + (i - p) = i by omega] at this
    rw [this]
    exact hk.all _ (by omega)
  · have := hb 0 h0
    rw [Nat.add_zero] at this
    rw [this]
    exact hk.first
  · have e := hb (i - p) (by omega)
    rw [show p + (i - p) = i by omega] at e
    rw [e] at h3
    obtain ⟨n1, n2⟩ := hk.next (i - p) (by omega) h3
    have e2 := hb (i - p + 1) n1
    rw [show p + (i - p + 1) = i + 1 by omega] at e2
    exact ⟨by omega, by rw [e2]; exact n2⟩

/-- " = 1\n" -/
def tail5 : List UInt8 := [32, 61, 32, 49, 10]

theorem lineAt_of {l a k : List UInt8} (hk : DK k) (hl : l = a ++ (k ++ tail5)) : LineAt l a.length (a.length + k.length) := by
  have hlen : l.length = a.length + (k.length + 5) := by rw [hl]; simp [tail5]
  have hb : ∀ i, i < k.length → byt l (a.length + i) = byt k i := fun i hi => by rw [hl, byt_right rfl, byt_left hi]
  have ht : ∀ j, byt l (a.length + k.length + j) = byt tail5 j := fun j => by rw [hl, byt_right (j := k.length + j) (by omega), byt_right rfl]
  refine ⟨keyAt_of hk hb (by omega), ?_, ?_, ⟨?_, ?_, ?_, by omega⟩⟩
  · have := ht 0; rw [Nat.add_zero] at this; rw [this]; rfl
  · rw [ht 1]; rfl
  · rw [ht 2]; rfl
  · rw [show a.length + k.length + 2 + 1 = a.length + k.length + 3 by omega, ht 3]; rfl
  · rw [show a.length + k.length + 2 + 2 = a.length + k.length + 4 by omega, ht 4]; rfl

theorem line_dots {l a k : List UInt8} (hl : l = a ++ (k ++ tail5)) : dots l a.length k.length = dots k 0 k.length :=
  dots_shift _ fun i hi => by rw [hl, byt_right rfl, byt_left hi]

/-- what document is to measure: levels, the longest name, entries -/
def Shape (l : List UInt8) (lev full ent : Nat) : Prop :=
  (∃ z, TextA l z ∧ lev = dots l 0 (z - 0) ∧ full = join 0 (z - 0) ∧ ent = dots l 0 (z - 0) + 2) ∨
  ∃ z0 q z, TextB l z0 q z ∧ lev = (dots l (0 + 1) (z0 - (0 + 1)) + 1) + dots l q (z - q) ∧ full = join (z0 - (0 + 1)) (z - q) ∧ z0 - (0 + 1) ≤ full ∧ ent = (dots l (0 + 1) (z0 - (0 + 1)) + 1) + (dots l q (z - q) + 2)

theorem shapeA (k : List UInt8) (hk : DK k) : Shape (k ++ tail5) (dots k 0 k.length) k.length (dots k 0 k.length + 2) := by
  have h1 := lineAt_of (l := k ++ tail5) (a := []) hk rfl
  have h2 := line_dots (l := k ++ tail5) (a := []) (k := k) rfl
  simp only [List.length_nil, Nat.zero_add] at h1 h2
  refine .inl ⟨k.length, ⟨h1, by simp [tail5]⟩, ?_, by simp [join], ?_⟩
  · rw [Nat.sub_zero, h2]
  · rw [Nat.sub_zero, h2]

def docB (h k : List UInt8) : List UInt8 := ([91] ++ h ++ [93, 10]) ++ (k ++ tail5)

theorem shapeB (h k : List UInt8) (hh : DK h) (hk : DK k) :
    Shape (docB h k) ((dots h 0 h.length + 1) + dots k 0 k.length) (h.length + 1 + k.length) ((dots h 0 h.length + 1) + (dots k 0 k.length + 2)) := by
  have hh0 := hh.ne
  have hk0 := hk.ne
  have la : ([91] ++ h ++ [93, 10] : List UInt8).length = h.length + 3 := by simp
  have h1 := lineAt_of (l := docB h k) (a := [91] ++ h ++ [93, 10]) hk rfl
  have h2 := line_dots (l := docB h k) (a := [91] ++ h ++ [93, 10]) (k := k) rfl
  rw [la] at h1 h2
  have e : docB h k = [91] ++ (h ++ ([93, 10] ++ (k ++ tail5))) := by simp [docB]
  have hlen : (docB h k).length = h.length + 3 + k.length + 5 := by simp [docB, tail5]; omega
  have hb : ∀ i, i < h.length → byt (docB h k) (1 + i) = byt h i := fun i hi => by rw [e, byt_right (a := [91]) (j := i) (by simp), byt_left hi]
  have hr : ∀ j, byt (docB h k) (1 + h.length + j) = byt ([93, 10] ++ (k ++ tail5)) j := fun j => by rw [e, byt_right (a := [91]) (j := h.length + j) (by simp; omega), byt_right rfl]
  have hd := keyAt_of (l := docB h k) (p := 1) hh hb (by omega)
  have hdd := dots_shift (l := docB h k) (k := h) (p := 1) h.length hb
  refine .inr ⟨1 + h.length, h.length + 3, h.length + 3 + k.length, ⟨⟨by rw [e]; rfl, hd, ?_⟩, ?_, h1, by omega, by omega⟩, ?_, ?_, by omega, ?_⟩
  · have := hr 0; rw [Nat.add_zero] at this; rw [this]; rfl
  · rw [hr 1]; rfl
  · rw [show 1 + h.length - (0 + 1) = h.length by omega, show h.length + 3 + k.length - (h.length + 3) = k.length by omega, h2]
    show _ = dots (docB h k) 1 h.length + 1 + _
    rw [hdd]
  · rw [show 1 + h.length - (0 + 1) = h.length by omega, show h.length + 3 + k.length - (h.length + 3) = k.length by omega]
    unfold join
    rw [if_neg (by omega)]
  · rw [show 1 + h.length - (0 + 1) = h.length by omega, show h.length + 3 + k.length - (h.length + 3) = k.length by omega, h2]
    show _ = dots (docB h k) 1 h.length + 1 + _
    rw [hdd]
end Go.Proofs.Qxb6604368aFmt
