/- modulePath (function 10, its export 6): it hands back Pl.sc 0 0 of the text. -/
import Derived.Test.Qxb6605297aKey
import Derived.Test.Qxb6605297aBuilder
namespace Go.Proofs.Qxb6605297a
open Go.RowKit

theorem isB_below {b : Nat} {B : Nat} {bs : List Value} {w w' : World} (h : Lib.IsBuilder 34 5 B b bs w) (hb : Below w.heap.size w w') : Lib.IsBuilder 34 5 B b bs w' := by
  have hg : w.grownBy w' none := ⟨hb.os, hb.tape, hb.output, hb.size, fun k hk _ => hb.block k hk⟩
  have one : ∀ p, Lib.BuilderAt 34 5 B b p bs w → Lib.BuilderAt 34 5 B b p bs w' := by
    rintro p ⟨h1, v, h2, h3, h4⟩
    have hlt : b < w.heap.size := (Array.getElem?_eq_some_iff.1 h2).1
    exact ⟨h1, v, (hb.block b hlt).trans h2, h3.kept hg (by cases hv : v.ownBlock <;> simp), h4⟩
  rcases h with h | h
  · exact .inl (one _ h)
  · exact .inr (one _ h)

theorem trimPre_eq (l : List UInt8) : Lib.trimPrefix l [109, 111, 100, 117, 108, 101, 46] = Pl.trimPre l := rfl
theorem trimDot_eq (l : List UInt8) : Lib.trimPrefix l [46] = Pl.trimDot l := by
  cases l with
  | nil => rfl
  | cons c t =>
    unfold Lib.trimPrefix Lib.hasPrefix Pl.trimDot
    by_cases h : c = 46
    · subst h; simp [List.isPrefixOf]
    · have : ((46 : UInt8) == c) = false := by rw [beq_eq_false_iff_ne]; exact fun e => h e.symm
      simp [List.isPrefixOf, this, h]

theorem any_name (l : List UInt8) : (Lib.indexAny l DB = -1 ∧ Pl.nameOf l = l ∧ Pl.nameRest l = []) ∨
    ∃ i : Nat, Lib.indexAny l DB = i ∧ i < l.length ∧ Pl.nameOf l = l.take i ∧ Pl.nameRest l = l.drop i := by
  induction l with
  | nil => left; exact ⟨rfl, rfl, rfl⟩
  | cons c t ih =>
    by_cases h : c = 46 ∨ c = 91
    · right
      have hn : Pl.isName c = false := by rcases h with rfl | rfl <;> decide
      have hc : DB.contains c = true := by rcases h with rfl | rfl <;> decide
      refine ⟨0, ?_, by simp, ?_, ?_⟩
      · rw [Lib.indexAny, if_pos hc]; rfl
      · simp [Pl.nameOf, hn]
      · simp [Pl.nameRest, hn]
    · have hn : Pl.isName c = true := by
        have h1 : c ≠ 46 := fun e => h (.inl e)
        have h2 : c ≠ 91 := fun e => h (.inr e)
        simp [Pl.isName, h1, h2]
      have hc : ¬ DB.contains c = true := by
        have h1 : c ≠ 46 := fun e => h (.inl e)
        have h2 : c ≠ 91 := fun e => h (.inr e)
        simp [DB, h1, h2]
      rcases ih with ⟨h1, h2, h3⟩ | ⟨i, h1, h2, h3, h4⟩
      · left
        refine ⟨?_, ?_, ?_⟩
        · rw [Lib.indexAny, if_neg hc, h1]; rfl
        · unfold Pl.nameOf at h2 ⊢; rw [List.takeWhile_cons, hn, if_pos rfl, h2]
        · unfold Pl.nameRest at h3 ⊢; rw [List.dropWhile_cons, hn, if_pos rfl, h3]
      · right
        refine ⟨i + 1, ?_, by simpa using h2, ?_, ?_⟩
        · have : ((i : Int) == -1) = false := by rw [beq_eq_false_iff_ne]; omega
          rw [Lib.indexAny, if_neg hc, h1, this]; simp
        · unfold Pl.nameOf at h3 ⊢; rw [List.takeWhile_cons, hn, if_pos rfl, h3]; rfl
        · unfold Pl.nameRest at h4 ⊢; rw [List.dropWhile_cons, hn, if_pos rfl, h4]; rfl

def strLen : Value → Nat
  | .string s => s.size
  | _ => 0
theorem ret_str {a b : ByteArray} (h : a = b) : Ending.returned (.string a) = .returned (.string b) := by rw [h]

/-- between two rounds -/
structure Inv (s t : ByteArray) (out : List UInt8) (w wr : World) : Prop where
  le : t.size ≤ s.size
  eq : out ++ Pl.sc 0 0 (lst t) = Pl.sc 0 0 (lst s)
  bld : Lib.IsBuilder 34 5 w.heap.size w.heap.size (Lib.byteCells out) wr
  bel : Below w.heap.size w wr

theorem Inv.out_le {s t : ByteArray} {out : List UInt8} {w wr : World} (h : Inv s t out w wr) : out.length ≤ 8 * (s.size + 1) := by
  have h1 := congrArg List.length h.eq
  have h2 := Pl.sc_len (lst s) 0 0
  rw [lst_len] at h2
  rw [List.length_append] at h1
  omega

theorem Inv.next {s t t' u : ByteArray} {out : List UInt8} {w wr w' : World} {n : Nat} (h : Inv s t out w wr) (h0 : lst t ≠ []) (hu : lst u = Pl.trimPre (lst t)) (hn : Pl.nameOf (lst u) = (lst u).take n)
    (ht : lst t' = Pl.behind (Pl.nameRest (lst u))) (hb : Lib.IsBuilder 34 5 w.heap.size w.heap.size (Lib.byteCells out ++ Lib.strCells (u.extract 0 n) ++ [.int .u8 46]) w') (hbel : Below w.heap.size w w') :
    Inv s t' (out ++ (lst u).take n ++ [46]) w w' ∧ t'.size < t.size := by
  have hlt := Pl.behind_lt (lst t) h0
  rw [← hu, ← ht, lst_len, lst_len] at hlt
  refine ⟨⟨by have := h.le; omega, ?_, ?_, hbel⟩, hlt⟩
  · rw [← h.eq, Pl.sc_step (lst t) h0, ← hu, ← hn, ht]; simp
  · have e : Lib.strCells (u.extract 0 n) = Lib.byteCells ((lst u).take n) := by
      rw [Lib.strCells_eq, Lib.extract_data]; simp [lst]
    rw [Lib.byteCells_append, Lib.byteCells_append, ← e]
    exact hb

theorem size_ext (u : ByteArray) (n : Nat) : (u.extract 0 n).size ≤ u.size := by rw [ByteArray.size_extract]; omega
theorem ext_all (u : ByteArray) : u.extract 0 u.size = u := by
  have h : lst (u.extract 0 u.size) = lst u := lst_extract u 0
  rw [← strOf_lst (u.extract 0 u.size), h, strOf_lst]
theorem head_no {x : ByteArray} (h : Lib.hasPrefix (lst x) [91] = false) : ¬ (lst x).head? = some 91 := by
  intro e
  cases hl : lst x with
  | nil => rw [hl] at e; simp at e
  | cons c t => rw [hl] at e h; simp at e; subst e; simp [Lib.hasPrefix] at h
theorem head_yes {x : ByteArray} (h : Lib.hasPrefix (lst x) [91] = true) : ∃ h0 : 0 < x.size, (x[0]'h0).toNat = 91 ∧ (lst x).head? = some 91 := by
  have hh : (lst x).head? = some 91 := by
    cases hl : lst x with
    | nil => rw [hl] at h; simp [Lib.hasPrefix] at h
    | cons c t => rw [hl] at h; simp [Lib.hasPrefix] at h; simp [h.symm]
  have h0 : 0 < x.size := by
    rw [← lst_len]
    cases hl : lst x with
    | nil => rw [hl] at hh; simp at hh
    | cons c t => simp
  refine ⟨h0, ?_, hh⟩
  have := drop_cons x 0 h0
  rw [List.drop_zero] at this
  rw [this] at hh
  simp at hh
  rw [hh]; rfl
theorem name_le (l : List UInt8) : (Pl.nameRest l).length ≤ l.length := (List.dropWhile_sublist _).length_le

set_option maxHeartbeats 4000000 in
set_option maxRecDepth 100000 in
theorem path_any (s : ByteArray) (w : World) (hs : s.size ≤ 1048576) :
    Calls Try.prog 10 #[.string s] w fun e w' => e = .returned (.string (strOf (Pl.sc 0 0 (lst s)))) ∧ Below w.heap.size w w' := by
  go_enter Try.func10, Try.ntmps10
  go_wp2_with fail
  go_loopw [4] (fun d wr => ∃ (t : ByteArray) (out : List UInt8), d = .string t ∧ Inv s t out w wr) (fun d _ => strLen d)
  case atStart =>
    refine ⟨s, [], rfl, Nat.le_refl _, rfl, .inl ⟨Nat.le_refl _, .slice none 0 0, heap_alloc_new _ _, World.ownsRow_nil _ _ _ _, by simp [Value.ownBlock]⟩, (Below.refl _ _).alloc (Nat.le_refl _) _⟩
  case round =>
    obtain ⟨t, out, rfl, hinv⟩ := hrel
    by_cases h0 : t.size = 0
    · have hte : t = ByteArray.empty := by
        obtain ⟨⟨l⟩⟩ := t
        have : l = [] := List.eq_nil_of_length_eq_zero (by simpa [ByteArray.size] using h0)
        subst this; rfl
      subst hte
      have HE : Hid (out = Pl.sc 0 0 (lst s)) := by
        have h := hinv.eq
        rw [show lst ByteArray.empty = [] from rfl, Pl.sc_nil, show Pl.fin 0 0 = [] from rfl, List.append_nil] at h
        exact h
      go_wp2_with (go_at_call 17; refine (Try.Builder_String_any w.heap.size w.heap.size out _ hinv.bld hinv.bel.size).mono ?_; rintro e w' ⟨rfl, hb'⟩)
      go_ret
      exact ⟨ret_str (by rw [← HE.out]; rfl), hinv.bel.trans hb'⟩
    · have hne : t.toList.isEmpty = false := by
        rw [Lib.toList_data]; cases h : t.data.toList with
        | nil => exact absurd (by have := lst_len t; unfold lst at this; rw [h] at this; simpa using this.symm) h0
        | cons => rfl
      have hnn : lst t ≠ [] := by intro e; have := lst_len t; rw [e] at this; simp at this; omega
      have hol := hinv.out_le
      have hle := hinv.le
      go_wp2_with fail
      refine (Try.strings_TrimPrefix _ _ _).mono ?_
      rintro e w1 ⟨rfl, hw1⟩
      rw [hw1, show Lib.trimPrefix t.data.toList _ = Pl.trimPre (lst t) from trimPre_eq _]
      clear hw1
      have hu : lst (⟨(Pl.trimPre (lst t)).toArray⟩ : ByteArray) = Pl.trimPre (lst t) := lst_strOf _
      have hul := Pl.trimPre_le (lst t)
      generalize (⟨(Pl.trimPre (lst t)).toArray⟩ : ByteArray) = u at hu ⊢
      rw [← hu, lst_len, lst_len] at hul
      have HU := hide hu
      clear hu
      go_wp2_with fail
      refine (any_any _ _ (by omega)).mono ?_
      rintro e w2 ⟨rfl, hb2⟩
      have hbld2 := isB_below hinv.bld hb2
      have hbel2 : Below w.heap.size w w2 := hinv.bel.trans (hb2.mono hinv.bel.size)
      clear hb2
      rcases any_name (lst u) with ⟨i1, i2, i3⟩ | ⟨i, i1, i2, i3, i4⟩
      · rw [show Lib.indexAny u.data.toList DB = -1 from i1]
        clear i1
        go_wp2_with fail
        refine (writeString_any w.heap.size w.heap.size _ _ _ hbld2 (by rw [Lib.byteCells_length]; have := size_ext u u.size; omega) hbel2.size).mono ?_
        rintro e w3 ⟨rfl, hb3, hbe3⟩
        have hbel3 := hbel2.trans hbe3
        go_wp2_with fail
        refine (writeByte_any w.heap.size w.heap.size _ _ _ (.inr hb3) (by rw [List.length_append, Lib.byteCells_length, Lib.strCells_length]; have := size_ext u u.size; omega) hbel3.size).mono ?_
        rintro e w4 ⟨rfl, hb4, hbe4⟩
        have hbel4 := hbel3.trans hbe4
        clear hb3 hbe3 hbe4 hbld2 hbel2 hbel3
        go_wp2_with fail
        refine (Try.strings_HasPrefix _ _ _).mono ?_
        rintro e w5 ⟨rfl, hw5⟩
        rw [hw5, show Lib.hasPrefix ByteArray.empty.data.toList _ = false from rfl]
        clear hw5
        go_wp2_with fail
        refine (Try.strings_TrimPrefix _ _ _).mono ?_
        rintro e w6 ⟨rfl, hw6⟩
        rw [hw6]
        clear hw6
        have HN := hide (hinv.next (t' := ⟨(Lib.trimPrefix ByteArray.empty.data.toList [46]).toArray⟩) (n := u.size) hnn (unhide HU) (by rw [i2, List.take_of_length_le (Nat.le_of_eq (lst_len u))]) (by rw [i3]; rfl) (.inr (by rw [ext_all]; exact hb4)) hbel4)
        clear hinv i2 i3 hb4
        go_wp2_with fail
        go_roundw
        case rel => exact ⟨_, _, rfl, (unhide HN).1⟩
        case measure => exact (unhide HN).2
      · rw [show Lib.indexAny u.data.toList DB = i from i1]
        clear i1
        rw [lst_len] at i2
        go_wp2_with fail
        refine (writeString_any w.heap.size w.heap.size _ _ _ hbld2 (by rw [Lib.byteCells_length]; have := size_ext u i; omega) hbel2.size).mono ?_
        rintro e w3 ⟨rfl, hb3, hbe3⟩
        have hbel3 := hbel2.trans hbe3
        go_wp2_with fail
        refine (writeByte_any w.heap.size w.heap.size _ _ _ (.inr hb3) (by rw [List.length_append, Lib.byteCells_length, Lib.strCells_length]; have := size_ext u i; omega) hbel3.size).mono ?_
        rintro e w4 ⟨rfl, hb4, hbe4⟩
        have hbel4 := hbel3.trans hbe4
        clear hb3 hbe3 hbe4 hbld2 hbel2 hbel3
        go_wp2_with fail
        have hx : lst (u.extract i u.size) = Pl.nameRest (lst u) := by rw [i4]; exact lst_extract u i
        have hxs : (u.extract i u.size).size ≤ 1048576 := by rw [ByteArray.size_extract]; omega
        generalize u.extract i u.size = x at hx hxs ⊢
        have HX := hide hx
        have H3 := hide i3
        clear hx i3 i4
        refine (Try.strings_HasPrefix _ _ _).mono ?_
        rintro e w5 ⟨rfl, hw5⟩
        rw [hw5]
        clear hw5
        cases hp : Lib.hasPrefix (lst x) [91]
        · rw [show Lib.hasPrefix x.data.toList _ = false from hp]
          have HH := hide (head_no hp)
          clear hp
          go_wp2_with fail
          refine (Try.strings_TrimPrefix _ _ _).mono ?_
          rintro e w6 ⟨rfl, hw6⟩
          rw [hw6, show Lib.trimPrefix x.data.toList _ = Pl.trimDot (lst x) from trimDot_eq _]
          clear hw6
          have HN := hide (hinv.next (t' := ⟨(Pl.trimDot (lst x)).toArray⟩) (n := i) hnn (unhide HU) (unhide H3) (by rw [← unhide HX, Pl.behind, if_neg (unhide HH)]; exact lst_strOf _) (.inr hb4) hbel4)
          clear hinv hb4
          go_wp2_with fail
          go_roundw
          case rel => exact ⟨_, _, rfl, (unhide HN).1⟩
          case measure => exact (unhide HN).2
        · rw [show Lib.hasPrefix x.data.toList _ = true from hp]
          obtain ⟨hx0, hxb, hh⟩ := head_yes hp
          have HH := hide hh
          clear hp hh
          go_wp2_with fail
          refine (keyLen_any x _ hxs hx0 hxb).mono ?_
          rintro e w6 ⟨k, rfl, hk, hw6⟩
          rw [hw6]
          clear hw6 hxb
          obtain ⟨hk1, hk2, hk3⟩ := hk
          have HK := hide hk3
          clear hk3
          go_wp2_with fail
          refine (Try.strings_TrimPrefix _ _ _).mono ?_
          rintro e w7 ⟨rfl, hw7⟩
          rw [hw7, show Lib.trimPrefix (x.extract k x.size).data.toList _ = Pl.trimDot ((lst x).drop k) by rw [lst_extract]; exact trimDot_eq _]
          clear hw7
          have HN := hide (hinv.next (t' := ⟨(Pl.trimDot ((lst x).drop k)).toArray⟩) (n := i) hnn (unhide HU) (unhide H3) (by rw [← unhide HX, Pl.behind, if_pos (unhide HH), ← unhide HK]; exact lst_strOf _) (.inr hb4) hbel4)
          clear hinv hb4
          go_wp2_with fail
          go_roundw
          case rel => exact ⟨_, _, rfl, (unhide HN).1⟩
          case measure => exact (unhide HN).2
theorem path_out (s : ByteArray) (w : World) (hs : s.size ≤ 1048576) :
    Calls Try.prog 6 #[.string s] w fun e w' => e = .returned (.string (strOf (Pl.sc 0 0 (lst s)))) ∧ Below w.heap.size w w' := by
  go_enter Try.func6, Try.ntmps6
  go_wp2_with (go_at_call 10; refine (path_any _ _ hs).mono ?_; rintro e w' ⟨rfl, hb⟩)
  go_ret
  exact ⟨rfl, hb⟩

end Go.Proofs.Qxb6605297a
