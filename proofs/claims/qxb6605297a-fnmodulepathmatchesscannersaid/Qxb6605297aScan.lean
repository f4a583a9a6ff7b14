/- zzScanModulePath (function 7): it hands back Pl.sc 0 0 of the text. -/
import Derived.Test.Qxb6605297aPath
namespace Go.Proofs.Qxb6605297a
open Go.RowKit

/-- what holds between two rounds -/
structure SInv (s : ByteArray) (st m k : Nat) (out : List UInt8) (v : Value) (w wr : World) : Prop where
  own : wr.ownsRow w.heap.size 5 1 v out.length (Lib.byteCells out)
  eq : out ++ Pl.sc st m ((lst s).drop k) = Pl.sc 0 0 (lst s)
  bel : Below w.heap.size w wr

theorem SInv.step {s : ByteArray} {st m k st' m' : Nat} {out em : List UInt8} {v v' : Value} {w wr w' : World} (h : SInv s st m k out v w wr) (hk : k < s.size)
    (he : Pl.step st m (s[k]) = (em, st', m')) (ho : w'.ownsRow w.heap.size 5 1 v' (out.length + em.length) (Lib.byteCells out ++ Lib.byteCells em)) (hb : Below w.heap.size w w') : SInv s st' m' (k + 1) (out ++ em) v' w w' := by
  refine ⟨?_, ?_, hb⟩
  · rw [List.length_append, Lib.byteCells_append]; exact ho
  · rw [← h.eq, drop_cons s k hk, Pl.sc_cons, he]; simp

theorem SInv.quiet {s : ByteArray} {st m k st' m' : Nat} {out : List UInt8} {v : Value} {w wr : World} (h : SInv s st m k out v w wr) (hk : k < s.size)
    (he : Pl.step st m (s[k]) = ([], st', m')) : SInv s st' m' (k + 1) out v w wr := by
  have := h.step (v' := v) (w' := wr) hk he (by simpa [Lib.byteCells] using h.own) h.bel
  rwa [List.append_nil] at this

theorem SInv.len {s : ByteArray} {st m k : Nat} {out : List UInt8} {v : Value} {w wr : World} (h : SInv s st m k out v w wr) : out.length ≤ 8 * (s.size + 1) := by
  have h1 := congrArg List.length h.eq
  have h2 := Pl.sc_len (lst s) 0 0
  rw [lst_len] at h2
  rw [List.length_append] at h1
  omega

/-- one byte appended -/
theorem SInv.app1 {s : ByteArray} {st m k : Nat} {out : List UInt8} {v : Value} {w wr w1 : World} {o : Obj} (h : SInv s st m k out v w wr) (hg : (wr.alloc o).grownBy w1 v.ownBlock) : Below w.heap.size w w1 :=
  (h.bel.alloc h.bel.size _).grown hg (by have := h.bel.size; simp; omega) (fun j hj => (h.own.lt j hj).1)

/-! ### the steps -/
theorem p7_get (m : Nat) (h : m < 7) : ((⟨#[109, 111, 100, 117, 108, 101, 46]⟩ : ByteArray)[m]'h) = Pl.pre.getD m 0 := by
  rcases (show m = 0 ∨ m = 1 ∨ m = 2 ∨ m = 3 ∨ m = 4 ∨ m = 5 ∨ m = 6 by omega) with rfl | rfl | rfl | rfl | rfl | rfl | rfl <;> rfl
theorem p7_take (m : Nat) : Lib.strCells ((⟨#[109, 111, 100, 117, 108, 101, 46]⟩ : ByteArray).extract 0 m) = Lib.byteCells (Pl.pre.take m) := by
  rw [Lib.strCells_eq, Lib.extract_data]; rfl
theorem p7_size (m : Nat) : ((⟨#[109, 111, 100, 117, 108, 101, 46]⟩ : ByteArray).extract 0 m).size = (Pl.pre.take m).length := by
  have := congrArg List.length (p7_take m)
  rwa [Lib.strCells_length, Lib.byteCells_length] at this
theorem take_le (m : Nat) : (Pl.pre.take m).length ≤ 7 := by rw [List.length_take, Pl.pre_len]; omega
theorem st0_match {b : UInt8} {m : Nat} (h : m < 7) (hb : ((b.toNat : Int) == (((⟨#[109, 111, 100, 117, 108, 101, 46]⟩ : ByteArray)[m]'h).toNat : Int)) = true) : Pl.step 0 m b = ([], if m + 1 = 7 then 1 else 0, m + 1) := by
  have e : b = Pl.pre.getD m 0 := by
    rw [← p7_get m h]
    have := beq_iff_eq.1 hb
    exact u8_eq (by omega)
  simp only [Pl.step, Pl.preStep]
  rw [if_pos trivial, if_pos e]
theorem st0_miss {b : UInt8} {m : Nat} (h : m < 7) (hb : ((b.toNat : Int) == (((⟨#[109, 111, 100, 117, 108, 101, 46]⟩ : ByteArray)[m]'h).toNat : Int)) = false) : Pl.step 0 m b = (Pl.pre.take m ++ (Pl.nameStep b m).1, (Pl.nameStep b m).2) := by
  have e : ¬ b = Pl.pre.getD m 0 := by
    rw [← p7_get m h]
    intro e
    rw [beq_eq_false_iff_ne] at hb
    exact hb (by rw [e])
  simp only [Pl.step, Pl.preStep]
  rw [if_pos trivial, if_neg e]
theorem name46 {b : UInt8} (m : Nat) (h : b.toNat = 46) : Pl.nameStep b m = ([46], 0, 0) := by rw [u8_eq (c := 46) h]; rfl
theorem name91 {b : UInt8} (m : Nat) (h : b.toNat = 91) : Pl.nameStep b m = ([46], 2, m) := by rw [u8_eq (c := 91) h]; rfl
theorem nameO {b : UInt8} (m : Nat) (h : ¬ b.toNat = 46) (h2 : ¬ b.toNat = 91) : Pl.nameStep b m = ([b], 1, m) := by
  unfold Pl.nameStep
  rw [if_neg (u8_ne (c := 46) h), if_neg (u8_ne (c := 91) h2)]
theorem st1 (b : UInt8) (m : Nat) : Pl.step 1 m b = Pl.nameStep b m := rfl
theorem st2 (b : UInt8) (m n : Nat) (h : (if b = 34 then 4 else if b = 93 then 7 else 3) = n) : Pl.step 2 m b = ([], n, m) := by rw [← h]; rfl
theorem st3 (b : UInt8) (m n : Nat) (h : (if b = 93 then 7 else 3) = n) : Pl.step 3 m b = ([], n, m) := by rw [← h]; rfl
theorem st4 (b : UInt8) (m n : Nat) (h : (if b = 92 then 5 else if b = 34 then 6 else 4) = n) : Pl.step 4 m b = ([], n, m) := by rw [← h]; rfl
theorem st5 (b : UInt8) (m : Nat) : Pl.step 5 m b = ([], 4, m) := rfl
theorem st6 (b : UInt8) (m n : Nat) (h : (if b = 93 then 7 else 6) = n) : Pl.step 6 m b = ([], n, m) := by rw [← h]; rfl
theorem st7_dot (b : UInt8) (m : Nat) (h : b.toNat = 46) : Pl.step 7 m b = ([], 0, 0) := by rw [u8_eq (c := 46) h]; rfl
theorem st7_not (b : UInt8) (m : Nat) (h : ¬ b.toNat = 46) : Pl.step 7 m b = Pl.step 0 0 b := by
  have := u8_ne (c := 46) h
  simp [Pl.step, this]
theorem st7_m (b : UInt8) (m : Nat) (h : b.toNat = 109) : Pl.step 7 m b = ([], 0, 1) := by rw [u8_eq (c := 109) h]; rfl
theorem st7_miss (b : UInt8) (m : Nat) (h : ¬ b.toNat = 46) (h2 : ¬ b.toNat = 109) : Pl.step 7 m b = Pl.nameStep b 0 := by
  have e1 := u8_ne (c := 46) h
  have e2 := u8_ne (c := 109) h2
  simp [Pl.step, Pl.preStep, Pl.pre, e1, e2]

theorem own2 {w : World} {B m : Nat} {v : Value} {out : List UInt8} {c : UInt8} {x : Int} (hm : m ≤ 7) (hx : x = c.toNat) (h : w.ownsRow B 5 1 v (out.length + m + 1) (Lib.byteCells out ++ (Lib.strCells ((⟨#[109, 111, 100, 117, 108, 101, 46]⟩ : ByteArray).extract 0 m) ++ [.int .u8 x]))) :
    w.ownsRow B 5 1 v (out.length + (Pl.pre.take m ++ [c]).length) (Lib.byteCells out ++ Lib.byteCells (Pl.pre.take m ++ [c])) := by
  rw [p7_take] at h
  rw [Lib.byteCells_append, List.length_append, ← Nat.add_assoc, List.length_take, Pl.pre_len, Nat.min_eq_left hm]
  rw [hx] at h
  exact h

theorem fin_eq {s : ByteArray} {st m : Nat} {out em : List UInt8} {v : Value} {w wr : World} (h : SInv s st m s.size out v w wr) (he : Pl.fin st m = em) : out ++ em = Pl.sc 0 0 (lst s) := by
  have := h.eq
  rwa [List.drop_of_length_le (Nat.le_of_eq (lst_len s)), Pl.sc_nil, he] at this

theorem conv_own {w : World} {B : Nat} {v : Value} {l : List UInt8} (h : w.ownsRow B 5 1 v l.length (Lib.byteCells l)) : (convert 29 9 v).run Try.prog w = .ok (.string (strOf l)) w := by
  rcases h.2 with ⟨rfl, h0⟩ | ⟨g, cap, cur, rfl, _, hg, _⟩
  · have : l = [] := List.eq_nil_of_length_eq_zero h0
    subst this
    exact run_convert_bytes_nil w 29 5 Try.underlying29 Try.underlying5 0 0 9 Try.underlying9
  · refine run_convert_bytes_back w 29 9 5 ⟨g, 0, none⟩ cap l Try.underlying29 Try.underlying5 Try.underlying9 (fun j hj => ?_)
    exact h.cells (g := g) rfl j _ (by simp [Lib.byteCells, List.getElem?_eq_getElem hj])

set_option maxHeartbeats 16000000 in
set_option maxRecDepth 100000 in
theorem scan_any (s : ByteArray) (w : World) (hs : s.size ≤ 1048576) :
    Calls Try.prog 7 #[.string s] w fun e w' => e = .returned (.string (strOf (Pl.sc 0 0 (lst s)))) ∧ Below w.heap.size w w' := by
  obtain ⟨i0, hi, hz0, hz1, hz2⟩ := info_parts Try.info5
  go_enter Try.func7, Try.ntmps7
  go_wp2_with (at_make; refine wpList_make_own _ rfl _ _ 29 rfl w.heap.size 5 i0 (.int .u8 0) 1 Try.underlying29 hi hz0 hz1 .i64 .i64 _ (s.size + 1) rfl rfl (by go_num) (by rw [hz2]; omega) (by unfold maxLen; omega) (Nat.le_refl _) ?_; intro w1 hown hgrow)
  go_loopw [3, 4, 5, 6] (fun v sv mv iv wr => ∃ (S : Int) (m k : Nat) (out : List UInt8), sv = .int .i64 S ∧ mv = .int .i64 m ∧ iv = .int .i64 k ∧ k ≤ s.size ∧ 0 ≤ S ∧ S ≤ 7 ∧ m ≤ 7 ∧ (S = 0 → m < 7) ∧ SInv s S.toNat m k out v w wr)
    (fun _ _ _ iv _ => s.size - (RowKit.intOf iv).toNat)
  case atStart => exact ⟨0, 0, 0, [], rfl, rfl, rfl, Nat.zero_le _, by omega, by omega, by omega, fun _ => by omega, ⟨hown, rfl, (Below.refl _ _).grown hgrow (Nat.le_refl _) (fun j hj => by cases hj)⟩⟩
  case round =>
    clear hown hgrow
    obtain ⟨S, m, k, out, rfl, rfl, rfl, hk, hS0, hS7, hm7, hm, hinv⟩ := hrel
    have hol := hinv.len
    have hown := hinv.own
    have hwz := hinv.bel.size
    by_cases hlt : k < s.size
    · rcases (show S = 0 ∨ S = 1 ∨ S = 2 ∨ S = 3 ∨ S = 4 ∨ S = 5 ∨ S = 6 ∨ S = 7 by omega) with rfl | rfl | rfl | rfl | rfl | rfl | rfl | rfl
      · have hm' : m < 7 := hm rfl
        clear hm hS0 hS7
        cases hpm : (((s[k]).toNat : Int) == (((⟨#[109, 111, 100, 117, 108, 101, 46]⟩ : ByteArray)[m]'hm').toNat : Int))
        · have HM := hide (st0_miss hm' hpm)
          by_cases h46 : (s[k]).toNat = 46
          · have HE := hide ((unhide HM).trans (by rw [name46 m h46]))
            go_wp2_with (at_builtin; refine Lib.wpList_append_own_string _ rfl _ _ 29 9 rfl w.heap.size 5 i0 Try.underlying29 Try.underlying9 hi hz0 hz1 hz2 _ _ _ rfl hown ((⟨#[109, 111, 100, 117, 108, 101, 46]⟩ : ByteArray).extract 0 m) rfl ?d3 ?d4 ?d5 ?_)
            case d3 => have := p7_size m; have := take_le m; unfold maxLen; omega
            case d4 => have := p7_size m; have := take_le m; omega
            case d5 => omega
            intro v1 w2 hown1 hgrow1 _
            have hbel1 : Below w.heap.size w w2 := hinv.bel.grown hgrow1 hwz (fun j hj => (hown.lt j hj).1)
            have hwz1 := hbel1.size
            clear hown hgrow1
            go_wp2_with (at_builtin; refine wpList_append_own _ rfl _ _ 29 rfl w.heap.size 5 i0 (.int .u8 0) 1 1 Try.underlying29 hi hz0 hz1 hz2 rfl (by decide) _ _ _ rfl (hown1.alloc _) ⟨w2.heap.size, 0, none⟩ 1 1 [.int .u8 46] rfl rfl ?c1 ?c2 ?c3 ?c4 ?c5 ?_)
            case c1 =>
              intro j x hj
              match j, hj with
              | 0, hj => simp at hj; subst hj; simp [Addr.add]
            case c2 => first | rfl | (intro x hx; simp at hx; subst hx; rfl)
            case c3 => have := p7_size m; have := take_le m; unfold maxLen; omega
            case c4 => have := p7_size m; have := take_le m; omega
            case c5 => simp; omega
            intro v' w3 hown' hgrow _
            have HN := hide (hinv.step (em := Pl.pre.take m ++ [46]) (st' := 0) (m' := 0) (v' := v') hlt (unhide HE) (own2 hm7 (by first | rfl | decide) (by exact hown')) ((hbel1.alloc hwz1 _).grown hgrow (by simp; omega) (fun j hj => (hown1.lt j hj).1)))
            clear hown' hgrow hinv hown1 hbel1
            go_wp2
            go_roundw
            case rel => first | exact ⟨0, 0, k + 1, out ++ (Pl.pre.take m ++ [46]), rfl, by first | rfl | go_num, by go_num, by omega, by omega, by omega, by omega, fun _ => by omega, unhide HN⟩ | ((repeat apply Exists.intro); exact ⟨⟨0, 0, k + 1, out ++ (Pl.pre.take m ++ [46]), rfl, by first | rfl | go_num, by go_num, by omega, by omega, by omega, by omega, fun _ => by omega, unhide HN⟩, rfl⟩)
            case measure => simp [RowKit.intOf]; omega
          · by_cases h91 : (s[k]).toNat = 91
            · have HE := hide ((unhide HM).trans (by rw [name91 m h91]))
              go_wp2_with (at_builtin; refine Lib.wpList_append_own_string _ rfl _ _ 29 9 rfl w.heap.size 5 i0 Try.underlying29 Try.underlying9 hi hz0 hz1 hz2 _ _ _ rfl hown ((⟨#[109, 111, 100, 117, 108, 101, 46]⟩ : ByteArray).extract 0 m) rfl ?d3 ?d4 ?d5 ?_)
              case d3 => have := p7_size m; have := take_le m; unfold maxLen; omega
              case d4 => have := p7_size m; have := take_le m; omega
              case d5 => omega
              intro v1 w2 hown1 hgrow1 _
              have hbel1 : Below w.heap.size w w2 := hinv.bel.grown hgrow1 hwz (fun j hj => (hown.lt j hj).1)
              have hwz1 := hbel1.size
              clear hown hgrow1
              go_wp2_with (at_builtin; refine wpList_append_own _ rfl _ _ 29 rfl w.heap.size 5 i0 (.int .u8 0) 1 1 Try.underlying29 hi hz0 hz1 hz2 rfl (by decide) _ _ _ rfl (hown1.alloc _) ⟨w2.heap.size, 0, none⟩ 1 1 [.int .u8 46] rfl rfl ?c1 ?c2 ?c3 ?c4 ?c5 ?_)
              case c1 =>
                intro j x hj
                match j, hj with
                | 0, hj => simp at hj; subst hj; simp [Addr.add]
              case c2 => first | rfl | (intro x hx; simp at hx; subst hx; rfl)
              case c3 => have := p7_size m; have := take_le m; unfold maxLen; omega
              case c4 => have := p7_size m; have := take_le m; omega
              case c5 => simp; omega
              intro v' w3 hown' hgrow _
              have HN := hide (hinv.step (em := Pl.pre.take m ++ [46]) (st' := 2) (m' := m) (v' := v') hlt (unhide HE) (own2 hm7 (by first | rfl | decide) (by exact hown')) ((hbel1.alloc hwz1 _).grown hgrow (by simp; omega) (fun j hj => (hown1.lt j hj).1)))
              clear hown' hgrow hinv hown1 hbel1
              go_wp2
              go_roundw
              case rel => first | exact ⟨2, m, k + 1, out ++ (Pl.pre.take m ++ [46]), rfl, by first | rfl | go_num, by go_num, by omega, by omega, by omega, by omega, fun _ => by omega, unhide HN⟩ | ((repeat apply Exists.intro); exact ⟨⟨2, m, k + 1, out ++ (Pl.pre.take m ++ [46]), rfl, by first | rfl | go_num, by go_num, by omega, by omega, by omega, by omega, fun _ => by omega, unhide HN⟩, rfl⟩)
              case measure => simp [RowKit.intOf]; omega
            · have HE := hide ((unhide HM).trans (by rw [nameO m h46 h91]))
              have h46' : (((s[k]).toNat : Int) == 46) = false := by rw [beq_eq_false_iff_ne]; omega
              have h91' : (((s[k]).toNat : Int) == 91) = false := by rw [beq_eq_false_iff_ne]; omega
              go_wp2_with (at_builtin; refine Lib.wpList_append_own_string _ rfl _ _ 29 9 rfl w.heap.size 5 i0 Try.underlying29 Try.underlying9 hi hz0 hz1 hz2 _ _ _ rfl hown ((⟨#[109, 111, 100, 117, 108, 101, 46]⟩ : ByteArray).extract 0 m) rfl ?d3 ?d4 ?d5 ?_)
              case d3 => have := p7_size m; have := take_le m; unfold maxLen; omega
              case d4 => have := p7_size m; have := take_le m; omega
              case d5 => omega
              intro v1 w2 hown1 hgrow1 _
              have hbel1 : Below w.heap.size w w2 := hinv.bel.grown hgrow1 hwz (fun j hj => (hown.lt j hj).1)
              have hwz1 := hbel1.size
              clear hown hgrow1
              go_wp2_with (at_builtin; refine wpList_append_own _ rfl _ _ 29 rfl w.heap.size 5 i0 (.int .u8 0) 1 1 Try.underlying29 hi hz0 hz1 hz2 rfl (by decide) _ _ _ rfl (hown1.alloc _) ⟨w2.heap.size, 0, none⟩ 1 1 [.int .u8 (s[k]).toNat] rfl rfl ?c1 ?c2 ?c3 ?c4 ?c5 ?_)
              case c1 =>
                intro j x hj
                match j, hj with
                | 0, hj => simp at hj; subst hj; simp [Addr.add]
              case c2 => first | rfl | (intro x hx; simp at hx; subst hx; rfl)
              case c3 => have := p7_size m; have := take_le m; unfold maxLen; omega
              case c4 => have := p7_size m; have := take_le m; omega
              case c5 => simp; omega
              intro v' w3 hown' hgrow _
              have HN := hide (hinv.step (em := Pl.pre.take m ++ [s[k]]) (st' := 1) (m' := m) (v' := v') hlt (unhide HE) (own2 hm7 (by first | rfl | decide) (by exact hown')) ((hbel1.alloc hwz1 _).grown hgrow (by simp; omega) (fun j hj => (hown1.lt j hj).1)))
              clear hown' hgrow hinv hown1 hbel1
              go_wp2
              go_roundw
              case rel => first | exact ⟨1, m, k + 1, out ++ (Pl.pre.take m ++ [s[k]]), rfl, by first | rfl | go_num, by go_num, by omega, by omega, by omega, by omega, fun _ => by omega, unhide HN⟩ | ((repeat apply Exists.intro); exact ⟨⟨1, m, k + 1, out ++ (Pl.pre.take m ++ [s[k]]), rfl, by first | rfl | go_num, by go_num, by omega, by omega, by omega, by omega, fun _ => by omega, unhide HN⟩, rfl⟩)
              case measure => simp [RowKit.intOf]; omega
        · by_cases h6 : m = 6
          · subst h6
            have HN := hide (hinv.quiet (st' := 1) (m' := 7) hlt (st0_match hm' hpm))
            clear hinv hown
            go_wp2
            go_roundw
            case rel => first | exact ⟨1, 7, k + 1, out, rfl, by first | rfl | go_num, by go_num, by omega, by omega, by omega, by omega, fun _ => by omega, unhide HN⟩ | ((repeat apply Exists.intro); exact ⟨⟨1, 7, k + 1, out, rfl, by first | rfl | go_num, by go_num, by omega, by omega, by omega, by omega, fun _ => by omega, unhide HN⟩, rfl⟩)
            case measure => simp [RowKit.intOf]; omega
          · have HE := hide ((st0_match hm' hpm).trans (by rw [if_neg (show ¬ m + 1 = 7 by omega)]))
            have h6' : ((m : Int) + 1 == 7) = false := by rw [beq_eq_false_iff_ne]; omega
            have HN := hide (hinv.quiet (st' := 0) (m' := m + 1) hlt (unhide HE))
            clear hinv hown
            go_wp2
            go_roundw
            case rel => first | exact ⟨0, m + 1, k + 1, out, rfl, by first | rfl | go_num, by go_num, by omega, by omega, by omega, by omega, fun _ => by omega, unhide HN⟩ | ((repeat apply Exists.intro); exact ⟨⟨0, m + 1, k + 1, out, rfl, by first | rfl | go_num, by go_num, by omega, by omega, by omega, by omega, fun _ => by omega, unhide HN⟩, rfl⟩)
            case measure => simp [RowKit.intOf]; omega
      · clear hm hS0 hS7
        by_cases h46 : (s[k]).toNat = 46
        · skip
          go_wp2_with (at_builtin; refine wpList_append_own _ rfl _ _ 29 rfl w.heap.size 5 i0 (.int .u8 0) 1 1 Try.underlying29 hi hz0 hz1 hz2 rfl (by decide) _ _ _ rfl (hown.alloc _) ⟨wr.heap.size, 0, none⟩ 1 1 [.int .u8 46] rfl rfl ?c1 ?c2 ?c3 ?c4 ?c5 ?_)
          case c1 =>
            intro j x hj
            match j, hj with
            | 0, hj => simp at hj; subst hj; simp [Addr.add]
          case c2 => first | rfl | (intro x hx; simp at hx; subst hx; rfl)
          case c3 => unfold maxLen; omega
          case c4 => omega
          case c5 => simp; omega
          intro v' w1 hown' hgrow _
          have HN := hide (hinv.step (em := [46]) (st' := 0) (m' := 0) (v' := v') hlt ((st1 _ _).trans (name46 m h46)) (by exact hown') (hinv.app1 hgrow))
          clear hown' hgrow hinv hown
          go_wp2
          go_roundw
          case rel => first | exact ⟨0, 0, k + 1, out ++ [46], rfl, by first | rfl | go_num, by go_num, by omega, by omega, by omega, by omega, fun _ => by omega, unhide HN⟩ | ((repeat apply Exists.intro); exact ⟨⟨0, 0, k + 1, out ++ [46], rfl, by first | rfl | go_num, by go_num, by omega, by omega, by omega, by omega, fun _ => by omega, unhide HN⟩, rfl⟩)
          case measure => simp [RowKit.intOf]; omega
        · by_cases h91 : (s[k]).toNat = 91
          · skip
            go_wp2_with (at_builtin; refine wpList_append_own _ rfl _ _ 29 rfl w.heap.size 5 i0 (.int .u8 0) 1 1 Try.underlying29 hi hz0 hz1 hz2 rfl (by decide) _ _ _ rfl (hown.alloc _) ⟨wr.heap.size, 0, none⟩ 1 1 [.int .u8 46] rfl rfl ?c1 ?c2 ?c3 ?c4 ?c5 ?_)
            case c1 =>
              intro j x hj
              match j, hj with
              | 0, hj => simp at hj; subst hj; simp [Addr.add]
            case c2 => first | rfl | (intro x hx; simp at hx; subst hx; rfl)
            case c3 => unfold maxLen; omega
            case c4 => omega
            case c5 => simp; omega
            intro v' w1 hown' hgrow _
            have HN := hide (hinv.step (em := [46]) (st' := 2) (m' := m) (v' := v') hlt ((st1 _ _).trans (name91 m h91)) (by exact hown') (hinv.app1 hgrow))
            clear hown' hgrow hinv hown
            go_wp2
            go_roundw
            case rel => first | exact ⟨2, m, k + 1, out ++ [46], rfl, by first | rfl | go_num, by go_num, by omega, by omega, by omega, by omega, fun _ => by omega, unhide HN⟩ | ((repeat apply Exists.intro); exact ⟨⟨2, m, k + 1, out ++ [46], rfl, by first | rfl | go_num, by go_num, by omega, by omega, by omega, by omega, fun _ => by omega, unhide HN⟩, rfl⟩)
            case measure => simp [RowKit.intOf]; omega
          · have HE := hide ((st1 _ _).trans (nameO m h46 h91))
            have h46' : (((s[k]).toNat : Int) == 46) = false := by rw [beq_eq_false_iff_ne]; omega
            have h91' : (((s[k]).toNat : Int) == 91) = false := by rw [beq_eq_false_iff_ne]; omega
            go_wp2_with (at_builtin; refine wpList_append_own _ rfl _ _ 29 rfl w.heap.size 5 i0 (.int .u8 0) 1 1 Try.underlying29 hi hz0 hz1 hz2 rfl (by decide) _ _ _ rfl (hown.alloc _) ⟨wr.heap.size, 0, none⟩ 1 1 [.int .u8 (s[k]).toNat] rfl rfl ?c1 ?c2 ?c3 ?c4 ?c5 ?_)
            case c1 =>
              intro j x hj
              match j, hj with
              | 0, hj => simp at hj; subst hj; simp [Addr.add]
            case c2 => first | rfl | (intro x hx; simp at hx; subst hx; rfl)
            case c3 => unfold maxLen; omega
            case c4 => omega
            case c5 => simp; omega
            intro v' w1 hown' hgrow _
            have HN := hide (hinv.step (em := [s[k]]) (st' := 1) (m' := m) (v' := v') hlt (unhide HE) (by exact hown') (hinv.app1 hgrow))
            clear hown' hgrow hinv hown
            go_wp2
            go_roundw
            case rel => first | exact ⟨1, m, k + 1, out ++ [s[k]], rfl, by first | rfl | go_num, by go_num, by omega, by omega, by omega, by omega, fun _ => by omega, unhide HN⟩ | ((repeat apply Exists.intro); exact ⟨⟨1, m, k + 1, out ++ [s[k]], rfl, by first | rfl | go_num, by go_num, by omega, by omega, by omega, by omega, fun _ => by omega, unhide HN⟩, rfl⟩)
            case measure => simp [RowKit.intOf]; omega
      · clear hm hS0 hS7
        by_cases h34 : (s[k]).toNat = 34
        · skip
          have HN := hide (hinv.quiet (st' := 4) (m' := m) hlt (st2 _ m 4 (if_pos (u8_eq (c := 34) h34))))
          clear hinv hown
          go_wp2
          go_roundw
          case rel => first | exact ⟨4, m, k + 1, out, rfl, by first | rfl | go_num, by go_num, by omega, by omega, by omega, by omega, fun _ => by omega, unhide HN⟩ | ((repeat apply Exists.intro); exact ⟨⟨4, m, k + 1, out, rfl, by first | rfl | go_num, by go_num, by omega, by omega, by omega, by omega, fun _ => by omega, unhide HN⟩, rfl⟩)
          case measure => simp [RowKit.intOf]; omega
        · by_cases h93 : (s[k]).toNat = 93
          · skip
            have HN := hide (hinv.quiet (st' := 7) (m' := m) hlt (st2 _ m 7 ((if_neg (u8_ne (c := 34) h34)).trans (if_pos (u8_eq (c := 93) h93)))))
            clear hinv hown
            go_wp2
            go_roundw
            case rel => first | exact ⟨7, m, k + 1, out, rfl, by first | rfl | go_num, by go_num, by omega, by omega, by omega, by omega, fun _ => by omega, unhide HN⟩ | ((repeat apply Exists.intro); exact ⟨⟨7, m, k + 1, out, rfl, by first | rfl | go_num, by go_num, by omega, by omega, by omega, by omega, fun _ => by omega, unhide HN⟩, rfl⟩)
            case measure => simp [RowKit.intOf]; omega
          · have HE := hide (st2 _ m 3 ((if_neg (u8_ne (c := 34) h34)).trans (if_neg (u8_ne (c := 93) h93))))
            have h34' : (((s[k]).toNat : Int) == 34) = false := by rw [beq_eq_false_iff_ne]; omega
            have h93' : (((s[k]).toNat : Int) == 93) = false := by rw [beq_eq_false_iff_ne]; omega
            have HN := hide (hinv.quiet (st' := 3) (m' := m) hlt (unhide HE))
            clear hinv hown
            go_wp2
            go_roundw
            case rel => first | exact ⟨3, m, k + 1, out, rfl, by first | rfl | go_num, by go_num, by omega, by omega, by omega, by omega, fun _ => by omega, unhide HN⟩ | ((repeat apply Exists.intro); exact ⟨⟨3, m, k + 1, out, rfl, by first | rfl | go_num, by go_num, by omega, by omega, by omega, by omega, fun _ => by omega, unhide HN⟩, rfl⟩)
            case measure => simp [RowKit.intOf]; omega
      · clear hm hS0 hS7
        by_cases h93 : (s[k]).toNat = 93
        · skip
          have HN := hide (hinv.quiet (st' := 7) (m' := m) hlt (st3 _ m 7 (if_pos (u8_eq (c := 93) h93))))
          clear hinv hown
          go_wp2
          go_roundw
          case rel => first | exact ⟨7, m, k + 1, out, rfl, by first | rfl | go_num, by go_num, by omega, by omega, by omega, by omega, fun _ => by omega, unhide HN⟩ | ((repeat apply Exists.intro); exact ⟨⟨7, m, k + 1, out, rfl, by first | rfl | go_num, by go_num, by omega, by omega, by omega, by omega, fun _ => by omega, unhide HN⟩, rfl⟩)
          case measure => simp [RowKit.intOf]; omega
        · have HE := hide (st3 _ m 3 (if_neg (u8_ne (c := 93) h93)))
          have h93' : (((s[k]).toNat : Int) == 93) = false := by rw [beq_eq_false_iff_ne]; omega
          have HN := hide (hinv.quiet (st' := 3) (m' := m) hlt (unhide HE))
          clear hinv hown
          go_wp2
          go_roundw
          case rel => first | exact ⟨3, m, k + 1, out, rfl, by first | rfl | go_num, by go_num, by omega, by omega, by omega, by omega, fun _ => by omega, unhide HN⟩ | ((repeat apply Exists.intro); exact ⟨⟨3, m, k + 1, out, rfl, by first | rfl | go_num, by go_num, by omega, by omega, by omega, by omega, fun _ => by omega, unhide HN⟩, rfl⟩)
          case measure => simp [RowKit.intOf]; omega
      · clear hm hS0 hS7
        by_cases h92 : (s[k]).toNat = 92
        · skip
          have HN := hide (hinv.quiet (st' := 5) (m' := m) hlt (st4 _ m 5 (if_pos (u8_eq (c := 92) h92))))
          clear hinv hown
          go_wp2
          go_roundw
          case rel => first | exact ⟨5, m, k + 1, out, rfl, by first | rfl | go_num, by go_num, by omega, by omega, by omega, by omega, fun _ => by omega, unhide HN⟩ | ((repeat apply Exists.intro); exact ⟨⟨5, m, k + 1, out, rfl, by first | rfl | go_num, by go_num, by omega, by omega, by omega, by omega, fun _ => by omega, unhide HN⟩, rfl⟩)
          case measure => simp [RowKit.intOf]; omega
        · by_cases h34 : (s[k]).toNat = 34
          · skip
            have HN := hide (hinv.quiet (st' := 6) (m' := m) hlt (st4 _ m 6 ((if_neg (u8_ne (c := 92) h92)).trans (if_pos (u8_eq (c := 34) h34)))))
            clear hinv hown
            go_wp2
            go_roundw
            case rel => first | exact ⟨6, m, k + 1, out, rfl, by first | rfl | go_num, by go_num, by omega, by omega, by omega, by omega, fun _ => by omega, unhide HN⟩ | ((repeat apply Exists.intro); exact ⟨⟨6, m, k + 1, out, rfl, by first | rfl | go_num, by go_num, by omega, by omega, by omega, by omega, fun _ => by omega, unhide HN⟩, rfl⟩)
            case measure => simp [RowKit.intOf]; omega
          · have HE := hide (st4 _ m 4 ((if_neg (u8_ne (c := 92) h92)).trans (if_neg (u8_ne (c := 34) h34))))
            have h92' : (((s[k]).toNat : Int) == 92) = false := by rw [beq_eq_false_iff_ne]; omega
            have h34' : (((s[k]).toNat : Int) == 34) = false := by rw [beq_eq_false_iff_ne]; omega
            have HN := hide (hinv.quiet (st' := 4) (m' := m) hlt (unhide HE))
            clear hinv hown
            go_wp2
            go_roundw
            case rel => first | exact ⟨4, m, k + 1, out, rfl, by first | rfl | go_num, by go_num, by omega, by omega, by omega, by omega, fun _ => by omega, unhide HN⟩ | ((repeat apply Exists.intro); exact ⟨⟨4, m, k + 1, out, rfl, by first | rfl | go_num, by go_num, by omega, by omega, by omega, by omega, fun _ => by omega, unhide HN⟩, rfl⟩)
            case measure => simp [RowKit.intOf]; omega
      · clear hm hS0 hS7
        have HN := hide (hinv.quiet (st' := 4) (m' := m) hlt (st5 _ m))
        clear hinv hown
        go_wp2
        go_roundw
        case rel => first | exact ⟨4, m, k + 1, out, rfl, by first | rfl | go_num, by go_num, by omega, by omega, by omega, by omega, fun _ => by omega, unhide HN⟩ | ((repeat apply Exists.intro); exact ⟨⟨4, m, k + 1, out, rfl, by first | rfl | go_num, by go_num, by omega, by omega, by omega, by omega, fun _ => by omega, unhide HN⟩, rfl⟩)
        case measure => simp [RowKit.intOf]; omega
      · clear hm hS0 hS7
        by_cases h93 : (s[k]).toNat = 93
        · skip
          have HN := hide (hinv.quiet (st' := 7) (m' := m) hlt (st6 _ m 7 (if_pos (u8_eq (c := 93) h93))))
          clear hinv hown
          go_wp2
          go_roundw
          case rel => first | exact ⟨7, m, k + 1, out, rfl, by first | rfl | go_num, by go_num, by omega, by omega, by omega, by omega, fun _ => by omega, unhide HN⟩ | ((repeat apply Exists.intro); exact ⟨⟨7, m, k + 1, out, rfl, by first | rfl | go_num, by go_num, by omega, by omega, by omega, by omega, fun _ => by omega, unhide HN⟩, rfl⟩)
          case measure => simp [RowKit.intOf]; omega
        · have HE := hide (st6 _ m 6 (if_neg (u8_ne (c := 93) h93)))
          have h93' : (((s[k]).toNat : Int) == 93) = false := by rw [beq_eq_false_iff_ne]; omega
          have HN := hide (hinv.quiet (st' := 6) (m' := m) hlt (unhide HE))
          clear hinv hown
          go_wp2
          go_roundw
          case rel => first | exact ⟨6, m, k + 1, out, rfl, by first | rfl | go_num, by go_num, by omega, by omega, by omega, by omega, fun _ => by omega, unhide HN⟩ | ((repeat apply Exists.intro); exact ⟨⟨6, m, k + 1, out, rfl, by first | rfl | go_num, by go_num, by omega, by omega, by omega, by omega, fun _ => by omega, unhide HN⟩, rfl⟩)
          case measure => simp [RowKit.intOf]; omega
      · clear hm hS0 hS7
        by_cases h46 : (s[k]).toNat = 46
        · skip
          have HN := hide (hinv.quiet (st' := 0) (m' := 0) hlt (st7_dot _ m h46))
          clear hinv hown
          go_wp2
          go_roundw
          case rel => first | exact ⟨0, 0, k + 1, out, rfl, by first | rfl | go_num, by go_num, by omega, by omega, by omega, by omega, fun _ => by omega, unhide HN⟩ | ((repeat apply Exists.intro); exact ⟨⟨0, 0, k + 1, out, rfl, by first | rfl | go_num, by go_num, by omega, by omega, by omega, by omega, fun _ => by omega, unhide HN⟩, rfl⟩)
          case measure => simp [RowKit.intOf]; omega
        · have h46' : (((s[k]).toNat : Int) == 46) = false := by rw [beq_eq_false_iff_ne]; omega
          by_cases h109 : (s[k]).toNat = 109
          · skip
            have HN := hide (hinv.quiet (st' := 0) (m' := 1) hlt (st7_m _ m h109))
            clear hinv hown
            go_wp2
            go_roundw
            case rel => first | exact ⟨0, 1, k + 1, out, rfl, by first | rfl | go_num, by go_num, by omega, by omega, by omega, by omega, fun _ => by omega, unhide HN⟩ | ((repeat apply Exists.intro); exact ⟨⟨0, 1, k + 1, out, rfl, by first | rfl | go_num, by go_num, by omega, by omega, by omega, by omega, fun _ => by omega, unhide HN⟩, rfl⟩)
            case measure => simp [RowKit.intOf]; omega
          · have h109' : (((s[k]).toNat : Int) == 109) = false := by rw [beq_eq_false_iff_ne]; omega
            have HM := hide (st7_miss (s[k]) m h46 h109)
            have hp0 : (((s[k]).toNat : Int) == (((⟨#[109, 111, 100, 117, 108, 101, 46]⟩ : ByteArray)[0]'(by decide)).toNat : Int)) = false := h109'
            by_cases h91 : (s[k]).toNat = 91
            · skip
              go_wp2_with (at_builtin; refine Lib.wpList_append_own_string _ rfl _ _ 29 9 rfl w.heap.size 5 i0 Try.underlying29 Try.underlying9 hi hz0 hz1 hz2 _ _ _ rfl hown ByteArray.empty rfl ?d3 ?d4 ?d5 ?_)
              case d3 => simp [maxLen]; omega
              case d4 => simp; omega
              case d5 => omega
              intro v1 w2 hown1x hgrow1 _
              have hown1 : w2.ownsRow w.heap.size 5 1 v1 out.length (Lib.byteCells out) := by simpa [Lib.strCells] using hown1x
              have hbel1 : Below w.heap.size w w2 := hinv.bel.grown hgrow1 hwz (fun j hj => (hown.lt j hj).1)
              have hwz1 := hbel1.size
              clear hown hgrow1 hown1x
              go_wp2_with (at_builtin; refine wpList_append_own _ rfl _ _ 29 rfl w.heap.size 5 i0 (.int .u8 0) 1 1 Try.underlying29 hi hz0 hz1 hz2 rfl (by decide) _ _ _ rfl (hown1.alloc _) ⟨w2.heap.size, 0, none⟩ 1 1 [.int .u8 46] rfl rfl ?c1 ?c2 ?c3 ?c4 ?c5 ?_)
              case c1 =>
                intro j x hj
                match j, hj with
                | 0, hj => simp at hj; subst hj; simp [Addr.add]
              case c2 => first | rfl | (intro x hx; simp at hx; subst hx; rfl)
              case c3 => unfold maxLen; omega
              case c4 => omega
              case c5 => simp; omega
              intro v' w3 hown' hgrow _
              have HN := hide (hinv.step (em := [46]) (st' := 2) (m' := 0) (v' := v') hlt ((unhide HM).trans (name91 0 h91)) (by exact hown') ((hbel1.alloc hwz1 _).grown hgrow (by simp; omega) (fun j hj => (hown1.lt j hj).1)))
              clear hown' hgrow hinv hown1 hbel1
              go_wp2
              go_roundw
              case rel => first | exact ⟨2, 0, k + 1, out ++ [46], rfl, by first | rfl | go_num, by go_num, by omega, by omega, by omega, by omega, fun _ => by omega, unhide HN⟩ | ((repeat apply Exists.intro); exact ⟨⟨2, 0, k + 1, out ++ [46], rfl, by first | rfl | go_num, by go_num, by omega, by omega, by omega, by omega, fun _ => by omega, unhide HN⟩, rfl⟩)
              case measure => simp [RowKit.intOf]; omega
            · have h91' : (((s[k]).toNat : Int) == 91) = false := by rw [beq_eq_false_iff_ne]; omega
              go_wp2_with (at_builtin; refine Lib.wpList_append_own_string _ rfl _ _ 29 9 rfl w.heap.size 5 i0 Try.underlying29 Try.underlying9 hi hz0 hz1 hz2 _ _ _ rfl hown ByteArray.empty rfl ?d3 ?d4 ?d5 ?_)
              case d3 => simp [maxLen]; omega
              case d4 => simp; omega
              case d5 => omega
              intro v1 w2 hown1x hgrow1 _
              have hown1 : w2.ownsRow w.heap.size 5 1 v1 out.length (Lib.byteCells out) := by simpa [Lib.strCells] using hown1x
              have hbel1 : Below w.heap.size w w2 := hinv.bel.grown hgrow1 hwz (fun j hj => (hown.lt j hj).1)
              have hwz1 := hbel1.size
              clear hown hgrow1 hown1x
              go_wp2_with (at_builtin; refine wpList_append_own _ rfl _ _ 29 rfl w.heap.size 5 i0 (.int .u8 0) 1 1 Try.underlying29 hi hz0 hz1 hz2 rfl (by decide) _ _ _ rfl (hown1.alloc _) ⟨w2.heap.size, 0, none⟩ 1 1 [.int .u8 (s[k]).toNat] rfl rfl ?c1 ?c2 ?c3 ?c4 ?c5 ?_)
              case c1 =>
                intro j x hj
                match j, hj with
                | 0, hj => simp at hj; subst hj; simp [Addr.add]
              case c2 => first | rfl | (intro x hx; simp at hx; subst hx; rfl)
              case c3 => unfold maxLen; omega
              case c4 => omega
              case c5 => simp; omega
              intro v' w3 hown' hgrow _
              have HN := hide (hinv.step (em := [s[k]]) (st' := 1) (m' := 0) (v' := v') hlt ((unhide HM).trans (nameO 0 h46 h91)) (by exact hown') ((hbel1.alloc hwz1 _).grown hgrow (by simp; omega) (fun j hj => (hown1.lt j hj).1)))
              clear hown' hgrow hinv hown1 hbel1
              go_wp2
              go_roundw
              case rel => first | exact ⟨1, 0, k + 1, out ++ [s[k]], rfl, by first | rfl | go_num, by go_num, by omega, by omega, by omega, by omega, fun _ => by omega, unhide HN⟩ | ((repeat apply Exists.intro); exact ⟨⟨1, 0, k + 1, out ++ [s[k]], rfl, by first | rfl | go_num, by go_num, by omega, by omega, by omega, by omega, fun _ => by omega, unhide HN⟩, rfl⟩)
              case measure => simp [RowKit.intOf]; omega
    · obtain rfl : k = s.size := by omega
      rcases (show S = 0 ∨ S = 1 ∨ S = 2 ∨ S = 3 ∨ S = 4 ∨ S = 5 ∨ S = 6 ∨ S = 7 by omega) with rfl | rfl | rfl | rfl | rfl | rfl | rfl | rfl
      · by_cases hm0 : m = 0
        · subst hm0
          have HF := hide (fin_eq (em := []) hinv (rfl))
          have hcv := conv_own hown
          have hbl := hinv.bel
          clear hinv hown
          go_wp2
          go_ret
          exact ⟨ret_str (by rw [← unhide HF, List.append_nil]), hbl⟩
        · have HF := hide (fin_eq (em := Pl.pre.take m ++ [46]) hinv (by show Pl.fin 0 m = _; unfold Pl.fin; rw [if_neg (by decide), if_pos ⟨rfl, by omega⟩]))
          have hmp : 0 < m := by omega
          clear hm hS0 hS7
          go_wp2_with (at_builtin; refine Lib.wpList_append_own_string _ rfl _ _ 29 9 rfl w.heap.size 5 i0 Try.underlying29 Try.underlying9 hi hz0 hz1 hz2 _ _ _ rfl hown ((⟨#[109, 111, 100, 117, 108, 101, 46]⟩ : ByteArray).extract 0 m) rfl ?d3 ?d4 ?d5 ?_)
          case d3 => have := p7_size m; have := take_le m; unfold maxLen; omega
          case d4 => have := p7_size m; have := take_le m; omega
          case d5 => omega
          intro v1 w2 hown1 hgrow1 _
          have hbel1 : Below w.heap.size w w2 := hinv.bel.grown hgrow1 hwz (fun j hj => (hown.lt j hj).1)
          have hwz1 := hbel1.size
          clear hown hgrow1
          go_wp2_with (at_builtin; refine wpList_append_own _ rfl _ _ 29 rfl w.heap.size 5 i0 (.int .u8 0) 1 1 Try.underlying29 hi hz0 hz1 hz2 rfl (by decide) _ _ _ rfl (hown1.alloc _) ⟨w2.heap.size, 0, none⟩ 1 1 [.int .u8 46] rfl rfl ?c1 ?c2 ?c3 ?c4 ?c5 ?_)
          case c1 =>
            intro j x hj
            match j, hj with
            | 0, hj => simp at hj; subst hj; simp [Addr.add]
          case c2 => first | rfl | (intro x hx; simp at hx; subst hx; rfl)
          case c3 => have := p7_size m; have := take_le m; unfold maxLen; omega
          case c4 => have := p7_size m; have := take_le m; omega
          case c5 => simp; omega
          intro v' w3 hown' hgrow _
          have hown3 : w3.ownsRow w.heap.size 5 1 v' (out ++ (Pl.pre.take m ++ [46])).length (Lib.byteCells (out ++ (Pl.pre.take m ++ [46]))) := by
            rw [List.length_append, Lib.byteCells_append]
            exact own2 (x := 46) hm7 (by decide) (by exact hown')
          have hbel3 : Below w.heap.size w w3 := (hbel1.alloc hwz1 _).grown hgrow (by simp; omega) (fun j hj => (hown1.lt j hj).1)
          have hcv := conv_own hown3
          clear hown' hgrow hinv hown1 hbel1 hown3
          go_wp2
          go_ret
          exact ⟨ret_str (by rw [← unhide HF]), hbel3⟩
      · have HF := hide (fin_eq (em := [46]) hinv rfl)
        clear hm hS0 hS7
        go_wp2_with (at_builtin; refine wpList_append_own _ rfl _ _ 29 rfl w.heap.size 5 i0 (.int .u8 0) 1 1 Try.underlying29 hi hz0 hz1 hz2 rfl (by decide) _ _ _ rfl (hown.alloc _) ⟨wr.heap.size, 0, none⟩ 1 1 [.int .u8 46] rfl rfl ?c1 ?c2 ?c3 ?c4 ?c5 ?_)
        case c1 =>
          intro j x hj
          match j, hj with
          | 0, hj => simp at hj; subst hj; simp [Addr.add]
        case c2 => first | rfl | (intro x hx; simp at hx; subst hx; rfl)
        case c3 => unfold maxLen; omega
        case c4 => omega
        case c5 => simp; omega
        intro v' w3 hown' hgrow _
        have hown3 : w3.ownsRow w.heap.size 5 1 v' (out ++ [46]).length (Lib.byteCells (out ++ [46])) := by
          rw [List.length_append, Lib.byteCells_append]
          exact hown'
        have hbel3 := hinv.app1 hgrow
        have hcv := conv_own hown3
        clear hown' hgrow hinv hown hown3
        go_wp2
        go_ret
        exact ⟨ret_str (by rw [← unhide HF]), hbel3⟩
      · clear hm hS0 hS7
        have HF := hide (fin_eq (em := []) hinv (rfl))
        have hcv := conv_own hown
        have hbl := hinv.bel
        clear hinv hown
        go_wp2
        go_ret
        exact ⟨ret_str (by rw [← unhide HF, List.append_nil]), hbl⟩
      · clear hm hS0 hS7
        have HF := hide (fin_eq (em := []) hinv (rfl))
        have hcv := conv_own hown
        have hbl := hinv.bel
        clear hinv hown
        go_wp2
        go_ret
        exact ⟨ret_str (by rw [← unhide HF, List.append_nil]), hbl⟩
      · clear hm hS0 hS7
        have HF := hide (fin_eq (em := []) hinv (rfl))
        have hcv := conv_own hown
        have hbl := hinv.bel
        clear hinv hown
        go_wp2
        go_ret
        exact ⟨ret_str (by rw [← unhide HF, List.append_nil]), hbl⟩
      · clear hm hS0 hS7
        have HF := hide (fin_eq (em := []) hinv (rfl))
        have hcv := conv_own hown
        have hbl := hinv.bel
        clear hinv hown
        go_wp2
        go_ret
        exact ⟨ret_str (by rw [← unhide HF, List.append_nil]), hbl⟩
      · clear hm hS0 hS7
        have HF := hide (fin_eq (em := []) hinv (rfl))
        have hcv := conv_own hown
        have hbl := hinv.bel
        clear hinv hown
        go_wp2
        go_ret
        exact ⟨ret_str (by rw [← unhide HF, List.append_nil]), hbl⟩
      · clear hm hS0 hS7
        have HF := hide (fin_eq (em := []) hinv (rfl))
        have hcv := conv_own hown
        have hbl := hinv.bel
        clear hinv hown
        go_wp2
        go_ret
        exact ⟨ret_str (by rw [← unhide HF, List.append_nil]), hbl⟩

end Go.Proofs.Qxb6605297a
