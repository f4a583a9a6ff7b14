/- key (20). -/
import Derived.Test.Qxb6604368aFmtDelim
namespace Go.Proofs.Qxb6604368aFmt
open Go.RowKit
variable {b d cap : Nat} {l : List UInt8} {L N E : Int}

/-- a byte of a bare key -/
def Bare (c : Int) : Prop := NoDelim c ∧ c ≠ 46 ∧ c ≠ 61 ∧ c < 128

/-- how many of the n bytes from p on are dots -/
def dots (l : List UInt8) (p : Nat) : Nat → Nat
  | 0 => 0
  | n + 1 => dots l p n + if byt l (p + n) = 46 then 1 else 0

theorem dots_le (l : List UInt8) (p n : Nat) : dots l p n ≤ n := by
  induction n with
  | zero => exact Nat.le_refl _
  | succ n ih => unfold dots; split <;> omega

theorem dots_none (l : List UInt8) (p n m : Nat) (h : ∀ i, p + n ≤ i → i < p + n + m → byt l i ≠ 46) : dots l p (n + m) = dots l p n := by
  induction m with
  | zero => rfl
  | succ m ih =>
    rw [← Nat.add_assoc]
    show dots l p (n + m) + _ = _
    rw [ih (fun i h1 h2 => h i h1 (by omega)), if_neg (h (p + (n + m)) (by omega) (by omega))]
    rfl

theorem dots_from (l : List UInt8) {p q r : Nat} (hq : p ≤ q) (hr : q ≤ r) (h : ∀ i, q ≤ i → i < r → byt l i ≠ 46) : dots l p (r - p) = dots l p (q - p) := by
  have := dots_none l p (q - p) (r - q) (fun i h1 h2 => h i (by omega) (by omega))
  rwa [show q - p + (r - q) = r - p by omega] at this

theorem dots_dot (l : List UInt8) {p r : Nat} (hr : p ≤ r) (h : byt l r = 46) : dots l p (r + 1 - p) = dots l p (r - p) + 1 := by
  rw [show r + 1 - p = (r - p) + 1 by omega]
  show dots l p (r - p) + _ = _
  rw [if_pos (by rw [show p + (r - p) = r by omega]; exact h)]

/-- a dotted key from p up to z -/
structure KeyAt (l : List UInt8) (p z : Nat) : Prop where
  lt : p < z
  zl : z < l.length
  all : ∀ i, p ≤ i → i < z → byt l i = 46 ∨ Bare (byt l i)
  first : byt l p ≠ 46
  next : ∀ i, p ≤ i → i < z → byt l i = 46 → i + 1 < z ∧ byt l (i + 1) ≠ 46

/-- what stands behind the key, and where the scanner then stands -/
def Behind (l : List UInt8) (z z' : Nat) : Prop := (byt l z = 93 ∧ z' = z) ∨ (byt l z = 32 ∧ z + 1 < l.length ∧ byt l (z + 1) = 61 ∧ z' = z + 1)

theorem NoDelim.plain {c : Int} (h : NoDelim c) : Plain c := by
  obtain ⟨h1, h2, h3, h4, h5, h6, h7, h8, h9, h10, h11, h12⟩ := h
  exact ⟨h1, h2, h3, h4, h10⟩

theorem nd46 : NoDelim 46 := by unfold NoDelim; omega
theorem pl93 : Plain 93 := by unfold Plain; omega
theorem pl61 : Plain 61 := by unfold Plain; omega
theorem join_is {p q r : Nat} (h : q = p ∨ p + 2 ≤ q) (hr : q < r) : join (q - p - 1) (r - q) = r - p := by
  unfold join
  rcases h with h | h
  · subst h; rw [if_pos (by omega)]; omega
  · rw [if_neg (by omega)]; omega
theorem ne_n {c k : Int} (h : c ≠ k) : (c != k) = true := by rw [bne_iff_ne]; exact h

set_option maxHeartbeats 2000000 in
set_option maxRecDepth 100000 in
theorem key_any (p z z' : Nat) (e : Int) (w : World) (h : Scan b d cap l L N E p e w) (hk : KeyAt l p z) (hz : Behind l z z') :
    Calls Tryf.prog 20 #[.pointer (some ⟨b, 0, none⟩)] w (Ends b d cap l L N E (.tuple #[.int .i64 (dots l p (z - p) + 1 : Nat), .int .i64 (z - p : Nat)]) z' e w) := by
  have hpz := hk.lt
  have hzl := hk.zl
  have HK := hide hk
  have HZ := hide hz
  have ln := h.ln
  clear hk hz
  go_enter Tryf.func20, Tryf.ntmps20
  go_wp2_with fail
  go_loopw [2, 3] (fun pv lv wr => ∃ q : Nat, p ≤ q ∧ q < z ∧ (q = p ∨ p + 2 ≤ q) ∧ Hid (byt l q ≠ 46) ∧ pv = .int .i64 (dots l p (q - p)) ∧ lv = .int .i64 (q - p - 1 : Nat) ∧ Scan b d cap l L N E q e wr ∧ Below b w wr) (fun _ _ wr => l.length - posOf b wr)
  case atStart => exact ⟨p, Nat.le_refl _, hpz, .inl rfl, (unhide HK).first, by simp [dots], by simp, h, Below.refl _ _⟩
  case round =>
    obtain ⟨q, hq, hqz, hq2, H46, rfl, rfl, hs, hB⟩ := hrel
    have HQ := hide hq2
    have HPQ := hide (pos_is hs)
    have hbare : Bare (byt l q) := by
      rcases (unhide HK).all q hq hqz with x | x
      · exact absurd x H46.out
      · exact x
    have HBare := hide hbare
    have HB0 := hide hB
    clear hq2 h
    go_wp2_with fail
    refine (skipBlank_any false q q e wr hs (Nat.le_refl _) (by omega) (fun i h1 h2 => by omega) (fun _ => hbare.1.plain)).mono ?_
    rintro r w1 ⟨rfl, hs1, hB1⟩
    clear hbare hs hB
    have HS1 := hide hs1
    have HB1 := hide ((unhide HB0).trans hB1)
    have a0 := hs1.h0
    have a1 := hs1.h1
    have b1 := hs1.f1
    have cq := hs1.dat q (by omega)
    have db := hs1.db
    have hlt : q < l.length := by omega
    clear hs1 hB1 HB0
    have n34 : (byt l q == 34) = false := ne_b (by have := (unhide HBare).1; unfold NoDelim at this; omega)
    have n39 : (byt l q == 39) = false := ne_b (by have := (unhide HBare).1; unfold NoDelim at this; omega)
    generalize byt l q = c at cq n34 n39
    go_wp2_with fail
    go_quiet (fail)
    go_wp2_with fail
    clear a0 a1 b1 cq db n34 n39 hlt
    have HS2 := hide ((unhide HS1).drewN nq)
    have HB2 := hide (below_drewN (unhide HB1) nq)
    generalize w1.drewN nq = w2 at HS2 HB2
    clear HS1 HB1
    go_loopw [98] (fun _ wx => ∃ r : Nat, q ≤ r ∧ r ≤ z ∧ Hid (∀ i, q ≤ i → i < r → byt l i ≠ 46) ∧ Hid (Scan b d cap l L N E r e wx) ∧ Hid (Below b w wx)) (fun _ wx => l.length - posOf b wx)
    case atStart => exact ⟨q, Nat.le_refl _, by omega, (fun i h1 h2 => by omega), unhide HS2, unhide HB2⟩
    case round =>
      obtain ⟨r, hqr, hrz, hno, HS3, HB3⟩ := hrel
      clear HS2 HB2
      have a0 := (unhide HS3).h0
      have a1 := (unhide HS3).h1
      have b1 := (unhide HS3).f1
      have db := (unhide HS3).db
      have hlt : r < l.length := by omega
      have cq := (unhide HS3).dat r hlt
      by_cases hr46 : r < z ∧ byt l r ≠ 46
      · have hbr : Hid (Bare (byt l r)) := by
          rcases (unhide HK).all r (by omega) hr46.1 with x | x
          · exact absurd x hr46.2
          · exact x
        have HNO : Hid (∀ i, q ≤ i → i < r + 1 → byt l i ≠ 46) := by
          intro i h1 h2
          by_cases e : i = r
          · rw [e]; exact hr46.2
          · exact hno.out i h1 (by omega)
        obtain ⟨hr1, hr2⟩ := hr46
        have m46 := ne_n hr2
        have m61 : (byt l r != 61) = true := ne_n hbr.out.2.2.1
        have HD := hide hbr.out.1
        clear hr2 hno hbr
        generalize byt l r = c at cq m46 m61 HD
        go_wp2_with fail
        go_quiet ((go_at_call 25; exact Calls.quiet_of_same (delim_no _ _ (unhide HD))))
        go_wp2_with fail
        go_roundw
        case rel =>
          exact ⟨r + 1, by omega, by omega, unhide HNO, (Scan.step (unhide HS3) (unhide HB3) _ (by go_num) (by omega) _).1, (Scan.step (p' := r + 1) (unhide HS3) (unhide HB3) _ (by go_num) (by omega) _).2⟩
        case measure =>
          rw [pos_step (unhide HS3) (show r + 1 ≤ l.length by omega), pos_is (unhide HS3)]
          · omega
          · go_num
      · have hqr' : q < r := by
          rcases Nat.eq_or_lt_of_le hqr with x | x
          · subst x; exact absurd ⟨hqz, H46.out⟩ hr46
          · exact x
        have HJ := hide (join_is (unhide HQ) hqr')
        have hD1 := hide (dots_from l hq hqr (unhide hno))
        have hdl : dots l p (q - p) ≤ 1048576 := by have := dots_le l p (q - p); omega
        have ne1 : ((r : Int) == (q : Int)) = false := ne_b (by omega)
        have ne2 : ((r : Int) == (l.length : Int)) = false := ne_b (by omega)
        by_cases hz1 : r < z
        · have h46 : byt l r = 46 := Classical.byContradiction fun x => hr46 ⟨hz1, x⟩
          obtain ⟨nx1, nx2⟩ := (unhide HK).next r (by omega) hz1 h46
          have NX2 := hide nx2
          have HD2 := hide (dots_dot l (show p ≤ r by omega) h46)
          have HP46 : Hid (Plain (byt l r)) := by rw [h46]; exact nd46.plain
          have C46 := hide h46
          rw [h46] at cq
          clear hr46 h46 nx2 hno
          go_wp2_with fail
          go_quiet ((go_at_call 25; exact Calls.quiet_of_same (delim_no _ _ nd46)))
          go_wp2_with fail
          rw [show ((r : Int) - (q : Int)) = ((r - q : Nat) : Int) by omega]
          refine (join_any _ _ _ (by omega) (by omega)).mono ?_
          rintro e1 w4 ⟨rfl, rfl⟩
          rw [unhide HJ]
          clear cq a0 a1 b1
          go_wp2_with fail
          refine (skipBlank_any false r r e _ ((unhide HS3).drewN _) (Nat.le_refl _) (by omega) (fun i h1 h2 => by omega) (fun _ => unhide HP46)).mono ?_
          rintro e2 w5 ⟨rfl, hs5, hB5⟩
          have HS5 := hide hs5
          have HB5 := hide ((below_drewN (unhide HB3) _).trans hB5)
          have a0 := hs5.h0
          have a1 := hs5.h1
          have b1 := hs5.f1
          have cq := hs5.dat r hlt
          clear hs5 hB5 HS3 HB3
          rw [C46.out] at cq
          go_wp2_with fail
          go_quiet (fail)
          go_wp2_with fail
          go_roundw
          case rel =>
            refine ⟨r + 1, by omega, nx1, .inr (by omega), unhide NX2, ?_, ?_, (Scan.step (unhide HS5) (unhide HB5) _ (by go_num) (by omega) _).1, (Scan.step (p' := r + 1) (unhide HS5) (unhide HB5) _ (by go_num) (by omega) _).2⟩
            · rw [unhide HD2, unhide hD1]; first | rfl | (congr 1; go_num)
            · rw [show r + 1 - p - 1 = r - p by omega]
          case measure =>
            rw [pos_step (unhide HS5) (show r + 1 ≤ l.length by omega), unhide HPQ]
            · omega
            · go_num
        · obtain rfl : r = z := by omega
          have hrp : p < r := by omega
          have fin : ∀ x : Int, x = ((dots l p (q - p) : Nat) : Int) + 1 → x = ((dots l p (r - p) + 1 : Nat) : Int) := fun x hx => by rw [hx, unhide hD1]; rfl
          have FIN := hide fin
          clear fin hr46 hno
          rcases unhide HZ with ⟨hb, rfl⟩ | ⟨hb, hz2, hb2, hz'⟩
          · have HP93 : Hid (Plain (byt l z')) := by rw [hb]; exact pl93
            have C46 := hide hb
            rw [hb] at cq
            clear hb
            go_wp2_with fail
            go_quiet ((go_at_call 25; exact Calls.quiet_of_same (delim_93 _)))
            go_wp2_with fail
            rw [show ((z' : Int) - (q : Int)) = ((z' - q : Nat) : Int) by omega]
            refine (join_any _ _ _ (by omega) (by omega)).mono ?_
            rintro e1 w4 ⟨rfl, rfl⟩
            rw [unhide HJ]
            clear cq a0 a1 b1
            go_wp2_with fail
            refine (skipBlank_any false z' z' e _ ((unhide HS3).drewN _) (Nat.le_refl _) (by omega) (fun i h1 h2 => by omega) (fun _ => unhide HP93)).mono ?_
            rintro e2 w5 ⟨rfl, hs5, hB5⟩
            have HS5 := hide hs5
            have HB5 := hide ((below_drewN (unhide HB3) _).trans hB5)
            have a0 := hs5.h0
            have a1 := hs5.h1
            have b1 := hs5.f1
            have cq := hs5.dat z' hlt
            clear hs5 hB5 HS3 HB3
            rw [C46.out] at cq
            go_wp2_with fail
            go_quiet (fail)
            go_wp2_with fail
            go_ret2
            refine ⟨?_, (unhide HS5).drewN _, below_drewN (unhide HB5) _⟩
            show Ending.returned (Value.tuple #[Value.int .i64 (((dots l p (q - p) : Nat) : Int) + 1), Value.int .i64 ((z' - p : Nat) : Int)]) = _
            rw [unhide FIN _ rfl]
          · have C32 := hide hb
            rw [← hz'] at hz2 hb2
            have HZ' := hide hz'
            clear hz'
            have C46 := hide hb2
            rw [hb] at cq
            clear hb hb2
            go_wp2_with fail
            go_quiet ((go_at_call 25; exact Calls.quiet_of_same (delim_32 _)))
            go_wp2_with fail
            rw [show ((r : Int) - (q : Int)) = ((r - q : Nat) : Int) by omega]
            refine (join_any _ _ _ (by omega) (by omega)).mono ?_
            rintro e1 w4 ⟨rfl, rfl⟩
            rw [unhide HJ]
            clear cq a0 a1 b1
            go_wp2_with fail
            refine (skipBlank_any false r z' e _ ((unhide HS3).drewN _) (by have := unhide HZ'; omega) (by omega) (fun i h1 h2 => by rw [show i = r by have := unhide HZ'; omega]; exact unhide C32) (fun _ => by rw [unhide C46]; exact pl61)).mono ?_
            rintro e2 w5 ⟨rfl, hs5, hB5⟩
            have HS5 := hide hs5
            have HB5 := hide ((below_drewN (unhide HB3) _).trans hB5)
            have a0 := hs5.h0
            have a1 := hs5.h1
            have b1 := hs5.f1
            have cq := hs5.dat z' hz2
            have ne3 : ((z' : Int) == (l.length : Int)) = false := ne_b (by omega)
            clear hs5 hB5 HS3 HB3
            rw [C46.out] at cq
            go_wp2_with fail
            go_quiet (fail)
            go_wp2_with fail
            go_ret2
            refine ⟨?_, (unhide HS5).drewN _, below_drewN (unhide HB5) _⟩
            show Ending.returned (Value.tuple #[Value.int .i64 (((dots l p (q - p) : Nat) : Int) + 1), Value.int .i64 ((r - p : Nat) : Int)]) = _
            rw [unhide FIN _ rfl]
end Go.Proofs.Qxb6604368aFmt
