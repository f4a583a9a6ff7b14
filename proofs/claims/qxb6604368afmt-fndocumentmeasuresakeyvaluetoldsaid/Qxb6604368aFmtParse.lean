/- value (23) at a scalar, keyValue (16), header (15). -/
import Derived.Test.Qxb6604368aFmtKey
import Derived.Test.Qxb6604368aFmtCheck
namespace Go.Proofs.Qxb6604368aFmt
open Go.RowKit Go.Extern.Stop Go.Stop Go.Extern
variable {b d cap : Nat} {l : List UInt8} {L N E : Int}

/-- " 1\n" from p on -/
structure ValAt (l : List UInt8) (p : Nat) : Prop where
  c0 : byt l p = 32
  c1 : byt l (p + 1) = 49
  c2 : byt l (p + 2) = 10
  le : p + 2 < l.length

set_option maxHeartbeats 1000000 in
theorem value_any (p : Nat) (e : Int) (lv nm : Int) (w : World) (h : Scan b d cap l L N E p e w) (hv : ValAt l p) :
    Calls Tryf.prog 23 #[.pointer (some ⟨b, 0, none⟩), .int .i64 lv, .int .i64 nm] w (Ends b d cap l L N E .nilIface (p + 2) e w) := by
  have HV := hide hv
  have hle := hv.le
  clear hv
  obtain ⟨q, hq⟩ : ∃ q, q = p + 1 := ⟨_, rfl⟩
  have HQ := hide hq
  go_enter Tryf.func23, Tryf.ntmps23
  go_wp2_with fail
  refine (skipBlank_any false p q e w h (by omega) (by omega) (fun i h1 h2 => by rw [show i = p by omega]; exact (unhide HV).c0) (fun _ => by rw [hq, (unhide HV).c1]; unfold Plain; omega)).mono ?_
  rintro r w1 ⟨rfl, hs1, hB1⟩
  clear h
  have hlt : q < l.length := by omega
  have c49 : byt l q = 49 := by rw [hq]; exact (unhide HV).c1
  have cq := hs1.dat q hlt
  rw [c49] at cq
  have C49 := hide c49
  have HS := hide hs1
  have HB := hide hB1
  have a0 := hs1.h0
  have a1 := hs1.h1
  have ne : ((q : Int) == (l.length : Int)) = false := ne_b (by omega)
  have db := hs1.db
  clear hs1 hB1 hq c49
  go_wp2_with fail
  go_quiet (fail)
  go_wp2_with fail
  go_quiet (fail)
  go_wp2_with fail
  have hs2 := (unhide HS).drewN nq
  refine (skipScalar_any q (p + 2) e _ ((unhide HS).drewN _) (by have := unhide HQ; omega) hle (fun i h1 h2 => by rw [show i = q by have := unhide HQ; omega, unhide C49]; unfold NoDelim; omega) (unhide HV).c2).mono ?_
  rintro r w2 ⟨rfl, hs3, hB3⟩
  have HS3 := hide hs3
  have HB3 := hide ((below_drewN (unhide HB) _).trans hB3)
  clear hs2 hs3 hB3
  go_wp2_with fail
  go_ret
  exact ⟨rfl, unhide HS3, unhide HB3⟩

/-- "k = 1\n" from p on, k's end at z -/
structure LineAt (l : List UInt8) (p z : Nat) : Prop where
  key : KeyAt l p z
  sp : byt l z = 32
  eq : byt l (z + 1) = 61
  val : ValAt l (z + 2)

/-- the three ways in which a limit is passed -/
def Past (L N E lv nm en : Int) : Prop := L < lv ∨ N < nm ∨ E < en

theorem check_past (F : Interp) (p : Nat) (e0 m : Nat) (lv nm : Int) (w : World) (hF : F.answers w.tape) (h : Scan b d cap l L N E p e0 w) (he : e0 + m ≤ 4194304) (hp : Past L N E lv nm ((e0 : Int) + m)) :
    Calls Tryf.prog 21 #[.pointer (some ⟨b, 0, none⟩), .int .i64 lv, .int .i64 nm, .int .i64 m] w (ErrS b w) := by
  by_cases h1 : L < lv
  · exact check_lv F p e0 m lv nm w hF h he h1
  · by_cases h2 : N < nm
    · exact check_nm F p e0 m lv nm w hF h he (by omega) h2
    · exact check_en F p e0 m lv nm w hF h he (by omega) (by omega) (by rcases hp with x | x | x <;> omega)

set_option maxHeartbeats 1000000 in
theorem keyValue_ok (p z e0 lv nm : Nat) (w : World) (h : Scan b d cap l L N E p e0 w) (hk : LineAt l p z) (he : e0 ≤ 1048576) (hlv : lv ≤ 1048576) (hnm : nm ≤ 1048575)
    (hL : ((lv + dots l p (z - p) : Nat) : Int) ≤ L) (hN : ((join nm (z - p) : Nat) : Int) ≤ N) (hE : ((e0 + (dots l p (z - p) + 2) : Nat) : Int) ≤ E) :
    Calls Tryf.prog 16 #[.pointer (some ⟨b, 0, none⟩), .int .i64 lv, .int .i64 nm] w (Ends b d cap l L N E .nilIface (z + 4) ((e0 + (dots l p (z - p) + 2) : Nat) : Int) w) := by
  have HK := hide hk
  have hzl := hk.key.zl
  have hpz := hk.key.lt
  have hvl := hk.val.le
  have ln := h.ln
  have hd := dots_le l p (z - p)
  have hzp : z - p ≤ 1048576 := by omega
  clear hk
  obtain ⟨z1, hz1⟩ : ∃ z1, z1 = z + 1 := ⟨_, rfl⟩
  have HZ1 := hide hz1
  clear hz1
  go_enter Tryf.func16, Tryf.ntmps16
  go_wp2_with fail
  refine (key_any p z z1 e0 w h (unhide HK).key (.inr ⟨(unhide HK).sp, by omega, (unhide HK).eq, unhide HZ1⟩)).mono ?_
  rintro r w1 ⟨rfl, hs1, hB1⟩
  have HS1 := hide hs1
  have HB1 := hide hB1
  clear h hs1 hB1
  obtain ⟨D, hD⟩ : ∃ D, D = dots l p (z - p) := ⟨_, rfl⟩
  obtain ⟨K, hK⟩ : ∃ K, K = z - p := ⟨_, rfl⟩
  rw [← hD] at hd hL hE ⊢
  rw [← hK] at hN hd hzp ⊢
  have HD := hide hD
  clear hD hK
  go_wp2_with fail
  refine (join_any nm K w1 (by omega) hzp).mono ?_
  rintro r w2 ⟨rfl, rfl⟩
  obtain ⟨J, hJ⟩ : ∃ J, J = join nm K := ⟨_, rfl⟩
  rw [← hJ] at hN ⊢
  clear hJ
  go_wp2_with fail
  rw [show ((lv : Int) + ((D : Int) + 1) - 1) = ((lv + D : Nat) : Int) by omega, show ((D : Int) + 1 + 1) = ((D + 2 : Nat) : Int) by omega]
  refine (check_ok z1 e0 (D + 2) _ _ w2 (unhide HS1) (by omega) hL hN (by omega)).mono ?_
  rintro r w3 ⟨rfl, hs3, hB3⟩
  have HS3 := hide hs3
  have HB3 := hide ((unhide HB1).trans hB3)
  clear hs3 hB3 HS1 HB1
  go_wp2_with fail
  have h61 : byt l z1 = 61 := by rw [unhide HZ1]; exact (unhide HK).eq
  have C61 := hide h61
  refine (skipBlank_any false z1 z1 _ w3 (unhide HS3) (Nat.le_refl _) (by have := unhide HZ1; omega) (fun i h1 h2 => by omega) (fun _ => by rw [h61]; exact pl61)).mono ?_
  rintro r w4 ⟨rfl, hs4, hB4⟩
  have HS4 := hide hs4
  have HB4 := hide ((unhide HB3).trans hB4)
  have a0 := hs4.h0
  have a1 := hs4.h1
  have b1 := hs4.f1
  have db := hs4.db
  have hlt : z1 < l.length := by have := unhide HZ1; omega
  have cq := hs4.dat z1 hlt
  rw [h61] at cq
  clear hs4 hB4 HS3 HB3 h61
  go_wp2_with fail
  go_quiet (fail)
  go_wp2_with fail
  rw [show ((lv : Int) + ((D : Int) + 1)) = ((lv + D + 1 : Nat) : Int) by omega]
  obtain ⟨hs5, hB5⟩ := Scan.step (p' := z + 2) (unhide HS4) (unhide HB4) ((z1 : Int) + 1) (by have := unhide HZ1; omega) (by omega) nq
  refine (value_any (z + 2) _ _ _ _ hs5 (unhide HK).val).mono ?_
  rintro r w5 ⟨rfl, hs6, hB6⟩
  have HS6 := hide hs6
  have HB6 := hide (hB5.trans hB6)
  clear hs5 hB5 hs6 hB6
  go_wp2_with fail
  go_ret
  have hs7 := unhide HS6
  rw [unhide HD] at hs7
  exact ⟨rfl, hs7, unhide HB6⟩

set_option maxHeartbeats 1000000 in
theorem keyValue_past (F : Interp) (p z e0 lv nm : Nat) (w : World) (hF : F.answers w.tape) (h : Scan b d cap l L N E p e0 w) (hk : LineAt l p z) (he : e0 ≤ 1048576) (hlv : lv ≤ 1048576) (hnm : nm ≤ 1048575)
    (hP : Past L N E ((lv + dots l p (z - p) : Nat) : Int) ((join nm (z - p) : Nat) : Int) ((e0 : Int) + (dots l p (z - p) + 2 : Nat))) :
    Calls Tryf.prog 16 #[.pointer (some ⟨b, 0, none⟩), .int .i64 lv, .int .i64 nm] w (ErrS b w) := by
  have HP := hide hP
  clear hP
  have HF := hide hF
  clear hF
  have HK := hide hk
  have hzl := hk.key.zl
  have hpz := hk.key.lt
  have hvl := hk.val.le
  have ln := h.ln
  have hd := dots_le l p (z - p)
  have hzp : z - p ≤ 1048576 := by omega
  clear hk
  obtain ⟨z1, hz1⟩ : ∃ z1, z1 = z + 1 := ⟨_, rfl⟩
  have HZ1 := hide hz1
  clear hz1
  go_enter Tryf.func16, Tryf.ntmps16
  go_wp2_with fail
  refine (key_any p z z1 e0 w h (unhide HK).key (.inr ⟨(unhide HK).sp, by omega, (unhide HK).eq, unhide HZ1⟩)).mono ?_
  rintro r w1 ⟨rfl, hs1, hB1⟩
  have HS1 := hide hs1
  have HB1 := hide hB1
  clear h hs1 hB1
  obtain ⟨D, hD⟩ : ∃ D, D = dots l p (z - p) := ⟨_, rfl⟩
  obtain ⟨K, hK⟩ : ∃ K, K = z - p := ⟨_, rfl⟩
  have hP := unhide HP
  rw [← hD] at hd hP ⊢
  rw [← hK] at hP hd hzp ⊢
  clear hD hK
  go_wp2_with fail
  refine (join_any nm K w1 (by omega) hzp).mono ?_
  rintro r w2 ⟨rfl, rfl⟩
  obtain ⟨J, hJ⟩ : ∃ J, J = join nm K := ⟨_, rfl⟩
  rw [← hJ] at hP ⊢
  clear hJ HP
  have HP := hide hP
  clear hP
  go_wp2_with fail
  rw [show ((lv : Int) + ((D : Int) + 1) - 1) = ((lv + D : Nat) : Int) by omega, show ((D : Int) + 1 + 1) = ((D + 2 : Nat) : Int) by omega]
  refine (check_past F z1 e0 (D + 2) _ _ w2 (by rw [(unhide HB1).tape]; exact unhide HF) (unhide HS1) (by omega) (unhide HP)).mono ?_
  rintro r w3 ⟨⟨a, rfl⟩, hB3⟩
  have HB3 := hide (BelowE.after (unhide HB1) hB3)
  clear hB3 HS1 HB1
  go_wp2_with fail
  go_ret
  exact ⟨⟨_, rfl⟩, unhide HB3⟩

/-- "[h]" from p on, h's end at z -/
structure HeadAt (l : List UInt8) (p z : Nat) : Prop where
  op : byt l p = 91
  key : KeyAt l (p + 1) z
  cl : byt l z = 93

set_option maxHeartbeats 1000000 in
theorem header_ok (p z e0 : Nat) (w : World) (h : Scan b d cap l L N E p e0 w) (hk : HeadAt l p z) (he : e0 ≤ 1048576)
    (hL : ((dots l (p + 1) (z - (p + 1)) + 1 : Nat) : Int) ≤ L) (hN : ((z - (p + 1) : Nat) : Int) ≤ N) (hE : ((e0 + (dots l (p + 1) (z - (p + 1)) + 1) : Nat) : Int) ≤ E) :
    Calls Tryf.prog 15 #[.pointer (some ⟨b, 0, none⟩)] w (Ends b d cap l L N E (.tuple #[.int .i64 (dots l (p + 1) (z - (p + 1)) + 1 : Nat), .int .i64 (z - (p + 1) : Nat), .nilIface]) z ((e0 + (dots l (p + 1) (z - (p + 1)) + 1) : Nat) : Int) w) := by
  have HK := hide hk
  have hzl := hk.key.zl
  have hpz := hk.key.lt
  have ln := h.ln
  have hd := dots_le l (p + 1) (z - (p + 1))
  obtain ⟨q, hq⟩ : ∃ q, q = p + 1 := ⟨_, rfl⟩
  rw [← hq] at hL hN hE hd ⊢
  have HQ := hide hq
  have HS := hide h
  have a1 := h.h1
  have b1 := h.f1
  have bqr : byt l q ≠ 91 := by
    rcases hk.key.all (p + 1) (Nat.le_refl _) hk.key.lt with x | x
    · rw [hq, x]; omega
    · rw [hq]; have := x.1; unfold NoDelim at this; omega
  have B91 := hide bqr
  clear hk h hq bqr
  go_enter Tryf.func15, Tryf.ntmps15
  go_wp2_with fail
  obtain ⟨hs1, hB1⟩ := Scan.step (p' := q) (unhide HS) (Below.refl b w) ((p : Int) + 1) (by have := unhide HQ; omega) (by have := unhide HQ; omega) 0
  change Scan _ _ _ _ _ _ _ _ _ (w.setCell _ _) at hs1
  change Below _ _ (w.setCell _ _) at hB1
  clear a1 b1 HS
  generalize w.setCell ⟨b, 1, none⟩ (.int .i64 ((p : Int) + 1)) = w1 at hs1 hB1
  have HS1 := hide hs1
  have HB1 := hide hB1
  have a0 := hs1.h0
  have a1 := hs1.h1
  have db := hs1.db
  have hlt : q < l.length := by have := unhide HQ; omega
  have cq := hs1.dat q hlt
  have n91 := ne_b (unhide B91)
  clear hs1 hB1
  generalize byt l q = c at cq n91
  go_quiet (fail)
  go_wp2_with fail
  refine (key_any q z z e0 _ ((unhide HS1).drewN _) (by rw [unhide HQ]; exact (unhide HK).key) (.inl ⟨(unhide HK).cl, rfl⟩)).mono ?_
  rintro r w2 ⟨rfl, hs2, hB2⟩
  have HS2 := hide hs2
  have HB2 := hide ((below_drewN (unhide HB1) _).trans hB2)
  clear hs2 hB2 HS1 HB1 a0 a1 db cq n91
  obtain ⟨D, hD⟩ : ∃ D, D = dots l q (z - q) := ⟨_, rfl⟩
  obtain ⟨K, hK⟩ : ∃ K, K = z - q := ⟨_, rfl⟩
  rw [← hD] at hd hL hE ⊢
  rw [← hK] at hN hd ⊢
  have hK1 : K ≤ 1048576 := by omega
  have HD := hide hD
  have HKK := hide hK
  clear hD hK
  go_wp2_with fail
  rw [show ((D : Int) + 1) = ((D + 1 : Nat) : Int) by omega]
  refine (check_ok z e0 (D + 1) _ _ w2 (unhide HS2) (by omega) hL hN (by omega)).mono ?_
  rintro r w3 ⟨rfl, hs3, hB3⟩
  have HS3 := hide hs3
  have HB3 := hide ((unhide HB2).trans hB3)
  clear hs3 hB3 HS2 HB2
  go_wp2_with fail
  go_ret3
  have hs7 := unhide HS3
  rw [unhide HD] at hs7
  refine ⟨?_, hs7, unhide HB3⟩
  show Ending.returned (Value.tuple #[.int .i64 ((D + 1 : Nat) : Int), .int .i64 (K : Int), .nilIface]) = _
  rw [unhide HD, unhide HKK]

/-- header's error: no level, no name, an error that is not nil -/
def ErrH (b : Nat) (w : World) (r : Ending) (w' : World) : Prop := (∃ a : Addr, r = .returned (.tuple #[.int .i64 0, .int .i64 0, .iface 56 (.pointer (some a))])) ∧ BelowE b w w'

set_option maxHeartbeats 1000000 in
theorem header_past (F : Interp) (p z e0 : Nat) (w : World) (hF : F.answers w.tape) (h : Scan b d cap l L N E p e0 w) (hk : HeadAt l p z) (he : e0 ≤ 1048576)
    (hP : Past L N E ((dots l (p + 1) (z - (p + 1)) + 1 : Nat) : Int) ((z - (p + 1) : Nat) : Int) ((e0 : Int) + (dots l (p + 1) (z - (p + 1)) + 1 : Nat))) :
    Calls Tryf.prog 15 #[.pointer (some ⟨b, 0, none⟩)] w (ErrH b w) := by
  have HK := hide hk
  have hzl := hk.key.zl
  have hpz := hk.key.lt
  have ln := h.ln
  have hd := dots_le l (p + 1) (z - (p + 1))
  obtain ⟨q, hq⟩ : ∃ q, q = p + 1 := ⟨_, rfl⟩
  rw [← hq] at hP hd
  have HQ := hide hq
  have HP := hide hP
  have HF := hide hF
  clear hP hF
  have HS := hide h
  have a1 := h.h1
  have b1 := h.f1
  have bqr : byt l q ≠ 91 := by
    rcases hk.key.all (p + 1) (Nat.le_refl _) hk.key.lt with x | x
    · rw [hq, x]; omega
    · rw [hq]; have := x.1; unfold NoDelim at this; omega
  have B91 := hide bqr
  clear hk h hq bqr
  go_enter Tryf.func15, Tryf.ntmps15
  go_wp2_with fail
  obtain ⟨hs1, hB1⟩ := Scan.step (p' := q) (unhide HS) (Below.refl b w) ((p : Int) + 1) (by have := unhide HQ; omega) (by have := unhide HQ; omega) 0
  change Scan _ _ _ _ _ _ _ _ _ (w.setCell _ _) at hs1
  change Below _ _ (w.setCell _ _) at hB1
  clear a1 b1 HS
  generalize w.setCell ⟨b, 1, none⟩ (.int .i64 ((p : Int) + 1)) = w1 at hs1 hB1
  have HS1 := hide hs1
  have HB1 := hide hB1
  have a0 := hs1.h0
  have a1 := hs1.h1
  have db := hs1.db
  have hlt : q < l.length := by have := unhide HQ; omega
  have cq := hs1.dat q hlt
  have n91 := ne_b (unhide B91)
  clear hs1 hB1
  generalize byt l q = c at cq n91
  go_quiet (fail)
  go_wp2_with fail
  refine (key_any q z z e0 _ ((unhide HS1).drewN _) (by rw [unhide HQ]; exact (unhide HK).key) (.inl ⟨(unhide HK).cl, rfl⟩)).mono ?_
  rintro r w2 ⟨rfl, hs2, hB2⟩
  have HS2 := hide hs2
  have HB2 := hide ((below_drewN (unhide HB1) _).trans hB2)
  clear hs2 hB2 HS1 HB1 a0 a1 db cq n91
  obtain ⟨D, hD⟩ : ∃ D, D = dots l q (z - q) := ⟨_, rfl⟩
  obtain ⟨K, hK⟩ : ∃ K, K = z - q := ⟨_, rfl⟩
  have hP := unhide HP
  rw [← hD] at hd hP ⊢
  rw [← hK] at hP hd ⊢
  have hK1 : K ≤ 1048576 := by omega
  clear hD hK HP
  have HP := hide hP
  clear hP
  go_wp2_with fail
  rw [show ((D : Int) + 1) = ((D + 1 : Nat) : Int) by omega]
  refine (check_past F z e0 (D + 1) _ _ w2 (by rw [(unhide HB2).tape]; exact unhide HF) (unhide HS2) (by omega) (unhide HP)).mono ?_
  rintro r w3 ⟨⟨a, rfl⟩, hB3⟩
  have HB3 := hide (BelowE.after (unhide HB2) hB3)
  clear hB3 HS2 HB2
  go_wp2_with fail
  go_ret3
  exact ⟨⟨_, rfl⟩, unhide HB3⟩
end Go.Proofs.Qxb6604368aFmt
