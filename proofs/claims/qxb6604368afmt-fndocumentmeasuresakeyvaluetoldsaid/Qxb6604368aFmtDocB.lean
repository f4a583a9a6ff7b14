/- document (11) over a text with a header. -/
import Derived.Test.Qxb6604368aFmtDocA
namespace Go.Proofs.Qxb6604368aFmt
open Go.RowKit Go.Extern.Stop Go.Stop Go.Extern
variable {b d cap : Nat} {l : List UInt8} {L N E : Int}

/-- the text with a header: '[' h ']' newline, then the line from q on -/
structure TextB (l : List UInt8) (z0 q z : Nat) : Prop where
  hd : HeadAt l 0 z0
  nl : byt l (z0 + 1) = 10
  line : LineAt l q z
  hq : q = z0 + 2
  len : l.length = z + 5

set_option maxHeartbeats 2000000 in
set_option maxRecDepth 100000 in
theorem docB_past1 (F : Interp) (z0 q z lv nm : Nat) (w : World) (hF : F.answers w.tape) (h : Scan b d cap l L N E 0 0 w) (ht : TextB l z0 q z) (hlv : lv = dots l (0 + 1) (z0 - (0 + 1)) + 1) (hnm : nm = z0 - (0 + 1))
    (hP : Past L N E (lv : Int) (nm : Int) (((0 : Nat) : Int) + (lv : Nat))) :
    Calls Tryf.prog 11 #[.pointer (some ⟨b, 0, none⟩)] w (ErrS b w) := by
  have HP := hide hP
  have HF := hide hF
  have HLV := hide hlv
  have HNM := hide hnm
  clear hP hF hlv hnm
  have HS := hide h
  have ln := h.ln
  have le : 0 < l.length := by have := ht.len; omega
  have HLT : Hid (byt l 0 < 128) := by show _ < _; rw [ht.hd.op]; omega
  clear h
  have HT := hide ht
  clear ht
  go_enter Tryf.func11, Tryf.ntmps11
  go_wp2_with fail
  have H0 := hide (bom_start (unhide HS))
  clear HS
  generalize w.alloc (.cells #[.string ⟨#[239, 187, 191]⟩, .string ⟨#[255, 254]⟩, .string ⟨#[254, 255]⟩] 9) = w0 at H0
  generalize w.heap.size = m at H0
  go_loopw [10] (fun kv wr => ∃ k : Nat, kv = .int .i64 k ∧ k ≤ 3 ∧ Hid (Bom b d cap l L N E m w wr)) (fun kv _ => 3 - (RowKit.intOf kv).toNat)
  case atStart => exact ⟨0, rfl, by omega, unhide H0⟩
  case round =>
    obtain ⟨k, rfl, hk3, HM⟩ := hrel
    clear H0
    by_cases hk : k < 3
    · have a0 := (unhide HM).sc.h0
      have cm := (unhide HM).ms k hk
      have hcv := Lib.run_convert_string_bytes (P := Tryf.prog) wr 9 22 5 (mark k) (u := .string) Tryf.underlying9 Tryf.underlying22 Tryf.underlying5
      go_wp2_with fail
      refine ((unhide HM).prefix le (unhide HLT) k _).mono ?_
      rintro r w1 ⟨rfl, rfl⟩
      have HM2 := hide ((unhide HM).next (mark k))
      generalize Lib.bytesWorld wr 5 (mark k) = w1 at HM2
      clear a0 cm hcv HM
      go_wp2_with fail
      go_roundw
      case rel => exact ⟨k + 1, by go_num, hk, unhide HM2⟩
      case measure => simp [RowKit.intOf]; omega
    · obtain rfl : k = 3 := by omega
      have HS := hide (unhide HM).sc
      have HB := hide (unhide HM).bel
      clear HM hk hk3
      go_wp2_with fail
      refine wp_loop_rounds 1 ?_
      rw [rounds_succ]
      go_wp2_with fail
      refine (skipBlank_any true 0 0 _ wr (unhide HS) (Nat.le_refl _) (by omega) (fun i h1 h2 => by omega) (fun hx => by rw [(unhide HT).hd.op]; exact pl91)).mono ?_
      rintro rw2 w2 ⟨rfl, hs, hB⟩
      have HSw2 := hide hs
      have HBw2 := hide ((unhide HB).trans hB)
      have a0 := hs.h0
      have a1 := hs.h1
      have db := hs.db
      have hlt : 0 < l.length := by omega
      have cq := hs.dat 0 hlt
      have ne1 : (((0 : Nat) : Int) == (l.length : Int)) = false := ne_b (by omega)
      rw [(unhide HT).hd.op] at cq
      clear hs hB
      go_wp2_with fail
      go_quiet (fail)
      go_wp2_with fail
      go_quiet (fail)
      go_wp2_with fail
      refine (header_past F 0 z0 0 _ (by show F.answers w2.tape; rw [(unhide HBw2).tape]; exact unhide HF) ((unhide HSw2).drewN _) (unhide HT).hd (by omega) (by rw [← unhide HLV, ← unhide HNM]; exact unhide HP)).mono ?_
      rintro r3 w3 ⟨⟨a, rfl⟩, hB3⟩
      have HB3 := hide (BelowE.after (below_drewN (unhide HBw2) _) hB3)
      clear hB3
      go_wp2_with fail
      go_ret
      exact ⟨⟨_, rfl⟩, unhide HB3⟩

set_option maxHeartbeats 2000000 in
set_option maxRecDepth 100000 in
theorem docB_past2 (F : Interp) (z0 q z lv nm : Nat) (w : World) (hF : F.answers w.tape) (h : Scan b d cap l L N E 0 0 w) (ht : TextB l z0 q z) (hlv : lv = dots l (0 + 1) (z0 - (0 + 1)) + 1) (hnm : nm = z0 - (0 + 1))
    (hL0 : (lv : Int) ≤ L) (hN0 : (nm : Int) ≤ N) (hE0 : ((0 + lv : Nat) : Int) ≤ E)
    (hP : Past L N E ((lv + dots l q (z - q) : Nat) : Int) ((join nm (z - q) : Nat) : Int) ((lv : Int) + (dots l q (z - q) + 2 : Nat))) :
    Calls Tryf.prog 11 #[.pointer (some ⟨b, 0, none⟩)] w (ErrS b w) := by
  have hb1 : lv ≤ 1048576 := by have := dots_le l (0 + 1) (z0 - (0 + 1)); have := ht.hd.key.zl; have := h.ln; omega
  have hb2 : nm ≤ 1048575 := by have := ht.hd.key.zl; have := h.ln; omega
  have HL0 := hide hL0
  have HN0 := hide hN0
  have HE0 := hide hE0
  have HP := hide hP
  have HF := hide hF
  have HLV := hide hlv
  have HNM := hide hnm
  clear hL0 hN0 hE0 hP hF hlv hnm
  have HS := hide h
  have ln := h.ln
  have le : 0 < l.length := by have := ht.len; omega
  have HLT : Hid (byt l 0 < 128) := by show _ < _; rw [ht.hd.op]; omega
  clear h
  have HT := hide ht
  clear ht
  go_enter Tryf.func11, Tryf.ntmps11
  go_wp2_with fail
  have H0 := hide (bom_start (unhide HS))
  clear HS
  generalize w.alloc (.cells #[.string ⟨#[239, 187, 191]⟩, .string ⟨#[255, 254]⟩, .string ⟨#[254, 255]⟩] 9) = w0 at H0
  generalize w.heap.size = m at H0
  go_loopw [10] (fun kv wr => ∃ k : Nat, kv = .int .i64 k ∧ k ≤ 3 ∧ Hid (Bom b d cap l L N E m w wr)) (fun kv _ => 3 - (RowKit.intOf kv).toNat)
  case atStart => exact ⟨0, rfl, by omega, unhide H0⟩
  case round =>
    obtain ⟨k, rfl, hk3, HM⟩ := hrel
    clear H0
    by_cases hk : k < 3
    · have a0 := (unhide HM).sc.h0
      have cm := (unhide HM).ms k hk
      have hcv := Lib.run_convert_string_bytes (P := Tryf.prog) wr 9 22 5 (mark k) (u := .string) Tryf.underlying9 Tryf.underlying22 Tryf.underlying5
      go_wp2_with fail
      refine ((unhide HM).prefix le (unhide HLT) k _).mono ?_
      rintro r w1 ⟨rfl, rfl⟩
      have HM2 := hide ((unhide HM).next (mark k))
      generalize Lib.bytesWorld wr 5 (mark k) = w1 at HM2
      clear a0 cm hcv HM
      go_wp2_with fail
      go_roundw
      case rel => exact ⟨k + 1, by go_num, hk, unhide HM2⟩
      case measure => simp [RowKit.intOf]; omega
    · obtain rfl : k = 3 := by omega
      have HS := hide (unhide HM).sc
      have HB := hide (unhide HM).bel
      clear HM hk hk3
      go_wp2_with fail
      refine wp_loop_rounds 2 ?_
      rw [rounds_succ]
      go_wp2_with fail
      refine (skipBlank_any true 0 0 _ wr (unhide HS) (Nat.le_refl _) (by omega) (fun i h1 h2 => by omega) (fun hx => by rw [(unhide HT).hd.op]; exact pl91)).mono ?_
      rintro rw2 w2 ⟨rfl, hs, hB⟩
      have HSw2 := hide hs
      have HBw2 := hide ((unhide HB).trans hB)
      have a0 := hs.h0
      have a1 := hs.h1
      have db := hs.db
      have hlt : 0 < l.length := by omega
      have cq := hs.dat 0 hlt
      have ne1 : (((0 : Nat) : Int) == (l.length : Int)) = false := ne_b (by omega)
      rw [(unhide HT).hd.op] at cq
      clear hs hB
      go_wp2_with fail
      go_quiet (fail)
      go_wp2_with fail
      go_quiet (fail)
      go_wp2_with fail
      refine (header_ok 0 z0 0 _ ((unhide HSw2).drewN _) (unhide HT).hd (by omega) (by rw [← unhide HLV]; exact unhide HL0) (by rw [← unhide HNM]; exact unhide HN0) (by rw [← unhide HLV]; exact unhide HE0)).mono ?_
      rintro r3 w3 ⟨rfl, hs3, hB3⟩
      rw [← unhide HLV, Nat.zero_add] at hs3
      rw [← unhide HLV, ← unhide HNM]
      have HS3 := hide hs3
      have HB3 := hide ((below_drewN (unhide HBw2) _).trans hB3)
      clear hs3 hB3 HSw2 HBw2 a0 a1 db hlt cq ne1
      go_wp2_with fail
      refine (skipLine_any z0 (z0 + 1) _ w3 (unhide HS3) (by omega) (by have := (unhide HT).len; have := (unhide HT).line.key.lt; have := (unhide HT).hq; omega) (fun i h1 h2 => by rw [show i = z0 by omega, (unhide HT).hd.cl]; omega) (unhide HT).nl).mono ?_
      rintro r4 w4 ⟨rfl, hs4, hB4⟩
      rw [show z0 + 1 + 1 = q by have := (unhide HT).hq; omega] at hs4
      have HS4 := hide hs4
      have HB4 := hide ((unhide HB3).trans hB4)
      have hql : q < l.length := by have := (unhide HT).len; have := (unhide HT).line.key.lt; omega
      clear hs4 hB4 HS3 HB3
      go_wp2_with fail
      rw [rounds_succ]
      go_wp2_with fail
      refine (skipBlank_any true q q _ w4 (unhide HS4) (Nat.le_refl _) (by omega) (fun i h1 h2 => by omega) (fun hx => (unhide HT).line.key.bare.1.plain)).mono ?_
      rintro rw5 w5 ⟨rfl, hs, hB⟩
      have HSw5 := hide hs
      have HBw5 := hide ((unhide HB4).trans hB)
      have a0 := hs.h0
      have a1 := hs.h1
      have db := hs.db
      have hlt : q < l.length := by omega
      have cq := hs.dat q hlt
      have ne1 : (((q : Nat) : Int) == (l.length : Int)) = false := ne_b (by omega)
      have n91 : (byt l q == 91) = false := ne_b (unhide HT).line.key.bare.n91
      generalize byt l q = c at cq n91
      clear hs hB
      go_wp2_with fail
      go_quiet (fail)
      go_wp2_with fail
      go_quiet (fail)
      go_wp2_with fail
      refine (keyValue_past F q z lv lv nm _ (by show F.answers w5.tape; rw [(unhide HBw5).tape]; exact unhide HF) ((unhide HSw5).drewN _) (unhide HT).line (by omega) (by omega) (by omega) (unhide HP)).mono ?_
      rintro r6 w6 ⟨⟨a, rfl⟩, hB6⟩
      have HB6 := hide (BelowE.after (below_drewN (unhide HBw5) _) hB6)
      clear hB6
      go_wp2_with fail
      go_ret
      exact ⟨⟨_, rfl⟩, unhide HB6⟩

set_option maxHeartbeats 2000000 in
set_option maxRecDepth 100000 in
theorem docB_ok (z0 q z lv nm : Nat) (w : World) (h : Scan b d cap l L N E 0 0 w) (ht : TextB l z0 q z) (hlv : lv = dots l (0 + 1) (z0 - (0 + 1)) + 1) (hnm : nm = z0 - (0 + 1))
    (hL0 : (lv : Int) ≤ L) (hN0 : (nm : Int) ≤ N) (hE0 : ((0 + lv : Nat) : Int) ≤ E)
    (hL : ((lv + dots l q (z - q) : Nat) : Int) ≤ L) (hN : ((join nm (z - q) : Nat) : Int) ≤ N) (hE : ((lv + (dots l q (z - q) + 2) : Nat) : Int) ≤ E) :
    Calls Tryf.prog 11 #[.pointer (some ⟨b, 0, none⟩)] w (Ends b d cap l L N E .nilIface l.length ((lv + (dots l q (z - q) + 2) : Nat) : Int) w) := by
  have hb1 : lv ≤ 1048576 := by have := dots_le l (0 + 1) (z0 - (0 + 1)); have := ht.hd.key.zl; have := h.ln; omega
  have hb2 : nm ≤ 1048575 := by have := ht.hd.key.zl; have := h.ln; omega
  have HL0 := hide hL0
  have HN0 := hide hN0
  have HE0 := hide hE0
  have HL := hide hL
  have HN := hide hN
  have HE := hide hE
  have HLV := hide hlv
  have HNM := hide hnm
  clear hL0 hN0 hE0 hL hN hE hlv hnm
  have HS := hide h
  have ln := h.ln
  have le : 0 < l.length := by have := ht.len; omega
  have HLT : Hid (byt l 0 < 128) := by show _ < _; rw [ht.hd.op]; omega
  clear h
  have HT := hide ht
  clear ht
  go_enter Tryf.func11, Tryf.ntmps11
  go_wp2_with fail
  have H0 := hide (bom_start (unhide HS))
  clear HS
  generalize w.alloc (.cells #[.string ⟨#[239, 187, 191]⟩, .string ⟨#[255, 254]⟩, .string ⟨#[254, 255]⟩] 9) = w0 at H0
  generalize w.heap.size = m at H0
  go_loopw [10] (fun kv wr => ∃ k : Nat, kv = .int .i64 k ∧ k ≤ 3 ∧ Hid (Bom b d cap l L N E m w wr)) (fun kv _ => 3 - (RowKit.intOf kv).toNat)
  case atStart => exact ⟨0, rfl, by omega, unhide H0⟩
  case round =>
    obtain ⟨k, rfl, hk3, HM⟩ := hrel
    clear H0
    by_cases hk : k < 3
    · have a0 := (unhide HM).sc.h0
      have cm := (unhide HM).ms k hk
      have hcv := Lib.run_convert_string_bytes (P := Tryf.prog) wr 9 22 5 (mark k) (u := .string) Tryf.underlying9 Tryf.underlying22 Tryf.underlying5
      go_wp2_with fail
      refine ((unhide HM).prefix le (unhide HLT) k _).mono ?_
      rintro r w1 ⟨rfl, rfl⟩
      have HM2 := hide ((unhide HM).next (mark k))
      generalize Lib.bytesWorld wr 5 (mark k) = w1 at HM2
      clear a0 cm hcv HM
      go_wp2_with fail
      go_roundw
      case rel => exact ⟨k + 1, by go_num, hk, unhide HM2⟩
      case measure => simp [RowKit.intOf]; omega
    · obtain rfl : k = 3 := by omega
      have HS := hide (unhide HM).sc
      have HB := hide (unhide HM).bel
      clear HM hk hk3
      go_wp2_with fail
      refine wp_loop_rounds 3 ?_
      rw [rounds_succ]
      go_wp2_with fail
      refine (skipBlank_any true 0 0 _ wr (unhide HS) (Nat.le_refl _) (by omega) (fun i h1 h2 => by omega) (fun hx => by rw [(unhide HT).hd.op]; exact pl91)).mono ?_
      rintro rw2 w2 ⟨rfl, hs, hB⟩
      have HSw2 := hide hs
      have HBw2 := hide ((unhide HB).trans hB)
      have a0 := hs.h0
      have a1 := hs.h1
      have db := hs.db
      have hlt : 0 < l.length := by omega
      have cq := hs.dat 0 hlt
      have ne1 : (((0 : Nat) : Int) == (l.length : Int)) = false := ne_b (by omega)
      rw [(unhide HT).hd.op] at cq
      clear hs hB
      go_wp2_with fail
      go_quiet (fail)
      go_wp2_with fail
      go_quiet (fail)
      go_wp2_with fail
      refine (header_ok 0 z0 0 _ ((unhide HSw2).drewN _) (unhide HT).hd (by omega) (by rw [← unhide HLV]; exact unhide HL0) (by rw [← unhide HNM]; exact unhide HN0) (by rw [← unhide HLV]; exact unhide HE0)).mono ?_
      rintro r3 w3 ⟨rfl, hs3, hB3⟩
      rw [← unhide HLV, Nat.zero_add] at hs3
      rw [← unhide HLV, ← unhide HNM]
      have HS3 := hide hs3
      have HB3 := hide ((below_drewN (unhide HBw2) _).trans hB3)
      clear hs3 hB3 HSw2 HBw2 a0 a1 db hlt cq ne1
      go_wp2_with fail
      refine (skipLine_any z0 (z0 + 1) _ w3 (unhide HS3) (by omega) (by have := (unhide HT).len; have := (unhide HT).line.key.lt; have := (unhide HT).hq; omega) (fun i h1 h2 => by rw [show i = z0 by omega, (unhide HT).hd.cl]; omega) (unhide HT).nl).mono ?_
      rintro r4 w4 ⟨rfl, hs4, hB4⟩
      rw [show z0 + 1 + 1 = q by have := (unhide HT).hq; omega] at hs4
      have HS4 := hide hs4
      have HB4 := hide ((unhide HB3).trans hB4)
      have hql : q < l.length := by have := (unhide HT).len; have := (unhide HT).line.key.lt; omega
      clear hs4 hB4 HS3 HB3
      go_wp2_with fail
      rw [rounds_succ]
      go_wp2_with fail
      refine (skipBlank_any true q q _ w4 (unhide HS4) (Nat.le_refl _) (by omega) (fun i h1 h2 => by omega) (fun hx => (unhide HT).line.key.bare.1.plain)).mono ?_
      rintro rw5 w5 ⟨rfl, hs, hB⟩
      have HSw5 := hide hs
      have HBw5 := hide ((unhide HB4).trans hB)
      have a0 := hs.h0
      have a1 := hs.h1
      have db := hs.db
      have hlt : q < l.length := by omega
      have cq := hs.dat q hlt
      have ne1 : (((q : Nat) : Int) == (l.length : Int)) = false := ne_b (by omega)
      have n91 : (byt l q == 91) = false := ne_b (unhide HT).line.key.bare.n91
      generalize byt l q = c at cq n91
      clear hs hB
      go_wp2_with fail
      go_quiet (fail)
      go_wp2_with fail
      go_quiet (fail)
      go_wp2_with fail
      refine (keyValue_ok q z lv lv nm _ ((unhide HSw5).drewN _) (unhide HT).line (by omega) (by omega) (by omega) (unhide HL) (unhide HN) (unhide HE)).mono ?_
      rintro r6 w6 ⟨rfl, hs6, hB6⟩
      have HS6 := hide hs6
      have HB6 := hide ((below_drewN (unhide HBw5) _).trans hB6)
      clear hs6 hB6 HSw5 HBw5 a0 a1 db hlt cq ne1 n91
      go_wp2_with fail
      refine (skipLine_any (z + 4) (z + 4) _ w6 (unhide HS6) (Nat.le_refl _) (by have := (unhide HT).len; omega) (fun i h1 h2 => by omega) (unhide HT).line.val.c2).mono ?_
      rintro r8 w8 ⟨rfl, hs8, hB8⟩
      have hlen : z + 4 + 1 = l.length := by have := (unhide HT).len; omega
      rw [hlen] at hs8
      have HS8 := hide hs8
      have HB8 := hide ((unhide HB6).trans hB8)
      clear hs8 hB8 HS6 HB6 hlen
      go_wp2_with fail
      rw [rounds_succ]
      go_wp2_with fail
      refine (skipBlank_any true l.length l.length _ w8 (unhide HS8) (Nat.le_refl _) (Nat.le_refl _) (fun i h1 h2 => by omega) (fun hx => absurd hx (Nat.lt_irrefl _))).mono ?_
      rintro r9 w9 ⟨rfl, hs9, hB9⟩
      have HS9 := hide hs9
      have HB9 := hide ((unhide HB8).trans hB9)
      have a0 := hs9.h0
      have a1 := hs9.h1
      clear hs9 hB9
      go_wp2_with fail
      go_quiet (fail)
      go_wp2_with fail
      go_ret
      exact ⟨rfl, (unhide HS9).drewN _, below_drewN (unhide HB9) _⟩
end Go.Proofs.Qxb6604368aFmt
