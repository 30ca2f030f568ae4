/- A part of the proof, step P9: what the code and the plain laws of this step give. Made by AI agents; no person has read it. -/
import Derived.Test.YthphjbjehccomaaGreatDoorP8
import Derived.Test.YthphjbjehccomaaGreatDoorP3
namespace Go.Proofs.Base
open Go Go.Proofs Go.RowKit
set_option maxRecDepth 100000
/-- A piece's chunk, and k noughts behind it. -/
def padded (d : Pd) (l : List Nat) (k : Nat) : List Nat := dataBytes d l ++ List.replicate k 0
theorem bt_append_left {l m : List Nat} {j : Nat} (h : j < l.length) : bt (l ++ m) j = bt l j := by simp [bt, h, List.getElem?_append_left]
theorem bt_append_right {l m : List Nat} {j : Nat} (h : l.length ≤ j) : bt (l ++ m) j = bt m (j - l.length) := by simp [bt, List.getElem?_append_right h]
theorem len_padded (d : Pd) (l : List Nat) (k : Nat) : (padded d l k).length = 16 + l.length + k := by simp [padded, len_dataBytes]
theorem chunky_padded (d : Pd) (l : List Nat) (k : Nat) (hp : 0 < l.length) (hm : l.length < 50000) (hk : k < 4) : Chunky (padded d l k) (12 + l.length) := by
  refine ⟨by omega, by omega, ⟨?_, ?_⟩, ?_, ?_, fun j h1 h2 => ?_⟩
  · show (16 + l.length) / 256 = _; rw [show 4 + (12 + l.length) = 16 + l.length by omega]
  · show (16 + l.length) % 256 = _; rw [show 4 + (12 + l.length) = 16 + l.length by omega]
  · rw [len_padded]; omega
  · rw [len_padded]; omega
  · rw [len_padded] at h2
    rw [padded, bt_append_right (by rw [len_dataBytes]; omega), len_dataBytes]
    by_cases hq : j - (16 + l.length) < k <;> simp [bt, hq]
theorem flag_and (bg en : Bool) : (bits .and .u8 ((flagOf bg en : Nat) : Int) 8 != 0) = false ∧ (bits .and .u8 ((flagOf bg en : Nat) : Int) 4 != 0) = false ∧
    (bits .and .u8 ((flagOf bg en : Nat) : Int) 2 != 0) = bg ∧ (bits .and .u8 ((flagOf bg en : Nat) : Int) 1 != 0) = en := by
  cases bg <;> cases en <;> decide
theorem be4_of (v : Nat) : be4 (v / 16777216) (v / 65536 % 256) (v / 256 % 256) (v % 256) = v := by unfold be4 le4; omega
theorem be2_of (v : Nat) : be2 (v / 256) (v % 256) = v := by unfold be2; omega
theorem beU32v (b off len cap v : Nat) (l : List Nat) (w : World) (h : BytesAt w b off l) (h4 : 4 ≤ l.length) (hl : 4 ≤ len) (hm : len ≤ 9223372036854775807) (hv : be4 (bt l 0) (bt l 1) (bt l 2) (bt l 3) = v) :
    Calls Tryz.prog 85 #[.agg #[], .slice (some ⟨b, off, none⟩) len cap] w fun e w' => e = .returned (.int .u32 v) ∧ ∃ n, w' = (w.alloc (.cells #[] 163)).drewN n := by subst hv; exact beU32 b off len cap l w h h4 hl hm
theorem beU16v (b off len cap v : Nat) (l : List Nat) (w : World) (h : BytesAt w b off l) (h4 : 2 ≤ l.length) (hl : 2 ≤ len) (hm : len ≤ 9223372036854775807) (hv : be2 (bt l 0) (bt l 1) = v) :
    Calls Tryz.prog 86 #[.agg #[], .slice (some ⟨b, off, none⟩) len cap] w fun e w' => e = .returned (.int .u16 v) ∧ ∃ n, w' = (w.alloc (.cells #[] 163)).drewN n := by subst hv; exact beU16 b off len cap l w h h4 hl hm
theorem PayAt.later {w : World} {p typ fl : Nat} {raw : Value} {d : Pd} {uv : Value} (h : PayAt w p typ fl raw d uv) (o : Obj) (n : Nat) : PayAt ((w.drew.alloc o).drewN n) p typ fl raw d uv := blk_alloc (w := w.drew) o h

set_option maxRecDepth 100000 in
set_option maxHeartbeats 4000000 in
theorem pay_unmarshal (p b off len cap n k : Nat) (d : Pd) (l : List Nat) (w : World) (hP : PayAt w p 0 0 (.slice none 0 0) ⟨false, false, 0, 0, 0, 0⟩ (.slice none 0 0))
    (hl : BytesAt w b off (padded d l k)) (hn : l.length = n) (hlen : len = 16 + n + k) (hp : 0 < n) (hm : n < 50000) (hk : k < 4) (hcap : len ≤ cap) (hcm : cap ≤ 9223372036854775807) (hbp : b ≠ p) :
    Calls Tryz.prog 51 #[.pointer (some ⟨p, 0, none⟩), .slice (some ⟨b, off, none⟩) len cap] w fun r w' => r = .returned .nilIface ∧
      PayAt w' p 0 (flagOf d.bg d.en) (.slice (some ⟨b, off + 4, none⟩) (12 + n) (cap - 4)) d (.slice (some ⟨b, off + 16, none⟩) n (cap - 16)) ∧ Kept [p] w w' := by
  have lp := blk_lt hP
  have lb := hl.lt
  have hbp' : b ∉ [p] := by simpa using hbp
  have hch := chunky_padded d l k (by omega) (by omega) hk
  rw [hn] at hch
  have H1 := hid (header_unmarshal p b off len cap (12 + n) (padded d l k) _ 120 w hP (by decide) hl (by rw [len_padded, hn, hlen]) hch hcap hcm hbp)
  have HL := hid hlen
  have HN := hid hn
  obtain ⟨g8, g4, g2, g1⟩ := flag_and d.bg d.en
  generalize hfl : flagOf d.bg d.en = f at *
  have hb0 : bt (padded d l k) 0 = 0 := rfl
  have hb1 : bt (padded d l k) 1 = f := hfl
  have Hfl := hid hfl
  clear hP hch hlen hn hfl
  go_enter Tryz.func51, Tryz.ntmps51
  go_wp2_with fail
  refine H1.out.mono ?_
  rintro e w1 ⟨rfl, hP1', hk1⟩
  rw [hb0, hb1] at hP1'
  have hP1 : PayAt w1 p 0 f (.slice (some ⟨b, off + 4, none⟩) (12 + n) (cap - 4)) ⟨false, false, 0, 0, 0, 0⟩ (.slice none 0 0) := hP1'
  have q0 : w1.cell? ⟨p, 0, none⟩ = some (.int .u8 ((0 : Nat) : Int)) := blk_cell hP1 rfl
  have q1 : w1.cell? ⟨p, 1, none⟩ = some (.int .u8 f) := blk_cell hP1 rfl
  have q2 : w1.cell? ⟨p, 2, none⟩ = some (.slice (some ⟨b, off + 4, none⟩) (12 + n) (cap - 4)) := blk_cell hP1 rfl
  have q4 : w1.cell? ⟨p, 4, none⟩ = some (.bool false) := blk_cell hP1 rfl
  have q5 : w1.cell? ⟨p, 5, none⟩ = some (.bool false) := blk_cell hP1 rfl
  have q6 : w1.cell? ⟨p, 6, none⟩ = some (.bool false) := blk_cell hP1 rfl
  have q7 : w1.cell? ⟨p, 7, none⟩ = some (.bool false) := blk_cell hP1 rfl
  have f4 : w1.frozen? ⟨p, 4, none⟩ = false := blk_free hP1
  have f5 : w1.frozen? ⟨p, 5, none⟩ = false := blk_free hP1
  have f6 : w1.frozen? ⟨p, 6, none⟩ = false := blk_free hP1
  have f7 : w1.frozen? ⟨p, 7, none⟩ = false := blk_free hP1
  have HP1 := hid hP1
  have b12 : ¬ (12 + (n : Int)) < 12 := by omega
  simp only [Int.natCast_zero] at q0
  clear H1 hP1 hP1' hb0 hb1
  go_wp2_with fail
  generalize hW : World.setCell _ _ _ = w2
  have hP2 : PayAt w2 p 0 f (.slice (some ⟨b, off + 4, none⟩) (12 + n) (cap - 4)) ⟨d.bg, d.en, 0, 0, 0, 0⟩ (.slice none 0 0) := by
    rw [← hW]; unfold PayAt; rw [blk_setCell _ (blk_setCell _ (blk_setCell _ (blk_setCell _ HP1.out)))]; rfl
  have hk2 : Kept [p] w w2 := by
    rw [← hW]; exact (((hk1.setCell _ (.inl (by simp))).setCell _ (.inl (by simp))).setCell _ (.inl (by simp))).setCell _ (.inl (by simp))
  clear hW q0 q1 q2 q4 q5 q6 q7 f4 f5 f6 f7 g8 g4 g2 g1 hk1 HP1 b12
  have r2 : w2.cell? ⟨p, 2, none⟩ = some (.slice (some ⟨b, off + 4, none⟩) (12 + n) (cap - 4)) := blk_cell hP2 rfl
  have HP2 := hid hP2
  have lp2 := blk_lt hP2
  have hl2 := hl.kept hk2 hbp'
  have t0 : (0 : Int) ≤ 12 + (n : Int) := by omega
  have t0' : ¬ cap - 4 = 0 := by have := HL.out; omega
  have t0'' : (0 : Int) ≤ ((cap - 4 : Nat) : Int) := by have := HL.out; omega
  have HC2 := hid (beU32v b (off + 4) (12 + n) (cap - 4) d.tsn ((padded d l k).drop (4)) w2.drew (by have h := (hl2.kept ((Kept.refl [] w2).drew) (by simp)).drop 4; rwa [show off + 4 = off + 4 by omega] at h) (by rw [List.length_drop, len_padded, HN.out]; omega) (by omega) (by have := HL.out; omega) (by exact be4_of _))
  clear hP2 hl2
  go_region_held3 (fun w' => w'.cell? ⟨p, 2, none⟩ = some (.slice (some ⟨b, off + 4, none⟩) (12 + n) (cap - 4)))
    (first | go_keep | exact blk_cell hPc.out rfl | exact blk_cell (blk_setCell _ hPc.out) rfl)
    ((go_at_call 85; refine HC2.out.mono ?_; rintro e wc ⟨rfl, nc, hwc⟩; have hPc0 : PayAt wc p 0 f (.slice (some ⟨b, off + 4, none⟩) (12 + n) (cap - 4)) ⟨d.bg, d.en, 0, 0, 0, 0⟩ (.slice none 0 0) := hwc ▸ HP2.out.later _ nc; have hkc : Kept [p] w wc := hwc ▸ (hk2.drew.alloc _).drewN nc; have ec : wc.cell? ⟨p, 8, none⟩ = some (.int .u32 ((0 : Nat) : Int)) := blk_cell hPc0 rfl; have fc : wc.frozen? ⟨p, 8, none⟩ = false := blk_free hPc0; have hPc := hid hPc0; have lpc := blk_lt hPc0; clear hPc0 hwc))
  generalize hW : World.setCell _ _ _ = w3
  have hP3 : PayAt w3 p 0 f (.slice (some ⟨b, off + 4, none⟩) (12 + n) (cap - 4)) ⟨d.bg, d.en, d.tsn, 0, 0, 0⟩ (.slice none 0 0) := by
    rw [← hW]; unfold PayAt; rw [blk_setCell _ hPc.out]; rfl
  have hk3 : Kept [p] w w3 := by rw [← hW]; exact hkc.setCell _ (.inl (by simp))
  clear hW ec fc hPc lpc hkc HC2 r2 HP2 lp2 hk2 t0 t0' t0''
  go_wp2_with fail
  have r3 : w3.cell? ⟨p, 2, none⟩ = some (.slice (some ⟨b, off + 4, none⟩) (12 + n) (cap - 4)) := blk_cell hP3 rfl
  have HP3 := hid hP3
  have lp3 := blk_lt hP3
  have hl3 := hl.kept hk3 hbp'
  have t4 : (4 : Int) ≤ 12 + (n : Int) := by omega
  have t4' : ¬ cap - 4 = 4 := by have := HL.out; omega
  have t4'' : (4 : Int) ≤ ((cap - 4 : Nat) : Int) := by have := HL.out; omega
  have HC3 := hid (beU16v b (off + 4 + 4) (12 + n - 4) (cap - 4 - 4) d.si ((padded d l k).drop (8)) w3.drew (by have h := (hl3.kept ((Kept.refl [] w3).drew) (by simp)).drop 8; rwa [show off + 8 = off + 4 + 4 by omega] at h) (by rw [List.length_drop, len_padded, HN.out]; omega) (by omega) (by have := HL.out; omega) (by exact be2_of _))
  clear hP3 hl3
  go_region_held3 (fun w' => w'.cell? ⟨p, 2, none⟩ = some (.slice (some ⟨b, off + 4, none⟩) (12 + n) (cap - 4)))
    (first | go_keep | exact blk_cell hPc.out rfl | exact blk_cell (blk_setCell _ hPc.out) rfl)
    ((go_at_call 86; refine HC3.out.mono ?_; rintro e wc ⟨rfl, nc, hwc⟩; have hPc0 : PayAt wc p 0 f (.slice (some ⟨b, off + 4, none⟩) (12 + n) (cap - 4)) ⟨d.bg, d.en, d.tsn, 0, 0, 0⟩ (.slice none 0 0) := hwc ▸ HP3.out.later _ nc; have hkc : Kept [p] w wc := hwc ▸ (hk3.drew.alloc _).drewN nc; have ec : wc.cell? ⟨p, 9, none⟩ = some (.int .u16 ((0 : Nat) : Int)) := blk_cell hPc0 rfl; have fc : wc.frozen? ⟨p, 9, none⟩ = false := blk_free hPc0; have hPc := hid hPc0; have lpc := blk_lt hPc0; clear hPc0 hwc))
  generalize hW : World.setCell _ _ _ = w4
  have hP4 : PayAt w4 p 0 f (.slice (some ⟨b, off + 4, none⟩) (12 + n) (cap - 4)) ⟨d.bg, d.en, d.tsn, d.si, 0, 0⟩ (.slice none 0 0) := by
    rw [← hW]; unfold PayAt; rw [blk_setCell _ hPc.out]; rfl
  have hk4 : Kept [p] w w4 := by rw [← hW]; exact hkc.setCell _ (.inl (by simp))
  clear hW ec fc hPc lpc hkc HC3 r3 HP3 lp3 hk3 t4 t4' t4''
  go_wp2_with fail
  have r4 : w4.cell? ⟨p, 2, none⟩ = some (.slice (some ⟨b, off + 4, none⟩) (12 + n) (cap - 4)) := blk_cell hP4 rfl
  have HP4 := hid hP4
  have lp4 := blk_lt hP4
  have hl4 := hl.kept hk4 hbp'
  have t6 : (6 : Int) ≤ 12 + (n : Int) := by omega
  have t6' : ¬ cap - 4 = 6 := by have := HL.out; omega
  have t6'' : (6 : Int) ≤ ((cap - 4 : Nat) : Int) := by have := HL.out; omega
  have HC4 := hid (beU16v b (off + 4 + 6) (12 + n - 6) (cap - 4 - 6) d.ssn ((padded d l k).drop (10)) w4.drew (by have h := (hl4.kept ((Kept.refl [] w4).drew) (by simp)).drop 10; rwa [show off + 10 = off + 4 + 6 by omega] at h) (by rw [List.length_drop, len_padded, HN.out]; omega) (by omega) (by have := HL.out; omega) (by exact be2_of _))
  clear hP4 hl4
  go_region_held3 (fun w' => w'.cell? ⟨p, 2, none⟩ = some (.slice (some ⟨b, off + 4, none⟩) (12 + n) (cap - 4)))
    (first | go_keep | exact blk_cell hPc.out rfl | exact blk_cell (blk_setCell _ hPc.out) rfl)
    ((go_at_call 86; refine HC4.out.mono ?_; rintro e wc ⟨rfl, nc, hwc⟩; have hPc0 : PayAt wc p 0 f (.slice (some ⟨b, off + 4, none⟩) (12 + n) (cap - 4)) ⟨d.bg, d.en, d.tsn, d.si, 0, 0⟩ (.slice none 0 0) := hwc ▸ HP4.out.later _ nc; have hkc : Kept [p] w wc := hwc ▸ (hk4.drew.alloc _).drewN nc; have ec : wc.cell? ⟨p, 10, none⟩ = some (.int .u16 ((0 : Nat) : Int)) := blk_cell hPc0 rfl; have fc : wc.frozen? ⟨p, 10, none⟩ = false := blk_free hPc0; have hPc := hid hPc0; have lpc := blk_lt hPc0; clear hPc0 hwc))
  generalize hW : World.setCell _ _ _ = w5
  have hP5 : PayAt w5 p 0 f (.slice (some ⟨b, off + 4, none⟩) (12 + n) (cap - 4)) ⟨d.bg, d.en, d.tsn, d.si, d.ssn, 0⟩ (.slice none 0 0) := by
    rw [← hW]; unfold PayAt; rw [blk_setCell _ hPc.out]; rfl
  have hk5 : Kept [p] w w5 := by rw [← hW]; exact hkc.setCell _ (.inl (by simp))
  clear hW ec fc hPc lpc hkc HC4 r4 HP4 lp4 hk4 t6 t6' t6''
  go_wp2_with fail
  have r5 : w5.cell? ⟨p, 2, none⟩ = some (.slice (some ⟨b, off + 4, none⟩) (12 + n) (cap - 4)) := blk_cell hP5 rfl
  have HP5 := hid hP5
  have lp5 := blk_lt hP5
  have hl5 := hl.kept hk5 hbp'
  have t8 : (8 : Int) ≤ 12 + (n : Int) := by omega
  have t8' : ¬ cap - 4 = 8 := by have := HL.out; omega
  have t8'' : (8 : Int) ≤ ((cap - 4 : Nat) : Int) := by have := HL.out; omega
  have HC5 := hid (beU32v b (off + 4 + 8) (12 + n - 8) (cap - 4 - 8) d.ppi ((padded d l k).drop (12)) w5.drew (by have h := (hl5.kept ((Kept.refl [] w5).drew) (by simp)).drop 12; rwa [show off + 12 = off + 4 + 8 by omega] at h) (by rw [List.length_drop, len_padded, HN.out]; omega) (by omega) (by have := HL.out; omega) (by exact be4_of _))
  clear hP5 hl5
  go_region_held3 (fun w' => w'.cell? ⟨p, 2, none⟩ = some (.slice (some ⟨b, off + 4, none⟩) (12 + n) (cap - 4)))
    (first | go_keep | exact blk_cell hPc.out rfl | exact blk_cell (blk_setCell _ hPc.out) rfl)
    ((go_at_call 85; refine HC5.out.mono ?_; rintro e wc ⟨rfl, nc, hwc⟩; have hPc0 : PayAt wc p 0 f (.slice (some ⟨b, off + 4, none⟩) (12 + n) (cap - 4)) ⟨d.bg, d.en, d.tsn, d.si, d.ssn, 0⟩ (.slice none 0 0) := hwc ▸ HP5.out.later _ nc; have hkc : Kept [p] w wc := hwc ▸ (hk5.drew.alloc _).drewN nc; have ec : wc.cell? ⟨p, 13, none⟩ = some (.int .u32 ((0 : Nat) : Int)) := blk_cell hPc0 rfl; have fc : wc.frozen? ⟨p, 13, none⟩ = false := blk_free hPc0; have hPc := hid hPc0; have lpc := blk_lt hPc0; clear hPc0 hwc))
  generalize hW : World.setCell _ _ _ = w6
  have hP6 : PayAt w6 p 0 f (.slice (some ⟨b, off + 4, none⟩) (12 + n) (cap - 4)) d (.slice none 0 0) := by
    rw [← hW]; unfold PayAt; rw [blk_setCell _ hPc.out]; rfl
  have hk6 : Kept [p] w w6 := by rw [← hW]; exact hkc.setCell _ (.inl (by simp))
  clear hW ec fc hPc lpc hkc HC5 r5 HP5 lp5 hk5 t8 t8' t8''
  have q2 : w6.cell? ⟨p, 2, none⟩ = some (.slice (some ⟨b, off + 4, none⟩) (12 + n) (cap - 4)) := blk_cell hP6 rfl
  have q14 : w6.cell? ⟨p, 14, none⟩ = some (.slice none 0 0) := blk_cell hP6 rfl
  have q15 : w6.cell? ⟨p, 15, none⟩ = some (.bool false) := blk_cell hP6 rfl
  have f14 : w6.frozen? ⟨p, 14, none⟩ = false := blk_free hP6
  have f15 : w6.frozen? ⟨p, 15, none⟩ = false := blk_free hP6
  have HP6 := hid hP6
  have x1 : (12 : Int) ≤ 12 + (n : Int) := by omega
  have x2 : ¬ cap - 4 = 12 := by have := HL.out; omega
  clear hP6
  go_wp2_with fail
  go_ret
  refine ⟨rfl, ?_, (hk6.setCell _ (.inl (by simp))).setCell _ (.inl (by simp))⟩
  have h := blk_setCell (i := 15) (.bool false) (blk_setCell (i := 14) (.slice (some ⟨b, off + 16, none⟩) n (cap - 16)) HP6.out)
  exact h
end Go.Proofs.Base
