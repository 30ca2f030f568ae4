/- A part of the proof, step T9: what the code and the plain laws of this step give. Made by AI agents; no person has read it. -/
import Derived.Test.YthphjbjehccomaaGreatDoorT8
import Derived.Test.YthphjbjehccomaaGreatDoorP26
namespace Go.Proofs.Base
open Go Go.Proofs Go.RowKit Go.Proofs.Gaps
set_option maxRecDepth 100000
def c16 (g : Nat × Nat) : List Value := [.int .u16 (g.1 : Nat), .int .u16 (g.2 : Nat)]
def g16 (G : List (Nat × Nat)) : List Value := G.flatMap c16
theorem g16_snoc (G : List (Nat × Nat)) (g : Nat × Nat) : g16 (G ++ [g]) = g16 G ++ #[Value.int .u16 (g.1 : Nat), .int .u16 (g.2 : Nat)].toList := by simp [g16, c16]
theorem iGap : (Tryz.prog.info? 151).map (fun i => (i.zero, i.size, i.bytes)) = some (some (.agg #[.int .u16 0, .int .u16 0]), 2, 4) := by kernel_rfl
set_option maxHeartbeats 1000000 in
theorem gapsNone (p bm f u v : Nat) (W : Nat → Nat) (dv : Value) (w : World) (h : QAt w p bm f u v 0 W dv) :
    Calls Tryz.prog 58 #[.pointer (some ⟨p, 0, none⟩), .int .i64 65535] w fun e w' => e = .returned (.slice none 0 0) ∧ Kept [] w w' := by
  have c1 : w.cell? ⟨p, 1, none⟩ = some (.int .i64 0) := blk_cell h.q rfl
  have lp := blk_lt h.q
  clear h
  go_enter Tryz.func58, Tryz.ntmps58
  go_wp2_with fail
  go_ret
  exact ⟨rfl, (Kept.refl [] w).alloc _⟩
theorem wrap_u16' (n : Int) : IntKind.u16.wrap n = n % 65536 := by simp [IntKind.wrap, IntKind.bits, IntKind.signed]
def boolOf : Value → Bool
  | .bool b => b
  | _ => false
theorem gapAppend (B n x y e : Nat) (Ag : Option Addr) (Cg : Nat) (G : List (Nat × Nat)) (w4 : World) (hn : n = G.length) (hn2 : n < 1000) (hA : w4.heap[B]? = some (.cells #[.int .u16 (x : Nat), .int .u16 (y : Nat)] 151 (0, 0)))
    (hO : w4.ownsRow (B + 1) 151 2 (.slice Ag n Cg) n (g16 G)) :
    ∃ g cap w6, (Builtin.append_ #[143, 143] 143 #[.slice Ag n Cg, .slice (some ⟨w4.heap.size, 0, none⟩) 1 1]).run Tryz.prog ((w4.setCell ⟨B, 1, none⟩ (.int .u16 (e : Nat))).alloc (.cells #[.int .u16 (x : Nat), .int .u16 (e : Nat)] 151)) = .ok (.slice (some ⟨g, 0, none⟩) (n + 1) cap) w6 ∧
      w6.ownsRow (B + 1) 151 2 (.slice (some ⟨g, 0, none⟩) (n + 1) cap) (n + 1) (g16 (G ++ [(x, e)])) ∧ w6.heap[B]? = some (.cells #[.int .u16 (x : Nat), .int .u16 (e : Nat)] 151 (0, 0)) ∧ Kept (B :: own (.slice Ag n Cg)) w4 w6 := by
  have lB := blk_lt hA
  have hkB : Kept [B] w4 (w4.setCell ⟨B, 1, none⟩ (.int .u16 (e : Nat))) := (Kept.refl [B] w4).setCell _ (.inl (by simp))
  have hO1 := ownsRow_kept hO hkB (by intro g hg; have := own_ge hO (own_mem.2 hg); simp; omega)
  have hA1 : (w4.setCell ⟨B, 1, none⟩ (.int .u16 (e : Nat))).heap[B]? = some (.cells #[.int .u16 (x : Nat), .int .u16 (e : Nat)] 151 (0, 0)) := by rw [blk_setCell _ hA]; rfl
  have hsz : (w4.setCell ⟨B, 1, none⟩ (.int .u16 (e : Nat))).heap.size = w4.heap.size := by simp [World.setCell]
  generalize w4.setCell ⟨B, 1, none⟩ (.int .u16 (e : Nat)) = w5 at *
  have hk5 : Kept [] w5 (w5.alloc (.cells #[.int .u16 (x : Nat), .int .u16 (e : Nat)] 151)) := (Kept.refl [] w5).alloc _
  have hnew := blk_new w5 (.cells #[.int .u16 (x : Nat), .int .u16 (e : Nat)] 151)
  rw [hsz] at hnew
  obtain ⟨g, cap, w6, hr, ho, hgr⟩ := appendOwnOne 143 151 2 4 n w4.heap.size 1 143 (B + 1) (.agg #[.int .u16 0, .int .u16 0]) (.slice Ag n Cg) (g16 G) #[.int .u16 (x : Nat), .int .u16 (e : Nat)] (w5.alloc (.cells #[.int .u16 (x : Nat), .int .u16 (e : Nat)] 151)) Tryz.underlying143 iGap rfl (by omega) (by omega) (by omega) (ownsRow_kept hO1 hk5 (by simp))
    (by have := hk5.size; omega) rfl (by intro u hu; simp at hu; rcases hu with rfl | rfl <;> rfl) hnew
  have hgk : Kept (own (.slice Ag n Cg)) (w5.alloc (.cells #[.int .u16 (x : Nat), .int .u16 (e : Nat)] 151)) w6 := grown_kept hgr (by intro k hk; rw [own_mem]; exact hk)
  have hk56 : Kept (own (.slice Ag n Cg)) w5 w6 := (hk5.more (by simp)).trans hgk
  have hBo : B ∉ own (.slice Ag n Cg) := fun h => by have := own_ge hO h; omega
  refine ⟨g, cap, w6, hr, by rw [g16_snoc]; exact ho, (hk56.block B (blk_lt hA1) hBo).trans hA1, (hkB.more (by simp)).trans (hk56.more (by intro r hr; left; simp [hr]))⟩
theorem tsn_add' {f pp i : Nat} : ((tsn f pp : Int) + (i : Int)) % 4294967296 = ((tsn f (pp + i) : Nat) : Int) := by unfold tsn; omega
theorem tsn_end {f u pp i : Nat} (h : u + 1 ≤ pp + i) (hq : pp + i < 1000) : ((tsn f pp : Int) + (i : Int) - 1 - (tsn f u : Int)) % 4294967296 = ((pp + i - 1 - u : Nat) : Int) := by unfold tsn; omega
theorem u16_id {n : Nat} (h : n < 65536) : IntKind.u16.wrap (n : Int) = (n : Int) := by rw [wrap_u16']; omega
theorem w64_id {n : Nat} (h : n < 1000) : wrap64 (n : Int) = (n : Int) := by unfold wrap64; omega
theorem mod_id {n : Nat} (h : n < 1000) : (n : Int) % 4294967296 = (n : Int) := by omega
/-- What falls from round to round. -/
def meas (v f : Nat) (S : Nat → Bool) (s8 s9 : Value) : Nat := 2 * (v + 65 - rel f (intOf s9).toNat) + (boolOf s8 != S (rel f (intOf s9).toNat)).toNat
theorem meas_eq {v f pp : Nat} {S : Nat → Bool} {fe : Bool} (h : pp < 4294967296) : meas v f S (.bool fe) (.int .u32 (tsn f pp : Nat)) = 2 * (v + 65 - pp) + (fe != S pp).toNat := by
  unfold meas
  rw [show intOf (.int .u32 (tsn f pp : Nat)) = ((tsn f pp : Nat) : Int) from rfl, Int.toNat_natCast, rel_tsn h]
  rfl
set_option maxHeartbeats 8000000 in
theorem gapsSome (p bm f u v c N : Nat) (W : Nat → Nat) (S : Nat → Bool) (dv : Value) (w : World) (h : QAt w p bm f u v c W dv) (hT : Bruijn w) (hc : 1 ≤ c) (hc2 : c < 1000) (hN : N < 64) (hWd : Words f N S W) (hv : v ≤ N) (huv : u < v) (hS : S v = true) :
    Calls Tryz.prog 58 #[.pointer (some ⟨p, 0, none⟩), .int .i64 65535] w fun e w' => ∃ vg G, e = .returned vg ∧ w'.ownsRow w.heap.size 151 2 vg G.length (g16 G) ∧ Cov u (v + 1) S G ∧ G.length ≤ v - u ∧ Kept [] w w' := by
  have c0 : w.cell? ⟨p, 0, none⟩ = some (.int .u32 (tsn f v : Nat)) := blk_cell h.q rfl
  have c1 : w.cell? ⟨p, 1, none⟩ = some (.int .i64 (c : Nat)) := blk_cell h.q rfl
  have c2 : w.cell? ⟨p, 2, none⟩ = some (.slice (some ⟨bm, 0, none⟩) 625 625) := blk_cell h.q rfl
  have c5 : w.cell? ⟨p, 5, none⟩ = some (.int .u32 (tsn f u : Nat)) := blk_cell h.q rfl
  have lp := blk_lt h.q
  have hcn : ((c : Int) == 0) = false := by simp; omega
  have e1 : IntKind.u32.wrap ((tsn f u : Int) + 1) = ((tsn f (u + 1) : Nat) : Int) := by
    rw [IntKind.wrap_u32]
    unfold tsn; omega
  have H := hid h; have HT := hid hT; have HW := hid hWd
  clear h hT hWd hc hc2
  go_enter Tryz.func58, Tryz.ntmps58
  go_wp2_with fail
  go_quiet (fail)
  go_wp2_with fail
  generalize hW1 : World.drewN _ _ = w1
  have hA1 : w1.heap[w.heap.size]? = some (.cells #[.int .u16 ((0 : Nat) : Int), .int .u16 ((0 : Nat) : Int)] 151 (0, 0)) := by rw [← hW1]; exact blk_new w _
  have hk1 : Kept [] w w1 := by rw [← hW1]; exact ((Kept.refl [] w).alloc _).drewN _
  have hn1 : w1.ownsRow (w.heap.size + 1) 151 2 (.slice none 0 0) 0 [] := World.ownsRow_nil _ _ _ _
  have HA1 := hid hA1; have HK1 := hid hk1; have HN1 := hid hn1
  clear hW1 hA1 hk1 hn1 c0 c1 c2 c5
  generalize hBe : w.heap.size = B at *
  have HB := hid hBe; clear hBe
  go_loopw [4, 8, 9] (fun s4 s8 s9 wx => ∃ (pp a x y : Nat) (fe : Bool) (G : List (Nat × Nat)), u < pp ∧ pp ≤ v ∧ s8 = .bool fe ∧ s9 = .int .u32 (tsn f pp : Nat) ∧ Hid (wx.ownsRow (B + 1) 151 2 s4 G.length (g16 G)) ∧
      Hid (fe = true → u < a ∧ a ≤ pp ∧ x = a - u ∧ S a = true ∧ ∀ j, a ≤ j → j < pp → S j = true) ∧ Hid (Cov u (if fe then a else pp) S G) ∧ G.length + 1 + u ≤ (if fe then a else pp) ∧
      Hid (wx.heap[B]? = some (.cells #[.int .u16 (x : Nat), .int .u16 (y : Nat)] 151 (0, 0))) ∧ Hid (Kept [] w wx))
    (fun _ s8 s9 _ => meas v f S s8 s9)
  case atStart => exact ⟨u + 1, 0, 0, 0, false, [], by omega, by omega, rfl, rfl, HN1, hid (fun h => by cases h), hid (Cov.nil u S), by simp; omega, HA1, HK1⟩
  case round =>
    obtain ⟨pp, a, x, y, fe, G, hup, hpv, rfl, rfl, HO, HF, HC, hGl, HA, HK⟩ := hrel
    have hB1 := HB.out
    have hQ := H.out.kept HK.out (by simp) (by simp)
    have d0 : wr.cell? ⟨p, 0, none⟩ = some (.int .u32 (tsn f v : Nat)) := blk_cell hQ.q rfl
    have d2 : wr.cell? ⟨p, 2, none⟩ = some (.slice (some ⟨bm, 0, none⟩) 625 625) := blk_cell hQ.q rfl
    have d5 : wr.cell? ⟨p, 5, none⟩ = some (.int .u32 (tsn f u : Nat)) := blk_cell hQ.q rfl
    have lpr := blk_lt hQ.q
    have lbr := blk_lt hQ.m
    have lBr := blk_lt HA.out
    have a0 : wr.cell? ⟨B, 0, none⟩ = some (.int .u16 (x : Nat)) := blk_cell HA.out rfl
    have af0 : wr.frozen? ⟨B, 0, none⟩ = false := blk_free HA.out
    have a1 : wr.cell? ⟨B, 1, none⟩ = some (.int .u16 (y : Nat)) := blk_cell HA.out rfl
    have af1 : wr.frozen? ⟨B, 1, none⟩ = false := blk_free HA.out
    have hi0 : tsn f pp / 64 % 4294967296 % 625 = idx f pp := by have := tsn_lt f pp; unfold idx; omega
    have m1 : wr.cell? ⟨bm, tsn f pp / 64 % 4294967296 % 625, none⟩ = some (.int .u64 (W (idx f pp) : Nat)) := by rw [hi0]; exact blk_cell hQ.m (wa_get (idx_lt f pp))
    have b1 : (0 : Int) ≤ (tsn f pp : Int) / 64 % 4294967296 % 625 := by omega
    have b2 : (tsn f pp : Int) / 64 % 4294967296 % 625 < 625 := by omega
    have t1 : ((tsn f pp : Int) / 64 % 4294967296 % 625).toNat = tsn f pp / 64 % 4294967296 % 625 := by
      rw [show ((tsn f pp : Int) / 64 % 4294967296 % 625) = ((tsn f pp / 64 % 4294967296 % 625 : Nat) : Int) by omega, Int.toNat_natCast]
    have ho1 : (tsn f pp : Int) % 64 = ((off f pp : Nat) : Int) := by unfold off; omega
    have ho2 := off_lt f pp
    have HTr := hid (HT.out.kept HK.out (by simp))
    have HLE := hid (fun wx : World => sna32LTE f pp v wx (by omega) (by omega))
    rw [decide_eq_true hpv] at HLE
    obtain ⟨Ag, Cg, hform⟩ := own_form HO.out
    subst hform
    have hGs : (G.length : Int) < 65535 := by
      have : G.length + 1 + u ≤ (if fe = true then a else pp) := hGl
      have h2 := HF.out
      cases fe
      · simp at this; omega
      · have := (h2 rfl).2.1; simp at *; omega
    have HQ := hid hQ
    have BT := hid (And.intro b1 (And.intro b2 (And.intro t1 ho1)))
    clear hQ hi0 b1 b2 t1 ho1
    cases fe
    · have HNZ := hid (fun wx (hx : Bruijn wx) => firstNonZero (W (idx f pp)) (off f pp) wx (HW.out.1 _ (idx_lt f pp)) ho2 hx)
      rcases HW.out.one hv hS hpv with ⟨h1, h2, h3⟩ | ⟨i, h1, h2, h3, h4, h5⟩
      · rw [decide_eq_false (by omega)] at HNZ
        have H3 := hid h3
        have H2 := hid h2
        have z1 : Hid (wrap64 ((64 : Int) - (off f pp : Int)) = 64 - (off f pp : Int)) := by
          show wrap64 _ = _
          unfold wrap64; omega
        have z2 := hid (show ((64 : Int) - (off f pp : Int)) % 4294967296 = 64 - (off f pp : Int) by omega)
        have z3 := hid (show ((tsn f pp : Int) + (64 - (off f pp : Int))) % 4294967296 = ((tsn f (pp + (64 - off f pp)) : Nat) : Int) by unfold tsn; omega)
        have HN0 := hid hN; have HPV := hid hpv; have HV0 := hid hv; have HUV := hid huv; have HS := hid hS; have HUP := hid hup; have HGL := hid hGl; have HB1 := hid hB1
        have HO2 := hid ho2
        obtain ⟨b1, b2, t1, ho1⟩ := BT.out
        go_wp2_with fail
        refine (HLE.out wr).mono ?_
        rintro e w2 ⟨rfl, rfl⟩
        go_wp2_with fail
        refine (HNZ.out w2 HTr.out).mono ?_
        rintro e w3 ⟨rfl, rfl⟩
        clear b1 b2 t1 h3 hup m1 HLE hGl hN hpv hv huv hS hGs h1 hB1 HNZ h2
        go_wp2_with fail
        go_roundw
        case rel =>
          refine ⟨pp + (64 - off f pp), a, x, y, false, G, by have := HUP.out; omega, H2.out, rfl, by simp only [z3.out], HO, hid (fun h => by cases h), hid (HC.out.skip (by simp) (fun j h6 h7 => H3.out j (by simpa using h6) (by simpa using h7))), ?_, HA, HK⟩
          have := HGL.out; simp at this ⊢; omega
        case measure =>
          simp only [z3.out]
          have h2 := H2.out; have := HV0.out; have := HN0.out; have := HO2.out
          rw [meas_eq (by omega), meas_eq (by omega)]
          have hb : (false != S (pp + (64 - off f pp))).toNat ≤ 1 := by cases S (pp + (64 - off f pp)) <;> decide
          omega
      · rw [h1, decide_eq_true h2] at HNZ
        obtain ⟨b1, b2, t1, ho1⟩ := BT.out
        go_wp2_with fail
        refine (HLE.out wr).mono ?_
        rintro e w2 ⟨rfl, rfl⟩
        go_wp2_with fail
        have H4 := hid h4; have H5 := hid h5; have H3 := hid h3
        have z1 : Hid (wrap64 ((off f pp : Int) + (i : Int) - (off f pp : Int)) = (i : Int)) := by
          show wrap64 _ = _
          rw [show ((off f pp : Int) + (i : Int) - (off f pp : Int)) = (i : Int) by omega]
          unfold wrap64; omega
        have z2 := hid (show (i : Int) % 4294967296 = (i : Int) by omega)
        have z3 := hid (show ((tsn f pp : Int) + (i : Int)) % 4294967296 = ((tsn f (pp + i) : Nat) : Int) by unfold tsn; omega)
        have z4 := hid (show ((tsn f pp : Int) + (i : Int) - (tsn f u : Int)) % 4294967296 = ((pp + i - u : Nat) : Int) by unfold tsn; omega)
        have z5 := hid (show IntKind.u16.wrap ((pp + i - u : Nat) : Int) = ((pp + i - u : Nat) : Int) by rw [wrap_u16']; omega)
        have HB2 := hid h2; have HN0 := hid hN; have HPV := hid hpv; have HV0 := hid hv; have HUV := hid huv; have HS := hid hS; have HUP := hid hup; have HGL := hid hGl; have HB1 := hid hB1
        refine (HNZ.out w2 HTr.out).mono ?_
        rintro e w3 ⟨rfl, rfl⟩
        clear b1 b2 t1 h3 h4 h5 hup m1 HLE hGl hN hpv hv huv hS hGs h1 hB1 HNZ h2
        go_wp2_with fail
        go_roundw
        case rel =>
          have hkB : ∀ val, Kept [B] w3 (w3.setCell ⟨B, 0, none⟩ val) := fun val => (Kept.refl [B] w3).setCell val (.inl (by simp))
          refine ⟨pp + i, pp + i, pp + i - u, y, true, G, by have := HUP.out; omega, H3.out, rfl, by simp only [z1.out, z2.out, z3.out], ?_, hid (fun _ => ⟨by have := HUP.out; omega, Nat.le_refl _, rfl, H4.out, fun j h1 h2 => by omega⟩), hid (HC.out.skip (by simp) (fun j h6 h7 => H5.out j (by simpa using h6) (by simpa using h7))), ?_, ?_, ?_⟩
          · exact hid (ownsRow_kept HO.out (hkB _) (by intro g hg; have := own_ge HO.out (own_mem.2 hg); simp; omega))
          · have := HGL.out; simp at this ⊢; omega
          · refine hid ?_
            rw [blk_setCell _ HA.out]
            simp only [z1.out, z4.out, z5.out]; rfl
          · exact hid (HK.out.setCell (p := ⟨B, 0, none⟩) _ (.inr (by rw [HB.out]; exact Nat.le_refl _)))
        case measure =>
          simp only [z1.out, z2.out, z3.out]
          have h3 := H3.out; have h4 := H4.out; have := HV0.out; have := HN0.out
          rw [meas_eq (by omega), meas_eq (by omega), h4]
          by_cases hi : i = 0
          · subst hi
            rw [Nat.add_zero] at h4 ⊢
            rw [h4]
            have b1 : (true != true).toNat = 0 := rfl
            have b2 : (false != true).toNat = 1 := rfl
            omega
          · have hb : (false != S pp).toNat ≤ 1 := by cases S pp <;> decide
            have hb2 : (true != true).toNat = 0 := rfl
            omega
    · obtain ⟨f1, f2, f3, f4, f5⟩ := HF.out rfl
      have HFZ := hid (fun wx (hx : Bruijn wx) => firstZero (W (idx f pp)) (off f pp) wx (HW.out.1 _ (idx_lt f pp)) ho2 hx)
      rcases HW.out.zero (p := pp) with ⟨h1, h2⟩ | ⟨i, h1, h2, h3, h4⟩
      · rw [decide_eq_false (by omega)] at HFZ
        have H2 := hid h2
        have z1 : Hid (wrap64 ((64 : Int) - (off f pp : Int)) = 64 - (off f pp : Int)) := by
          show wrap64 _ = _
          unfold wrap64; omega
        have z2 := hid (show ((64 : Int) - (off f pp : Int)) % 4294967296 = 64 - (off f pp : Int) by omega)
        have z3 := hid (show ((tsn f pp : Int) + (64 - (off f pp : Int))) % 4294967296 = ((tsn f (pp + (64 - off f pp)) : Nat) : Int) by unfold tsn; omega)
        have z3' : IntKind.u32.wrap ((tsn f pp : Int) + (64 - (off f pp : Int))) = ((tsn f (pp + (64 - off f pp)) : Nat) : Int) := by rw [IntKind.wrap_u32]; exact z3.out
        have HGT := hid (fun wx : World => sna32GT f (pp + (64 - off f pp)) v wx (by omega) (by omega))
        have HN0 := hid hN; have HPV := hid hpv; have HV0 := hid hv; have HUV := hid huv; have HS := hid hS; have HUP := hid hup; have HGL := hid hGl; have HB1 := hid hB1
        have HO2 := hid ho2; have HF1 := hid f1; have HF2 := hid f2; have HF3 := hid f3; have HF4 := hid f4; have HF5 := hid f5
        by_cases hlast : v < pp + (64 - off f pp)
        · rw [decide_eq_true hlast] at HGT
          have HLAST := hid hlast
          have y1 := hid (show ((tsn f v : Int) - (tsn f u : Int)) % 4294967296 = ((v - u : Nat) : Int) by unfold tsn; omega)
          have y1' : IntKind.u32.wrap ((tsn f v : Int) - (tsn f u : Int)) = ((v - u : Nat) : Int) := by rw [IntKind.wrap_u32]; exact y1.out
          have y2 : IntKind.u16.wrap ((v - u : Nat) : Int) = ((v - u : Nat) : Int) := by rw [wrap_u16']; omega
          obtain ⟨b1, b2, t1, ho1⟩ := BT.out
          go_wp2_with fail
          refine (HLE.out wr).mono ?_
          rintro e w2 ⟨rfl, rfl⟩
          go_wp2_with fail
          refine (HFZ.out w2 HTr.out).mono ?_
          rintro e w3 ⟨rfl, rfl⟩
          clear b1 b2 t1 hup m1 HLE hGl hN hpv hv huv hS hGs h1 hB1 HFZ h2 f1 f2 f3 f4 f5 hlast
          go_wp2_with fail
          refine (HGT.out w3).mono ?_
          rintro e w4 ⟨rfl, rfl⟩
          have hG1000 : G.length < 1000 := by have := HGL.out; have := HF2.out; have := HPV.out; have := HV0.out; have := HN0.out; simp at *; omega
          obtain ⟨g6, cap6, w6, hr6, ho6, hA6, hk6⟩ := gapAppend B G.length x y (v - u) Ag Cg G w4 rfl hG1000 HA.out HO.out
          have hFin : Hid (w6.ownsRow w.heap.size 151 2 (.slice (some ⟨g6, 0, none⟩) (G.length + 1) cap6) (G ++ [(x, v - u)]).length (g16 (G ++ [(x, v - u)])) ∧ Cov u (v + 1) S (G ++ [(x, v - u)]) ∧ (G ++ [(x, v - u)]).length ≤ v - u ∧ Kept [] w w6) := by
            have h5 := HF5.out; have h6 := H2.out; have hl := HLAST.out; have := HV0.out; have hgl := HGL.out; have h2 := HF2.out; have hpv := HPV.out
            simp only [if_true] at hgl
            refine hid ⟨?_, ?_, by simp; omega, ?_⟩
            · have ho7 := ho6
              refine ⟨by simpa using ho7.1, ?_⟩
              rcases ho7.2 with h | ⟨g', c', cur, e1, e2, e3⟩
              · exact absurd h.1 (by simp)
              · exact .inr ⟨g', c', cur, by simpa using e1, by rw [HB.out]; omega, by simpa using e3⟩
            · rw [HF3.out]
              exact Cov.add (by simpa using HC.out) HF1.out (by omega) (fun j h7 h8 => by
                rcases Nat.lt_or_ge j pp with h9 | h9
                · exact h5 j h7 h9
                · exact h6 j h9 (by omega) (by omega))
            · exact HK.out.thenNew hk6 (by intro r hr; right; rw [HB.out]; simp at hr; rcases hr with rfl | hr; exact Nat.le_refl _; have := own_ge HO.out hr; omega)
          clear ho6 hA6 hk6
          go_wp2_with (at_builtin; refine wpList_append_run rfl _ _ 143 rfl _ _ _ rfl rfl hr6 ?_)
          go_ret
          exact ⟨_, _, rfl, hFin.out⟩
        · rw [decide_eq_false hlast] at HGT
          have HLAST := hid hlast
          obtain ⟨b1, b2, t1, ho1⟩ := BT.out
          go_wp2_with fail
          refine (HLE.out wr).mono ?_
          rintro e w2 ⟨rfl, rfl⟩
          go_wp2_with fail
          refine (HFZ.out w2 HTr.out).mono ?_
          rintro e w3 ⟨rfl, rfl⟩
          clear b1 b2 t1 hup m1 HLE hGl hN hpv hv huv hS hGs h1 hB1 HFZ h2 f1 f2 f3 f4 f5 hlast
          go_wp2_with fail
          refine (HGT.out w3).mono ?_
          rintro e w4 ⟨rfl, rfl⟩
          go_wp2_with fail
          go_roundw
          case rel =>
            have h5 := HF5.out; have h6 := H2.out; have := HLAST.out; have := HV0.out
            refine ⟨pp + (64 - off f pp), a, x, y, true, G, by have := HUP.out; omega, by omega, rfl, rfl, HO, hid (fun _ => ⟨HF1.out, by have := HF2.out; omega, HF3.out, HF4.out, fun j h7 h8 => ?_⟩), hid HC.out, HGL.out, HA, HK⟩
            rcases Nat.lt_or_ge j pp with h9 | h9
            · exact h5 j h7 h9
            · exact h6 j h9 h8 (by omega)
          case measure =>
            have := HV0.out; have := HN0.out; have := HO2.out; have := HLAST.out
            rw [meas_eq (by omega), meas_eq (by omega)]
            have hb : (true != S (pp + (64 - off f pp))).toNat ≤ 1 := by cases S (pp + (64 - off f pp)) <;> decide
            omega
      · rw [h1, decide_eq_true h2] at HFZ
        have H3 := hid h3; have H4 := hid h4; have HB2 := hid h2
        have HF4 := hid f4; have HF5 := hid f5
        clear h3 h4 f4 f5
        have hpi : pp + i < 1000 := by omega
        have k1 : ((off f pp : Int) + (i : Int) - (off f pp : Int)) = (i : Int) := by omega
        have k0 : wrap64 ((off f pp : Int) + (i : Int) - (off f pp : Int)) = (i : Int) := by
          rw [k1]; unfold wrap64; omega
        have k2 : IntKind.u32.wrap (i : Int) = (i : Int) := by rw [IntKind.wrap_u32]; omega
        have hi1000 : i < 1000 := by omega
        have KW := hid (w64_id hi1000)
        have K3 := hid (tsn_add' (f := f) (pp := pp) (i := i))
        have K4 := hid (mod_id hi1000)
        clear hi1000
        have hq1 : u + 1 ≤ pp + i := Nat.le_trans hup (Nat.le_add_right pp i)
        have hq2 := hpi
        have K6 := hid (tsn_end (f := f) hq1 hq2)
        have K7 := hid (u16_id (n := pp + i - 1 - u) (Nat.lt_of_le_of_lt (Nat.le_trans (Nat.sub_le _ _) (Nat.sub_le _ _)) (Nat.lt_trans hq2 (by decide))))
        clear hq1 hq2
        have hip : 1 ≤ i ∨ a < pp := by
          rcases Nat.eq_zero_or_pos i with h0 | h0
          · right
            rcases Nat.lt_or_ge a pp with h | h
            · exact h
            · exfalso
              obtain rfl : a = pp := by omega
              subst h0
              have := H3.out (by omega)
              rw [Nat.add_zero, HF4.out] at this
              cases this
          · exact .inl h0
        have HIP := hid hip
        clear hip
        have k3 : IntKind.u32.wrap ((tsn f pp : Int) + (i : Int)) = ((tsn f (pp + i) : Nat) : Int) := by rw [IntKind.wrap_u32]; exact K3.out
        have hbig1 : pp + i < 2000000000 := Nat.lt_trans hpi (by decide)
        have hbig2 : v < 2000000000 := Nat.lt_trans (Nat.lt_of_le_of_lt hv hN) (by decide)
        have HGT := hid (fun wx : World => sna32GT f (pp + i) v wx hbig1 hbig2)
        have HLE2 := hid (fun wx : World => sna32LTE f (pp + i) v wx hbig1 hbig2)
        have HN0 := hid hN; have HPV := hid hpv; have HV0 := hid hv; have HUV := hid huv; have HS := hid hS; have HUP := hid hup; have HGL := hid hGl; have HB1 := hid hB1
        have HO2 := hid ho2; have HF1 := hid f1; have HF2 := hid f2; have HF3 := hid f3
        clear hpi hbig1 hbig2
        by_cases hlast : v < pp + i
        · rw [decide_eq_true hlast] at HGT
          rw [decide_eq_false (Nat.not_le.2 hlast)] at HLE2
          have HLAST := hid hlast
          have y1 := hid (show ((tsn f v : Int) - (tsn f u : Int)) % 4294967296 = ((v - u : Nat) : Int) by unfold tsn; omega)
          have y1' : IntKind.u32.wrap ((tsn f v : Int) - (tsn f u : Int)) = ((v - u : Nat) : Int) := by rw [IntKind.wrap_u32]; exact y1.out
          have hvu : v - u < 65536 := by omega
          have y2 : IntKind.u16.wrap ((v - u : Nat) : Int) = ((v - u : Nat) : Int) := u16_id hvu
          clear hvu
          obtain ⟨b1, b2, t1, ho1⟩ := BT.out
          go_wp2_with fail
          refine (HLE.out wr).mono ?_
          rintro e w2 ⟨rfl, rfl⟩
          go_wp2_with fail
          refine (HFZ.out w2 HTr.out).mono ?_
          rintro e w3 ⟨rfl, rfl⟩
          clear b1 b2 t1 hup m1 HLE hGl hN hpv hv huv hS hGs h1 hB1 HFZ h2 f1 f2 f3 hlast
          go_wp2_with fail
          simp only [KW.out, K3.out, K6.out, K7.out, K4.out]
          have hA4 : (w3.setCell ⟨B, 1, none⟩ (.int .u16 (pp + i - 1 - u : Nat))).heap[B]? = some (.cells #[.int .u16 (x : Nat), .int .u16 (pp + i - 1 - u : Nat)] 151 (0, 0)) := by rw [blk_setCell _ HA.out]; rfl
          have hkB : Kept [B] w3 (w3.setCell ⟨B, 1, none⟩ (.int .u16 (pp + i - 1 - u : Nat))) := (Kept.refl [B] w3).setCell _ (.inl (by simp))
          have hK4 : Kept [] w (w3.setCell ⟨B, 1, none⟩ (.int .u16 (pp + i - 1 - u : Nat))) := HK.out.setCell (p := ⟨B, 1, none⟩) _ (.inr (by rw [HB.out]; exact Nat.le_refl _))
          have hO4 := ownsRow_kept HO.out hkB (by intro g hg; have := own_ge HO.out (own_mem.2 hg); simp; omega)
          refine (HLE2.out _).mono ?_
          rintro e w4 ⟨rfl, hw4⟩
          rw [← hw4] at hA4 hkB hK4 hO4
          have hQ4 := H.out.kept hK4 (by simp) (by simp)
          have g0 : w4.cell? ⟨p, 0, none⟩ = some (.int .u32 (tsn f v : Nat)) := blk_cell hQ4.q rfl
          have g5 : w4.cell? ⟨p, 5, none⟩ = some (.int .u32 (tsn f u : Nat)) := blk_cell hQ4.q rfl
          have lp4 := blk_lt hQ4.q
          have lB4 := blk_lt hA4
          have q0 : w4.cell? ⟨B, 0, none⟩ = some (.int .u16 (x : Nat)) := blk_cell hA4 rfl
          have q1 : w4.cell? ⟨B, 1, none⟩ = some (.int .u16 (pp + i - 1 - u : Nat)) := blk_cell hA4 rfl
          have qf : w4.frozen? ⟨B, 1, none⟩ = false := blk_free hA4
          have HA4 := hid hA4; have HK4 := hid hK4; have HO4 := hid hO4
          clear hw4 hA4 hkB hK4 hO4 hQ4 a0 a1 af0 af1 d0 d2 d5
          go_wp2_with fail
          refine (HGT.out w4).mono ?_
          rintro e w5 ⟨rfl, rfl⟩
          have hG1000 : G.length < 1000 := by have := HGL.out; have := HF2.out; have := HPV.out; have := HV0.out; have := HN0.out; simp at *; omega
          obtain ⟨g6, cap6, w6, hr6, ho6, hA6, hk6⟩ := gapAppend B G.length x (pp + i - 1 - u) (v - u) Ag Cg G w5 rfl hG1000 HA4.out HO4.out
          have hFin : Hid (w6.ownsRow w.heap.size 151 2 (.slice (some ⟨g6, 0, none⟩) (G.length + 1) cap6) (G ++ [(x, v - u)]).length (g16 (G ++ [(x, v - u)])) ∧ Cov u (v + 1) S (G ++ [(x, v - u)]) ∧ (G ++ [(x, v - u)]).length ≤ v - u ∧ Kept [] w w6) := by
            have h5 := HF5.out; have h6 := H4.out; have hl := HLAST.out; have := HV0.out; have hgl := HGL.out; have h2 := HF2.out; have hpv := HPV.out
            simp only [if_true] at hgl
            refine hid ⟨?_, ?_, by simp; omega, ?_⟩
            · have ho7 := ho6
              refine ⟨by simpa using ho7.1, ?_⟩
              rcases ho7.2 with h | ⟨g', c', cur, e1, e2, e3⟩
              · exact absurd h.1 (by simp)
              · exact .inr ⟨g', c', cur, by simpa using e1, by rw [HB.out]; omega, by simpa using e3⟩
            · rw [HF3.out]
              exact Cov.add (by simpa using HC.out) HF1.out (Nat.le_trans h2 hpv) (fun j h7 h8 => by
                rcases Nat.lt_or_ge j pp with h9 | h9
                · exact h5 j h7 h9
                · exact h6 j h9 (Nat.lt_of_le_of_lt h8 hl) (by omega))
            · exact HK4.out.thenNew hk6 (by intro r hr; right; rw [HB.out]; simp at hr; rcases hr with rfl | hr; exact Nat.le_refl _; have := own_ge HO4.out hr; omega)
          clear ho6 hA6 hk6 hG1000
          go_wp2_with (at_builtin; refine wpList_append_run rfl _ _ 143 rfl _ _ _ rfl rfl hr6 ?_)
          go_ret
          exact ⟨_, _, rfl, hFin.out⟩
        · rw [decide_eq_false hlast] at HGT
          rw [decide_eq_true (Nat.le_of_not_lt hlast)] at HLE2
          have HLAST := hid hlast
          obtain ⟨b1, b2, t1, ho1⟩ := BT.out
          go_wp2_with fail
          refine (HLE.out wr).mono ?_
          rintro e w2 ⟨rfl, rfl⟩
          go_wp2_with fail
          refine (HFZ.out w2 HTr.out).mono ?_
          rintro e w3 ⟨rfl, rfl⟩
          clear b1 b2 t1 hup m1 HLE hGl hN hpv hv huv hS hGs h1 hB1 HFZ h2 f1 f2 f3 hlast
          go_wp2_with fail
          simp only [KW.out, K3.out, K6.out, K7.out, K4.out]
          have hG1000 : G.length < 1000 := by have := HGL.out; have := HF2.out; have := HPV.out; have := HV0.out; have := HN0.out; simp at *; omega
          obtain ⟨g6, cap6, w6, hr6, ho6, hA6, hk6⟩ := gapAppend B G.length x y (pp + i - 1 - u) Ag Cg G w3 rfl hG1000 HA.out HO.out
          have hK6 : Kept [] w w6 := HK.out.thenNew hk6 (by intro r hr; right; rw [HB.out]; simp at hr; rcases hr with rfl | hr; exact Nat.le_refl _; have := own_ge HO.out hr; omega)
          have hFin : Hid (w6.ownsRow (B + 1) 151 2 (.slice (some ⟨g6, 0, none⟩) (G.length + 1) cap6) (G ++ [(x, pp + i - 1 - u)]).length (g16 (G ++ [(x, pp + i - 1 - u)])) ∧ Cov u (pp + i) S (G ++ [(x, pp + i - 1 - u)]) ∧ (G ++ [(x, pp + i - 1 - u)]).length + 1 + u ≤ pp + i) := by
            have h5 := HF5.out; have h6 := H4.out; have hip := HIP.out; have hgl := HGL.out; have h2 := HF2.out; have := HLAST.out; have := HV0.out
            simp only [if_true] at hgl
            have hle : a ≤ pp + i - 1 := by omega
            have hpos : 1 ≤ pp + i := by omega
            refine hid ⟨by simpa using ho6, ?_, by simp; omega⟩
            rw [HF3.out]
            have hc := Cov.add (e := pp + i - 1) (by simpa using HC.out) HF1.out hle (fun j h7 h8 => by
              rcases Nat.lt_or_ge j pp with h9 | h9
              · exact h5 j h7 h9
              · exact h6 j h9 (by omega) (by omega))
            rwa [show pp + i - 1 + 1 = pp + i by omega] at hc
          have HK6' := hid hK6; have HA6 := hid hA6
          clear ho6 hA6 hk6 hK6 hG1000
          refine (HLE2.out _).mono ?_
          rintro e w4 ⟨rfl, rfl⟩
          go_wp2_with (at_builtin; refine wpList_append_run rfl _ _ 143 rfl _ _ _ rfl rfl hr6 ?_)
          refine (HGT.out _).mono ?_
          rintro e w5 ⟨rfl, rfl⟩
          clear hr6 a0 a1 af0 af1 d0 d2 d5
          go_wp2_with fail
          go_roundw
          case rel =>
            exact ⟨pp + i, a, x, pp + i - 1 - u, false, G ++ [(x, pp + i - 1 - u)], by have := HUP.out; omega, Nat.le_of_not_lt HLAST.out, rfl, rfl, hid hFin.out.1, hid (fun h => by cases h), hid (by simpa using hFin.out.2.1), by simpa using hFin.out.2.2, HA6, HK6'⟩
          case measure =>
            have h3 := H3.out; have := HV0.out; have := HN0.out; have hl := HLAST.out
            have hs := h3 (by omega)
            rw [meas_eq (by omega), meas_eq (by omega), hs]
            have b0 : (false != false).toNat = 0 := rfl
            by_cases hi : i = 0
            · subst hi
              rw [Nat.add_zero] at hs
              rw [hs]
              have b1 : (true != false).toNat = 1 := rfl
              omega
            · omega
end Go.Proofs.Base
