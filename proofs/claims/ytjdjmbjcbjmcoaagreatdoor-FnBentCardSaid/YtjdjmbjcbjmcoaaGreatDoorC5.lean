/- A part of the proof, step C5: what the code and the plain laws of this step give. Made by AI agents; no person has read it. -/
import Derived.Test.YtjdjmbjcbjmcoaaGreatDoorC4
namespace Go.Proofs.Base
open Go Go.Proofs Go.RowKit
theorem u32_and_255' (a : Int) (n : Nat) (h : a = n) (ha : n < 4294967296) : bits .and .u32 a 255 = ((n % 256 : Nat) : Int) := by rw [h]; exact u32_and_255 n ha
/-- What slicing by eight holds of the bytes that it has passed: c has run over them. -/
theorem fold_eight (c : Nat) (l : List Nat) (h : 8 ≤ l.length) : Crc.fold c (l.take 8) = Crc.bs (Crc.bs (Crc.bs (Crc.bs (Crc.bs (Crc.bs (Crc.bs (Crc.bs c (bt l 0)) (bt l 1)) (bt l 2)) (bt l 3)) (bt l 4)) (bt l 5)) (bt l 6)) (bt l 7) := by
  match l, h with
  | a0 :: a1 :: a2 :: a3 :: a4 :: a5 :: a6 :: a7 :: r, _ => rfl
theorem fold_split (c : Nat) (l : List Nat) (k : Nat) : Crc.fold c l = Crc.fold (Crc.fold c (l.take k)) (l.drop k) := by
  rw [← Crc.fold_append, List.take_append_drop]

theorem xor_step (a b : Nat) (ha : a < 4294967296) (hb : b < 4294967296) : ∃ z : Nat, z < 4294967296 ∧ Hid (z = a ^^^ b) ∧ bits .xor .u32 (a : Int) (b : Int) = (z : Int) :=
  ⟨a ^^^ b, Nat.xor_lt_two_pow (n := 32) ha hb, rfl, u32_xor_nat a b ha hb⟩
theorem tab_cell {w : World} {T : Nat} {cs : Array Value} (hT : w.heap[T]? = some (.cells cs 158 (0, 0))) (ht : Tab cs 256 0) (r i : Nat) (hr : r < 8) (hi : i < 256) :
    ∃ y : Nat, y < 4294967296 ∧ Hid (y = Crc.t r i) ∧ w.cell? ⟨T, 256 * r + i, none⟩ = some (.int .u32 y) :=
  ⟨_, Crc.t_lt r i (by omega), rfl, blk_cell hT (ht.2.2.1 r hr i hi)⟩
set_option maxRecDepth 100000 in
set_option maxHeartbeats 8000000 in
theorem slicingUpdate (c T b off len cap : Nat) (l : List Nat) (cs : Array Value) (w : World) (hc : c < 4294967296) (hT : w.heap[T]? = some (.cells cs 158 (0, 0))) (htab : Tab cs 256 0) (hl : BytesAt w b off l) (hlen : l.length = len) (hm : len ≤ 9223372036854775807) (hcap : len ≤ cap) (_hcm : cap ≤ 9223372036854775807) :
    Calls Tryz.prog 41 #[.int .u32 c, .pointer (some ⟨T, 0, none⟩), .slice (some ⟨b, off, none⟩) len cap] w fun r w' => r = .returned (.int .u32 (Crc.upd c l)) ∧ ∃ n, w' = w.drewN n := by
  have HL := hid hlen; clear hlen
  have HT := hid hT; clear hT
  have hi := u32_inv c hc
  by_cases h16 : 16 ≤ len
  · have h16' : (16 : Int) ≤ (len : Int) := by omega
    go_enter Tryz.func41, Tryz.ntmps41
    go_wp2_with fail
    clear hi
    go_loopw [0, 2] (fun v p wr => ∃ k : Nat, k ≤ len ∧ 1 ≤ len - k ∧ p = .slice (some ⟨b, off + k, none⟩) (len - k) (cap - k) ∧ v = .int .u32 (Crc.fold (Crc.inv c) (l.take k)) ∧ ∃ n, wr = w.drewN n)
      (fun _ p _ => match p with | .slice _ n _ => n | _ => 0)
    case atStart => exact ⟨0, by omega, by omega, rfl, by simp [Crc.fold], 0, rfl⟩
    case round =>
      obtain ⟨k, hk, hk1, rfl, rfl, nr, rfl⟩ := hrel
      have HW : Hid (∃ n, w.drewN nr = w.drewN n) := hid ⟨nr, rfl⟩
      have hlr : BytesAt (w.drewN nr) b off l := hl.kept ((Kept.refl [] w).drewN nr) (by simp)
      have HTr : Hid ((w.drewN nr).heap[T]? = some (.cells cs 158 (0, 0))) := HT
      generalize w.drewN nr = wr at *
      clear hl HT
      have hf := fold_take_lt (Crc.inv c) k l (Crc.inv_lt c) hlr.small
      by_cases hlt : 8 < len - k
      · have c0 := hlr.cell k (by rw [HL.out]; omega)
        have c1 := hlr.cell (k + 1) (by rw [HL.out]; omega)
        have c2 := hlr.cell (k + 2) (by rw [HL.out]; omega)
        have c3 := hlr.cell (k + 3) (by rw [HL.out]; omega)
        have c4 := hlr.cell (k + 4) (by rw [HL.out]; omega)
        have c5 := hlr.cell (k + 5) (by rw [HL.out]; omega)
        have c6 := hlr.cell (k + 6) (by rw [HL.out]; omega)
        have c7 := hlr.cell (k + 7) (by rw [HL.out]; omega)
        rw [← Nat.add_assoc] at c1 c2 c3 c4 c5 c6 c7
        have b0 := hlr.blt k
        have b1 := hlr.blt (k + 1)
        have b2 := hlr.blt (k + 2)
        have b3 := hlr.blt (k + 3)
        have b4 := hlr.blt (k + 4)
        have b5 := hlr.blt (k + 5)
        have b6 := hlr.blt (k + 6)
        have b7 := hlr.blt (k + 7)
        have HF : Hid (Crc.fold (Crc.inv c) (l.take (k + 8)) = Crc.bs (Crc.bs (Crc.bs (Crc.bs (Crc.bs (Crc.bs (Crc.bs (Crc.bs (Crc.fold (Crc.inv c) (l.take k)) (bt l k)) (bt l (k + 1))) (bt l (k + 2))) (bt l (k + 3))) (bt l (k + 4))) (bt l (k + 5))) (bt l (k + 6))) (bt l (k + 7))) := by
          have h := HL.out
          rw [fold_snoc _ (by omega : k + 7 < l.length), fold_snoc _ (by omega : k + 6 < l.length), fold_snoc _ (by omega : k + 5 < l.length), fold_snoc _ (by omega : k + 4 < l.length), fold_snoc _ (by omega : k + 3 < l.length), fold_snoc _ (by omega : k + 2 < l.length), fold_snoc _ (by omega : k + 1 < l.length), fold_snoc _ (by omega : k < l.length)]
          rfl
        generalize bt l k = x0 at *
        generalize bt l (k + 1) = x1 at *
        generalize bt l (k + 2) = x2 at *
        generalize bt l (k + 3) = x3 at *
        generalize bt l (k + 4) = x4 at *
        generalize bt l (k + 5) = x5 at *
        generalize bt l (k + 6) = x6 at *
        generalize bt l (k + 7) = x7 at *
        generalize hf0 : Crc.fold (Crc.inv c) (l.take k) = f at *
        clear hf0
        have Hx := hid (le4_xor x0 x1 x2 x3 b0 b1 b2)
        have hle := le4_lt x0 x1 x2 x3 b0 b1 b2 b3
        have hcall := leUint32 b (off + k) (len - k) (cap - k) x0 x1 x2 x3 wr (by omega) (by omega) b0 b1 b2 b3 c0 c1 c2 c3
        generalize le4 x0 x1 x2 x3 = le at *
        obtain ⟨c1', hc1', Hc1, ec1⟩ := xor_step f le hf hle
        have lk : (8 : Int) < ((len - k : Nat) : Int) := by omega
        have Hcall := hid hcall
        clear hcall c0 c1 c2 c3
        go_wp2_with fail
        refine Hcall.out.mono ?_
        rintro e w2 ⟨rfl, n2, rfl⟩
        have HW2 : Hid (∃ n, wr.drewN n2 = w.drewN n) := by obtain ⟨n, hn⟩ := HW.out; exact ⟨n + n2, by rw [hn, World.drewN_drewN]⟩
        have d4 : (wr.drewN n2).cell? ⟨b, off + k + 4, none⟩ = _ := c4
        have d5 : (wr.drewN n2).cell? ⟨b, off + k + 5, none⟩ = _ := c5
        have d6 : (wr.drewN n2).cell? ⟨b, off + k + 6, none⟩ = _ := c6
        have d7 : (wr.drewN n2).cell? ⟨b, off + k + 7, none⟩ = _ := c7
        have hT2 : (wr.drewN n2).heap[T]? = some (.cells cs 158 (0, 0)) := HTr.out
        generalize wr.drewN n2 = w2 at *
        clear c4 c5 c6 c7 HW hlr
        obtain ⟨y0, hy0, Y0, q0⟩ := tab_cell hT2 htab 0 x7 (by omega) b7
        obtain ⟨y1, hy1, Y1, q1⟩ := tab_cell hT2 htab 1 x6 (by omega) b6
        obtain ⟨y2, hy2, Y2, q2⟩ := tab_cell hT2 htab 2 x5 (by omega) b5
        obtain ⟨y3, hy3, Y3, q3⟩ := tab_cell hT2 htab 3 x4 (by omega) b4
        obtain ⟨y4, hy4, Y4, q4⟩ := tab_cell hT2 htab 4 (c1' / 16777216) (by omega) (by omega)
        obtain ⟨y5, hy5, Y5, q5⟩ := tab_cell hT2 htab 5 (c1' / 65536 % 256) (by omega) (by omega)
        obtain ⟨y6, hy6, Y6, q6⟩ := tab_cell hT2 htab 6 (c1' / 256 % 256) (by omega) (by omega)
        obtain ⟨y7, hy7, Y7, q7⟩ := tab_cell hT2 htab 7 (c1' % 256) (by omega) (by omega)
        obtain ⟨z1, hz1, Z1, ez1⟩ := xor_step y0 y1 hy0 hy1
        obtain ⟨z2, hz2, Z2, ez2⟩ := xor_step z1 y2 hz1 hy2
        obtain ⟨z3, hz3, Z3, ez3⟩ := xor_step z2 y3 hz2 hy3
        obtain ⟨z4, hz4, Z4, ez4⟩ := xor_step z3 y4 hz3 hy4
        obtain ⟨z5, hz5, Z5, ez5⟩ := xor_step z4 y5 hz4 hy5
        obtain ⟨z6, hz6, Z6, ez6⟩ := xor_step z5 y6 hz5 hy6
        obtain ⟨z7, hz7, Z7, ez7⟩ := xor_step z6 y7 hz6 hy7
        have a5 := u32_and_255' ((c1' : Int) / 65536) (c1' / 65536) (by omega) (by omega)
        have a6 := u32_and_255' ((c1' : Int) / 256) (c1' / 256) (by omega) (by omega)
        have a7 := u32_and_255' (c1' : Int) c1' rfl hc1'
        have i4 : (c1' : Int) / 16777216 < 256 := by omega
        have l4 : (4 : Int) < ((len - k : Nat) : Int) := by omega
        have l5 : (5 : Int) < ((len - k : Nat) : Int) := by omega
        have l6 : (6 : Int) < ((len - k : Nat) : Int) := by omega
        have l7 : (7 : Int) < ((len - k : Nat) : Int) := by omega
        have g7 : (x7 : Int) < 256 := by omega
        have g6 : (x6 : Int) < 256 := by omega
        have g5 : (x5 : Int) < 256 := by omega
        have g4 : (x4 : Int) < 256 := by omega
        have kc : ¬ cap - k = 8 := by omega
        have kc2 : (8 : Int) ≤ ((cap - k : Nat) : Int) := by omega
        simp only [Nat.mul_zero, Nat.zero_add, Nat.mul_one, Nat.reduceMul] at q0 q1 q2 q3 q4 q5 q6 q7
        clear hT2
        go_wp2_with fail
        go_quiet (fail)
        go_wp2_with fail
        go_roundw
        case rel =>
          obtain ⟨n5, hn5⟩ := HW2.out
          refine ⟨k + 8, by omega, by omega, ?_, ?_, n5 + nq, by rw [hn5, World.drewN_drewN]⟩
          · rw [show off + k + 8 = off + (k + 8) by omega, show len - k - 8 = len - (k + 8) by omega, show cap - k - 8 = cap - (k + 8) by omega]
          · rw [HF.out, ← Crc.slice8 f x0 x1 x2 x3 x4 x5 x6 x7, Hx.out, ← Hc1.out, ← Crc.t7 c1']
            rw [Z7.out, Z6.out, Z5.out, Z4.out, Z3.out, Z2.out, Z1.out, Y0.out, Y1.out, Y2.out, Y3.out, Y4.out, Y5.out, Y6.out, Y7.out]
            congr 2
            generalize Crc.t 0 x7 = a0
            generalize Crc.t 1 x6 = a1
            generalize Crc.t 2 x5 = a2
            generalize Crc.t 3 x4 = a3
            generalize Crc.t 4 (c1' / 16777216) = a4
            generalize Crc.t 5 (c1' / 65536 % 256) = a5
            generalize Crc.t 6 (c1' / 256 % 256) = a6
            generalize Crc.t 7 (c1' % 256) = a7
            ac_rfl
        case measure => simp; omega
      · generalize hf0 : Crc.fold (Crc.inv c) (l.take k) = f at *
        have Hf0 := hid hf0; clear hf0
        have hi3 := u32_inv f hf
        have hf' := Crc.inv_lt f
        have l8 : ¬ (8 : Int) < ((len - k : Nat) : Int) := by omega
        have l0 : (((len - k : Nat) : Int) == 0) = false := by simp; omega
        have Hcall := hid (simpleUpdate (Crc.inv f) T b (off + k) (len - k) (cap - k) (l.drop k) wr (Crc.inv_lt _) (fun i hi => by simpa using blk_cell HTr.out (htab.2.1 i hi)) (hlr.drop k) (by simp [HL.out]) (by omega))
        go_wp2_with fail
        refine Hcall.out.mono ?_
        rintro e w2 ⟨rfl, rfl⟩
        go_wp2_with fail
        go_ret
        refine ⟨?_, HW.out⟩
        have e1 : Crc.upd (Crc.inv f) (l.drop k) = Crc.upd c l := by
          unfold Crc.upd
          rw [Crc.inv_inv f hf, ← Hf0.out, ← fold_split]
        exact congrArg (fun z : Nat => Ending.returned (.int .u32 z)) e1
  · have h16' : ¬ (16 : Int) ≤ (len : Int) := by omega
    clear hi
    by_cases h0 : len = 0
    · have l0 : ((len : Int) == 0) = true := by simp [h0]
      go_enter Tryz.func41, Tryz.ntmps41
      go_wp2_with fail
      go_ret
      have hl0 : l = [] := List.eq_nil_of_length_eq_zero (by rw [HL.out]; exact h0)
      refine ⟨?_, 0, rfl⟩
      have e1 : c = Crc.upd c l := by rw [hl0, Crc.upd_nil c hc]
      exact congrArg (fun z : Nat => Ending.returned (.int .u32 z)) e1
    · have l0 : ((len : Int) == 0) = false := by simp; omega
      have Hcall := hid (simpleUpdate c T b off len cap l w hc (fun i hi => by simpa using blk_cell HT.out (htab.2.1 i hi)) hl HL.out hm)
      go_enter Tryz.func41, Tryz.ntmps41
      go_wp2_with fail
      refine Hcall.out.mono ?_
      rintro e w2 ⟨rfl, rfl⟩
      go_wp2_with fail
      go_ret
      exact ⟨rfl, 0, rfl⟩
end Go.Proofs.Base
