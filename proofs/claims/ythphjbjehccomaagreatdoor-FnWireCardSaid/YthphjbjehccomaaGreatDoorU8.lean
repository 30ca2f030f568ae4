/- Parts of the proof, steps U6, U7, U8: what the code and the plain laws of these steps give. Made by AI agents; no person has read it. -/
import Derived.Test.YthphjbjehccomaaGreatDoorU5
import Derived.Test.YthphjbjehccomaaGreatDoorT13
import Derived.Test.YthphjbjehccomaaGreatDoorT22
section
namespace Go.Proofs.Base
open Go Go.Proofs Go.RowKit Go.Proofs.Gaps
set_option maxRecDepth 100000
/-- A set of chunks in memory: its number, its protocol, its chunks L (chunk j at B j). -/
structure SetAt (w : World) (base sb ssn ppi : Nat) (vc : Value) (B : Nat → Nat) (L : List Nat) : Prop where
  cells : w.heap[sb]? = some (.cells #[.int .u16 ssn, .int .u32 ppi, vc] 130 (0, 0))
  row : w.ownsRow base 83 1 vc L.length (ptrs B L)
/-- A chunk in memory. -/
structure ChAt (w : World) (p : Nat) (d : Pd) (g n c : Nat) : Prop where
  pay : PayAt w p 0 0 (.slice none 0 0) d (.slice (some ⟨g, 0, none⟩) n c)
theorem ChAt.kept {w w' : World} {p : Nat} {d : Pd} {g n c : Nat} (h : ChAt w p d g n c) {S : List Nat} (k : Kept S w w') (hp : p ∉ S) : ChAt w' p d g n c := ⟨(k.block p (blk_lt h.pay) hp).trans h.pay⟩
theorem SetAt.kept {w w' : World} {base sb ssn ppi : Nat} {vc : Value} {B : Nat → Nat} {L : List Nat} (h : SetAt w base sb ssn ppi vc B L) {S : List Nat} (k : Kept S w w') (hp : sb ∉ S) (hv : ∀ g, vc.ownBlock = some g → g ∉ S) : SetAt w' base sb ssn ppi vc B L :=
  ⟨(k.block sb (blk_lt h.cells) hp).trans h.cells, ownsRow_kept h.row k hv⟩
/-- A set is whole. -/
def FullSet (D : Nat → Pd) (L : List Nat) : Prop := (D (L.headD 0)).bg = true ∧ (D (L.getLastD 0)).en = true ∧ ∀ i, i + 1 < L.length → L.getD (i + 1) 0 = L.getD i 0 + 1
def SaysIf (e : Ending) (p : Prop) : Prop := ∃ c : Bool, e = .returned (.bool c) ∧ (p → c = true)
set_option maxHeartbeats 4000000 in
theorem isComplete (base sb ssn ppi f : Nat) (vc : Value) (B G N C : Nat → Nat) (D : Nat → Pd) (L : List Nat) (w : World) (hs : SetAt w base sb ssn ppi vc B L) (hn : 1 ≤ L.length) (hm : L.length ≤ 60) (hc : ∀ j ∈ L, ChAt w (B j) (D j) (G j) (N j) (C j) ∧ (D j).tsn = tsn f j) (hj64 : ∀ j ∈ L, j < 63) :
    Calls Tryz.prog 46 #[.pointer (some ⟨sb, 0, none⟩)] w fun e w' => SaysIf e (FullSet D L) ∧ Kept [] w w' := by
  obtain ⟨g, c, rfl, hc1, hc2⟩ := own_some hs.row (by omega)
  have u2 : w.cell? ⟨sb, 2, none⟩ = some (.slice (some ⟨g, 0, none⟩) L.length c) := blk_cell hs.cells rfl
  have lsb := blk_lt hs.cells
  have hcell : ∀ i (h : i < L.length), w.cell? ⟨g, i, none⟩ = some (.pointer (some ⟨B L[i], 0, none⟩)) := fun i h => by
    have := hs.row.cells (g := g) rfl i (.pointer (some ⟨B L[i], 0, none⟩)) (by simp [ptrs, h])
    rwa [addr_add, Nat.zero_add] at this
  have hpay : ∀ i (h : i < L.length), PayAt w (B L[i]) 0 0 (.slice none 0 0) (D L[i]) (.slice (some ⟨G L[i], 0, none⟩) (N L[i]) (C L[i])) ∧ (D L[i]).tsn = tsn f L[i] := fun i h => ⟨(hc _ (List.getElem_mem h)).1.pay, (hc _ (List.getElem_mem h)).2⟩
  have lg := (hs.row.lt g rfl).2
  have h0 : L.headD 0 = L[0] := by cases L with
    | nil => simp at hn
    | cons a r => rfl
  have hl : L.getLastD 0 = L[L.length - 1] := by
    rw [List.getLastD_eq_getLast?, List.getLast?_eq_getElem?, List.getElem?_eq_getElem (by omega)]; rfl
  have r0 := hcell 0 (by omega)
  have rl := hcell (L.length - 1) (by omega)
  have p0 := (hpay 0 (by omega)).1
  have pl := (hpay (L.length - 1) (by omega)).1
  have b0 : w.cell? ⟨B L[0], 5, none⟩ = some (.bool (D L[0]).bg) := blk_cell p0 rfl
  have bl : w.cell? ⟨B L[L.length - 1], 6, none⟩ = some (.bool (D L[L.length - 1]).en) := blk_cell pl rfl
  have lb0 := blk_lt p0
  have lbl := blk_lt pl
  have hfull : FullSet D L → (D L[0]).bg = true ∧ (D L[L.length - 1]).en = true ∧ ∀ i, i + 1 < L.length → L.getD (i + 1) 0 = L.getD i 0 + 1 := fun h => by
    obtain ⟨a1, a2, a3⟩ := h
    rw [h0] at a1; rw [hl] at a2
    exact ⟨a1, a2, a3⟩
  have HS := hid hs; have HC := hid hcell; have HP := hid hpay
  clear hs hc hcell hpay h0 hl p0 pl
  generalize hFS : FullSet D L = FS at *
  clear hFS
  have e1 : (L.length : Int) - 1 = ((L.length - 1 : Nat) : Int) := by omega
  have e2 : ((L.length - 1 : Nat) : Int) < (L.length : Int) := by omega
  have e3 : (0 : Int) ≤ ((L.length - 1 : Nat) : Int) := by omega
  have e4 : ¬ L.length = 0 := by omega
  have e5 : (0 : Int) < (L.length : Int) := by omega
  have e6 : ¬ (L.length : Int) = 0 := by omega
  generalize (D L[0]).bg = bg at *
  generalize (D L[L.length - 1]).en = en at *
  generalize L[0] = x0 at *
  generalize L[L.length - 1] = xl at *
  have HF := hid hfull; clear hfull
  cases bg
  · go_enter Tryz.func46, Tryz.ntmps46
    go_wp2_with fail
    go_ret
    exact ⟨⟨false, rfl, fun h => absurd (HF.out h).1 (by decide)⟩, Kept.refl [] w⟩
  · cases en
    · go_enter Tryz.func46, Tryz.ntmps46
      go_wp2_with fail
      go_ret
      exact ⟨⟨false, rfl, fun h => absurd (HF.out h).2.1 (by decide)⟩, Kept.refl [] w⟩
    · go_enter Tryz.func46, Tryz.ntmps46
      go_wp2_with fail
      clear r0 rl b0 bl lb0 lbl e1 e2 e3
      go_loopw [4, 41] (fun s4 s41 wx => ∃ (k t : Nat), k ≤ L.length ∧ s41 = .int .i64 k ∧ s4 = .int .u32 (t : Nat) ∧ Hid (∀ h : 0 < k, ∃ h2 : k - 1 < L.length, t = tsn f (L[k - 1]'h2)) ∧ Hid (Kept [] w wx)) (fun _ s41 _ => L.length - (intOf s41).toNat)
      case atStart => exact ⟨0, 0, by omega, rfl, rfl, hid (fun h => by omega), hid (Kept.refl [] w)⟩
      case round =>
        obtain ⟨k, t, hk, rfl, rfl, HTk, HK⟩ := hrel
        by_cases hlt : k < L.length
        · have hlt' : (k : Int) < (L.length : Int) := by omega
          have h0' : (0 : Int) ≤ (k : Int) := by omega
          have ck := (HK.out.cell (p := ⟨g, k, none⟩) lg (by simp)).trans (HC.out k hlt)
          obtain ⟨hp, ht⟩ := HP.out k hlt
          have hp' := (HK.out.block _ (blk_lt hp) (by simp)).trans hp
          have c8 : wr.cell? ⟨B L[k], 8, none⟩ = some (.int .u32 (tsn f L[k] : Nat)) := by rw [← ht]; exact blk_cell hp' rfl
          have lb := blk_lt hp'
          have lgr := Nat.lt_of_lt_of_le lg HK.out.size
          have HT := hid ht
          clear hp hp' ht
          have hj : L[k] < 63 := hj64 _ (List.getElem_mem hlt)
          rcases Nat.eq_zero_or_pos k with rfl | hk0
          · go_wp2_with fail
            go_roundw
            case rel => exact ⟨1, tsn f L[0], by omega, by go_num, rfl, hid (fun _ => ⟨by omega, rfl⟩), HK⟩
            case measure => simp [intOf]; omega
          · obtain ⟨h2, rfl⟩ := HTk.out hk0
            have hk0' : (0 : Int) < (k : Int) := by omega
            have hj2 : L[k - 1] < 63 := hj64 _ (List.getElem_mem h2)
            have hw : IntKind.u32.wrap ((tsn f L[k - 1] : Int) + 1) = ((tsn f (L[k - 1] + 1) : Nat) : Int) := by rw [IntKind.wrap_u32]; unfold tsn; omega
            have hq : ((tsn f L[k - 1] : Int) + 1) % 4294967296 = ((tsn f (L[k - 1] + 1) : Nat) : Int) := by unfold tsn; omega
            by_cases hnx : L[k] = L[k - 1] + 1
            · have hy : tsn f L[k] = tsn f (L[k - 1] + 1) := by rw [hnx]
              rw [hy] at c8
              have HY := hid hy
              clear hnx hy
              generalize tsn f (L[k - 1] + 1) = y at *
              generalize tsn f L[k - 1] = ta at *
              go_wp2_with fail
              go_roundw
              case rel => exact ⟨k + 1, y, by omega, by go_num, rfl, hid (fun _ => ⟨hlt, HY.out.symm⟩), HK⟩
              case measure => simp [intOf]; omega
            · have hne : tsn f L[k] ≠ tsn f (L[k - 1] + 1) := fun h => hnx (tsn_inj (by omega) (by omega) h)
              have HNX := hid hnx
              generalize tsn f L[k] = z at *
              generalize tsn f (L[k - 1] + 1) = y at *
              generalize tsn f L[k - 1] = ta at *
              have hne' : ¬ (z : Int) = (y : Int) := by omega
              clear hnx hne
              go_wp2_with fail
              go_ret
              refine ⟨⟨false, rfl, fun hall => ?_⟩, HK.out⟩
              have h3 := (HF.out hall).2.2 (k - 1) (by omega)
              rw [Nat.sub_add_cancel hk0, List.getD_eq_getElem?_getD, List.getD_eq_getElem?_getD, List.getElem?_eq_getElem hlt, List.getElem?_eq_getElem h2] at h3
              exact absurd h3 HNX.out
        · have hlt' : ¬ (k : Int) < (L.length : Int) := by omega
          go_wp2_with fail
          go_ret
          exact ⟨⟨true, rfl, fun _ => rfl⟩, HK.out⟩
end Go.Proofs.Base
end
section
namespace Go.Proofs.Base
open Go Go.Proofs Go.RowKit Go.Proofs.Gaps
set_option maxRecDepth 100000
set_option maxHeartbeats 1000000 in
theorem isFragmented (p g n c : Nat) (d : Pd) (w : World) (h : ChAt w p d g n c) : Calls Tryz.prog 71 #[.pointer (some ⟨p, 0, none⟩)] w fun e w' => e = .returned (.bool (!(d.bg && d.en))) ∧ w' = w := by
  have c5 : w.cell? ⟨p, 5, none⟩ = some (.bool d.bg) := blk_cell h.pay rfl
  have c6 : w.cell? ⟨p, 6, none⟩ = some (.bool d.en) := blk_cell h.pay rfl
  have c22 : w.cell? ⟨p, 22, none⟩ = some (.pointer none) := blk_cell h.pay rfl
  have lp := blk_lt h.pay
  clear h
  generalize d.bg = bg at *
  generalize d.en = en at *
  cases bg <;> cases en <;>
  · go_enter Tryz.func71, Tryz.ntmps71
    go_wp2_with fail
    go_ret
    exact ⟨rfl, rfl⟩
set_option maxHeartbeats 1000000 in
theorem isIData (p g n c : Nat) (d : Pd) (w : World) (h : ChAt w p d g n c) : Calls Tryz.prog 62 #[.pointer (some ⟨p, 0, none⟩)] w fun e w' => e = .returned (.bool false) ∧ w' = w := by
  have c15 : w.cell? ⟨p, 15, none⟩ = some (.bool false) := blk_cell h.pay rfl
  have c0 : w.cell? ⟨p, 0, none⟩ = some (.int .u8 ((0 : Nat) : Int)) := blk_cell h.pay rfl
  have lp := blk_lt h.pay
  simp only [Int.natCast_zero] at c0
  clear h
  go_enter Tryz.func62, Tryz.ntmps62
  go_wp2_with fail
  go_ret
  exact ⟨rfl, rfl⟩
set_option maxHeartbeats 1000000 in
theorem hasDataLimit (q : Nat) (w : World) (h : w.cell? ⟨q, 12, none⟩ = some (.int .u32 0)) : Calls Tryz.prog 64 #[.pointer (some ⟨q, 0, none⟩)] w fun e w' => e = .returned (.bool false) ∧ w' = w := by
  have lq := World.block_lt_of_cell? w _ h
  go_enter Tryz.func64, Tryz.ntmps64
  go_wp2_with fail
  go_ret
  exact ⟨rfl, rfl⟩
set_option maxHeartbeats 1000000 in
theorem newChunkSet (ssn ppi : Nat) (w : World) : Calls Tryz.prog 74 #[.int .u16 ssn, .int .u32 ppi] w fun e w' => e = .returned (.pointer (some ⟨w.heap.size + 1, 0, none⟩)) ∧
    w'.heap[w.heap.size + 1]? = some (.cells #[.int .u16 ssn, .int .u32 ppi, .slice (some ⟨w.heap.size, 0, none⟩) 0 0] 130 (0, 0)) ∧ w'.heap[w.heap.size]? = some (.cells #[] 83 (0, 0)) ∧ Kept [] w w' := by
  go_enter Tryz.func74, Tryz.ntmps74
  go_wp2_with fail
  go_ret
  have h := blk_new (w.alloc (.cells #[] 83)) (.cells #[.int .u16 ssn, .int .u32 ppi, .slice (some ⟨w.heap.size, 0, none⟩) 0 0] 130)
  simp only [World.size_alloc] at h
  exact ⟨rfl, h, blk_alloc _ (blk_new w _), ((Kept.refl [] w).alloc _).alloc _⟩
set_option maxHeartbeats 2000000 in
theorem hasTSN (base sb ssn ppi f x : Nat) (vc : Value) (B G N C : Nat → Nat) (D : Nat → Pd) (L : List Nat) (w : World) (hs : SetAt w base sb ssn ppi vc B L) (hn : 1 ≤ L.length) (hm : L.length ≤ 60) (hc : ∀ j ∈ L, ChAt w (B j) (D j) (G j) (N j) (C j) ∧ (D j).tsn = tsn f j) (hj : ∀ j ∈ L, j < 64) (hx : x < 64) (hxL : x ∉ L) :
    Calls Tryz.prog 72 #[.pointer (some ⟨sb, 0, none⟩), .int .u32 (tsn f x : Nat)] w fun e w' => e = .returned (.bool false) ∧ Kept [] w w' := by
  obtain ⟨g, c, rfl, hc1, hc2⟩ := own_some hs.row (by omega)
  have u2 : w.cell? ⟨sb, 2, none⟩ = some (.slice (some ⟨g, 0, none⟩) L.length c) := blk_cell hs.cells rfl
  have lsb := blk_lt hs.cells
  have hcell : ∀ i (h : i < L.length), w.cell? ⟨g, i, none⟩ = some (.pointer (some ⟨B L[i], 0, none⟩)) := fun i h => by
    have := hs.row.cells (g := g) rfl i (.pointer (some ⟨B L[i], 0, none⟩)) (by simp [ptrs, h])
    rwa [addr_add, Nat.zero_add] at this
  have hpay : ∀ i (h : i < L.length), PayAt w (B L[i]) 0 0 (.slice none 0 0) (D L[i]) (.slice (some ⟨G L[i], 0, none⟩) (N L[i]) (C L[i])) ∧ (D L[i]).tsn = tsn f L[i] := fun i h => ⟨(hc _ (List.getElem_mem h)).1.pay, (hc _ (List.getElem_mem h)).2⟩
  have lg := (hs.row.lt g rfl).2
  have HC := hid hcell; have HP := hid hpay
  have HNE := hid (fun i (h : i < L.length) => show ¬ ((tsn f L[i] : Int) = (tsn f x : Int)) from fun e => hxL (by
    have e2 : L[i] = x := tsn_inj (f := f) (hj _ (List.getElem_mem h)) hx (Int.natCast_inj.1 e)
    rw [← e2]; exact List.getElem_mem h))
  clear hs hc hcell hpay hxL
  go_enter Tryz.func72, Tryz.ntmps72
  go_wp2_with fail
  go_loopw [12] (fun s12 wx => ∃ k : Nat, k ≤ L.length ∧ s12 = .int .i64 k ∧ Hid (Kept [] w wx)) (fun s12 _ => L.length - (intOf s12).toNat)
  case atStart => exact ⟨0, by omega, rfl, hid (Kept.refl [] w)⟩
  case round =>
    obtain ⟨k, hk, rfl, HK⟩ := hrel
    by_cases hlt : k < L.length
    · have hlt' : (k : Int) < (L.length : Int) := by omega
      have h0' : (0 : Int) ≤ (k : Int) := by omega
      have ck := (HK.out.cell (p := ⟨g, k, none⟩) lg (by simp)).trans (HC.out k hlt)
      obtain ⟨hp, ht⟩ := HP.out k hlt
      have hp' := (HK.out.block _ (blk_lt hp) (by simp)).trans hp
      have c8 : wr.cell? ⟨B L[k], 8, none⟩ = some (.int .u32 (tsn f L[k] : Nat)) := by rw [← ht]; exact blk_cell hp' rfl
      have lb := blk_lt hp'
      have lgr := Nat.lt_of_lt_of_le lg HK.out.size
      have hne := HNE.out k hlt
      clear hp hp' ht
      generalize tsn f L[k] = y at *
      generalize tsn f x = z at *
      go_wp2_with fail
      go_roundw
      case rel => exact ⟨k + 1, by omega, by go_num, HK⟩
      case measure => simp [intOf]; omega
    · have hlt' : ¬ (k : Int) < (L.length : Int) := by omega
      go_wp2_with fail
      go_ret
      exact ⟨rfl, HK.out⟩
set_option maxHeartbeats 2000000 in
theorem subtractNumBytes (q nB n : Nat) (w : World) (h : w.cell? ⟨q, 11, none⟩ = some (.int .u64 nB)) (hf : w.frozen? ⟨q, 11, none⟩ = false) (hn : n ≤ nB) (hB : nB < 1000000) :
    Calls Tryz.prog 45 #[.pointer (some ⟨q, 0, none⟩), .int .i64 n] w fun e w' => e = .returned (.tuple #[]) ∧ w' = w.setCell ⟨q, 11, none⟩ (.int .u64 (nB - n : Nat)) := by
  have lq := World.block_lt_of_cell? w _ h
  have hl := loadU64 ⟨q, 11, none⟩ nB w h
  have hw1 : IntKind.u64.wrap ((nB : Int) + IntKind.u64.wrap (-(n : Int))) = ((nB - n : Nat) : Int) := by rw [IntKind.wrap_u64, IntKind.wrap_u64]; omega
  have ha := addU64 ⟨q, 11, none⟩ nB (IntKind.u64.wrap (-(n : Int))) _ w h hf (show (Op.intArith .add .u64 nB (IntKind.u64.wrap (-(n : Int)))).run Tryz.prog w = .ok (.int .u64 (IntKind.u64.wrap ((nB : Int) + IntKind.u64.wrap (-(n : Int))))) w from rfl)
  rw [hw1] at ha
  clear hw1
  go_enter Tryz.func45, Tryz.ntmps45
  go_wp2_with fail
  go_end0
  exact ⟨rfl, rfl⟩
end Go.Proofs.Base
end
section
namespace Go.Proofs.Base
open Go Go.Proofs Go.RowKit Go.Proofs.Gaps
set_option maxRecDepth 100000
theorem iPtrC : (Tryz.prog.info? 83).map (fun i => (i.zero, i.size, i.bytes)) = some (some (.pointer none), 1, 8) := by kernel_rfl
/-- Where an append to a row of the call's own leaves it. -/
theorem appendWhere (t e by' n k b c ty base : Nat) (z v : Value) (xs ys : List Value) (w : World) (ht : Tryz.prog.underlying t = some (.slice e)) (hi : (Tryz.prog.info? e).map (fun i => (i.zero, i.size, i.bytes)) = some (some z, 1, by'))
    (hb : by' ≤ 1000) (hn : n ≤ 1000000) (hk0 : 0 < k) (hk : k ≤ 10) (hown : w.ownsRow base e 1 v n xs) (hys : ys.length = k) (h1 : ∀ u ∈ ys, u.oneCell' = true) (hx : w.heap[b]? = some (.cells ys.toArray e (0, 0)))
    {g' c' n' : Nat} {w' : World} (hr : (Builtin.append_ #[t, t] ty #[v, .slice (some ⟨b, 0, none⟩) k c]).run Tryz.prog w = .ok (.slice (some ⟨g', 0, none⟩) n' c') w') : g' ∈ own v ∨ w.heap.size ≤ g' := by
  obtain ⟨i, hi, hz', hs, hby⟩ := info_parts hi
  have hcell : ∀ j u, ys[j]? = some u → w.cell? ((⟨b, 0, none⟩ : Addr).add j) = some u := fun j u hu => by rw [addr_add, Nat.zero_add]; exact blk_cell hx (by simpa using hu)
  rcases hown.2 with ⟨rfl, rfl⟩ | ⟨g, cap, cur, rfl, hbg, hg, hnc, hcm, hcs, htake⟩
  · have h48 : k * by' ≤ 10 * 1000 := Nat.mul_le_mul hk hb
    have h2 := run_append_nil (P := Tryz.prog) w t ty e i z ht hi hz' ⟨b, 0, none⟩ k c ys (by rw [hs, hys, Nat.mul_one]) hcell hk0 (by omega) (by rw [hby]; omega)
    rw [hr] at h2
    simp only [Result.ok.injEq, Value.slice.injEq, Option.some.injEq, Addr.mk.injEq] at h2
    right; omega
  · by_cases hroom : n + k ≤ cap
    · have h2 := run_append_room (P := Tryz.prog) w t ty e i ht hi g n cap cur hg ⟨b, 0, none⟩ k c ys (by rw [hs, hys, Nat.mul_one]) hcell h1 hroom (by rw [hs, hys]; omega)
      rw [hr] at h2
      simp only [Result.ok.injEq, Value.slice.injEq, Option.some.injEq, Addr.mk.injEq] at h2
      left; rw [h2.1.1.1]; simp [own, Value.ownBlock]
    · have h48 : (n + k) * by' ≤ 1000010 * 1000 := Nat.mul_le_mul (by omega) hb
      have h2 := run_append_grow (P := Tryz.prog) w t ty e i z ht hi hz' ⟨g, 0, none⟩ n cap xs (by rw [hs]; exact hown.1) (hown.cells (g := g) rfl) ⟨b, 0, none⟩ k c ys (by rw [hs, hys, Nat.mul_one]) hcell (by omega) (by omega) (growslice_fits (by omega) (by rw [hby]; omega))
      rw [hr] at h2
      simp only [Result.ok.injEq, Value.slice.injEq, Option.some.injEq, Addr.mk.injEq] at h2
      right; omega
set_option maxHeartbeats 4000000 in
theorem pushNoDuplicate (base sb ssn ppi f x : Nat) (vc : Value) (B G N C : Nat → Nat) (D : Nat → Pd) (L : List Nat) (w : World) (hs : SetAt w base sb ssn ppi vc B L) (hbase : base ≤ w.heap.size) (hm : L.length ≤ 50) (hnd : (L ++ [x]).Nodup)
    (hc : ∀ j ∈ L ++ [x], ChAt w (B j) (D j) (G j) (N j) (C j) ∧ (D j).tsn = tsn f j) (hj : ∀ j ∈ L ++ [x], j < 63) :
    Calls Tryz.prog 76 #[.pointer (some ⟨sb, 0, none⟩), .pointer (some ⟨B x, 0, none⟩)] w fun e w' => IsBool e ∧ (∃ vc' L', SetAt w' base sb ssn ppi vc' B L' ∧ L'.Perm (L ++ [x]) ∧ L'.Pairwise (· < ·)) ∧ Kept (sb :: own vc) w w' := by
  have HS := hid hs; have HC := hid hc; have HJ := hid hj; have HND := hid hnd
  have u2 : w.cell? ⟨sb, 2, none⟩ = some vc := blk_cell hs.cells rfl
  have lsb := blk_lt hs.cells
  obtain ⟨Ac, Cc, rfl⟩ := own_form hs.row
  have hkA : Kept [] w (w.alloc (.cells #[.pointer (some ⟨B x, 0, none⟩)] 83)) := (Kept.refl [] w).alloc _
  obtain ⟨g6, p6, w6, hr6, ho6, hk6⟩ := appendOwnK 110 83 8 L.length 1 w.heap.size 1 110 base (.pointer none) (.slice Ac L.length Cc) (ptrs B L) (ptrs B [x]) (w.alloc (.cells #[.pointer (some ⟨B x, 0, none⟩)] 83)) Tryz.underlying110 iPtrC rfl (by decide) (by omega) (by decide) (by decide)
    (ownsRow_kept hs.row hkA (by simp)) (by have := hkA.size; omega) rfl (by intro u hu; simp [ptrs] at hu; subst hu; rfl) (blk_new w _)
  have hk06 : Kept (own (.slice Ac L.length Cc)) w w6 := (hkA.more (by simp)).trans hk6
  have hwhere := appendWhere 110 83 8 L.length 1 w.heap.size 1 110 base (.pointer none) (.slice Ac L.length Cc) (ptrs B L) (ptrs B [x]) (w.alloc (.cells #[.pointer (some ⟨B x, 0, none⟩)] 83)) Tryz.underlying110 iPtrC (by decide) (by omega) (by decide) (by decide)
    (ownsRow_kept hs.row hkA (by simp)) rfl (by intro u hu; simp [ptrs] at hu; subst hu; rfl) (blk_new w _) hr6
  rw [World.size_alloc] at hwhere
  have hsb6 := (hk06.block sb lsb (own_far hs.row hs.cells (by decide))).trans hs.cells
  have e2 : w6.cell? ⟨sb, 2, none⟩ = some (.slice Ac L.length Cc) := blk_cell hsb6 rfl
  have f2 : w6.frozen? ⟨sb, 2, none⟩ = false := blk_free hsb6
  have l6 := blk_lt hsb6
  have HSB6 := hid hsb6; have HO6 := hid ho6; have HK06 := hid hk06; have hk6' := hid hk6
  clear hs hc hj hnd hsb6 ho6 hk06 hk6 hkA
  go_enter Tryz.func76, Tryz.ntmps76
  go_wp2_with (at_builtin; refine wpList_append_run rfl _ _ 110 rfl _ _ _ rfl rfl hr6 ?_)
  generalize hW : World.setCell _ _ _ = w7
  have hk67 : Kept [sb] w6 w7 := by rw [← hW]; exact (Kept.refl [sb] w6).setCell _ (.inl (by simp))
  have hs7 : w7.heap[sb]? = some (.cells #[.int .u16 ssn, .int .u32 ppi, .slice (some ⟨g6, 0, none⟩) (L.length + 1) p6] 130 (0, 0)) := by rw [← hW, blk_setCell _ HSB6.out]; rfl
  have hrow7 := ownsRow_kept HO6.out hk67 (by intro g hg; simp; intro e; subst e; exact own_far HO6.out HSB6.out (by decide) (own_mem.2 hg))
  rw [show ptrs B L ++ ptrs B [x] = ptrs B (L ++ [x]) by simp [ptrs]] at hrow7
  clear hW
  have hlen : L.length + 1 = (L ++ [x]).length := by simp
  rw [hlen] at hrow7
  have hk07 : Kept (sb :: own (.slice Ac L.length Cc)) w w7 := (HK06.out.more (fun r hr => .inl (by simp [hr]))).trans (hk67.more (by simp))
  have hnotS : ∀ j ∈ L ++ [x], B j ∉ sb :: own (.slice Ac L.length Cc) := by
    intro j hj hm
    have hp := (HC.out j hj).1.pay
    rcases List.mem_cons.1 hm with h | h
    · rw [h] at hp
      have h2 := HS.out.cells
      unfold PayAt at hp
      rw [h2] at hp
      simp only [Option.some.injEq, Obj.cells.injEq] at hp
      exact absurd hp.2.1 (by decide)
    · exact own_far HS.out.row hp (by decide) h
  have hc7 : ∀ j ∈ L ++ [x], ChAt w7 (B j) (D j) (G j) (N j) (C j) ∧ (D j).tsn = tsn f j := fun j hj => ⟨(HC.out j hj).1.kept hk07 (hnotS j hj), (HC.out j hj).2⟩
  have hB7 : ∀ j ∈ L ++ [x], B j ≠ g6 := fun j hj e => own_far hrow7 (hc7 j hj).1.pay (by decide) (by rw [e]; simp [own, Value.ownBlock])
  have hsbg : sb ≠ g6 := fun e => own_far hrow7 hs7 (by decide) (by rw [e]; simp [own, Value.ownBlock])
  have H68 := hid (sortTSN g6 p6 f base (L ++ [x]) B w7 (by simp) (by simp; omega) hrow7 (fun j hj => ⟨by have := HJ.out j hj; omega, hB7 j hj, by rw [← (hc7 j hj).2]; exact blk_cell (hc7 j hj).1.pay rfl⟩) HND.out)
  rw [← hlen] at H68
  have HS7 := hid hs7; have HC7 := hid hc7; have HK07 := hid hk07; have HB7 := hid hB7
  clear hs7 hc7 hk07 hk67 hrow7 hnotS hB7 HSB6 HO6 HK06 hk6' e2 f2
  refine H68.out.mono ?_
  rintro e w8 ⟨rfl, L', hperm, hsort, hrow8, hk8⟩
  dsimp only
  have hl' : L'.length = L.length + 1 := by rw [hperm.length_eq]; simp
  have hs8 := (hk8.block sb (blk_lt HS7.out) (by simpa using hsbg)).trans HS7.out
  rw [hlen, ← hperm.length_eq] at hrow8
  have hset8 : SetAt w8 base sb ssn ppi (.slice (some ⟨g6, 0, none⟩) L'.length p6) B L' := ⟨by rw [hl']; exact hs8, hrow8⟩
  have hc8 : ∀ j ∈ L', ChAt w8 (B j) (D j) (G j) (N j) (C j) ∧ (D j).tsn = tsn f j := fun j hj => by
    have hj' := hperm.mem_iff.1 hj
    exact ⟨(HC7.out j hj').1.kept hk8 (by simpa using HB7.out j hj'), (HC7.out j hj').2⟩
  have H46 := hid (isComplete base sb ssn ppi f _ B G N C D L' w8 hset8 (by omega) (by omega) hc8 (fun j hj => HJ.out j (hperm.mem_iff.1 hj)))
  have hk08 : Kept (sb :: g6 :: own (.slice Ac L.length Cc)) w w8 := (HK07.out.more (fun r hr => .inl (by simp at hr ⊢; rcases hr with h | h; exact .inl h; exact .inr (.inr h)))).trans (hk8.more (by simp))
  have HSET := hid hset8; have HPM := hid hperm; have HST := hid hsort; have HK08 := hid hk08
  clear hs8 hrow8 hset8 hc8 hk08 hk8 hperm hsort H68
  go_wp2_with fail
  refine H46.out.mono ?_
  rintro e w9 ⟨hsay, hk9⟩
  obtain ⟨cb, rfl, hsay2⟩ := hsay
  clear hsay2
  dsimp only
  have hset9 := hid (HSET.out.kept hk9 (by simp) (by simp))
  have hk09 : Kept (sb :: own (.slice Ac L.length Cc)) w w9 := (HK08.out.trans (hk9.more (by simp))).more (by
    intro r hr
    simp only [List.mem_cons] at hr ⊢
    rcases hr with h | h | h
    · exact .inl (.inl h)
    · subst h
      rcases hwhere with h2 | h2
      · exact .inl (.inr h2)
      · right; omega
    · exact .inl (.inr h))
  have HK09 := hid hk09
  clear hk9 hk09 H46 HSET
  go_wp2_with fail
  go_ret
  exact ⟨⟨cb, rfl⟩, ⟨_, L', hset9.out, HPM.out, HST.out⟩, HK09.out⟩
end Go.Proofs.Base
end
