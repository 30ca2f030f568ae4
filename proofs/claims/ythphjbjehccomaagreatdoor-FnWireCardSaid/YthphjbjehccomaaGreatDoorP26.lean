/- A part of the proof, step P26: what the code and the plain laws of this step give. Made by AI agents; no person has read it. -/
import Derived.Test.YthphjbjehccomaaGreatDoorP25
namespace Go.Proofs.Base
open Go Go.Proofs Go.RowKit
set_option maxRecDepth 100000
/-- A piece: what it says, and where its text lies. -/
structure Pc where
  d : Pd
  b : Nat
  o : Nat
  n : Nat
  cap : Nat
def Pc.user (p : Pc) : Value := .slice (some ⟨p.b, p.o, none⟩) p.n p.cap
def pcCells (ps : List Pc) : List Value := ps.flatMap fun p => (dC p.d p.user).toList
theorem pcCells_snoc (ps : List Pc) (p : Pc) : pcCells (ps ++ [p]) = pcCells ps ++ (dC p.d p.user).toList := by simp [pcCells]
/-- The piece of message number idx from k up to e, piece number count. -/
def pieceAt (first idx st num L C ab ao k e count : Nat) : Pc :=
  ⟨⟨(k : Int) == 0, (e : Int) == (L : Int), (first + count) % 4294967296, st, num, 50 + idx⟩, ab, ao + k, e - k, C - k⟩
/-- The pieces of message number idx from k on, the first of them piece number count. -/
def msgPieces (first size idx st num L C ab ao : Nat) : (fuel k count : Nat) → List Pc
  | 0, _, _ => []
  | f + 1, k, count => if k < L then pieceAt first idx st num L C ab ao k (min (k + size) L) count :: msgPieces first size idx st num L C ab ao f (k + size) (count + 1) else []
def bump (nums : Nat → Nat) (s : Nat) : Nat → Nat := fun j => if j = s then nums j + 1 else nums j
/-- The pieces of the messages from number i on. -/
def allPieces (first size len : Nat) (st L C ab ao : Nat → Nat) : (fuel i : Nat) → (nums : Nat → Nat) → (count : Nat) → List Pc
  | 0, _, _, _ => []
  | f + 1, i, nums, count => if i < len then
      msgPieces first size i (st i) (nums (st i)) (L i) (C i) (ab i) (ao i) (L i) 0 count ++
        allPieces first size len st L C ab ao f (i + 1) (bump nums (st i)) (count + (msgPieces first size i (st i) (nums (st i)) (L i) (C i) (ab i) (ao i) (L i) 0 count).length)
    else []
theorem msgPieces_done {first size idx st num L C ab ao f k count : Nat} (h : L ≤ k) : msgPieces first size idx st num L C ab ao f k count = [] := by
  cases f with
  | zero => rfl
  | succ f => rw [msgPieces, if_neg (by omega)]
def numC (nums : Nat → Nat) : Array Value := #[.int .i64 (nums 0 : Nat), .int .i64 (nums 1 : Nat), .int .i64 (nums 2 : Nat)]
theorem numC_get {nums : Nat → Nat} {s : Nat} (h : s ≤ 2) : (numC nums)[s]? = some (.int .i64 (nums s : Nat)) := by
  match s, h with
  | 0, _ => rfl
  | 1, _ => rfl
  | 2, _ => rfl
theorem numC_bump {nums : Nat → Nat} {s : Nat} (h : s ≤ 2) : numC (bump nums s) = (numC nums).setIfInBounds s (.int .i64 ((nums s : Int) + 1)) := by
  match s, h with
  | 0, _ => simp [numC, bump]
  | 1, _ => simp [numC, bump]
  | 2, _ => simp [numC, bump]
theorem own_ge {w : World} {base e sz n : Nat} {v : Value} {xs : List Value} (h : w.ownsRow base e sz v n xs) {g : Nat} (hg : g ∈ own v) : base ≤ g := by
  rw [own_mem] at hg
  rcases h.2 with ⟨rfl, _⟩ | ⟨g', cap, cur, rfl, k1, _⟩
  · cases hg
  · cases hg; exact k1
theorem own_form {w : World} {base e sz n : Nat} {v : Value} {xs : List Value} (h : w.ownsRow base e sz v n xs) : ∃ A C, v = .slice A n C := by
  rcases h.2 with ⟨rfl, h0⟩ | ⟨g, cap, cur, rfl, _⟩
  · exact ⟨none, 0, by rw [h0]⟩
  · exact ⟨_, _, rfl⟩
set_option maxRecDepth 100000 in
set_option maxHeartbeats 2000000 in
theorem Pieces (b off len cap first size : Nat) (st L C ab ao : Nat → Nat) (w : World) (hM : MsgsIn w b off len (fun i => (st i : Int)) (fun i => some ⟨ab i, ao i, none⟩) L C) (hg : Messages len (fun i => (st i : Int)) L) (hs1 : 1 ≤ size) (hs2 : size ≤ 200) (hC : ∀ i, i < len → L i ≤ C i ∧ C i ≤ maxLen) :
    Calls Tryz.prog 8 #[.int .u32 first, .slice (some ⟨b, off, none⟩) len cap, .int .i64 size] w fun e w' => ∃ vp, e = .returned vp ∧ w'.ownsRow w.heap.size 41 9 vp (allPieces first size len st L C ab ao len 0 (fun _ => 0) 0).length (pcCells (allPieces first size len st L C ab ao len 0 (fun _ => 0) 0)) ∧ Kept [] w w' := by
  have HM := hid hM; clear hM
  have HG := hid hg
  have hlen6 := hg.2.1
  clear hg
  go_enter Tryz.func8, Tryz.ntmps8
  go_wp2_with fail
  have hle63 : (len : Int) ≤ 6 := by omega
  generalize hW : World.alloc _ _ = w1
  have hk1 : Kept [] w w1 := by rw [← hW]; exact ((Kept.refl [] w).alloc _).alloc _
  have hE1 : w1.heap[w.heap.size]? = some (.cells #[] 41 (0, 0)) := by rw [← hW]; exact blk_alloc _ (blk_new w _)
  have hN1 : w1.heap[w.heap.size + 1]? = some (.cells (numC (fun _ => 0)) 64 (0, 0)) := by
    rw [← hW]
    have h := blk_new (w.alloc (.cells #[] 41)) (.cells (numC (fun _ => 0)) 64)
    simp only [World.size_alloc] at h
    exact h
  clear hW
  generalize hB : w.heap.size = B at *
  have HB := hid hB; clear hB
  have ho1 : w1.ownsRow B 41 9 (.slice (some ⟨B, 0, none⟩) 0 0) 0 [] := ⟨rfl, .inr ⟨B, 0, #[], rfl, Nat.le_refl _, hE1, Nat.le_refl _, by unfold maxLen; omega, rfl, rfl⟩⟩
  have HO1 := hid ho1; have HK1 := hid hk1; have HN1 := hid hN1
  clear ho1 hk1 hN1 hE1
  have HT := hid (rfl : allPieces first size len st L C ab ao len 0 (fun _ => 0) 0 = allPieces first size len st L C ab ao len 0 (fun _ => 0) 0)
  have HTot : Hid ([] ++ allPieces first size len st L C ab ao len 0 (fun _ => 0) 0 = allPieces first size len st L C ab ao len 0 (fun _ => 0) 0) := rfl
  clear HT
  generalize hTot : allPieces first size len st L C ab ao len 0 (fun _ => 0) 0 = Tot
  rw [hTot] at HTot
  have HTot0 := hid hTot; clear hTot
  go_loopw [7, 18] (fun s7 s18 wx => ∃ (i : Nat) (nums : Nat → Nat) (X : List Pc), i ≤ len ∧ s18 = .int .i64 i ∧ Hid (X ++ allPieces first size len st L C ab ao (len - i) i nums X.length = Tot) ∧ Hid (wx.ownsRow B 41 9 s7 X.length (pcCells X)) ∧ X.length ≤ 200 * i ∧
    Hid (wx.heap[B + 1]? = some (.cells (numC nums) 64 (0, 0))) ∧ Hid (∀ j, nums j ≤ i) ∧ Hid (Kept [] w wx)) (fun _ s18 _ => len - (intOf s18).toNat)
  case atStart => exact ⟨0, fun _ => 0, [], by omega, rfl, hid (by rw [Nat.sub_zero]; exact HTot0.out), HO1, by simp, HN1, hid (fun _ => Nat.le_refl _), HK1⟩
  case round =>
    obtain ⟨i, nums, X, hi, rfl, HX, HO, hXl, HNU, HNb, HK⟩ := hrel
    by_cases hlt : i < len
    · have hlt' : (i : Int) < (len : Int) := by omega
      have h0' : (0 : Int) ≤ (i : Int) := by omega
      have c0 := (HM.out.kept HK.out).c0 i hlt
      have c1 := (HM.out.kept HK.out).c1 i hlt
      go_wp2_with fail
      generalize hW : wr.alloc _ = w2
      have hM2 : w2.heap[wr.heap.size]? = some (.cells #[.int .i64 (st i : Nat), .slice (some ⟨ab i, ao i, none⟩) (L i) (C i)] 43 (0, 0)) := by rw [← hW]; exact blk_new wr _
      have hk2 : Kept [] wr w2 := by rw [← hW]; exact (Kept.refl [] wr).alloc _
      have hN2 := hid ((hk2.block (B + 1) (blk_lt HNU.out) (by simp)).trans HNU.out)
      have hO2 := hid (ownsRow_kept HO.out hk2 (by simp))
      have hK2 := hid (HK.out.trans hk2)
      have hBM : B + 1 < wr.heap.size := blk_lt HNU.out
      have hG := HG.out.2.2 i hlt
      have hg1 : st i ≤ 2 := by have h : (st i : Int) ≤ 2 := hG.2.1; omega
      have hg2 : 1 ≤ L i := hG.2.2.1
      have hg3 : L i ≤ 200 := hG.2.2.2
      have hCi := hC i hlt
      clear hW hk2 c0 c1
      generalize hMb : wr.heap.size = Mb at *
      have hM2' := hid hM2; clear hM2 hMb hG
      have HX' := HX.out
      rw [show len - i = (len - i - 1) + 1 by omega, allPieces, if_pos hlt] at HX'
      generalize hR : allPieces first size len st L C ab ao (len - i - 1) (i + 1) (bump nums (st i)) (X.length + (msgPieces first size i (st i) (nums (st i)) (L i) (C i) (ab i) (ao i) (L i) 0 X.length).length) = R at *
      have HR := hid hR; clear hR
      have HX2 := hid HX'
      clear HX'
      have hinner : True := trivial
      go_loopw [7, 11] (fun s7 s11 wx => ∃ (k f : Nat) (Y : List Pc), k ≤ 400 ∧ s11 = .int .i64 k ∧ Hid (L i ≤ k + f) ∧ Hid (Y ++ (msgPieces first size i (st i) (nums (st i)) (L i) (C i) (ab i) (ao i) f k Y.length ++ R) = Tot) ∧ Hid (wx.ownsRow B 41 9 s7 Y.length (pcCells Y)) ∧ Y.length ≤ 200 * i + min k (L i) ∧
        Hid (wx.heap[B + 1]? = some (.cells (numC nums) 64 (0, 0))) ∧ Hid (wx.heap[Mb]? = some (.cells #[.int .i64 (st i : Nat), .slice (some ⟨ab i, ao i, none⟩) (L i) (C i)] 43 (0, 0))) ∧ Hid (Kept [] w wx)) (fun _ s11 _ => L i - (intOf s11).toNat)
      case atStart => exact ⟨0, L i, X, by omega, rfl, hid (by omega), HX2, hO2, by omega, hN2, hM2', hK2⟩
      case round =>
        obtain ⟨k, f, Y, hk, rfl, Hf, HY, HOy, hYl, HNy, HMy, HKy⟩ := hrel
        have d1 : wr.cell? ⟨Mb, 1, none⟩ = some (.slice (some ⟨ab i, ao i, none⟩) (L i) (C i)) := blk_cell HMy.out rfl
        have ld := blk_lt HMy.out
        by_cases hkl : k < L i
        · have hkl' : (k : Int) < (L i : Int) := by omega
          obtain ⟨Ap, Cp, hp7⟩ := own_form HOy.out
          subst hp7
          have d0 : wr.cell? ⟨Mb, 0, none⟩ = some (.int .i64 (st i : Nat)) := blk_cell HMy.out rfl
          have d2 : wr.cell? ⟨B + 1, st i, none⟩ = some (.int .i64 (nums (st i) : Nat)) := blk_cell HNy.out (numC_get hg1)
          have ld2 := blk_lt HNy.out
          have g1 : (0 : Int) ≤ (st i : Int) := by omega
          have g2 : (st i : Int) < 3 := by omega
          have e1 : IntKind.u32.wrap (Y.length : Int) = Y.length := by rw [IntKind.wrap_u32]; omega
          have e2 : IntKind.u32.wrap (50 + (i : Int)) = 50 + (i : Int) := by rw [IntKind.wrap_u32]; omega
          have e3 : IntKind.i64.wrap (50 + (i : Int)) = 50 + (i : Int) := by rw [IntKind.wrap_i64]; omega
          have e4 : IntKind.u32.wrap ((first : Int) + (Y.length : Int)) = ((first + Y.length) % 4294967296 : Nat) := by rw [IntKind.wrap_u32]; omega
          by_cases hmn : k + size ≤ L i
          · have hmi : (k : Int) + (size : Int) ≤ (L i : Int) := by omega
            have z1 : (k : Int) ≤ (k : Int) + (size : Int) := by omega
            have z2 : (k : Int) + (size : Int) ≤ (C i : Int) := by omega
            have z3 : (0 : Int) ≤ (k : Int) := by omega
            have hmin : min (k + size) (L i) = k + size := by omega
            have hck : ¬ C i = k := by omega
            have t1 : ((k : Int) + (size : Int)).toNat = k + size := by omega
            go_wp2_with fail
            go_region_held3 (fun w' => w'.cell? ⟨Mb, 0, none⟩ = some (.int .i64 (st i : Nat)) ∧ w'.cell? ⟨Mb, 1, none⟩ = some (.slice (some ⟨ab i, ao i, none⟩) (L i) (C i)) ∧ w'.cell? ⟨B + 1, st i, none⟩ = some (.int .i64 (nums (st i) : Nat))) (go_keep) (fail)
            generalize hW : World.drew _ = w5
            have hD5 : w5.heap[wr.heap.size]? = some (.cells (dC (pieceAt first i (st i) (nums (st i)) (L i) (C i) (ab i) (ao i) k (k + size) Y.length).d (pieceAt first i (st i) (nums (st i)) (L i) (C i) (ab i) (ao i) k (k + size) Y.length).user) 41 (0, 0)) := by
              rw [← hW]
              refine (blk_new wr _).trans ?_
              simp [dC, pieceAt, Pc.user]
              try omega
            have hk5 : Kept [] wr w5 := by rw [← hW]; exact ((Kept.refl [] wr).alloc _).drew
            clear hW
            generalize hpe : pieceAt first i (st i) (nums (st i)) (L i) (C i) (ab i) (ao i) k (k + size) Y.length = p at hD5
            have HPE := hid hpe; clear hpe
            have lD5 := blk_lt hD5
            have hO5 := ownsRow_kept HOy.out hk5 (by simp)
            have hN5 := (hk5.block (B + 1) ld2 (by simp)).trans HNy.out
            have hM5 := (hk5.block Mb ld (by simp)).trans HMy.out
            have hK5 := HKy.out.trans hk5
            generalize wr.heap.size = D at *
            have q0 : w5.cell? ⟨D, 0, none⟩ = some (.bool false) := blk_cell hD5 rfl
            have q1 : w5.cell? ⟨D, 1, none⟩ = some (.bool p.d.bg) := blk_cell hD5 rfl
            have q2 : w5.cell? ⟨D, 2, none⟩ = some (.bool p.d.en) := blk_cell hD5 rfl
            have q3 : w5.cell? ⟨D, 3, none⟩ = some (.bool false) := blk_cell hD5 rfl
            have q4 : w5.cell? ⟨D, 4, none⟩ = some (.int .u32 p.d.tsn) := blk_cell hD5 rfl
            have q5 : w5.cell? ⟨D, 5, none⟩ = some (.int .i64 p.d.si) := blk_cell hD5 rfl
            have q6 : w5.cell? ⟨D, 6, none⟩ = some (.int .i64 p.d.ssn) := blk_cell hD5 rfl
            have q7 : w5.cell? ⟨D, 7, none⟩ = some (.int .u32 p.d.ppi) := blk_cell hD5 rfl
            have q8 : w5.cell? ⟨D, 8, none⟩ = some (.slice (some ⟨p.b, p.o, none⟩) p.n p.cap) := blk_cell hD5 rfl
            have hs5 := hK5.size
            have hkd : Kept [] w5 (w5.alloc (.cells #[.bool false, .bool p.d.bg, .bool p.d.en, .bool false, .int .u32 p.d.tsn, .int .i64 p.d.si, .int .i64 p.d.ssn, .int .u32 p.d.ppi, .slice (some ⟨p.b, p.o, none⟩) p.n p.cap] 41)) := (Kept.refl [] w5).alloc _
            obtain ⟨g6, cap6, w6, hr6, ho6, hgr6⟩ := appendOwnOne 31 41 9 56 Y.length w5.heap.size 1 31 B (.agg zero32) (.slice Ap Y.length Cp) (pcCells Y) #[.bool false, .bool p.d.bg, .bool p.d.en, .bool false, .int .u32 p.d.tsn, .int .i64 p.d.si, .int .i64 p.d.ssn, .int .u32 p.d.ppi, .slice (some ⟨p.b, p.o, none⟩) p.n p.cap] (w5.alloc (.cells #[.bool false, .bool p.d.bg, .bool p.d.en, .bool false, .int .u32 p.d.tsn, .int .i64 p.d.si, .int .i64 p.d.ssn, .int .u32 p.d.ppi, .slice (some ⟨p.b, p.o, none⟩) p.n p.cap] 41)) Tryz.underlying31 i32 rfl (by omega) (by omega) (by omega) (ownsRow_kept hO5 hkd (by simp)) (by have := HB.out; simp; omega) rfl (dC_one p.d p.user rfl) (blk_new w5 _)
            have hgk : Kept (own (.slice Ap Y.length Cp)) (w5.alloc (.cells #[.bool false, .bool p.d.bg, .bool p.d.en, .bool false, .int .u32 p.d.tsn, .int .i64 p.d.si, .int .i64 p.d.ssn, .int .u32 p.d.ppi, .slice (some ⟨p.b, p.o, none⟩) p.n p.cap] 41)) w6 := grown_kept hgr6 (by intro k hk; rw [own_mem]; exact hk)
            have hk56 : Kept (own (.slice Ap Y.length Cp)) w5 w6 := (hkd.more (by simp)).trans hgk
            have hK6 : Kept [] w w6 := hK5.thenNew hk56 (by intro r hr; right; have := own_ge hO5 hr; have := HB.out; omega)
            have HN6 := hid ((hk56.block (B + 1) (blk_lt hN5) (own_far hO5 hN5 (by decide))).trans hN5)
            have HM6 := hid ((hk56.block Mb (blk_lt hM5) (own_far hO5 hM5 (by decide))).trans hM5)
            have HO6 := hid ho6; have HK6 := hid hK6
            obtain ⟨f', rfl⟩ : ∃ f', f = f' + 1 := ⟨f - 1, by have := Hf.out; omega⟩
            have HY' := HY.out
            rw [msgPieces, if_pos hkl, hmin, HPE.out] at HY'
            have HY2 := hid HY'
            have Hf2 := Hf.out
            have hp1 : Y.length + 1 ≤ 200 * i + min (k + size) (L i) := by omega
            clear ho6 hK6 hgr6 hgk hk56 hN5 hM5 hO5 hkd hK5 HY' hk5 hD5
            go_wp2_with (at_builtin; refine wpList_append_run rfl _ _ 31 rfl _ _ _ rfl rfl hr6 ?_)
            go_roundw
            case rel =>
              refine ⟨k + size, f', Y ++ [p], by omega, by go_num, hid (by omega), hid ?_, hid ?_, by simp; omega, HN6, HM6, HK6⟩
              · have h := HY2.out
                simp only [List.length_append, List.length_cons, List.length_nil, List.append_assoc, List.cons_append, List.nil_append] at h ⊢
                exact h
              · rw [pcCells_snoc, List.length_append]; exact HO6.out
            case measure => simp [intOf]; omega
          · have hmi : ¬ (k : Int) + (size : Int) ≤ (L i : Int) := by omega
            have z1 : (k : Int) ≤ (L i : Int) := by omega
            have z2 : (L i : Int) ≤ (C i : Int) := by omega
            have z3 : (0 : Int) ≤ (k : Int) := by omega
            have hmin : min (k + size) (L i) = L i := by omega
            have hck : ¬ C i = k := by omega
            have t1 : True := trivial
            go_wp2_with fail
            go_region_held3 (fun w' => w'.cell? ⟨Mb, 0, none⟩ = some (.int .i64 (st i : Nat)) ∧ w'.cell? ⟨Mb, 1, none⟩ = some (.slice (some ⟨ab i, ao i, none⟩) (L i) (C i)) ∧ w'.cell? ⟨B + 1, st i, none⟩ = some (.int .i64 (nums (st i) : Nat))) (go_keep) (fail)
            generalize hW : World.drew _ = w5
            have hD5 : w5.heap[wr.heap.size]? = some (.cells (dC (pieceAt first i (st i) (nums (st i)) (L i) (C i) (ab i) (ao i) k (L i) Y.length).d (pieceAt first i (st i) (nums (st i)) (L i) (C i) (ab i) (ao i) k (L i) Y.length).user) 41 (0, 0)) := by
              rw [← hW]
              refine (blk_new wr _).trans ?_
              simp [dC, pieceAt, Pc.user]
              try omega
            have hk5 : Kept [] wr w5 := by rw [← hW]; exact ((Kept.refl [] wr).alloc _).drew
            clear hW
            generalize hpe : pieceAt first i (st i) (nums (st i)) (L i) (C i) (ab i) (ao i) k (L i) Y.length = p at hD5
            have HPE := hid hpe; clear hpe
            have lD5 := blk_lt hD5
            have hO5 := ownsRow_kept HOy.out hk5 (by simp)
            have hN5 := (hk5.block (B + 1) ld2 (by simp)).trans HNy.out
            have hM5 := (hk5.block Mb ld (by simp)).trans HMy.out
            have hK5 := HKy.out.trans hk5
            generalize wr.heap.size = D at *
            have q0 : w5.cell? ⟨D, 0, none⟩ = some (.bool false) := blk_cell hD5 rfl
            have q1 : w5.cell? ⟨D, 1, none⟩ = some (.bool p.d.bg) := blk_cell hD5 rfl
            have q2 : w5.cell? ⟨D, 2, none⟩ = some (.bool p.d.en) := blk_cell hD5 rfl
            have q3 : w5.cell? ⟨D, 3, none⟩ = some (.bool false) := blk_cell hD5 rfl
            have q4 : w5.cell? ⟨D, 4, none⟩ = some (.int .u32 p.d.tsn) := blk_cell hD5 rfl
            have q5 : w5.cell? ⟨D, 5, none⟩ = some (.int .i64 p.d.si) := blk_cell hD5 rfl
            have q6 : w5.cell? ⟨D, 6, none⟩ = some (.int .i64 p.d.ssn) := blk_cell hD5 rfl
            have q7 : w5.cell? ⟨D, 7, none⟩ = some (.int .u32 p.d.ppi) := blk_cell hD5 rfl
            have q8 : w5.cell? ⟨D, 8, none⟩ = some (.slice (some ⟨p.b, p.o, none⟩) p.n p.cap) := blk_cell hD5 rfl
            have hs5 := hK5.size
            have hkd : Kept [] w5 (w5.alloc (.cells #[.bool false, .bool p.d.bg, .bool p.d.en, .bool false, .int .u32 p.d.tsn, .int .i64 p.d.si, .int .i64 p.d.ssn, .int .u32 p.d.ppi, .slice (some ⟨p.b, p.o, none⟩) p.n p.cap] 41)) := (Kept.refl [] w5).alloc _
            obtain ⟨g6, cap6, w6, hr6, ho6, hgr6⟩ := appendOwnOne 31 41 9 56 Y.length w5.heap.size 1 31 B (.agg zero32) (.slice Ap Y.length Cp) (pcCells Y) #[.bool false, .bool p.d.bg, .bool p.d.en, .bool false, .int .u32 p.d.tsn, .int .i64 p.d.si, .int .i64 p.d.ssn, .int .u32 p.d.ppi, .slice (some ⟨p.b, p.o, none⟩) p.n p.cap] (w5.alloc (.cells #[.bool false, .bool p.d.bg, .bool p.d.en, .bool false, .int .u32 p.d.tsn, .int .i64 p.d.si, .int .i64 p.d.ssn, .int .u32 p.d.ppi, .slice (some ⟨p.b, p.o, none⟩) p.n p.cap] 41)) Tryz.underlying31 i32 rfl (by omega) (by omega) (by omega) (ownsRow_kept hO5 hkd (by simp)) (by have := HB.out; simp; omega) rfl (dC_one p.d p.user rfl) (blk_new w5 _)
            have hgk : Kept (own (.slice Ap Y.length Cp)) (w5.alloc (.cells #[.bool false, .bool p.d.bg, .bool p.d.en, .bool false, .int .u32 p.d.tsn, .int .i64 p.d.si, .int .i64 p.d.ssn, .int .u32 p.d.ppi, .slice (some ⟨p.b, p.o, none⟩) p.n p.cap] 41)) w6 := grown_kept hgr6 (by intro k hk; rw [own_mem]; exact hk)
            have hk56 : Kept (own (.slice Ap Y.length Cp)) w5 w6 := (hkd.more (by simp)).trans hgk
            have hK6 : Kept [] w w6 := hK5.thenNew hk56 (by intro r hr; right; have := own_ge hO5 hr; have := HB.out; omega)
            have HN6 := hid ((hk56.block (B + 1) (blk_lt hN5) (own_far hO5 hN5 (by decide))).trans hN5)
            have HM6 := hid ((hk56.block Mb (blk_lt hM5) (own_far hO5 hM5 (by decide))).trans hM5)
            have HO6 := hid ho6; have HK6 := hid hK6
            obtain ⟨f', rfl⟩ : ∃ f', f = f' + 1 := ⟨f - 1, by have := Hf.out; omega⟩
            have HY' := HY.out
            rw [msgPieces, if_pos hkl, hmin, HPE.out] at HY'
            have HY2 := hid HY'
            have Hf2 := Hf.out
            have hp1 : Y.length + 1 ≤ 200 * i + min (k + size) (L i) := by omega
            clear ho6 hK6 hgr6 hgk hk56 hN5 hM5 hO5 hkd hK5 HY' hk5 hD5
            go_wp2_with (at_builtin; refine wpList_append_run rfl _ _ 31 rfl _ _ _ rfl rfl hr6 ?_)
            go_roundw
            case rel =>
              refine ⟨k + size, f', Y ++ [p], by omega, by go_num, hid (by omega), hid ?_, hid ?_, by simp; omega, HN6, HM6, HK6⟩
              · have h := HY2.out
                simp only [List.length_append, List.length_cons, List.length_nil, List.append_assoc, List.cons_append, List.nil_append] at h ⊢
                exact h
              · rw [pcCells_snoc, List.length_append]; exact HO6.out
            case measure => simp [intOf]; omega
        · have hkl' : ¬ (k : Int) < (L i : Int) := by omega
          have d0 : wr.cell? ⟨Mb, 0, none⟩ = some (.int .i64 (st i : Nat)) := blk_cell HMy.out rfl
          have d2 : wr.cell? ⟨B + 1, st i, none⟩ = some (.int .i64 (nums (st i) : Nat)) := blk_cell HNy.out (numC_get hg1)
          have d3 : wr.frozen? ⟨B + 1, st i, none⟩ = false := blk_free HNy.out
          have ld2 := blk_lt HNy.out
          have g1 : (0 : Int) ≤ (st i : Int) := by omega
          have g2 : (st i : Int) < 3 := by omega
          have g3 := HNb.out (st i)
          have hfin : Hid (Y ++ R = Tot) := by
            have h := HY.out
            rw [msgPieces_done (by omega), List.nil_append] at h
            exact h
          have hcount : Y.length = X.length + (msgPieces first size i (st i) (nums (st i)) (L i) (C i) (ab i) (ao i) (L i) 0 X.length).length := by
            have h1 := congrArg List.length HX2.out
            have h2 := congrArg List.length hfin.out
            simp only [List.length_append] at h1 h2
            omega
          have HC := hid hcount; clear hcount
          go_wp2_with fail
          generalize hW : World.setCell _ _ _ = w5
          have hN5 : w5.heap[B + 1]? = some (.cells (numC (bump nums (st i))) 64 (0, 0)) := by rw [← hW, blk_setCell _ HNy.out, numC_bump hg1]
          have hk5 : Kept [B + 1] wr w5 := by rw [← hW]; exact (Kept.refl [B + 1] wr).setCell _ (.inl (by simp))
          have hO5 := ownsRow_kept HOy.out hk5 (by intro g hg; simp; intro e; subst e; exact own_far HOy.out HNy.out (by decide) (own_mem.2 hg))
          have hK5 : Kept [] w w5 := HKy.out.thenNew hk5 (by intro r hr; simp at hr; subst hr; right; have := HB.out; omega)
          have HN5 := hid hN5; have HO5 := hid hO5; have HK5 := hid hK5
          clear hW hN5 hk5 hO5 hK5
          go_roundw
          case rel =>
            refine ⟨i + 1, bump nums (st i), Y, by omega, by go_num, hid ?_, HO5, by omega, HN5, hid (fun j => ?_), HK5⟩
            · have h := hfin.out
              rw [← HR.out, ← HC.out, show len - i - 1 = len - (i + 1) by omega] at h
              exact h
            · have h := HNb.out j
              unfold bump; split <;> omega
          case measure => simp [intOf]; omega
    · have hlt' : ¬ (i : Int) < (len : Int) := by omega
      obtain rfl : i = len := by omega
      have hX : X = Tot := by
        have h := HX.out
        rw [Nat.sub_self, allPieces, List.append_nil] at h
        exact h
      have hsz : Hid (X = Tot) := hX
      clear hX
      go_wp2_with fail
      go_ret
      refine ⟨u7, rfl, ?_, HK.out⟩
      rw [HTot0.out, HB.out, ← hsz.out]
      exact HO.out
end Go.Proofs.Base
