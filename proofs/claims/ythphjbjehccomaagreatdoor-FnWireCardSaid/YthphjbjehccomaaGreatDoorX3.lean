/- Parts of the proof, steps X2, X3: what the code and the plain laws of these steps give. Made by AI agents; no person has read it. -/
import Derived.Test.YthphjbjehccomaaGreatDoorX4
import Derived.Test.YthphjbjehccomaaGreatDoorU22
section
namespace Go.Proofs.YthphjbjehccomaaGreatDoor
open Go Go.Proofs Go.RowKit Go.ChangeShapes Go.WideShapes Go.ChangeAt Go.Proofs.Base
set_option maxRecDepth 100000
theorem maxLen_is : maxLen = 9223372036854775807 := rfl
theorem addr_plus (b o i : Nat) : (⟨b, o, none⟩ : Addr).add i = ⟨b, o + i, none⟩ := by unfold Addr.add; split <;> simp_all
theorem cells5 : Tryz.prog.cellsOf 5 = 1 := by kernel_rfl
theorem cells3 : Tryz.prog.cellsOf 3 = 1 := by kernel_rfl
theorem cells4 : Tryz.prog.cellsOf 4 = 1 := by kernel_rfl
theorem cells47 : Tryz.prog.cellsOf 34 = 1 := by kernel_rfl
theorem cells49 : Tryz.prog.cellsOf 49 = 4 := by kernel_rfl
theorem u8_small {z : Int} (h : (Lit.int .u8 z).wf = true) : 0 ≤ z ∧ z < 256 := by
  simp only [Lit.wf, Bool.and_eq_true, IntKind.min, IntKind.max, IntKind.signed, IntKind.bits] at h
  simp at h; omega
theorem u32_small {z : Int} (h : (Lit.int .u32 z).wf = true) : 0 ≤ z ∧ z < 4294967296 := by
  simp only [Lit.wf, Bool.and_eq_true, IntKind.min, IntKind.max, IntKind.signed, IntKind.bits] at h
  simp at h; omega
theorem i64_small {z : Int} (h : (Lit.int .i64 z).wf = true) : z < 9223372036854775808 := by
  simp only [Lit.wf, Bool.and_eq_true, IntKind.min, IntKind.max, IntKind.signed, IntKind.bits] at h
  simp at h; omega
section
variable {H : Type} {enc : TypeId × Value → H} {W : World}
/-- A text, opened. -/
theorem openText {n : Nat} {v1 : Value} {y : DataW H × List MemPlace} (h : DataW.trod enc Tryz.prog W 0 (fun _ => true) true n 39 [v1] = some y) :
    ∃ A L C, v1 = .slice A L C ∧ L ≤ C ∧ C ≤ maxLen ∧ (1 ≤ L → ∃ b o, A = some ⟨b, o, none⟩) ∧ (1 ≤ L → ∀ b o, A = some ⟨b, o, none⟩ → ∃ l : List Nat, l.length = L ∧ BytesAt W b o l) := by
  rcases open_ints Tryz.underlying39 Tryz.underlying5 cells5 h with ⟨hc, _⟩ | ⟨a, len, cap, zs, hc, _, hl, hm, hz, _, hcell, hwf⟩
  · simp only [List.cons.injEq, and_true] at hc
    subst hc
    exact ⟨none, 0, 0, rfl, Nat.le_refl _, Nat.zero_le _, fun h => by omega, fun h => by omega⟩
  · simp only [List.cons.injEq, and_true] at hc
    subst hc
    simp only [if_true] at hz
    refine ⟨some a, len, cap, rfl, hl, hm, fun h1 => ?_, fun h1 b o hA => ?_⟩
    · obtain ⟨b, o, spot⟩ := a
      have hs := World.cell?_spot (hcell 0 (by omega))
      simp only [Addr.add] at hs
      subst hs
      exact ⟨b, o, rfl⟩
    · obtain rfl := Option.some.inj hA
      have hin : ∀ j, j < len → zs.getD j 0 ∈ zs := fun j hj => by
        rw [List.getD_eq_getElem?_getD, List.getElem?_eq_getElem (by omega)]
        exact List.getElem_mem _
      refine ⟨(zs.take len).map Int.toNat, by simp; omega, ?_, ?_, ?_⟩
      · exact World.block_lt_of_cell? W _ (hcell 0 (by omega))
      · intro x hx
        obtain ⟨z, hz', rfl⟩ := List.mem_map.1 hx
        have := u8_small (hwf z (List.mem_of_mem_take hz'))
        omega
      · intro j hj
        have hj' : j < len := by simp at hj; omega
        have hc := hcell j (by omega)
        have hw := u8_small (hwf _ (hin j hj'))
        have e : (bt ((zs.take len).map Int.toNat) j : Int) = zs.getD j 0 := by
          have hjz : j < zs.length := by omega
          rw [List.getD_eq_getElem?_getD, List.getElem?_eq_getElem hjz] at hw ⊢
          simp only [Option.getD_some] at hw ⊢
          simp [bt, hj', hjz]
          omega
        rw [e]
        rwa [addr_plus] at hc
/-- The messages, opened. -/
theorem openMsgs {fuel len cap : Nat} {a0 : Option Addr} {x : DataW H × List MemPlace} (h : DataW.trod enc Tryz.prog W 0 (fun _ => true) true fuel 23 [.slice a0 len cap] = some x) (hl1 : 1 ≤ len) :
    ∃ b off st A L C, a0 = some ⟨b, off, none⟩ ∧ MsgsIn W b off len st A L C ∧ TextsAt len A L C ∧ BytesIn W len A L ∧ (len : Int) ≤ 9223372036854775807 := by
  rcases Go.Deep.open_slice_pairs Tryz.underlying23 Tryz.underlying43 (by kernel_rfl) rfl rfl (by kernel_rfl) (by kernel_rfl) h with ⟨hc, _⟩ | ⟨a, len', cap', m, n, V0, V1, D0, D1, P0, P1, hc, _, hl, hm, hmm, _, hrow⟩
  · simp only [List.cons.injEq, and_true, Value.slice.injEq] at hc
    omega
  · simp only [List.cons.injEq, and_true, Value.slice.injEq] at hc
    obtain ⟨rfl, rfl, rfl⟩ := hc
    simp only [if_true] at hmm
    subst hmm
    obtain ⟨b, off, spot⟩ := a
    have hs := World.cell?_spot (hrow 0 (by omega)).1
    simp only [Addr.add] at hs
    subst hs
    have each : ∀ i, i < len → ∃ q : Int × Option Addr × Nat × Nat, V0 i = .int .i64 q.1 ∧ V1 i = .slice q.2.1 q.2.2.1 q.2.2.2 ∧ q.2.2.1 ≤ q.2.2.2 ∧ q.2.2.2 ≤ maxLen ∧ (1 ≤ q.2.2.1 → ∃ b o, q.2.1 = some ⟨b, o, none⟩) ∧
        (1 ≤ q.2.2.1 → ∀ b o, q.2.1 = some ⟨b, o, none⟩ → ∃ l : List Nat, l.length = q.2.2.1 ∧ BytesAt W b o l) := by
      intro i hi
      obtain ⟨_, _, h0, h1⟩ := hrow i (by omega)
      obtain ⟨z, hz, _⟩ := DataW.trod_int Tryz.underlying3 h0
      obtain ⟨A, L, C, hv, k1, k2, k3, k4⟩ := openText h1
      simp only [List.cons.injEq, and_true] at hz
      exact ⟨⟨z, A, L, C⟩, hz, hv, k1, k2, k3, k4⟩
    obtain ⟨q, hq⟩ := Go.Deep.choose_lt each
    refine ⟨b, off, fun i => (q i).1, fun i => (q i).2.1, fun i => (q i).2.2.1, fun i => (q i).2.2.2, rfl, ⟨World.block_lt_of_cell? W _ (hrow 0 (by omega)).1, fun i hi => ?_, fun i hi => ?_⟩, fun i hi => ?_, fun i hi => ?_, ?_⟩
    · rw [← (hq i hi).1]
      have := (hrow i (by omega)).1
      rwa [addr_plus] at this
    · rw [← (hq i hi).2.1]
      have := (hrow i (by omega)).2.1
      rwa [addr_plus] at this
    · obtain ⟨_, _, k1, k2, k3, _⟩ := hq i hi
      exact ⟨k1, k2, k3⟩
    · exact (hq i hi).2.2.2.2.2
    · rw [maxLen_is] at hm; omega
/-- Numbers, opened. -/
theorem openInts {n : Nat} {v1 : Value} {y : DataW H × List MemPlace} (h : DataW.trod enc Tryz.prog W 0 (fun _ => true) true n 34 [v1] = some y) :
    ∃ A L C act, v1 = .slice A L C ∧ L ≤ C ∧ C ≤ maxLen ∧ (1 ≤ L → ∃ b o, A = some ⟨b, o, none⟩ ∧ IntsAt W b o L act) := by
  rcases open_ints Tryz.underlying34 Tryz.underlying3 cells3 h with ⟨hc, _⟩ | ⟨a, len, cap, zs, hc, _, hl, hm, hz, _, hcell, hwf⟩
  · simp only [List.cons.injEq, and_true] at hc
    subst hc
    exact ⟨none, 0, 0, fun _ => 0, rfl, Nat.le_refl _, Nat.zero_le _, fun h => by omega⟩
  · simp only [List.cons.injEq, and_true] at hc
    subst hc
    simp only [if_true] at hz
    refine ⟨some a, len, cap, fun j => zs.getD j 0, rfl, hl, hm, fun h1 => ?_⟩
    obtain ⟨b, o, spot⟩ := a
    have hs := World.cell?_spot (hcell 0 (by omega))
    simp only [Addr.add] at hs
    subst hs
    refine ⟨b, o, rfl, World.block_lt_of_cell? W _ (hcell 0 (by omega)), fun j hj => ?_⟩
    have hc := hcell j (by omega)
    rwa [addr_plus] at hc
/-- The rounds, opened. -/
theorem openRnds {fuel rl rc : Nat} {RA : Option Addr} {x : DataW H × List MemPlace} (h : DataW.trod enc Tryz.prog W 0 (fun _ => true) true fuel 24 [.slice RA rl rc] = some x) :
    ∃ rA rL rC act tu bi lo, RoundsGiven W rl RA rA rL rC act tu bi lo := by
  rcases Nat.eq_zero_or_pos rl with rfl | h1
  · exact ⟨fun _ => none, fun _ => 0, fun _ => 0, fun _ _ => 0, fun _ => 0, fun _ => 0, fun _ => false, fun h => by omega, fun i hi => by omega, fun i hi => by omega, by omega⟩
  · rcases Go.Deep.open_slice Tryz.underlying24 h with ⟨hc, _⟩ | ⟨a, len, cap, m, n, D, Pl, hc, _, hl, hm, hmm, _, hrow⟩
    · simp only [List.cons.injEq, and_true, Value.slice.injEq] at hc
      omega
    · simp only [List.cons.injEq, and_true, Value.slice.injEq] at hc
      obtain ⟨rfl, rfl, rfl⟩ := hc
      simp only [if_true] at hmm
      subst hmm
      rw [cells49] at hrow
      have each : ∀ i, i < rl → ∃ q : (Option Addr × Nat × Nat) × Int × Int × Bool × (Nat → Int), W.cell? (a.add (i * 4)) = some (.slice q.1.1 q.1.2.1 q.1.2.2) ∧ W.cell? (a.add (i * 4 + 1)) = some (.int .i64 q.2.1) ∧ W.cell? (a.add (i * 4 + 2)) = some (.int .i64 q.2.2.1) ∧
          W.cell? (a.add (i * 4 + 3)) = some (.bool q.2.2.2.1) ∧ q.1.2.1 ≤ q.1.2.2 ∧ q.1.2.2 ≤ maxLen ∧ (1 ≤ q.1.2.1 → ∃ b o, q.1.1 = some ⟨b, o, none⟩ ∧ IntsAt W b o q.1.2.1 q.2.2.2.2) ∧ q.2.1 < 9223372036854775808 ∧ q.2.2.1 < 9223372036854775808 := by
        intro i hi
        obtain ⟨cs', k1, k2⟩ := hrow i (by omega)
        obtain ⟨_, hlen, hcell⟩ := World.cells?_some k1
        obtain ⟨xs, k, hk, hxy, _, hxl, hf⟩ := DataW.trod_struct Tryz.underlying49 k2
        match xs, hxl, cs', hlen with
        | [y0, y1, y2, y3], _, [v0, v1, v2, v3], _ =>
          have g0 := hf 0 _ rfl
          have g1 := hf 1 _ rfl
          have g2 := hf 2 _ rfl
          have g3 := hf 3 _ rfl
          simp [cells47, cells3, cells4] at g0 g1 g2 g3
          have e0 := hcell 0 (by omega)
          have e1 := hcell 1 (by omega)
          have e2 := hcell 2 (by omega)
          have e3 := hcell 3 (by omega)
          rw [Go.Deep.add_add] at e0 e1 e2 e3
          obtain ⟨A, L, C, act, hv, j1, j2, j3⟩ := openInts g0
          obtain ⟨z1, hz1, _, w1⟩ := DataW.trod_int Tryz.underlying3 g1
          obtain ⟨z2, hz2, _, w2⟩ := DataW.trod_int Tryz.underlying3 g2
          obtain ⟨bb, hbb, _⟩ := DataW.trod_bool Tryz.underlying4 g3
          simp only [List.cons.injEq, and_true] at hz1 hz2 hbb
          subst hv hz1 hz2 hbb
          exact ⟨⟨(A, L, C), z1, z2, bb, act⟩, by simpa using e0, by simpa using e1, by simpa using e2, by simpa using e3, j1, j2, j3, i64_small w1, i64_small w2⟩
      obtain ⟨q, hq⟩ := Go.Deep.choose_lt each
      have h0 := (hq 0 h1).1
      obtain ⟨b, off, spot⟩ := a
      have hs := World.cell?_spot h0
      simp only [Addr.add] at hs
      subst hs
      refine ⟨fun i => (q i).1.1, fun i => (q i).1.2.1, fun i => (q i).1.2.2, fun i => (q i).2.2.2.2, fun i => (q i).2.1, fun i => (q i).2.2.1, fun i => (q i).2.2.2.1, fun _ => ⟨b, off, rfl, World.block_lt_of_cell? W _ h0, fun i hi => ?_, fun i hi => ?_, fun i hi => ?_, fun i hi => ?_⟩, fun i hi => ?_, fun i hi => ?_, ?_⟩
      · have := (hq i hi).1
        rwa [addr_plus] at this
      · have := (hq i hi).2.1
        rwa [addr_plus] at this
      · have := (hq i hi).2.2.1
        rwa [addr_plus] at this
      · have := (hq i hi).2.2.2.1
        rwa [addr_plus] at this
      · obtain ⟨_, _, _, _, j1, j2, j3, _, _⟩ := hq i hi
        exact ⟨j1, j2, j3⟩
      · obtain ⟨_, _, _, _, _, _, _, j4, j5⟩ := hq i hi
        exact ⟨j4, j5⟩
      · rw [maxLen_is] at hm; omega
end
/-- Every call returns true, and turns nothing. -/
theorem walk {H : Type} {enc : TypeId × Value → H} {W : World} {fuel fuel' first len cap rl rc : Nat} {a0 RA : Option Addr} {size : Int} {tt ta : Nat} {ev ea : Value} {x x' : DataW H × List MemPlace} (h : DataW.trod enc Tryz.prog W 0 (fun _ => true) true fuel 23 [.slice a0 len cap] = some x)
    (h' : DataW.trod enc Tryz.prog W 0 (fun _ => true) true fuel' 24 [.slice RA rl rc] = some x') (hf : first < 4294967296) (hB : Bruijn W)
    (hg : W.cell? ⟨13, 0, none⟩ = some (.iface tt ev)) (hga : W.cell? ⟨0, 0, none⟩ = some (.iface ta ea)) :
    Calls Tryz.prog 3 #[.int .u32 first, .slice a0 len cap, .int .i64 size, .slice RA rl rc] W fun e w' => e = .returned (.bool true) ∧ Kept [] W w' := by
  obtain ⟨rA, rL, rC, act, tu, bi, lo, hR⟩ := openRnds h'
  rcases Nat.eq_zero_or_pos len with rfl | h1
  · exact FnWireNil a0 cap first rl rc size RA rA rL rC act tu bi lo W hR
  · obtain ⟨b, off, st, A, L, C, rfl, hM, hT, hBy, h63⟩ := openMsgs h h1
    exact FnWire b off len cap first rl rc size st A L C RA rA rL rC act tu bi lo tt ta ev ea W hf hM hT hBy h63 hR hB hg hga
end Go.Proofs.YthphjbjehccomaaGreatDoor
end
section
namespace Go.Proofs.YthphjbjehccomaaGreatDoor
open Go Go.Proofs Go.RowKit Go.ChangeShapes Go.WideShapes Go.ChangeAt Go.Proofs.Base
set_option maxRecDepth 100000
def argsRowed (P : Program) (ts : List TypeId) : Bool := ts.all fun t => P.readableRec t && decide (t < P.types.size)
theorem Below_trodAll {H : Type} {enc : TypeId × Value → H} {P : Program} (hl : laidOutB P = true) {W W' : World} (hb : Below W.heap.size W W') :
    ∀ {ts : List TypeId} {vs : List Value} {ds : List (DataW H)} {ps : List MemPlace}, argsRowed P ts = true → (∀ x ∈ ps, x.block < W.heap.size) → DataW.TrodAll enc P W 0 (fun _ => true) true ts vs ds ps →
      DataW.TrodAll enc P W' 0 (fun b => decide (b < W.heap.size)) true ts vs ds ps
  | [], vs, ds, ps, _, _, h => by
    obtain ⟨rfl, rfl, rfl⟩ := trodAll_nil h
    exact trodAll_mk0
  | t :: ts, vs, ds, ps, hr, hlt, h => by
    obtain ⟨v, vs', d, ds', p, q, rfl, rfl, rfl, h0, h1⟩ := trodAll_cons h
    simp only [argsRowed, List.all_cons, Bool.and_eq_true, decide_eq_true_eq] at hr
    exact ⟨p, q, Below.trod hl hr.1.1 hr.1.2 h0 hb (fun x hx => hlt x (by simp [hx])), Below_trodAll hl hb hr.2 (fun x hx => hlt x (by simp [hx])) h1, rfl⟩
theorem trodVars_length {H : Type} {enc : TypeId × Value → H} {P : Program} {w : World} {sp : Nat → Bool} : ∀ {ns : List String} {gs : List (DataW H)} {ps : List MemPlace}, DataW.TrodVars enc P w sp ns gs ps → gs.length = ns.length
  | [], [], _, _ => rfl
  | [], _ :: _, _, h => h.elim
  | _ :: _, [], _, h => h.elim
  | _ :: ns, _ :: gs, _, h => by
    obtain ⟨_, _, _, _, _, _, _, _, _, _, hs, _⟩ := h
    simp [trodVars_length hs]
set_option maxRecDepth 100000 in
theorem argsRead : argsRowed Tryz.prog Tryz.f3.params.toList = true := by kernel_rfl
set_option maxRecDepth 100000 in
/-- WHAT THE WALKS GIVE, FOR EVERY ARGUMENT AND EVERY WORLD THAT HOLDS THE SENTINELS. -/
theorem contract (H : Type) (enc : TypeId × Value → H) (W : World) (base : Nat) (args : Array Value) (ds gs : List (DataW H)) (before : List MemPlace)
    (hval : ∀ (j : Nat) t v, Tryz.f3.params[j]? = some t → args[j]? = some v → Value.okWide Tryz.prog W .any base t v)
    (hW : DataW.Whole enc Tryz.prog Tryz.f3.params.toList Rows.fnWireSpec.vars false W args.toList ds gs before) (hL : laidMetH Tryz.prog Rows.fnWireRow.laid W) :
    Calls Tryz.prog 3 args W fun e W' => ∃ v, e = .returned v ∧ Rows.fnWireSpec.post enc Tryz.prog Tryz.f3 false true false false W args v W' := by
  have hW' := hW
  obtain ⟨p, q, hA0, hV, rfl, hfz, hnd⟩ := hW
  have hA : DataW.TrodAll enc Tryz.prog W 0 (fun _ => true) true Tryz.f3.params.toList args.toList ds p := hA0
  have hlt : ∀ x ∈ p, x.block < W.heap.size := fun x hx => hW'.lt x (by simp [hx])
  obtain ⟨tt, ev, hg⟩ := bad_held hL
  obtain ⟨ta, ea, hga⟩ := try_held hL
  have hA' := hA
  rw [Tryz.params3] at hA hval
  obtain ⟨v0, vs0, d0, ds0, p0, q0, hargs, rfl, rfl, h0, r0⟩ := trodAll_cons hA
  obtain ⟨v1, vs1, d1, ds1, p1, q1, rfl, rfl, rfl, h1, r1⟩ := trodAll_cons r0
  obtain ⟨v2, vs2, d2, ds2, p2, q2, rfl, rfl, rfl, h2, r2⟩ := trodAll_cons r1
  obtain ⟨v3, vs3, d3, ds3, p3, q3, rfl, rfl, rfl, h3, r3⟩ := trodAll_cons r2
  obtain ⟨rfl, rfl, rfl⟩ := trodAll_nil r3
  obtain rfl : args = #[v0, v1, v2, v3] := by cases args; simp_all
  clear hargs hA hA0 r0 r1 r2 r3
  obtain ⟨z0, rfl, rfl, rfl, w0⟩ := open_int Tryz.underlying22 (hval 0 _ v0 rfl rfl) h0
  obtain ⟨a1, len, cap, rfl⟩ := okWide_slice Tryz.underlying23 (hval 1 _ v1 rfl rfl)
  obtain ⟨z2, rfl, rfl, rfl, w2⟩ := open_int Tryz.underlying3 (hval 2 _ v2 rfl rfl) h2
  obtain ⟨a3, rl, rc, rfl⟩ := okWide_slice Tryz.underlying24 (hval 3 _ v3 rfl rfl)
  obtain ⟨f1, h1'⟩ := h1
  obtain ⟨f3, h3'⟩ := h3
  have hz0 := u32_small w0
  obtain ⟨first, rfl⟩ : ∃ n : Nat, z0 = n := ⟨z0.toNat, by omega⟩
  refine (walk h1' h3' (by omega) (tab_held hL) hg hga).mono ?_
  rintro e W' ⟨rfl, hk⟩
  have hb := keptBelow hk
  have hgl := trodVars_length hV
  have hVars := Below.trodVars laidOut hb rowed hV
  have hArgs := Below_trodAll laidOut hb argsRead hlt hA'
  obtain ⟨g0, g1, g2, g3, g4, g5, g6, g7, g8, g9, g10, g11, g12, g13, g14, rfl⟩ : ∃ g0 g1 g2 g3 g4 g5 g6 g7 g8 g9 g10 g11 g12 g13 g14, gs = [g0, g1, g2, g3, g4, g5, g6, g7, g8, g9, g10, g11, g12, g13, g14] := by
    match gs, hgl with
    | [g0, g1, g2, g3, g4, g5, g6, g7, g8, g9, g10, g11, g12, g13, g14], _ => exact ⟨g0, g1, g2, g3, g4, g5, g6, g7, g8, g9, g10, g11, g12, g13, g14, rfl⟩
  exact ⟨_, rfl, _, _, _, [], _, _, hW', trodAll_cons_mk (shut_bool Tryz.underlying4 _) trodAll_mk0, hArgs, hVars, hb.frame _, fun h => by cases h⟩
end Go.Proofs.YthphjbjehccomaaGreatDoor
end
