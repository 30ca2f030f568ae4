/- A part of the proof, step Q3: what the code and the plain laws of this step give. Made by AI agents; no person has read it. -/
import Derived.Test.YtjdjmbjcbjmcoaaGreatDoorQ2
namespace Go.Proofs.YtjdjmbjcbjmcoaaGreatDoor
open Go Go.Proofs Go.RowKit Go.ChangeShapes Go.WideShapes Go.ChangeAt Go.Proofs.Base
def argsRowed (P : Program) (ts : List TypeId) : Bool := ts.all fun t => P.readableRec t && decide (t < P.types.size)
theorem Below_trodAll {H : Type} {enc : TypeId × Value → H} {P : Program} (hl : laidOutB P = true) {W W' : World} (hb : Below W.heap.size W W') :
    ∀ {ts : List TypeId} {vs : List Value} {ds : List (DataW H)} {ps : List MemPlace}, argsRowed P ts = true → (∀ x ∈ ps, x.block < W.heap.size) → DataW.TrodAll enc P W 0 (fun _ => true) true ts vs ds ps →
      DataW.TrodAll enc P W' 0 (fun b => decide (b < W.heap.size)) true ts vs ds ps
  | [], vs, ds, ps, _, _, h => by
    obtain ⟨rfl, rfl, rfl⟩ := trodAll_nil h
    exact trodAll_mk0
  | t :: ts, vs, ds, ps, hr, hlt, h => by
    obtain ⟨v, vs', d, ds', p, q, rfl, rfl, rfl, h0, h1⟩ := trodAll_cons h
    simp only [argsRowed, List.all_cons, Bool.and_eq_true, decide_eq_true_eq] at hr
    exact ⟨p, q, Below.trod hl hr.1.1 hr.1.2 h0 hb (fun x hx => hlt x (by simp [hx])), Below_trodAll hl hb hr.2 (fun x hx => hlt x (by simp [hx])) h1, rfl⟩
theorem trodVars_length {H : Type} {enc : TypeId × Value → H} {P : Program} {w : World} {sp : Nat → Bool} : ∀ {ns : List String} {gs : List (DataW H)} {ps : List MemPlace}, DataW.TrodVars enc P w sp ns gs ps → gs.length = ns.length
  | [], [], _, _ => rfl
  | [], _ :: _, _, h => h.elim
  | _ :: _, [], _, h => h.elim
  | _ :: ns, _ :: gs, _, h => by
    obtain ⟨_, _, _, _, _, _, _, _, _, _, hs, _⟩ := h
    simp [trodVars_length hs]
set_option maxRecDepth 100000 in
theorem argsRead : argsRowed Tryz.prog Tryz.f3.params.toList = true := by kernel_rfl
set_option maxRecDepth 100000 in
/-- WHAT THE WALKS GIVE, FOR EVERY ARGUMENT AND EVERY WORLD THAT HOLDS THE SENTINELS. -/
theorem contract (H : Type) (enc : TypeId × Value → H) (W : World) (base : Nat) (args : Array Value) (ds gs : List (DataW H)) (before : List MemPlace)
    (hval : ∀ (j : Nat) t v, Tryz.f3.params[j]? = some t → args[j]? = some v → Value.okWide Tryz.prog W .any base t v)
    (hW : DataW.Whole enc Tryz.prog Tryz.f3.params.toList Rows.fnBentSpec.vars false W args.toList ds gs before) (hL : laidMetH Tryz.prog Rows.fnBentRow.laid W) :
    Calls Tryz.prog 3 args W fun e W' => ∃ v, e = .returned v ∧ Rows.fnBentSpec.post enc Tryz.prog Tryz.f3 false true false false W args v W' := by
  have hW' := hW
  obtain ⟨p, q, hA0, hV, rfl, hfz, hnd⟩ := hW
  have hA : DataW.TrodAll enc Tryz.prog W 0 (fun _ => true) true Tryz.f3.params.toList args.toList ds p := hA0
  have hlt : ∀ x ∈ p, x.block < W.heap.size := fun x hx => hW'.lt x (by simp [hx])
  obtain ⟨tt, ev, hg⟩ := bad_held hL
  have hA' := hA
  rw [Tryz.params3] at hA hval
  obtain ⟨v0, vs0, d0, ds0, p0, q0, hargs, rfl, rfl, h0, r0⟩ := trodAll_cons hA
  obtain ⟨v1, vs1, d1, ds1, p1, q1, rfl, rfl, rfl, h1, r1⟩ := trodAll_cons r0
  obtain ⟨v2, vs2, d2, ds2, p2, q2, rfl, rfl, rfl, h2, r2⟩ := trodAll_cons r1
  obtain ⟨v3, vs3, d3, ds3, p3, q3, rfl, rfl, rfl, h3, r3⟩ := trodAll_cons r2
  obtain ⟨v4, vs4, d4, ds4, p4, q4, rfl, rfl, rfl, h4, r4⟩ := trodAll_cons r3
  obtain ⟨rfl, rfl, rfl⟩ := trodAll_nil r4
  obtain rfl : args = #[v0, v1, v2, v3, v4] := by cases args; simp_all
  clear hargs hA hA0 r0 r1 r2 r3 r4
  obtain ⟨z0, rfl, rfl, rfl, w0⟩ := open_int Tryz.underlying22 (hval 0 _ v0 rfl rfl) h0
  obtain ⟨a1, len, cap, rfl⟩ := okWide_slice Tryz.underlying23 (hval 1 _ v1 rfl rfl)
  obtain ⟨z2, rfl, rfl, rfl, w2⟩ := open_int Tryz.underlying3 (hval 2 _ v2 rfl rfl) h2
  obtain ⟨z3, rfl, rfl, rfl, w3⟩ := open_int Tryz.underlying3 (hval 3 _ v3 rfl rfl) h3
  obtain ⟨z4, rfl, rfl, rfl, w4⟩ := open_int Tryz.underlying3 (hval 4 _ v4 rfl rfl) h4
  obtain ⟨f1, h1'⟩ := h1
  obtain ⟨first, rfl⟩ : ∃ n : Nat, z0 = n := ⟨z0.toNat, by have := u32_small w0; omega⟩
  refine (walk h1' hg (i64_small w3) (i64_small w4)).mono ?_
  rintro e W' ⟨rfl, hk⟩
  have hb := keptBelow hk
  have hgl := trodVars_length hV
  have hVars := Below.trodVars laidOut hb rowed hV
  have hArgs := Below_trodAll laidOut hb argsRead hlt hA'
  obtain ⟨g0, g1, g2, g3, g4, g5, g6, g7, g8, rfl⟩ : ∃ g0 g1 g2 g3 g4 g5 g6 g7 g8, gs = [g0, g1, g2, g3, g4, g5, g6, g7, g8] := by
    match gs, hgl with
    | [g0, g1, g2, g3, g4, g5, g6, g7, g8], _ => exact ⟨g0, g1, g2, g3, g4, g5, g6, g7, g8, rfl⟩
  exact ⟨_, rfl, _, _, _, [], _, _, hW', trodAll_cons_mk (shut_bool Tryz.underlying4 _) trodAll_mk0, hArgs, hVars, hb.frame _, fun h => by cases h⟩
end Go.Proofs.YtjdjmbjcbjmcoaaGreatDoor
