/- A part of the proof, step P3: what the code and the plain laws of this step give. Made by AI agents; no person has read it. -/
import Derived.Test.YthphjbjehccomaaGreatDoorP10
namespace Go.Proofs.Base
open Go Go.Proofs Go.RowKit
set_option maxRecDepth 100000
/-- A chunk of user data, as it stands in memory without its bytes. -/
structure Pd where
  bg : Bool
  en : Bool
  tsn : Nat
  si : Nat
  ssn : Nat
  ppi : Nat
def Pd.ok (d : Pd) : Prop := d.tsn < 4294967296 ∧ d.si < 65536 ∧ d.ssn < 65536 ∧ d.ppi < 4294967296
def payC (typ fl : Nat) (raw : Value) (d : Pd) (uv : Value) : Array Value :=
  #[.int .u8 typ, .int .u8 fl, raw, .int .u64 0, .bool false, .bool d.bg, .bool d.en, .bool false, .int .u32 d.tsn, .int .u16 d.si, .int .u16 d.ssn, .int .u32 0, .int .u32 0, .int .u32 d.ppi, uv, .bool false, .bool false, .int .u32 0, .int .u32 0, .bool false, .bool false, .bool false, .pointer none, .pointer none, .pointer none, .bool false]
def PayAt (w : World) (p typ fl : Nat) (raw : Value) (d : Pd) (uv : Value) : Prop := w.heap[p]? = some (.cells (payC typ fl raw d uv) 120 (0, 0))
theorem PayAt.kept {S : List Nat} {w w' : World} {p typ fl : Nat} {raw : Value} {d : Pd} {uv : Value} (h : PayAt w p typ fl raw d uv) (k : Kept S w w') (hp : p ∉ S) : PayAt w' p typ fl raw d uv := (k.block p (blk_lt h) hp).trans h
def flagOf (bg en : Bool) : Nat := (if en then 1 else 0) + (if bg then 2 else 0)
def payload (d : Pd) (user : List Nat) : List Nat :=
  (d.tsn / 16777216) :: (d.tsn / 65536 % 256) :: (d.tsn / 256 % 256) :: (d.tsn % 256) :: (d.si / 256) :: (d.si % 256) :: (d.ssn / 256) :: (d.ssn % 256) ::
    (d.ppi / 16777216) :: (d.ppi / 65536 % 256) :: (d.ppi / 256 % 256) :: (d.ppi % 256) :: user
def dataBytes (d : Pd) (user : List Nat) : List Nat := 0 :: flagOf d.bg d.en :: ((16 + user.length) / 256) :: ((16 + user.length) % 256) :: payload d user
theorem isIData_no (p typ fl : Nat) (raw : Value) (d : Pd) (uv : Value) (w : World) (h : PayAt w p typ fl raw d uv) (ht : typ ≠ 64) :
    Calls Tryz.prog 62 #[.pointer (some ⟨p, 0, none⟩)] w fun e w' => e = .returned (.bool false) ∧ w = w' := by
  have c0 : w.cell? ⟨p, 0, none⟩ = some (.int .u8 typ) := blk_cell h rfl
  have c15 : w.cell? ⟨p, 15, none⟩ = some (.bool false) := blk_cell h rfl
  have ht' : ((typ : Int) == 64) = false := by simp; omega
  clear h
  go_enter Tryz.func62, Tryz.ntmps62
  go_wp2
  go_ret
  exact ⟨rfl, rfl⟩
@[simp] theorem len_put2 (l : List Nat) (o v : Nat) : (put2 l o v).length = l.length := by simp [put2]
@[simp] theorem len_put4 (l : List Nat) (o v : Nat) : (put4 l o v).length = l.length := by simp [put4]
theorem put4_0 (v : Nat) (n : Nat) : put4 (List.replicate (12 + n) 0) 0 v = (v / 16777216) :: (v / 65536 % 256) :: (v / 256 % 256) :: (v % 256) :: 0 :: 0 :: 0 :: 0 :: 0 :: 0 :: 0 :: 0 :: List.replicate n 0 := by
  rw [Nat.add_comm]; rfl

theorem pay_list (d : Pd) (l : List Nat) (n : Nat) (hn : l.length = n) : splice (put4 (put2 (put2 (put4 (List.replicate (12 + n) 0) 0 d.tsn) 4 d.si) 6 d.ssn) 8 d.ppi) 12 l = payload d l := by
  rw [put4_0]
  simp [splice, put2, put4, payload, hn, List.drop_eq_nil_of_le, Nat.add_comm, Nat.add_left_comm]
theorem PayAt.set3 {w : World} {p typ fl : Nat} {raw : Value} {d : Pd} {uv : Value} (h : PayAt w p typ fl raw d uv) (f : Nat) (v : Value) :
    PayAt (((w.setCell ⟨p, 1, none⟩ (.int .u8 (f : Int))).setCell ⟨p, 0, none⟩ (.int .u8 ((0 : Nat) : Int))).setCell ⟨p, 2, none⟩ v) p 0 f v d uv := by
  unfold PayAt
  rw [blk_setCell _ (blk_setCell _ (blk_setCell _ h))]; rfl
theorem OB.keep_set {w : World} {b : Nat} {l : List Nat} (h : OB w b l) (a : Addr) (v : Value) (hb : b ≠ a.block) : OB (w.setCell a v) b l := (blk_setCell_ne v hb).trans h
theorem len_payload (d : Pd) (l : List Nat) : (payload d l).length = 12 + l.length := by simp [payload]; omega
theorem len_dataBytes (d : Pd) (l : List Nat) : (dataBytes d l).length = 16 + l.length := by simp [dataBytes, len_payload]; omega
theorem small_payload (d : Pd) (l : List Nat) (hd : d.ok) (hl : ∀ x ∈ l, x < 256) : ∀ x ∈ payload d l, x < 256 := by
  obtain ⟨h1, h2, h3, h4⟩ := hd
  intro x hx
  simp only [payload, List.mem_cons] at hx
  rcases hx with rfl | rfl | rfl | rfl | rfl | rfl | rfl | rfl | rfl | rfl | rfl | rfl | hx
  all_goals first | omega | exact hl x hx
set_option maxRecDepth 100000 in
set_option maxHeartbeats 6000000 in
theorem pay_marshal (p typ fl ub uo n ucap : Nat) (raw : Value) (d : Pd) (l : List Nat) (w : World) (hd : d.ok) (ht : typ ≠ 64) (h : PayAt w p typ fl raw d (.slice (some ⟨ub, uo, none⟩) n ucap))
    (hl : BytesAt w ub uo l) (hn : l.length = n) (hp : 0 < n) (hm : n < 50000) :
    Calls Tryz.prog 48 #[.pointer (some ⟨p, 0, none⟩)] w fun e w' => ∃ B, w.heap.size ≤ B ∧ e = .returned (.tuple #[.slice (some ⟨B, 0, none⟩) (16 + n) (16 + n), .nilIface]) ∧
      OB w' B (dataBytes d l) ∧ Kept [p] w w' := by
  have lp := blk_lt h
  have HN := hid hn; clear hn
  have H := hid h; clear h
  have hcall := isIData_no p typ fl raw d _ w H.out ht
  have Hcall := hid hcall; clear hcall
  have u0 : w.cell? ⟨p, 14, none⟩ = some (.slice (some ⟨ub, uo, none⟩) n ucap) := blk_cell H.out rfl
  have hmk := makeB (12 + n) (12 + (n : Int)) (by omega) (by omega) w
  go_enter Tryz.func48, Tryz.ntmps48
  go_wp2_with fail
  refine Hcall.out.mono ?_
  rintro e w' ⟨rfl, rfl⟩
  go_wp2_with fail
  generalize hW : w.alloc _ = w1
  have Hob1 : Hid (OB w1 w.heap.size (List.replicate (12 + n) 0)) := by rw [← hW]; exact blk_new w _
  have hk1 : Kept [] w w1 := by rw [← hW]; exact (Kept.refl [] w).alloc _
  clear hW u0 hmk Hcall
  generalize hB : w.heap.size = B at *
  have HB := hid hB; clear hB
  have lp' : p < w.heap.size := by rw [HB.out]; exact lp
  have HBS : ∀ r ∈ [B], r ∈ ([] : List Nat) ∨ w.heap.size ≤ r := by intro r hr; simp at hr; subst hr; right; rw [HB.out]; exact Nat.le_refl _
  have hH1 := H.out.kept hk1 (by simp)
  have u1 : w1.cell? ⟨p, 8, none⟩ = some (.int .u32 d.tsn) := blk_cell hH1 rfl
  clear hH1
  have s0 : (0 : Int) ≤ 12 + (n : Int) := by omega
  have s0' : ¬ (12 + n) = 0 := by omega
  go_still_tail 7, (by kernel_rfl)
  change wpList _ _ _ _ _ w1.drew
  go_wp2_with fail
  refine (putU32 B 0 (12 + n) (12 + n) d.tsn _ w1.drew (by exact hd.1) Hob1.out (by simp <;> omega) (by omega) (by omega)).mono ?_
  rintro e w2 ⟨rfl, Hob2', hk2'⟩
  have hk2 : Kept [] w w2 := hk1.drew.thenNew hk2' HBS
  have Hob2 : Hid (OB w2 B (put4 (List.replicate (12 + n) 0) 0 d.tsn)) := Hob2'
  have hH2 := H.out.kept hk2 (by simp)
  have u2 : w2.cell? ⟨p, 9, none⟩ = some (.int .u16 d.si) := blk_cell hH2 rfl
  clear hH2 hk2' Hob2' u1 hk1 Hob1 s0 s0'
  go_wp2_with fail
  have s4 : (4 : Int) ≤ 12 + (n : Int) := by omega
  have s4' : ¬ (12 + n) = 4 := by omega
  go_still_tail 7, (by kernel_rfl)
  change wpList _ _ _ _ _ w2.drew
  go_wp2_with fail
  refine (putU16 B 4 (12 + n - 4) (12 + n - 4) d.si _ w2.drew (by exact hd.2.1) Hob2.out (by simp <;> omega) (by omega) (by omega)).mono ?_
  rintro e w3 ⟨rfl, Hob3', hk3'⟩
  have hk3 : Kept [] w w3 := hk2.drew.thenNew hk3' HBS
  have Hob3 : Hid (OB w3 B (put2 (put4 (List.replicate (12 + n) 0) 0 d.tsn) 4 d.si)) := Hob3'
  have hH3 := H.out.kept hk3 (by simp)
  have u3 : w3.cell? ⟨p, 10, none⟩ = some (.int .u16 d.ssn) := blk_cell hH3 rfl
  clear hH3 hk3' Hob3' u2 hk2 Hob2 s4 s4'
  go_wp2_with fail
  have s6 : (6 : Int) ≤ 12 + (n : Int) := by omega
  have s6' : ¬ (12 + n) = 6 := by omega
  go_still_tail 7, (by kernel_rfl)
  change wpList _ _ _ _ _ w3.drew
  go_wp2_with fail
  refine (putU16 B 6 (12 + n - 6) (12 + n - 6) d.ssn _ w3.drew (by exact hd.2.2.1) Hob3.out (by simp <;> omega) (by omega) (by omega)).mono ?_
  rintro e w4 ⟨rfl, Hob4', hk4'⟩
  have hk4 : Kept [] w w4 := hk3.drew.thenNew hk4' HBS
  have Hob4 : Hid (OB w4 B (put2 (put2 (put4 (List.replicate (12 + n) 0) 0 d.tsn) 4 d.si) 6 d.ssn)) := Hob4'
  have hH4 := H.out.kept hk4 (by simp)
  have u4 : w4.cell? ⟨p, 13, none⟩ = some (.int .u32 d.ppi) := blk_cell hH4 rfl
  clear hH4 hk4' Hob4' u3 hk3 Hob3 s6 s6'
  go_wp2_with fail
  have s8 : (8 : Int) ≤ 12 + (n : Int) := by omega
  have s8' : ¬ (12 + n) = 8 := by omega
  go_still_tail 7, (by kernel_rfl)
  change wpList _ _ _ _ _ w4.drew
  go_wp2_with fail
  refine (putU32 B 8 (12 + n - 8) (12 + n - 8) d.ppi _ w4.drew (by exact hd.2.2.2) Hob4.out (by simp <;> omega) (by omega) (by omega)).mono ?_
  rintro e w5 ⟨rfl, Hob5', hk5'⟩
  have hk5 : Kept [] w w5 := hk4.drew.thenNew hk5' HBS
  have Hob5 : Hid (OB w5 B (put4 (put2 (put2 (put4 (List.replicate (12 + n) 0) 0 d.tsn) 4 d.si) 6 d.ssn) 8 d.ppi)) := Hob5'
  have hH5 := H.out.kept hk5 (by simp)
  have u5 : w5.cell? ⟨p, 14, none⟩ = some (.slice (some ⟨ub, uo, none⟩) n ucap) := blk_cell hH5 rfl
  clear hH5 hk5' Hob5' u4 hk4 Hob4 s8 s8'
  go_wp2_with fail
  have s12 : (12 : Int) ≤ 12 + (n : Int) := by omega
  have s12' : ¬ (12 + n) = 12 := by omega
  go_still_tail 6, (by kernel_rfl)
  change wpList _ _ _ _ _ w5.drew
  have hk5d : Kept [] w w5.drew := hk5.drew
  obtain ⟨w6, hcp, Hob6', hk6'⟩ := copyB w5.drew 3 B 12 n n ub uo n ucap _ l (Hob5.out : OB w5.drew B _) (hl.kept hk5d (by simp)) HN.out (Nat.le_refl _) (by simp)
  have hk6 : Kept [] w w6 := hk5d.thenNew hk6' HBS
  have Hob6 : Hid (OB w6 B (payload d l)) := by rw [pay_list d l n HN.out] at Hob6'; exact Hob6'
  have hH6 := H.out.kept hk6 (by simp)
  have c0 : w6.cell? ⟨p, 0, none⟩ = some (.int .u8 typ) := blk_cell hH6 rfl
  have c1 : w6.cell? ⟨p, 1, none⟩ = some (.int .u8 fl) := blk_cell hH6 rfl
  have c2 : w6.cell? ⟨p, 2, none⟩ = some raw := blk_cell hH6 rfl
  have c4 : w6.cell? ⟨p, 4, none⟩ = some (.bool false) := blk_cell hH6 rfl
  have c5 : w6.cell? ⟨p, 5, none⟩ = some (.bool d.bg) := blk_cell hH6 rfl
  have c6 : w6.cell? ⟨p, 6, none⟩ = some (.bool d.en) := blk_cell hH6 rfl
  have c7 : w6.cell? ⟨p, 7, none⟩ = some (.bool false) := blk_cell hH6 rfl
  have f0 : w6.frozen? ⟨p, 0, none⟩ = false := blk_free hH6
  have f1 : w6.frozen? ⟨p, 1, none⟩ = false := blk_free hH6
  have f2 : w6.frozen? ⟨p, 2, none⟩ = false := blk_free hH6
  have o1 : bits .or .u8 0 2 = 2 := by decide
  have o2 : bits .or .u8 1 2 = 3 := by decide
  have lp6 := blk_lt hH6
  have HH6 := hid hH6
  clear hH6
  clear Hob6' hk6' hk5d hk5 Hob5 u5 s12 s12'
  have hBp : B ≠ p := by omega
  cases hbg : d.bg <;> cases hen : d.en
  all_goals
    rw [hbg] at c5
    rw [hen] at c6
    have Hbg := hid hbg
    have Hen := hid hen
    clear hbg hen
  · have hB7 := small_payload d l hd hl.small
    have P7 := HH6.out.set3 0 (.slice (some ⟨B, 0, none⟩) (12 + n) (12 + n))
    have O7 := (Hob6.out.keep_set ⟨p, 1, none⟩ (.int .u8 ((0 : Nat) : Int)) hBp).keep_set ⟨p, 0, none⟩ (.int .u8 ((0 : Nat) : Int)) hBp |>.keep_set ⟨p, 2, none⟩ (.slice (some ⟨B, 0, none⟩) (12 + n) (12 + n)) hBp
    have K7 := (((hk6.more (R := [p]) (by simp)).setCell (p := ⟨p, 1, none⟩) (.int .u8 ((0 : Nat) : Int)) (.inl (by simp))).setCell (p := ⟨p, 0, none⟩) (.int .u8 ((0 : Nat) : Int)) (.inl (by simp))).setCell (p := ⟨p, 2, none⟩) (.slice (some ⟨B, 0, none⟩) (12 + n) (12 + n)) (.inl (by simp))
    have P7 := hid P7
    have O7 := hid O7
    have K7 := hid K7
    go_wp2_with fail
    refine (header_marshal p B 0 (12 + n) (12 + n) 0 0 (payload d l) _ (blk_cell P7.out rfl) (blk_cell P7.out rfl) (blk_cell P7.out rfl) (O7.out.bytes hB7) (by rw [len_payload, HN.out]) (by omega) (by omega)).mono ?_
    rintro e w8 ⟨rfl, Hob8, hk8⟩
    have hsz := K7.out.size
    generalize hB8 : World.heap _ = h8 at Hob8 hsz
    go_wp2_with fail
    go_ret2
    refine ⟨h8.size, hsz, ?_, ?_, K7.out.thenNew hk8 (by simp)⟩
    · rw [show 16 + n = 4 + (12 + n) by omega]; rfl
    · rw [dataBytes, Hbg.out, Hen.out, HN.out, show 16 + n = 4 + (12 + n) by omega]; exact Hob8
  · have hB7 := small_payload d l hd hl.small
    have P7 := HH6.out.set3 1 (.slice (some ⟨B, 0, none⟩) (12 + n) (12 + n))
    have O7 := (Hob6.out.keep_set ⟨p, 1, none⟩ (.int .u8 ((1 : Nat) : Int)) hBp).keep_set ⟨p, 0, none⟩ (.int .u8 ((0 : Nat) : Int)) hBp |>.keep_set ⟨p, 2, none⟩ (.slice (some ⟨B, 0, none⟩) (12 + n) (12 + n)) hBp
    have K7 := (((hk6.more (R := [p]) (by simp)).setCell (p := ⟨p, 1, none⟩) (.int .u8 ((1 : Nat) : Int)) (.inl (by simp))).setCell (p := ⟨p, 0, none⟩) (.int .u8 ((0 : Nat) : Int)) (.inl (by simp))).setCell (p := ⟨p, 2, none⟩) (.slice (some ⟨B, 0, none⟩) (12 + n) (12 + n)) (.inl (by simp))
    have P7 := hid P7
    have O7 := hid O7
    have K7 := hid K7
    go_wp2_with fail
    refine (header_marshal p B 0 (12 + n) (12 + n) 0 1 (payload d l) _ (blk_cell P7.out rfl) (blk_cell P7.out rfl) (blk_cell P7.out rfl) (O7.out.bytes hB7) (by rw [len_payload, HN.out]) (by omega) (by omega)).mono ?_
    rintro e w8 ⟨rfl, Hob8, hk8⟩
    have hsz := K7.out.size
    generalize hB8 : World.heap _ = h8 at Hob8 hsz
    go_wp2_with fail
    go_ret2
    refine ⟨h8.size, hsz, ?_, ?_, K7.out.thenNew hk8 (by simp)⟩
    · rw [show 16 + n = 4 + (12 + n) by omega]; rfl
    · rw [dataBytes, Hbg.out, Hen.out, HN.out, show 16 + n = 4 + (12 + n) by omega]; exact Hob8
  · have hB7 := small_payload d l hd hl.small
    have P7 := HH6.out.set3 2 (.slice (some ⟨B, 0, none⟩) (12 + n) (12 + n))
    have O7 := (Hob6.out.keep_set ⟨p, 1, none⟩ (.int .u8 ((2 : Nat) : Int)) hBp).keep_set ⟨p, 0, none⟩ (.int .u8 ((0 : Nat) : Int)) hBp |>.keep_set ⟨p, 2, none⟩ (.slice (some ⟨B, 0, none⟩) (12 + n) (12 + n)) hBp
    have K7 := (((hk6.more (R := [p]) (by simp)).setCell (p := ⟨p, 1, none⟩) (.int .u8 ((2 : Nat) : Int)) (.inl (by simp))).setCell (p := ⟨p, 0, none⟩) (.int .u8 ((0 : Nat) : Int)) (.inl (by simp))).setCell (p := ⟨p, 2, none⟩) (.slice (some ⟨B, 0, none⟩) (12 + n) (12 + n)) (.inl (by simp))
    have P7 := hid P7
    have O7 := hid O7
    have K7 := hid K7
    go_wp2_with fail
    refine (header_marshal p B 0 (12 + n) (12 + n) 0 2 (payload d l) _ (blk_cell P7.out rfl) (blk_cell P7.out rfl) (blk_cell P7.out rfl) (O7.out.bytes hB7) (by rw [len_payload, HN.out]) (by omega) (by omega)).mono ?_
    rintro e w8 ⟨rfl, Hob8, hk8⟩
    have hsz := K7.out.size
    generalize hB8 : World.heap _ = h8 at Hob8 hsz
    go_wp2_with fail
    go_ret2
    refine ⟨h8.size, hsz, ?_, ?_, K7.out.thenNew hk8 (by simp)⟩
    · rw [show 16 + n = 4 + (12 + n) by omega]; rfl
    · rw [dataBytes, Hbg.out, Hen.out, HN.out, show 16 + n = 4 + (12 + n) by omega]; exact Hob8
  · have hB7 := small_payload d l hd hl.small
    have P7 := HH6.out.set3 3 (.slice (some ⟨B, 0, none⟩) (12 + n) (12 + n))
    have O7 := (Hob6.out.keep_set ⟨p, 1, none⟩ (.int .u8 ((3 : Nat) : Int)) hBp).keep_set ⟨p, 0, none⟩ (.int .u8 ((0 : Nat) : Int)) hBp |>.keep_set ⟨p, 2, none⟩ (.slice (some ⟨B, 0, none⟩) (12 + n) (12 + n)) hBp
    have K7 := (((hk6.more (R := [p]) (by simp)).setCell (p := ⟨p, 1, none⟩) (.int .u8 ((3 : Nat) : Int)) (.inl (by simp))).setCell (p := ⟨p, 0, none⟩) (.int .u8 ((0 : Nat) : Int)) (.inl (by simp))).setCell (p := ⟨p, 2, none⟩) (.slice (some ⟨B, 0, none⟩) (12 + n) (12 + n)) (.inl (by simp))
    have P7 := hid P7
    have O7 := hid O7
    have K7 := hid K7
    go_wp2_with fail
    refine (header_marshal p B 0 (12 + n) (12 + n) 0 3 (payload d l) _ (blk_cell P7.out rfl) (blk_cell P7.out rfl) (blk_cell P7.out rfl) (O7.out.bytes hB7) (by rw [len_payload, HN.out]) (by omega) (by omega)).mono ?_
    rintro e w8 ⟨rfl, Hob8, hk8⟩
    have hsz := K7.out.size
    generalize hB8 : World.heap _ = h8 at Hob8 hsz
    go_wp2_with fail
    go_ret2
    refine ⟨h8.size, hsz, ?_, ?_, K7.out.thenNew hk8 (by simp)⟩
    · rw [show 16 + n = 4 + (12 + n) by omega]; rfl
    · rw [dataBytes, Hbg.out, Hen.out, HN.out, show 16 + n = 4 + (12 + n) by omega]; exact Hob8
end Go.Proofs.Base
