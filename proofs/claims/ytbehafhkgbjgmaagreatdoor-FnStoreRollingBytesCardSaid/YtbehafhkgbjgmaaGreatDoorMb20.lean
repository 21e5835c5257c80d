/-
  A state as it is told to a script. No condition.
-/
import Derived.Test.YtbehafhkgbjgmaaGreatDoorMb19
import Derived.Test.YtbehafhkgbjgmaaGreatDoorMb05
import Derived.Test.YtbehafhkgbjgmaaGreatDoorMb18
namespace Go.Proofs.YtbehafhkgbjgmaaGreatDoor
open Go Go.RowKit
set_option maxRecDepth 100000
set_option maxHeartbeats 2000000 in
theorem state57 (n b f la : Int) (t1 t2 sz : Int) (d : Option Addr) (cap : Nat) (w : World) :
    Calls Tryz.prog 57 #[.agg #[.int .u64 n, .int .u64 b, .int .u64 f, .int .i64 t1, .int .u64 la, .int .i64 t2, .int .i64 sz, .map none, .int .i64 0, .slice d 0 cap, .int .i64 0]] w fun e w' =>
      e = .returned (.agg #[.int .u64 n, .int .u64 b, .int .u64 f, .int .u64 la, .int .i64 t1, .int .i64 t2, .int .i64 sz, .int .i64 0, .slice none 0 0, .int .u64 0]) ∧ Ext w w' := by
  go_enter Tryz.func57, Tryz.ntmps57
  go_wp2_with fail
  obtain ⟨w0, hw0⟩ : ∃ w0, (w.alloc (.cells #[.int .u64 n, .int .u64 b, .int .u64 f, .int .i64 t1, .int .u64 la, .int .i64 t2, .int .i64 sz, .map none, .int .i64 0, .slice d 0 cap, .int .i64 0] 84)).alloc (.cells #[.int .u64 0, .int .u64 0, .int .u64 0, .int .u64 0, .int .i64 0, .int .i64 0, .int .i64 0, .int .i64 0, .slice none 0 0, .int .u64 0] 28) = w0 := ⟨_, rfl⟩
  rw [hw0]
  have HX0 : Hid (Ext w w0) := Lib.hid (by rw [← hw0]; exact ((Kp.refl _ _).alloc _).alloc _)
  have HP0 : Hid (Blk w0 w.heap.size #[.int .u64 n, .int .u64 b, .int .u64 f, .int .i64 t1, .int .u64 la, .int .i64 t2, .int .i64 sz, .map none, .int .i64 0, .slice d 0 cap, .int .i64 0] 84) := Lib.hid (by rw [← hw0]; exact (Blk.new w _ _).alloc _)
  have HR0 : Hid (Blk w0 (w.heap.size + 1) #[.int .u64 0, .int .u64 0, .int .u64 0, .int .u64 0, .int .i64 0, .int .i64 0, .int .i64 0, .int .i64 0, .slice none 0 0, .int .u64 0] 28) := Lib.hid (by rw [← hw0]; exact Blk.newAt (by simp))
  clear hw0
  generalize hpp : w.heap.size = pp at HP0 HR0
  have c0 : w0.cell? ⟨pp, 0, none⟩ = some (.int .u64 n) := HP0.out.cell 0
  have c1 : w0.cell? ⟨pp, 1, none⟩ = some (.int .u64 b) := HP0.out.cell 1
  have c2 : w0.cell? ⟨pp, 2, none⟩ = some (.int .u64 f) := HP0.out.cell 2
  have c3 : w0.cell? ⟨pp, 3, none⟩ = some (.int .i64 t1) := HP0.out.cell 3
  have c4 : w0.cell? ⟨pp, 4, none⟩ = some (.int .u64 la) := HP0.out.cell 4
  have c5 : w0.cell? ⟨pp, 5, none⟩ = some (.int .i64 t2) := HP0.out.cell 5
  have c6 : w0.cell? ⟨pp, 6, none⟩ = some (.int .i64 sz) := HP0.out.cell 6
  have c7 : w0.cell? ⟨pp, 7, none⟩ = some (.map none) := HP0.out.cell 7
  have c8 : w0.cell? ⟨pp, 8, none⟩ = some (.int .i64 0) := HP0.out.cell 8
  have c9 : w0.cell? ⟨pp, 9, none⟩ = some (.slice d 0 cap) := HP0.out.cell 9
  have c10 : w0.cell? ⟨pp, 10, none⟩ = some (.int .i64 0) := HP0.out.cell 10
  have y0 : w0.cell? ⟨pp + 1, 0, none⟩ = some (.int .u64 0) := HR0.out.cell 0
  have v0 : w0.frozen? ⟨pp + 1, 0, none⟩ = false := HR0.out.frozen 0
  have y1 : w0.cell? ⟨pp + 1, 1, none⟩ = some (.int .u64 0) := HR0.out.cell 1
  have v1 : w0.frozen? ⟨pp + 1, 1, none⟩ = false := HR0.out.frozen 1
  have y2 : w0.cell? ⟨pp + 1, 2, none⟩ = some (.int .u64 0) := HR0.out.cell 2
  have v2 : w0.frozen? ⟨pp + 1, 2, none⟩ = false := HR0.out.frozen 2
  have y3 : w0.cell? ⟨pp + 1, 3, none⟩ = some (.int .u64 0) := HR0.out.cell 3
  have v3 : w0.frozen? ⟨pp + 1, 3, none⟩ = false := HR0.out.frozen 3
  have y4 : w0.cell? ⟨pp + 1, 4, none⟩ = some (.int .i64 0) := HR0.out.cell 4
  have v4 : w0.frozen? ⟨pp + 1, 4, none⟩ = false := HR0.out.frozen 4
  have y5 : w0.cell? ⟨pp + 1, 5, none⟩ = some (.int .i64 0) := HR0.out.cell 5
  have v5 : w0.frozen? ⟨pp + 1, 5, none⟩ = false := HR0.out.frozen 5
  have y6 : w0.cell? ⟨pp + 1, 6, none⟩ = some (.int .i64 0) := HR0.out.cell 6
  have v6 : w0.frozen? ⟨pp + 1, 6, none⟩ = false := HR0.out.frozen 6
  have y7 : w0.cell? ⟨pp + 1, 7, none⟩ = some (.int .i64 0) := HR0.out.cell 7
  have v7 : w0.frozen? ⟨pp + 1, 7, none⟩ = false := HR0.out.frozen 7
  have y8 : w0.cell? ⟨pp + 1, 8, none⟩ = some (.slice none 0 0) := HR0.out.cell 8
  have v8 : w0.frozen? ⟨pp + 1, 8, none⟩ = false := HR0.out.frozen 8
  have y9 : w0.cell? ⟨pp + 1, 9, none⟩ = some (.int .u64 0) := HR0.out.cell 9
  have v9 : w0.frozen? ⟨pp + 1, 9, none⟩ = false := HR0.out.frozen 9
  cases d with
  | none =>
    go_still_tail 20, (by kernel_rfl)
    go_wp2_with fail
    (try simp only [Exit.inBlock, Exit.then])
    have hR := HR0.out
    have hR : Blk _ (pp + 1) #[.int .u64 n, .int .u64 0, .int .u64 0, .int .u64 0, .int .i64 0, .int .i64 0, .int .i64 0, .int .i64 0, .slice none 0 0, .int .u64 0] 28 := hR.set 0 (.int .u64 n)
    have hR : Blk _ (pp + 1) #[.int .u64 n, .int .u64 b, .int .u64 0, .int .u64 0, .int .i64 0, .int .i64 0, .int .i64 0, .int .i64 0, .slice none 0 0, .int .u64 0] 28 := hR.set 1 (.int .u64 b)
    have hR : Blk _ (pp + 1) #[.int .u64 n, .int .u64 b, .int .u64 f, .int .u64 0, .int .i64 0, .int .i64 0, .int .i64 0, .int .i64 0, .slice none 0 0, .int .u64 0] 28 := hR.set 2 (.int .u64 f)
    have hR : Blk _ (pp + 1) #[.int .u64 n, .int .u64 b, .int .u64 f, .int .u64 la, .int .i64 0, .int .i64 0, .int .i64 0, .int .i64 0, .slice none 0 0, .int .u64 0] 28 := hR.set 3 (.int .u64 la)
    have hR : Blk _ (pp + 1) #[.int .u64 n, .int .u64 b, .int .u64 f, .int .u64 la, .int .i64 t1, .int .i64 0, .int .i64 0, .int .i64 0, .slice none 0 0, .int .u64 0] 28 := hR.set 4 (.int .i64 t1)
    have hR : Blk _ (pp + 1) #[.int .u64 n, .int .u64 b, .int .u64 f, .int .u64 la, .int .i64 t1, .int .i64 t2, .int .i64 0, .int .i64 0, .slice none 0 0, .int .u64 0] 28 := hR.set 5 (.int .i64 t2)
    have hR : Blk _ (pp + 1) #[.int .u64 n, .int .u64 b, .int .u64 f, .int .u64 la, .int .i64 t1, .int .i64 t2, .int .i64 sz, .int .i64 0, .slice none 0 0, .int .u64 0] 28 := hR.set 6 (.int .i64 sz)
    have hR : Blk _ (pp + 1) #[.int .u64 n, .int .u64 b, .int .u64 f, .int .u64 la, .int .i64 t1, .int .i64 t2, .int .i64 sz, .int .i64 0, .slice none 0 0, .int .u64 0] 28 := hR.set 7 (.int .i64 0)
    have hR : Blk _ (pp + 1) #[.int .u64 n, .int .u64 b, .int .u64 f, .int .u64 la, .int .i64 t1, .int .i64 t2, .int .i64 sz, .int .i64 0, .slice none 0 0, .int .u64 0] 28 := hR.set 8 (.slice none 0 0)
    have hR : Blk _ (pp + 1) #[.int .u64 n, .int .u64 b, .int .u64 f, .int .u64 la, .int .i64 t1, .int .i64 t2, .int .i64 sz, .int .i64 0, .slice none 0 0, .int .u64 0] 28 := hR.set 9 (.int .u64 0)
    have hR := hR.drew
    refine bodyPost_ret (results_cell_row (P := Tryz.prog) rfl _ _ (pp + 1) 28 _ (0, 0) _ rfl hR Tryz.underlying28 rfl (by kernel_rfl)) rfl ?_
    refine ⟨rfl, HX0.out.trans ((((((((((((Kp.refl (fun i => i = pp ∨ i = pp + 1) w0).setR _).setR _).setR _).setR _).setR _).setR _).setR _).setR _).setR _).setR _).drew) fun i hi e => by omega⟩
  | some a =>
    go_still_tail 20, (by kernel_rfl)
    go_wp2_with fail
    (try simp only [Exit.inBlock, Exit.then])
    have hR := HR0.out
    have hR : Blk _ (pp + 1) #[.int .u64 n, .int .u64 0, .int .u64 0, .int .u64 0, .int .i64 0, .int .i64 0, .int .i64 0, .int .i64 0, .slice none 0 0, .int .u64 0] 28 := hR.set 0 (.int .u64 n)
    have hR : Blk _ (pp + 1) #[.int .u64 n, .int .u64 b, .int .u64 0, .int .u64 0, .int .i64 0, .int .i64 0, .int .i64 0, .int .i64 0, .slice none 0 0, .int .u64 0] 28 := hR.set 1 (.int .u64 b)
    have hR : Blk _ (pp + 1) #[.int .u64 n, .int .u64 b, .int .u64 f, .int .u64 0, .int .i64 0, .int .i64 0, .int .i64 0, .int .i64 0, .slice none 0 0, .int .u64 0] 28 := hR.set 2 (.int .u64 f)
    have hR : Blk _ (pp + 1) #[.int .u64 n, .int .u64 b, .int .u64 f, .int .u64 la, .int .i64 0, .int .i64 0, .int .i64 0, .int .i64 0, .slice none 0 0, .int .u64 0] 28 := hR.set 3 (.int .u64 la)
    have hR : Blk _ (pp + 1) #[.int .u64 n, .int .u64 b, .int .u64 f, .int .u64 la, .int .i64 t1, .int .i64 0, .int .i64 0, .int .i64 0, .slice none 0 0, .int .u64 0] 28 := hR.set 4 (.int .i64 t1)
    have hR : Blk _ (pp + 1) #[.int .u64 n, .int .u64 b, .int .u64 f, .int .u64 la, .int .i64 t1, .int .i64 t2, .int .i64 0, .int .i64 0, .slice none 0 0, .int .u64 0] 28 := hR.set 5 (.int .i64 t2)
    have hR : Blk _ (pp + 1) #[.int .u64 n, .int .u64 b, .int .u64 f, .int .u64 la, .int .i64 t1, .int .i64 t2, .int .i64 sz, .int .i64 0, .slice none 0 0, .int .u64 0] 28 := hR.set 6 (.int .i64 sz)
    have hR : Blk _ (pp + 1) #[.int .u64 n, .int .u64 b, .int .u64 f, .int .u64 la, .int .i64 t1, .int .i64 t2, .int .i64 sz, .int .i64 0, .slice none 0 0, .int .u64 0] 28 := hR.set 7 (.int .i64 0)
    have hR : Blk _ (pp + 1) #[.int .u64 n, .int .u64 b, .int .u64 f, .int .u64 la, .int .i64 t1, .int .i64 t2, .int .i64 sz, .int .i64 0, .slice none 0 0, .int .u64 0] 28 := hR.set 8 (.slice none 0 0)
    have hR : Blk _ (pp + 1) #[.int .u64 n, .int .u64 b, .int .u64 f, .int .u64 la, .int .i64 t1, .int .i64 t2, .int .i64 sz, .int .i64 0, .slice none 0 0, .int .u64 0] 28 := hR.set 9 (.int .u64 0)
    have hR := hR.drew
    refine bodyPost_ret (results_cell_row (P := Tryz.prog) rfl _ _ (pp + 1) 28 _ (0, 0) _ rfl hR Tryz.underlying28 rfl (by kernel_rfl)) rfl ?_
    refine ⟨rfl, HX0.out.trans ((((((((((((Kp.refl (fun i => i = pp ∨ i = pp + 1) w0).setR _).setR _).setR _).setR _).setR _).setR _).setR _).setR _).setR _).setR _).drew) fun i hi e => by omega⟩
end Go.Proofs.YtbehafhkgbjgmaaGreatDoor

/-
  A message's size; the first number once the first message goes. No condition.
-/
namespace Go.Proofs.YtbehafhkgbjgmaaGreatDoor
open Go Go.RowKit
set_option maxRecDepth 100000

theorem size141 (a b c : Nat) (w : World) (ha : a ≤ 4611686018427387904) (hb : b ≤ 1099511627776) (hc : c ≤ 1099511627776) :
    Calls Tryz.prog 141 #[.int .i64 a, .int .i64 b, .int .i64 c] w fun e w' => e = .returned (.int .u64 ((a + b + c + 16 : Nat) : Int)) ∧ w = w' := by
  go_enter Tryz.func141, Tryz.ntmps141
  go_wp2_with fail
  go_ret
  exact ⟨by simp, rfl⟩

theorem size77 (r : List UInt8) (ha da : Option Addr) (a b hc dc : Nat) (w : World) (h0 : r.length ≤ 4611686018427387904) (h1 : a ≤ 1099511627776) (h2 : b ≤ 1099511627776) :
    Calls Tryz.prog 77 #[.string (str r), .slice ha a hc, .slice da b dc] w fun e w' => e = .returned (.int .u64 ((r.length + a + b + 16 : Nat) : Int)) ∧ w = w' := by
  have hcon := Lib.hid (size141 r.length a b w h0 h1 h2)
  have hs : (str r).size = r.length := str_size r
  go_enter Tryz.func77, Tryz.ntmps77
  go_wp2_with fail
  refine hcon.out.mono ?_
  rintro e w' ⟨rfl, rfl⟩
  go_wp2_with fail
  go_ret
  exact ⟨rfl, rfl⟩

theorem drop80 (ms bs f : Nat) (s : Sto) (w : World) (hB : Blk w ms s.cells 91) (hr : s.root = .pointer (some ⟨bs, 0, none⟩)) (hS : Blk w bs (setCells (bit1 f)) 206) (hf : f < 64) :
    Calls Tryz.prog 80 #[.pointer (some ⟨ms, 27, none⟩), .int .u64 f] w fun e w' => (∃ x, e = .returned x) ∧ ∃ z1 z2, Blk w' ms { s with root := .pointer none, z1 := z1, z2 := z2 }.cells 91 ∧ Kp (fun x => x = ms ∨ x = bs) w w' := by
  refine (delete80 ms 27 f bs s.cells 91 w hf hB ⟨congrArg some hr, ⟨s.z1, rfl⟩, ⟨s.z2, rfl⟩, rfl, hS⟩ (hS.ne hB (by decide))).mono ?_
  rintro e w' ⟨he, cs', h1, ⟨g0, ⟨a, g1⟩, ⟨b, g2⟩, g3⟩, h3, h4⟩
  rw [sto_sameBut h3 g0 g1 g2 g3] at h1
  exact ⟨he, a, b, h1, h4⟩

theorem ins70 (ms f : Nat) (s : Sto) (w : World) (hB : Blk w ms s.cells 91) (hr : s.root = .pointer none) (hf : f < 64) :
    Calls Tryz.prog 70 #[.pointer (some ⟨ms, 27, none⟩), .int .u64 f] w fun e w' => e = .returned (.tuple #[]) ∧ ∃ b z1 z2, w.heap.size ≤ b ∧ Blk w' ms { s with root := .pointer (some ⟨b, 0, none⟩), z1 := z1, z2 := z2 }.cells 91 ∧ Blk w' b (setCells (bit1 f)) 206 ∧ Kp (· = ms) w w' := by
  refine (insert70 ms 27 f s.cells 91 w hf hB ⟨congrArg some hr, ⟨s.z1, rfl⟩, ⟨s.z2, rfl⟩, rfl⟩).mono ?_
  rintro e w' ⟨he, b, cs', h1, h2, ⟨g0, ⟨x, g1⟩, ⟨y, g2⟩, g3, g4⟩, h4, h5⟩
  rw [sto_sameBut h4 g0 g1 g2 g3] at h2
  exact ⟨he, b, x, y, h1, h2, g4, h5⟩

set_option maxHeartbeats 1000000 in
/-- The first number behind the first message's going. -/
theorem first140 (ms b0 bs : Nat) (s : Sto) (l : List (Nat × Nat)) (q : List Rec) (U : Nat → Prop) (w : World) (hB : Blk w ms s.cells 91) (hM : MapAt w s.r ((s.f, b0) :: l)) (hq : Msgs w U (s.f + 1) l q) (hn : s.f + q.length = s.la) (hl : s.la < 60)
    (hr : s.root = .pointer (some ⟨bs, 0, none⟩)) (hS : Blk w bs (setCells (bit1 s.f)) 206) (hU : ¬ U ms) :
    Calls Tryz.prog 140 #[.pointer (some ⟨ms, 0, none⟩), .int .u64 s.f] w fun e w' => e = .returned (.tuple #[]) ∧ ∃ t1 z1 z2, Blk w' ms { s with f := s.f + 1, t1 := t1, root := .pointer none, z1 := z1, z2 := z2 }.cells 91 ∧ Kp (fun x => x = ms ∨ x = bs) w w' := by
  have c16 : w.cell? ⟨ms, 16, none⟩ = some (.int .u64 s.f) := hB.cell 16
  have c17 : w.cell? ⟨ms, 17, none⟩ = some (.int .i64 s.t1) := hB.cell 17
  have c18 : w.cell? ⟨ms, 18, none⟩ = some (.int .u64 s.la) := hB.cell 18
  have c25 : w.cell? ⟨ms, 25, none⟩ = some (.map (some s.r)) := hB.cell 25
  have f16 : w.frozen? ⟨ms, 16, none⟩ = false := hB.frozen 16
  have f17 : w.frozen? ⟨ms, 17, none⟩ = false := hB.frozen 17
  have HB := Lib.hid hB
  have HS := Lib.hid hS
  have HU := Lib.hid hU
  cases q with
  | nil =>
    have hla : s.la = s.f := by simpa using hn.symm
    rw [hla] at c18
    clear hM hq hB hS hn
    go_enter Tryz.func140, Tryz.ntmps140
    go_wp2_with fail
    refine wp_loop_once ?_
    go_wp2_with fail
    have HB2 : Blk ((w.setCell ⟨ms, 16, none⟩ (.int .u64 (s.f + 1))).setCell ⟨ms, 17, none⟩ (.int .i64 0)) ms { s with f := s.f + 1, t1 := 0 }.cells 91 := (HB.out.set 16 _).set 17 _
    have hne := HS.out.ne HB.out (by decide)
    have HS2 : Blk ((w.setCell ⟨ms, 16, none⟩ (.int .u64 (s.f + 1))).setCell ⟨ms, 17, none⟩ (.int .i64 0)) bs (setCells (bit1 s.f)) 206 := (HS.out.setOther (a := ⟨ms, 16, none⟩) hne _).setOther (a := ⟨ms, 17, none⟩) hne _
    have hcon := Lib.hid (drop80 ms bs s.f _ _ HB2 hr HS2 (by omega))
    clear HB2 HS2
    refine hcon.out.mono ?_
    rintro e w' ⟨⟨x, rfl⟩, z1, z2, h1, h2⟩
    have H1 := Lib.hid h1
    have H2 := Lib.hid h2
    clear h1 h2
    go_wp2_with fail
    go_end0
    refine ⟨rfl, 0, z1, z2, H1.out, Kp.trans (F := fun x => x = ms ∨ x = bs) (Kp.setCell (F := fun x => x = ms ∨ x = bs) (Kp.setCell (F := fun x => x = ms ∨ x = bs) (Kp.refl _ _) (.inl (.inl rfl)) _) (.inl (.inl rfl)) _) H2.out fun _ _ h => h⟩
  | cons r q =>
    have hlt : s.f + 1 ≤ s.la := by simp at hn; omega
    obtain ⟨b1, l1, rfl, hm⟩ : ∃ b1 l1, l = (s.f + 1, b1) :: l1 ∧ MsgAt w U b1 (s.f + 1) r := by
      cases l with
      | nil => exact absurd hq id
      | cons p l => exact ⟨p.2, l, by rw [← hq.1], hq.2.1⟩
    have hlk := look_some (a := [(s.f, b0)]) hM (by simp)
    obtain ⟨ha, hc, da, dc, bb, bc, hmb, _⟩ := hm
    have m4 : w.cell? ⟨b1, 4, none⟩ = some (.int .u64 (s.f + 1 : Nat)) := hmb.cell 4
    have m5 : w.cell? ⟨b1, 5, none⟩ = some (.int .i64 r.time) := hmb.cell 5
    have hne1 := hmb.ne hB (by decide)
    have e1 : ((s.f + 1 : Nat) : Int) = (s.f : Int) + 1 := by omega
    rw [e1] at hlk m4
    clear hM hq hB hS hn hmb
    go_enter Tryz.func140, Tryz.ntmps140
    go_wp2_with fail
    refine wp_loop_once ?_
    go_wp2_with fail
    have HB2 : Blk ((w.setCell ⟨ms, 16, none⟩ (.int .u64 (s.f + 1))).setCell ⟨ms, 17, none⟩ (.int .i64 r.time)) ms { s with f := s.f + 1, t1 := r.time }.cells 91 := (HB.out.set 16 _).set 17 _
    have hne := HS.out.ne HB.out (by decide)
    have HS2 : Blk ((w.setCell ⟨ms, 16, none⟩ (.int .u64 (s.f + 1))).setCell ⟨ms, 17, none⟩ (.int .i64 r.time)) bs (setCells (bit1 s.f)) 206 := (HS.out.setOther (a := ⟨ms, 16, none⟩) hne _).setOther (a := ⟨ms, 17, none⟩) hne _
    have hcon := Lib.hid (drop80 ms bs s.f _ _ HB2 hr HS2 (by omega))
    clear HB2 HS2
    refine hcon.out.mono ?_
    rintro e w' ⟨⟨x, rfl⟩, z1, z2, h1, h2⟩
    have H1 := Lib.hid h1
    have H2 := Lib.hid h2
    clear h1 h2
    go_wp2_with fail
    go_end0
    refine ⟨rfl, r.time, z1, z2, H1.out, Kp.trans (F := fun x => x = ms ∨ x = bs) (Kp.setCell (F := fun x => x = ms ∨ x = bs) (Kp.setCell (F := fun x => x = ms ∨ x = bs) (Kp.refl _ _) (.inl (.inl rfl)) _) (.inl (.inl rfl)) _) H2.out fun _ _ h => h⟩
end Go.Proofs.YtbehafhkgbjgmaaGreatDoor

/-
  A message's subject when the message goes: its count in the tree. No condition.
-/
namespace Go.Proofs.YtbehafhkgbjgmaaGreatDoor
open Go Go.RowKit
set_option maxRecDepth 100000

/-- The tree behind a message's going. -/
def Less1 (tb : Nat) (M : List UInt8 → Option (Nat × SS)) (B : Nat → Prop) (w w' : World) : Prop :=
  ∃ M' B', Tr w' tb M' B' ∧ (∀ key, M' key ≠ none → M key ≠ none) ∧ Kp (fun x => B x ∨ x = tb) w w' ∧ ∀ x, B' x → B x ∨ w.heap.size ≤ x

/-- The block is a text's leaf, whatever its state. -/
def LeafIs (w : World) (b : Nat) (suf : List UInt8) : Prop := ∃ s : SS, Blk w b (s.cells suf) 269
theorem LeafIs.set0 {w : World} {b : Nat} {suf : List UInt8} (h : LeafIs w b suf) (v : Int) : LeafIs (w.setCell ⟨b, 0, none⟩ (.int .u64 v)) b suf := by
  obtain ⟨s, h⟩ := h
  exact ⟨{ s with m := v }, h.set 0 _⟩
theorem LeafIs.set1 {w : World} {b : Nat} {suf : List UInt8} (h : LeafIs w b suf) (v : Int) : LeafIs (w.setCell ⟨b, 1, none⟩ (.int .u64 v)) b suf := by
  obtain ⟨s, h⟩ := h
  exact ⟨{ s with f := v }, h.set 1 _⟩
theorem LeafIs.set2 {w : World} {b : Nat} {suf : List UInt8} (h : LeafIs w b suf) (v : Int) : LeafIs (w.setCell ⟨b, 2, none⟩ (.int .u64 v)) b suf := by
  obtain ⟨s, h⟩ := h
  exact ⟨{ s with l := v }, h.set 2 _⟩
theorem LeafIs.set3 {w : World} {b : Nat} {suf : List UInt8} (h : LeafIs w b suf) (v : Bool) : LeafIs (w.setCell ⟨b, 3, none⟩ (.bool v)) b suf := by
  obtain ⟨s, h⟩ := h
  exact ⟨{ s with a := v }, h.set 3 _⟩
theorem LeafIs.set4 {w : World} {b : Nat} {suf : List UInt8} (h : LeafIs w b suf) (v : Bool) : LeafIs (w.setCell ⟨b, 4, none⟩ (.bool v)) b suf := by
  obtain ⟨s, h⟩ := h
  exact ⟨{ s with b := v }, h.set 4 _⟩
theorem Kp.set1 {b k : Nat} {w w' : World} (h : Kp (· = b) w w') (v : Value) : Kp (· = b) w (w'.setCell ⟨b, k, none⟩ v) := Kp.setCell (F := (· = b)) h (.inl rfl) v
theorem cells_suf {s : SS} {a c : List UInt8} (h : s.cells a = s.cells c) : a = c := by
  simp [SS.cells] at h
  exact str_inj h
theorem Tr.turned {w w' : World} {tb : Nat} {M : List UInt8 → Option (Nat × SS)} {B : Nat → Prop} {b : Nat} {s : SS} {suf : List UInt8} (h : Tr w tb M B) {key : List UInt8} (hk : M key = some (b, s)) (hB : Blk w b (s.cells suf) 269) (hK : Kp (· = b) w w') (hl : LeafIs w' b suf) :
    ∃ M', Tr w' tb M' B ∧ ∀ key, M' key ≠ none → M key ≠ none := by
  obtain ⟨s', hl⟩ := hl
  refine ⟨put1 M key (b, s'), h.turn hk hK fun suf' h' => ?_, fun key' hk' => ?_⟩
  · obtain rfl := cells_suf (hB.eqs h')
    exact hl
  · unfold put1 at hk'
    split at hk'
    · rename_i e; subst e; rw [hk]; simp
    · exact hk'
theorem less_turned {w w2 w' : World} {tb b : Nat} {M : List UInt8 → Option (Nat × SS)} {B : Nat → Prop} {s : SS} {suf : List UInt8} {key : List UInt8} (hT : Tr w tb M B) (hX : Ext w w2) (hk : M key = some (b, s)) (hbB : B b) (hB : Blk w2 b (s.cells suf) 269) (hK : Kp (· = b) w2 w') (hl : LeafIs w' b suf) :
    Less1 tb M B w w' := by
  obtain ⟨M', h1, h2⟩ := (hT.keep hX id fun _ _ => id).turned hk hB hK hl
  exact ⟨M', B, h1, h2, (hX.mono fun _ _ h => absurd h id).trans hK fun i _ e => .inl (e ▸ hbB), fun x hx => .inl hx⟩

set_option maxHeartbeats 4000000 in
theorem per78 (ms : Nat) (s : Sto) (M : List UInt8 → Option (Nat × SS)) (B : Nat → Prop) (l : List UInt8) (seq : Nat) (w : World) (hB : Blk w ms s.cells 91) (hT : Tr w s.tb M B) (hG : Good M) (hbm : ¬ B ms) (h0 : 0 < l.length) (hl : l.length ≤ 4611686018427387904) :
    Calls Tryz.prog 78 #[.pointer (some ⟨ms, 0, none⟩), .string (str l), .int .u64 seq] w fun e w' => e = .returned (.tuple #[]) ∧ Less1 s.tb M B w w' := by
  have c26 : w.cell? ⟨ms, 26, none⟩ = some (.pointer (some ⟨s.tb, 0, none⟩)) := hB.cell 26
  have hms := hB.lt
  have hmt : ms ≠ s.tb := hT.ne hB (by decide)
  have H99 := Lib.hid (fun W => toB99 l W hl)
  have HT := Lib.hid hT
  have HG := Lib.hid hG
  clear hT hG hB
  generalize htb : s.tb = tb at c26 HT hmt
  unfold NewSl at H99
  rcases hM : M l with _ | ⟨b, ss⟩
  · have H125 := Lib.hid (fun W ao cap (hX : Ext w W) (hS : Sl W ao cap l) => ((HT.out.keep hX id fun _ _ => id).find HG.out hS).mono (by rw [hM]; exact fun e w' h => h))
    generalize hn : l.length = n at h0 H99 H125
    unfold found at H125
    go_enter Tryz.func78, Tryz.ntmps78
    go_wp2_with fail
    go_region_held3 (fun w' => w'.cell? ⟨ms, 26, none⟩ = some (.pointer (some ⟨tb, 0, none⟩))) (simp [*]) (first | (go_at_call 99; refine (H99.out _).mono ?_; rintro e w1 ⟨b1, cap1, hb1, rfl, hS1, hX1⟩; have HS1 := Lib.hid hS1; have HX1 := Lib.hid (Kp.undrew hX1); clear hS1 hX1 hb1; have c26' : w1.cell? ⟨ms, 26, none⟩ = some (.pointer (some ⟨tb, 0, none⟩)) := (HX1.out.cell id hms).trans c26) | (go_at_call 125; refine (H125.out _ _ _ HX1.out HS1.out).mono ?_; rintro e w2 ⟨rfl, hX2⟩; have HX2 := Lib.hid (HX1.out.trans hX2 fun _ _ h => h); clear hX2; have c26'' : w2.cell? ⟨ms, 26, none⟩ = some (.pointer (some ⟨tb, 0, none⟩)) := (HX2.out.cell id hms).trans c26))
    go_wp2_with fail
    (try simp only [Exit.inBlock, Exit.then])
    refine bodyPost_ret (results_none rfl _ _ _) rfl ?_
    exact ⟨rfl, M, B, HT.out.keep HX2.out id fun _ _ => id, fun _ h => h, HX2.out.mono fun _ _ h => absurd h id, fun x hx => .inl hx⟩
  · have H125 := Lib.hid (fun W ao cap (hX : Ext w W) (hS : Sl W ao cap l) => ((HT.out.keep hX id fun _ _ => id).find HG.out hS).mono (by rw [hM]; exact fun e w' h => h))
    have H142 := Lib.hid (fun W ao cap (hX : Ext w W) (hS : Sl W ao cap l) => (delete142 tb cap M B l ao (b, ss) W (HT.out.keep hX id fun _ _ => id) HG.out hS (by omega) hM))
    have hleaf := HT.out.leafAt hM
    have hbt := hleaf.2.1
    have HL : Hid (∃ suf, Blk w b (ss.cells suf) 269) := Lib.hid hleaf.2.2
    have hbB := hleaf.1
    clear hleaf
    generalize hn : l.length = n at h0 H99 H125 H142
    unfold found at H125
    unfold delRes at H142
    go_enter Tryz.func78, Tryz.ntmps78
    go_wp2_with fail
    go_region_held3 (fun w' => w'.cell? ⟨ms, 26, none⟩ = some (.pointer (some ⟨tb, 0, none⟩))) (simp [*]) (first | (go_at_call 99; refine (H99.out _).mono ?_; rintro e w1 ⟨b1, cap1, hb1, rfl, hS1, hX1⟩; have HS1 := Lib.hid hS1; have HX1 := Lib.hid (Kp.undrew hX1); clear hS1 hX1 hb1; have c26' : w1.cell? ⟨ms, 26, none⟩ = some (.pointer (some ⟨tb, 0, none⟩)) := (HX1.out.cell id hms).trans c26) | (go_at_call 125; refine (H125.out _ _ _ HX1.out HS1.out).mono ?_; rintro e w2 ⟨rfl, hX2⟩; have HX2 := Lib.hid (HX1.out.trans hX2 fun _ _ h => h); clear hX2; have c26'' : w2.cell? ⟨ms, 26, none⟩ = some (.pointer (some ⟨tb, 0, none⟩)) := (HX2.out.cell id hms).trans c26))
    obtain ⟨suf, hbl⟩ := HL.out
    have HB2 := Lib.hid (hbl.keep HX2.out id)
    clear hbl
    have b0 : w2.cell? ⟨b, 0, none⟩ = some (.int .u64 ss.m) := HB2.out.cell 0
    have b1 : w2.cell? ⟨b, 1, none⟩ = some (.int .u64 ss.f) := HB2.out.cell 1
    have b2 : w2.cell? ⟨b, 2, none⟩ = some (.int .u64 ss.l) := HB2.out.cell 2
    have b3 : w2.cell? ⟨b, 3, none⟩ = some (.bool ss.a) := HB2.out.cell 3
    have b4 : w2.cell? ⟨b, 4, none⟩ = some (.bool ss.b) := HB2.out.cell 4
    have f0 : w2.frozen? ⟨b, 0, none⟩ = false := HB2.out.frozen 0
    have f1 : w2.frozen? ⟨b, 1, none⟩ = false := HB2.out.frozen 1
    have f2 : w2.frozen? ⟨b, 2, none⟩ = false := HB2.out.frozen 2
    have f3 : w2.frozen? ⟨b, 3, none⟩ = false := HB2.out.frozen 3
    have f4 : w2.frozen? ⟨b, 4, none⟩ = false := HB2.out.frozen 4
    go_wp2_with fail
    all_goals first
      | (go_end0
         refine ⟨rfl, less_turned HT.out HX2.out hM hbB HB2.out ?_ ?_⟩
         · repeat (with_reducible refine Kp.set1 ?_ _)
           with_reducible exact Kp.refl _ _
         · repeat (first | with_reducible refine LeafIs.set0 ?_ _ | with_reducible refine LeafIs.set1 ?_ _ | with_reducible refine LeafIs.set2 ?_ _ | with_reducible refine LeafIs.set3 ?_ _ | with_reducible refine LeafIs.set4 ?_ _)
           exact ⟨ss, HB2.out⟩)
      | (refine bodyPost_ret (results_none rfl _ _ _) rfl ?_
         refine ⟨rfl, less_turned HT.out HX2.out hM hbB HB2.out ?_ ?_⟩
         · repeat (with_reducible refine Kp.set1 ?_ _)
           with_reducible exact Kp.refl _ _
         · repeat (first | with_reducible refine LeafIs.set0 ?_ _ | with_reducible refine LeafIs.set1 ?_ _ | with_reducible refine LeafIs.set2 ?_ _ | with_reducible refine LeafIs.set3 ?_ _ | with_reducible refine LeafIs.set4 ?_ _)
           exact ⟨ss, HB2.out⟩)
      | skip
    generalize hw2 : w2 = w3 at HX2 c26''
    go_region_held3 (fun w' => w'.cell? ⟨ms, 26, none⟩ = some (.pointer (some ⟨tb, 0, none⟩))) (simp [*]) (first | (go_at_call 99; refine (H99.out _).mono ?_; rintro e w4 ⟨b9, cap9, hb1, rfl, hS1, hX1⟩; have HS4 := Lib.hid hS1; have HX4 := Lib.hid (HX2.out.trans (Kp.undrew hX1) fun _ _ h => h); clear hS1 hX1 hb1; have c26' : w4.cell? ⟨ms, 26, none⟩ = some (.pointer (some ⟨tb, 0, none⟩)) := (HX4.out.cell id hms).trans c26) | (go_at_call 142; refine (H142.out _ _ _ HX4.out HS4.out).mono ?_; rintro e w5 ⟨rfl, B', h1, h2, h3⟩; have H1 := Lib.hid h1; have H2 := Lib.hid h2; have H3 := Lib.hid h3; clear h1 h2 h3; have c26''' : w5.cell? ⟨ms, 26, none⟩ = some (.pointer (some ⟨tb, 0, none⟩)) := (H2.out.cell (fun h => h.elim hbm hmt) (Nat.lt_of_lt_of_le hms HX4.out.size)).trans c26'))
    go_wp2_with fail
    (try simp only [Exit.inBlock, Exit.then])
    refine bodyPost_ret (results_none rfl _ _ _) rfl ?_
    refine ⟨rfl, drop1 M l, B', H1.out, fun key hk => ?_, (HX4.out.mono fun _ _ h => absurd h id).trans H2.out fun _ _ h => h, fun x hx => (H3.out x hx).imp id fun h => Nat.le_trans HX4.out.size h⟩
    unfold drop1 at hk
    split at hk
    · exact absurd rfl hk
    · exact hk
end Go.Proofs.YtbehafhkgbjgmaaGreatDoor

/-
  The first message goes. No condition beyond the store's own.
-/
namespace Go.Proofs.YtbehafhkgbjgmaaGreatDoor
open Go Go.RowKit
set_option maxRecDepth 100000

theorem total_le {q : List Rec} {c : Nat} (h : ∀ r, r ∈ q → r.size ≤ c) : total q ≤ c * q.length := by
  induction q with
  | nil => simp [total]
  | cons r q ih =>
    have h1 := h r (by simp)
    have h2 := ih fun x hx => h x (by simp [hx])
    simp only [total, List.length_cons, Nat.mul_add]
    omega

/-- What stays in the store's block whatever goes. -/
def Same (s s' : Sto) : Prop := s'.l0 = s.l0 ∧ s'.l4 = s.l4 ∧ s'.mm = s.mm ∧ s'.mb = s.mb ∧ s'.la = s.la ∧ s'.r = s.r ∧ s'.tb = s.tb ∧ s'.clock = s.clock
theorem Same.refl (s : Sto) : Same s s := ⟨rfl, rfl, rfl, rfl, rfl, rfl, rfl, rfl⟩
theorem Same.trans {a b c : Sto} (h : Same a b) (k : Same b c) : Same a c :=
  ⟨k.1.trans h.1, k.2.1.trans h.2.1, k.2.2.1.trans h.2.2.1, k.2.2.2.1.trans h.2.2.2.1, k.2.2.2.2.1.trans h.2.2.2.2.1, k.2.2.2.2.2.1.trans h.2.2.2.2.2.1, k.2.2.2.2.2.2.1.trans h.2.2.2.2.2.2.1, k.2.2.2.2.2.2.2.trans h.2.2.2.2.2.2.2⟩
/-- The store with the messages q. -/
def Now (ms : Nat) (K : List (List UInt8)) (s : Sto) (B U : Nat → Prop) (q : List Rec) (w w' : World) : Prop :=
  ∃ s' l' M' B', At w' ms K s' q l' M' B' U ∧ Same s s' ∧ Kp (fun x => x = ms ∨ x = s.r ∨ B x ∨ x = s.tb) w w' ∧ ∀ x, B' x → B x ∨ w.heap.size ≤ x

set_option maxHeartbeats 2000000 in
theorem rem75 (ms : Nat) (K : List (List UInt8)) (s : Sto) (r : Rec) (q : List Rec) (l : List (Nat × Nat)) (M : List UInt8 → Option (Nat × SS)) (B U : Nat → Prop) (w : World) (hA : At w ms K s (r :: q) l M B U) :
    Calls Tryz.prog 75 #[.pointer (some ⟨ms, 0, none⟩), .int .u64 s.f, .bool false] w fun e w' => (∃ a b, e = .returned (.tuple #[a, b, .bool true])) ∧ Now ms K s B U q w w' := by
  obtain ⟨b0, l1, rfl⟩ : ∃ b1 l1, l = (s.f, b1) :: l1 := by
    have := hA.msgs
    cases l with
    | nil => exact absurd this id
    | cons p l => exact ⟨p.2, l, by rw [← this.1]⟩
  have hq := hA.msgs.2.2
  obtain ⟨ha, hc, da, dc, bb, bc, hb0, hU0, _⟩ := hA.msgs.2.1
  have hnum : s.f + q.length = s.la := by
    rcases hA.num with h | h
    · simp at h; omega
    · simp at h
  have hla := hA.low
  have hr := hA.sml r (by simp)
  have hkg := hA.kgood.2 r.subj hr.1
  have htot : total q ≤ 65536 * q.length := total_le fun x hx => (hA.sml x (by simp [hx])).2
  have hks : q.length < 60 := by omega
  have c25 : w.cell? ⟨ms, 25, none⟩ = some (.map (some s.r)) := hA.blk.cell 25
  have c14 : w.cell? ⟨ms, 14, none⟩ = some (.int .u64 ((q.length : Int) + 1)) := by
    have := hA.blk.cell 14
    have e := hA.cnt
    rw [this]
    show some (Value.int .u64 (s.n : Int)) = _
    rw [e]; rfl
  have c15 : w.cell? ⟨ms, 15, none⟩ = some (.int .u64 ((r.size : Int) + (total q : Int))) := by
    have := hA.blk.cell 15
    have e := hA.byt
    rw [this]
    show some (Value.int .u64 (s.by' : Int)) = _
    rw [e]; rfl
  have f14 : w.frozen? ⟨ms, 14, none⟩ = false := hA.blk.frozen 14
  have f15 : w.frozen? ⟨ms, 15, none⟩ = false := hA.blk.frozen 15
  have hlook := look_some (a := []) hA.map (by simp)
  have m0 : w.cell? ⟨b0, 0, none⟩ = some (.string (str r.subj)) := hb0.cell 0
  have m1 : w.cell? ⟨b0, 1, none⟩ = some (.slice ha r.hdr.length hc) := hb0.cell 1
  have m2 : w.cell? ⟨b0, 2, none⟩ = some (.slice da r.data.length dc) := hb0.cell 2
  have hbm : b0 ≠ ms := hb0.ne hA.blk (by decide)
  have hmb : ms ≠ b0 := Ne.symm hbm
  have H77 := Lib.hid (fun W => size77 r.subj ha da r.hdr.length r.data.length hc dc W (by omega) (by have := hr.2; unfold Rec.size at this; omega) (by have := hr.2; unfold Rec.size at this; omega))
  have hsz : r.subj.length + r.hdr.length + r.data.length + 16 = r.size := rfl
  rw [hsz] at H77
  have hrs := hr.2
  have HA := Lib.hid hA
  have HQ := Lib.hid hq
  have Hb0 := Lib.hid hb0
  clear hA hq hb0
  generalize htq : total q = tq at c15 htot
  generalize hrz : r.size = rz at c15 H77 hrs
  generalize hk : q.length = k at c14 htot hks hnum
  generalize hl1 : r.hdr.length = n1 at m1 H77
  generalize hl2 : r.data.length = n2 at m2 H77
  go_enter Tryz.func75, Tryz.ntmps75
  go_wp2_with fail
  go_region_held3 (fun w' => w'.cell? ⟨b0, 0, none⟩ = some (.string (str r.subj)) ∧ w'.cell? ⟨b0, 1, none⟩ = some (.slice ha n1 hc) ∧ w'.cell? ⟨b0, 2, none⟩ = some (.slice da n2 dc)) (refine ⟨?_, ?_, ?_⟩ <;> simp [*]) (first | (go_at_call 77; refine (H77.out _).mono ?_; rintro e w1 ⟨rfl, rfl⟩))
  go_wp2_with fail
  have e1 : (rz : Int) + (tq : Int) - (rz : Int) = (tq : Int) := by omega
  rw [e1]
  obtain ⟨wa, hwa⟩ : ∃ wa, ((w.setCell ⟨ms, 14, none⟩ (.int .u64 k)).setCell ⟨ms, 15, none⟩ (.int .u64 tq)).drew = wa := ⟨_, rfl⟩
  rw [hwa]
  have HBa : Hid (Blk wa ms { s with n := k, by' := tq }.cells 91) := Lib.hid (by rw [← hwa]; exact ((HA.out.blk.set 14 _).set 15 _).drew)
  have HKa : Hid (Kp (· = ms) w wa) := Lib.hid (by rw [← hwa]; exact ((Kp.refl (· = ms) w).set1 _ |>.set1 _).drew)
  clear hwa c14 c15 f14 f15 c25
  refine (ins70 ms s.f _ wa HBa.out HA.out.root (by omega)).mono ?_
  rintro e wb ⟨rfl, bs, z1, z2, hbs, h1, h2, h3⟩
  have hbsw : w.heap.size ≤ bs := Nat.le_trans HKa.out.size hbs
  have HBb := Lib.hid h1
  have HSb := Lib.hid h2
  have HKb : Hid (Kp (· = ms) w wb) := Lib.hid (HKa.out.trans h3 fun _ _ h => h)
  clear h1 h2 h3 hbs
  have hrm : s.r ≠ ms := Ne.symm (HA.out.blk.neMap HA.out.map)
  have hum : ∀ x, U x → ¬ (x = ms) := fun x hx e => HA.out.ums (e ▸ hx)
  have H140 := Lib.hid (first140 ms b0 bs _ l1 q U wb HBb.out (HA.out.map.keep HKb.out hrm) (HQ.out.keep HKb.out hum) (by rw [hk]; exact hnum) hla rfl HSb.out HA.out.ums)
  go_wp2_with fail
  refine H140.out.mono ?_
  rintro e wc ⟨rfl, t1, y1, y2, h1, h2⟩
  have HBc := Lib.hid h1
  have HKc : Hid (Kp (· = ms) w wc) := Lib.hid (HKb.out.trans h2 fun i hi h => h.elim id fun e => by omega)
  clear h1 h2 H140 HBb HSb
  have m0' : wc.cell? ⟨b0, 0, none⟩ = some (.string (str r.subj)) := (Hb0.out.keep HKc.out hbm).cell 0
  have htm : s.tb ≠ ms := Ne.symm (HA.out.tr.ne HA.out.blk (by decide))
  have HTc := Lib.hid (HA.out.tr.keep HKc.out htm fun x hx e => HA.out.bms (e ▸ hx))
  have H78 := Lib.hid (per78 ms _ M B r.subj s.f wc HBc.out HTc.out HA.out.good HA.out.bms hkg.2.1 (by omega))
  go_wp2_with fail
  refine H78.out.mono ?_
  rintro e wd ⟨rfl, M', B', h1, h2, h3, h4⟩
  have HTd := Lib.hid h1
  have HM' := Lib.hid h2
  have HKd := Lib.hid h3
  have HB' := Lib.hid h4
  clear h1 h2 h3 h4 H78
  have htr : s.tb ≠ s.r := HA.out.tr.neMap HA.out.map
  have HBd := Lib.hid (HBc.out.keep HKd.out fun h => h.elim HA.out.bms fun e => htm e.symm)
  have HMd := Lib.hid ((HA.out.map.keep HKc.out hrm).keep HKd.out fun h => h.elim HA.out.br fun e => htr e.symm)
  obtain ⟨we, hdel, h1, h2⟩ := map_delete (a := []) HMd.out (by simp) 0
  have HMe := Lib.hid h1
  have HKe := Lib.hid h2
  clear h1 h2
  have d25 : wd.cell? ⟨ms, 25, none⟩ = some (.map (some s.r)) := HBd.out.cell 25
  have Hbe := Lib.hid (((Hb0.out.keep HKc.out hbm).keep HKd.out fun h => h.elim (fun h => HA.out.bu _ h hU0) fun e => HA.out.utb (e ▸ hU0)).keep HKe.out fun e => HA.out.ur (e ▸ hU0))
  have m0'' : we.cell? ⟨b0, 0, none⟩ = some (.string (str r.subj)) := Hbe.out.cell 0
  go_wp2_with fail
  go_ret3
  have hws := HA.out.blk.lt
  have hrs' := HA.out.map.lt
  have hck := HKc.out.size
  have hdk := HKd.out.size
  have hek := HKe.out.size
  have hK : Kp (fun x => x = ms ∨ x = s.r ∨ B x ∨ x = s.tb) w we :=
    ((HKc.out.mono fun _ _ h => Or.inl h).trans HKd.out fun _ _ h => .inr (.inr h)).trans HKe.out fun _ _ h => .inr (.inl h)
  have hUd : ∀ x, U x → ¬ (x = ms ∨ x = s.r ∨ B x ∨ x = s.tb) := fun x hx h => by
    rcases h with h | h | h | h
    · exact HA.out.ums (h ▸ hx)
    · exact HA.out.ur (h ▸ hx)
    · exact HA.out.bu x h hx
    · exact HA.out.utb (h ▸ hx)
  refine ⟨⟨_, _, rfl⟩, { s with n := k, by' := tq, f := s.f + 1, t1 := t1, root := .pointer none, z1 := y1, z2 := y2 }, l1, M', B', ⟨HBd.out.keep HKe.out (Ne.symm hrm), HMe.out, HTd.out.keep HKe.out htr fun x hx e => ?_, HQ.out.keep hK hUd, rfl, .inl ?_, hk.symm, htq.symm, hla, fun x hx => HA.out.sml x (by simp [hx]), fun key hkey => HA.out.keys key (HM'.out key hkey), HA.out.kgood, ?_, ?_, HA.out.ums, HA.out.ur, HA.out.utb, ?_, ?_⟩, ⟨rfl, rfl, rfl, rfl, rfl, rfl, rfl, rfl⟩, hK, fun x hx => ?_⟩
  · subst e
    rcases HB'.out _ hx with h | h
    · exact HA.out.br h
    · omega
  · show s.f + 1 + q.length = s.la + 1
    omega
  · intro hx
    rcases HB'.out _ hx with h | h
    · exact HA.out.bms h
    · omega
  · intro hx
    rcases HB'.out _ hx with h | h
    · exact HA.out.br h
    · have h : wc.heap.size ≤ s.r := h
      omega
  · intro x hx hu
    rcases HB'.out _ hx with h | h
    · exact HA.out.bu x h hu
    · have := HA.out.ult x hu
      omega
  · intro x hx
    have := HA.out.ult x hx
    omega
  · rcases HB'.out _ hx with h | h
    · exact .inl h
    · exact .inr (by omega)

set_option maxHeartbeats 1000000 in
/-- The first message goes, by the store's own call. -/
theorem first144 (ms : Nat) (K : List (List UInt8)) (s : Sto) (r : Rec) (q : List Rec) (l : List (Nat × Nat)) (M : List UInt8 → Option (Nat × SS)) (B U : Nat → Prop) (w : World) (hA : At w ms K s (r :: q) l M B U) :
    Calls Tryz.prog 144 #[.pointer (some ⟨ms, 0, none⟩)] w fun e w' => e = .returned (.tuple #[]) ∧ Now ms K s B U q w w' := by
  have H75 := Lib.hid (rem75 ms K s r q l M B U w hA)
  have H71 : Hid (Calls Tryz.prog 71 #[.pointer (some ⟨ms, 0, none⟩), .int .u64 s.f, .bool false] w fun e w' => e = .returned (.bool true) ∧ Now ms K s B U q w w') := by
    refine Lib.hid ?_
    go_enter Tryz.func71, Tryz.ntmps71
    go_wp2_with fail
    refine H75.out.mono ?_
    rintro e w1 ⟨⟨a, b, rfl⟩, hN⟩
    have HN := Lib.hid hN
    clear hN
    go_wp2_with fail
    go_ret
    exact ⟨rfl, HN.out⟩
  have c16 : w.cell? ⟨ms, 16, none⟩ = some (.int .u64 s.f) := hA.blk.cell 16
  have H200 : Hid (Calls Tryz.prog 200 #[.pointer (some ⟨ms, 0, none⟩)] w fun e w' => e = .returned (.bool true) ∧ Now ms K s B U q w w') := by
    refine Lib.hid ?_
    clear hA
    go_enter Tryz.func200, Tryz.ntmps200
    go_wp2_with fail
    refine H71.out.mono ?_
    rintro e w1 ⟨rfl, hN⟩
    have HN := Lib.hid hN
    clear hN
    go_wp2_with fail
    go_ret
    exact ⟨rfl, HN.out⟩
  clear hA
  go_enter Tryz.func144, Tryz.ntmps144
  go_wp2_with fail
  refine H200.out.mono ?_
  rintro e w1 ⟨rfl, hN⟩
  have HN := Lib.hid hN
  clear hN
  go_wp2_with fail
  go_end0
  exact ⟨rfl, HN.out⟩
end Go.Proofs.YtbehafhkgbjgmaaGreatDoor

/-
  The limits are enforced: the oldest messages go. No condition beyond the store's own.
-/
namespace Go.Proofs.YtbehafhkgbjgmaaGreatDoor
open Go Go.RowKit
set_option maxRecDepth 100000

theorem Now.refl {w : World} {ms : Nat} {K : List (List UInt8)} {s : Sto} {q : List Rec} {l : List (Nat × Nat)} {M : List UInt8 → Option (Nat × SS)} {B U : Nat → Prop} (h : At w ms K s q l M B U) : Now ms K s B U q w w :=
  ⟨s, l, M, B, h, Same.refl s, Kp.refl _ _, fun _ h => .inl h⟩
theorem Now.trans {w w1 w2 : World} {ms : Nat} {K : List (List UInt8)} {s s1 : Sto} {q2 : List Rec} {B B1 U : Nat → Prop} (hS : Same s s1) (hK : Kp (fun x => x = ms ∨ x = s.r ∨ B x ∨ x = s.tb) w w1) (hB : ∀ x, B1 x → B x ∨ w.heap.size ≤ x) (h : Now ms K s1 B1 U q2 w1 w2) : Now ms K s B U q2 w w2 := by
  obtain ⟨s2, l2, M2, B2, h1, h2, h3, h4⟩ := h
  refine ⟨s2, l2, M2, B2, h1, hS.trans h2, hK.trans h3 fun i hi h => ?_, fun x hx => ?_⟩
  · rcases h with h | h | h | h
    · exact .inl h
    · exact .inr (.inl (h.trans hS.2.2.2.2.2.1))
    · rcases hB i h with h | h
      · exact .inr (.inr (.inl h))
      · omega
    · exact .inr (.inr (.inr (h.trans hS.2.2.2.2.2.2.1)))
  · rcases h4 x hx with h | h
    · exact hB x h
    · exact .inr (Nat.le_trans hK.size h)
theorem dropN_tail {m : Nat} {r : Rec} {q : List Rec} (hm : 0 < m) (h : m < (r :: q).length) : dropN m (r :: q) = dropN m q := by
  simp only [dropN, if_neg (show ¬ m = 0 by omega)]
  simp only [List.length_cons] at h ⊢
  have e : q.length + 1 - m = (q.length - m) + 1 := by omega
  rw [e, List.drop_succ_cons]
theorem dropN_same {m : Nat} {q : List Rec} (h : m = 0 ∨ q.length ≤ m) : dropN m q = q := by
  unfold dropN
  split
  · rfl
  · rename_i h0
    have e : q.length - m = 0 := by omega
    rw [e, List.drop_zero]

theorem At.drewN {w : World} {ms : Nat} {K : List (List UInt8)} {s : Sto} {q : List Rec} {l : List (Nat × Nat)} {M : List UInt8 → Option (Nat × SS)} {B U : Nat → Prop} (h : At w ms K s q l M B U) (n : Nat) : At (w.drewN n) ms K s q l M B U :=
  have hK : Kp (fun _ => False) w (w.drewN n) := (Kp.refl _ _).drewN n
  ⟨h.blk.keep hK id, h.map.keep hK id, h.tr.keep hK id fun _ _ => id, h.msgs.keep hK fun _ _ => id, h.root, h.num, h.cnt, h.byt, h.low, h.sml, h.keys, h.kgood, h.bms, h.br, h.ums, h.ur, h.utb, h.bu, h.ult⟩
set_option maxHeartbeats 2000000 in
theorem limit82 (ms m : Nat) (K : List (List UInt8)) (s : Sto) (q : List Rec) (l : List (Nat × Nat)) (M : List UInt8 → Option (Nat × SS)) (B U : Nat → Prop) (w : World) (hA : At w ms K s q l M B U) (hm : s.mm = m) (hmb : m ≤ 1048576) :
    Calls Tryz.prog 82 #[.pointer (some ⟨ms, 0, none⟩)] w fun e w' => e = .returned (.tuple #[]) ∧ Now ms K s B U (dropN m q) w w' := by
  have c11 : w.cell? ⟨ms, 11, none⟩ = some (.int .i64 0) := hA.blk.cell 11
  have c8 : w.cell? ⟨ms, 8, none⟩ = some (.int .i64 m) := by rw [← hm]; exact hA.blk.cell 8
  have c14 : w.cell? ⟨ms, 14, none⟩ = some (.int .u64 (q.length : Int)) := by rw [← hA.cnt]; exact hA.blk.cell 14
  have hks : q.length ≤ 60 := by
    have := hA.low
    rcases hA.num with h | h
    · omega
    · simp [h.1]
  have HA := Lib.hid hA
  clear hA
  by_cases h0 : m = 0
  · subst h0
    generalize hk : q.length = k at c14 hks
    go_enter Tryz.func82, Tryz.ntmps82
    go_wp2_with fail
    go_quiet (fail)
    go_wp2_with fail
    (try simp only [Exit.inBlock, Exit.then])
    refine bodyPost_ret (results_none rfl _ _ _) rfl ?_
    rw [dropN_same (.inl rfl)]
    exact ⟨rfl, _, _, _, _, HA.out.drewN _, Same.refl s, (Kp.refl _ _).drewN _, fun _ h => .inl h⟩
  · have hm0 : ¬ ((m : Int) ≤ 0) := by omega
    by_cases hle : q.length ≤ m
    · generalize hk : q.length = k at c14 hks
      have hle' : (k : Int) ≤ (m : Int) := by omega
      go_enter Tryz.func82, Tryz.ntmps82
      go_wp2_with fail
      go_quiet (fail)
      go_wp2_with fail
      (try simp only [Exit.inBlock, Exit.then])
      refine bodyPost_ret (results_none rfl _ _ _) rfl ?_
      rw [dropN_same (.inr hle)]
      exact ⟨rfl, _, _, _, _, HA.out.drewN _, Same.refl s, (Kp.refl _ _).drewN _, fun _ h => .inl h⟩
    · generalize hk : q.length = k at c14 hks hle
      have hle' : ¬ ((k : Int) ≤ (m : Int)) := by omega
      go_enter Tryz.func82, Tryz.ntmps82
      go_wp2_with fail
      go_quiet (fail)
      go_wp2_with fail
      go_loopg [2] k (fun j x wr => x = .int .u64 (j : Int) ∧ ∃ q', q'.length = j ∧ dropN m q' = dropN m q ∧ Now ms K s B U q' w wr)
      case atStart => exact ⟨rfl, q, hk, rfl, _, _, _, _, HA.out.drewN _, Same.refl s, (Kp.refl _ _).drewN _, fun _ h => .inl h⟩
      case round =>
        obtain ⟨rfl, q', hq', hd, s1, l1, M1, B1, hA1, hS1, hK1, hB1⟩ := hrel
        clear c11 c8 c14
        have c8 : wr.cell? ⟨ms, 8, none⟩ = some (.int .i64 m) := by rw [← hm, ← hS1.2.2.1]; exact hA1.blk.cell 8
        by_cases hg : gk ≤ m
        · have hg' : (gk : Int) ≤ (m : Int) := by omega
          have HA1 := Lib.hid hA1
          have HS1 := Lib.hid hS1
          have HK1 := Lib.hid hK1
          have HB1 := Lib.hid hB1
          clear hA1 hS1 hK1 hB1
          go_wp2_with fail
          go_end0
          rw [← hd, dropN_same (.inr (by omega))]
          exact ⟨rfl, _, _, _, _, HA1.out, HS1.out, HK1.out, HB1.out⟩
        · have hg' : ¬ (gk : Int) ≤ (m : Int) := by omega
          obtain ⟨r, q'', rfl⟩ : ∃ r q'', q' = r :: q'' := by
            cases q' with
            | nil => simp at hq'; omega
            | cons r q'' => exact ⟨r, q'', rfl⟩
          have H144 := Lib.hid (first144 ms K s1 r q'' l1 M1 B1 U wr hA1)
          have HS1 := Lib.hid hS1
          have HK1 := Lib.hid hK1
          have HB1 := Lib.hid hB1
          clear hA1 hS1 hK1 hB1
          go_wp2_with fail
          refine H144.out.mono ?_
          rintro e w2 ⟨rfl, hN⟩
          have hN2 := Now.trans HS1.out HK1.out HB1.out hN
          obtain ⟨s2, l2, M2, B2, hA2, hS2, hK2, hB2⟩ := hN2
          have c14 : w2.cell? ⟨ms, 14, none⟩ = some (.int .u64 (q''.length : Int)) := by rw [← hA2.cnt]; exact hA2.blk.cell 14
          have HN2 : Hid (Now ms K s B U q'' w w2) := Lib.hid ⟨s2, l2, M2, B2, hA2, hS2, hK2, hB2⟩
          clear hA2 hS2 hK2 hB2 hN
          have hq2 : q''.length < gk := by simp at hq'; omega
          have hd2 : dropN m q'' = dropN m q := by rw [← hd, dropN_tail (by omega) (by rw [hq']; omega)]
          go_wp2_with fail
          go_roundg q''.length
          case measure => exact hq2
          case rel => exact ⟨rfl, q'', rfl, hd2, HN2.out⟩
theorem dropB_tail {m : Nat} {r : Rec} {q : List Rec} (hm : 0 < m) (h : m < total (r :: q)) : dropB m (r :: q) = dropB m q := by
  rw [dropB, if_pos ⟨hm, h⟩]
theorem dropB_same {m : Nat} {q : List Rec} (h : m = 0 ∨ total q ≤ m) : dropB m q = q := by
  cases q with
  | nil => rfl
  | cons r q => rw [dropB, if_neg (by omega)]

set_option maxHeartbeats 2000000 in
theorem limit83 (ms m : Nat) (K : List (List UInt8)) (s : Sto) (q : List Rec) (l : List (Nat × Nat)) (M : List UInt8 → Option (Nat × SS)) (B U : Nat → Prop) (w : World) (hA : At w ms K s q l M B U) (hm : s.mb = m) (hmb : m ≤ 1048576) :
    Calls Tryz.prog 83 #[.pointer (some ⟨ms, 0, none⟩)] w fun e w' => e = .returned (.tuple #[]) ∧ Now ms K s B U (dropB m q) w w' := by
  have c11 : w.cell? ⟨ms, 11, none⟩ = some (.int .i64 0) := hA.blk.cell 11
  have c8 : w.cell? ⟨ms, 9, none⟩ = some (.int .i64 m) := by rw [← hm]; exact hA.blk.cell 9
  have c14 : w.cell? ⟨ms, 15, none⟩ = some (.int .u64 (total q : Int)) := by rw [← hA.byt]; exact hA.blk.cell 15
  have hks : total q ≤ 65536 * 60 := by
    have h1 : total q ≤ 65536 * q.length := total_le fun x hx => (hA.sml x hx).2
    have := hA.low
    rcases hA.num with h | h
    · omega
    · simp [h.1, total]
  have HA := Lib.hid hA
  clear hA
  by_cases h0 : m = 0
  · subst h0
    generalize hk : total q = k at c14 hks
    go_enter Tryz.func83, Tryz.ntmps83
    go_wp2_with fail
    go_quiet (fail)
    go_wp2_with fail
    (try simp only [Exit.inBlock, Exit.then])
    refine bodyPost_ret (results_none rfl _ _ _) rfl ?_
    rw [dropB_same (.inl rfl)]
    exact ⟨rfl, _, _, _, _, HA.out.drewN _, Same.refl s, (Kp.refl _ _).drewN _, fun _ h => .inl h⟩
  · have hm0 : ¬ ((m : Int) ≤ 0) := by omega
    by_cases hle : total q ≤ m
    · generalize hk : total q = k at c14 hks
      have hle' : (k : Int) ≤ (m : Int) := by omega
      go_enter Tryz.func83, Tryz.ntmps83
      go_wp2_with fail
      go_quiet (fail)
      go_wp2_with fail
      (try simp only [Exit.inBlock, Exit.then])
      refine bodyPost_ret (results_none rfl _ _ _) rfl ?_
      rw [dropB_same (.inr hle)]
      exact ⟨rfl, _, _, _, _, HA.out.drewN _, Same.refl s, (Kp.refl _ _).drewN _, fun _ h => .inl h⟩
    · generalize hk : total q = k at c14 hks hle
      have hle' : ¬ ((k : Int) ≤ (m : Int)) := by omega
      go_enter Tryz.func83, Tryz.ntmps83
      go_wp2_with fail
      go_quiet (fail)
      go_wp2_with fail
      go_loopg [2] q.length (fun j x wr => ∃ q', x = .int .u64 (total q' : Int) ∧ total q' ≤ 65536 * 60 ∧ q'.length = j ∧ dropB m q' = dropB m q ∧ Now ms K s B U q' w wr)
      case atStart => exact ⟨q, by rw [hk], by rw [hk]; exact hks, rfl, rfl, _, _, _, _, HA.out.drewN _, Same.refl s, (Kp.refl _ _).drewN _, fun _ h => .inl h⟩
      case round =>
        obtain ⟨q', rfl, hks1, hq', hd, s1, l1, M1, B1, hA1, hS1, hK1, hB1⟩ := hrel
        clear c11 c8 c14
        have c8 : wr.cell? ⟨ms, 9, none⟩ = some (.int .i64 m) := by rw [← hm, ← hS1.2.2.2.1]; exact hA1.blk.cell 9
        generalize htq : total q' = tq at hks1
        by_cases hg : tq ≤ m
        · have hg' : (tq : Int) ≤ (m : Int) := by omega
          have HA1 := Lib.hid hA1
          have HS1 := Lib.hid hS1
          have HK1 := Lib.hid hK1
          have HB1 := Lib.hid hB1
          clear hA1 hS1 hK1 hB1
          go_wp2_with fail
          go_end0
          rw [← hd, dropB_same (.inr (by omega))]
          exact ⟨rfl, _, _, _, _, HA1.out, HS1.out, HK1.out, HB1.out⟩
        · have hg' : ¬ (tq : Int) ≤ (m : Int) := by omega
          obtain ⟨r, q'', rfl⟩ : ∃ r q'', q' = r :: q'' := by
            cases q' with
            | nil => simp [total] at htq; omega
            | cons r q'' => exact ⟨r, q'', rfl⟩
          have H144 := Lib.hid (first144 ms K s1 r q'' l1 M1 B1 U wr hA1)
          have HS1 := Lib.hid hS1
          have HK1 := Lib.hid hK1
          have HB1 := Lib.hid hB1
          clear hA1 hS1 hK1 hB1
          go_wp2_with fail
          refine H144.out.mono ?_
          rintro e w2 ⟨rfl, hN⟩
          have hN2 := Now.trans HS1.out HK1.out HB1.out hN
          obtain ⟨s2, l2, M2, B2, hA2, hS2, hK2, hB2⟩ := hN2
          have c14 : w2.cell? ⟨ms, 15, none⟩ = some (.int .u64 (total q'' : Int)) := by rw [← hA2.byt]; exact hA2.blk.cell 15
          have HN2 : Hid (Now ms K s B U q'' w w2) := Lib.hid ⟨s2, l2, M2, B2, hA2, hS2, hK2, hB2⟩
          clear hA2 hS2 hK2 hB2 hN
          have hq2 : q''.length < gk := by simp at hq'; omega
          have hd2 : dropB m q'' = dropB m q := by rw [← hd, dropB_tail (by omega) (by rw [htq]; omega)]
          go_wp2_with fail
          go_roundg q''.length
          case measure => exact hq2
          case rel => exact ⟨q'', rfl, by simp only [total] at htq; omega, rfl, hd2, HN2.out⟩
end Go.Proofs.YtbehafhkgbjgmaaGreatDoor
