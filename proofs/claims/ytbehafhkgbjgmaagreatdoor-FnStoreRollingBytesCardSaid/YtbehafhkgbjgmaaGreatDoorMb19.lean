/-
  The store tells its whole state. No condition beyond the store.
-/
import Derived.Test.YtbehafhkgbjgmaaGreatDoorMb05
import Derived.Test.YtbehafhkgbjgmaaGreatDoorMb18
namespace Go.Proofs.YtbehafhkgbjgmaaGreatDoor
open Go Go.RowKit
set_option maxRecDepth 100000

theorem stop_here'' {p : Prop} (h : Hid p) : p := h.out
theorem u64_wrap (x : Int) : IntKind.u64.wrap x = x % 18446744073709551616 := by
  unfold IntKind.wrap
  have h1 : IntKind.u64.signed = false := rfl
  have h2 : IntKind.u64.bits = 64 := rfl
  simp only [h1, h2]
  rfl
theorem hwz (la f n : Nat) (hA : f + n = la + 1) : wrap64 (IntKind.u64.wrap (IntKind.u64.wrap (IntKind.u64.wrap (la - f) + 1) - n)) = 0 := by
  unfold wrap64
  rw [u64_wrap, u64_wrap, u64_wrap]
  omega
/-- What the state tells. -/
def stateCells (s : Sto) (sz : Int) (d : Value) : Array Value := #[.int .u64 s.n, .int .u64 s.by', .int .u64 s.f, .int .i64 s.t1, .int .u64 s.la, .int .i64 s.t2, .int .i64 sz, .map none, .int .i64 0, d, .int .i64 0]
theorem Kp.setL {a b k : Nat} {w w' : World} (h : Kp (fun i => i = a ∨ i = b) w w') (v : Value) : Kp (fun i => i = a ∨ i = b) w (w'.setCell ⟨a, k, none⟩ v) := Kp.setCell (F := fun i => i = a ∨ i = b) h (.inl (.inl rfl)) v
theorem Kp.setR {a b k : Nat} {w w' : World} (h : Kp (fun i => i = a ∨ i = b) w w') (v : Value) : Kp (fun i => i = a ∨ i = b) w (w'.setCell ⟨b, k, none⟩ v) := Kp.setCell (F := fun i => i = a ∨ i = b) h (.inl (.inr rfl)) v
theorem inf25 : ∃ i, Tryz.prog.info? 25 = some i ∧ i.zero = some (.int .u64 0) ∧ i.size = 1 ∧ i.bytes = 8 := by
  have h : (Tryz.prog.info? 25).map (fun i => (i.zero, i.size, i.bytes)) = some (some (.int .u64 0), 1, 8) := by kernel_rfl
  exact info_parts h
theorem close58 {ms rr cap : Nat} {s : Sto} {w W : World} {sz : Int} {d : Option Addr} {tmps : Array Value} (h0 : s.l0 = 0) (h4 : s.l4 = 0) (hB : Blk W ms { s with l0 := 1, l4 := -1073741824 }.cells 91) (hR : Blk W rr (stateCells s sz (.slice d 0 cap)) 84) (hrm : ¬ rr = ms)
    (hK : Kp (· = ms) w W) (ht : tmps.getD 2 undef = .pointer (some ⟨rr, 0, none⟩)) :
    bodyPostD Tryz.prog Tryz.f58 (fun e w' => (∃ sz d cap, e = .returned (.agg (stateCells s sz (.slice d 0 cap)))) ∧ Blk w' ms s.cells 91 ∧ Kp (· = ms) w w') .ret { tmps := tmps, defers := [{ target := .fn (.func 65) #[], args := #[.pointer (some ⟨ms, 0, none⟩)] }] } W := by
  show Leaves _ _ _ _ _ _ _
  refine leaves_cons (f := 65) (args := #[.pointer (some ⟨ms, 0, none⟩)]) (by simp) (by kernel_rfl) ?_
  refine (unlock65d ms _ _ W hB rfl rfl).mono ?_
  rintro e u' w' ⟨rfl, rfl, h1, h2⟩
  have hR' := hR.keep h2 hrm
  refine ⟨_, results_cell_row (P := Tryz.prog) rfl tmps w' rr 84 _ (0, 0) _ ht hR' Tryz.underlying84 rfl (by kernel_rfl), ⟨sz, d, cap, rfl⟩, ?_, hK.trans h2 fun _ _ e => e⟩
  have := h1
  rwa [show ({ ({ s with l0 := 1, l4 := -1073741824 } : Sto) with l0 := 0, l4 := 0 } : Sto) = s by cases s; simp_all] at this
set_option maxHeartbeats 4000000 in
theorem state58 (ms : Nat) (s : Sto) (M : List UInt8 → Option (Nat × SS)) (B : Nat → Prop) (w : World) (hB : Blk w ms s.cells 91) (h0 : s.l0 = 0) (h4 : s.l4 = 0) (hT : Tr w s.tb M B) (hr : s.root = .pointer none) (hbm : ¬ B ms)
    (hn : s.f + s.n = s.la + 1 ∨ (s.n = 0 ∧ s.f = 0 ∧ s.la = 0)) :
    Calls Tryz.prog 58 #[.pointer (some ⟨ms, 0, none⟩)] w fun e w' => (∃ sz d cap, e = .returned (.agg (stateCells s sz (.slice d 0 cap)))) ∧ Blk w' ms s.cells 91 ∧ Kp (· = ms) w w' := by
  have HL := Lib.hid (fun W hW => lock63 ms s W hW h0 h4)
  have hml := hB.lt
  have htm : ¬ s.tb = ms := by obtain ⟨_, _, hb, _⟩ := hT; exact hb.ne hB (by decide)
  have HB := Lib.hid hB
  have HT := Lib.hid hT
  clear hB hT
  go_enter_defers Tryz.func58, Tryz.ntmps58
  go_wp2_with fail
  obtain ⟨w0, hw0⟩ : ∃ w0, (w.alloc (.cells #[.pointer (some ⟨ms, 0, none⟩)] 57)).alloc (.cells #[.int .u64 0, .int .u64 0, .int .u64 0, .int .i64 0, .int .u64 0, .int .i64 0, .int .i64 0, .map none, .int .i64 0, .slice none 0 0, .int .i64 0] 84) = w0 := ⟨_, rfl⟩
  rw [hw0]
  have hX0 : Ext w w0 := by rw [← hw0]; exact ((Kp.refl _ _).alloc _).alloc _
  have hP0 : Blk w0 w.heap.size #[.pointer (some ⟨ms, 0, none⟩)] 57 := by rw [← hw0]; exact (Blk.new w _ _).alloc _
  have hR0 : Blk w0 (w.heap.size + 1) #[.int .u64 0, .int .u64 0, .int .u64 0, .int .i64 0, .int .u64 0, .int .i64 0, .int .i64 0, .map none, .int .i64 0, .slice none 0 0, .int .i64 0] 84 := by rw [← hw0]; exact Blk.newAt (by simp)
  have hz0 : w0.heap.size = w.heap.size + 2 := by rw [← hw0]; simp
  have HX0 := Lib.hid hX0
  have HP0 := Lib.hid hP0
  have HR0 := Lib.hid hR0
  have hpm : ¬ w.heap.size = ms := by omega
  have hrm : ¬ w.heap.size + 1 = ms := by omega
  have hms' : w.heap.size ≠ ms := hpm
  clear hX0 hP0 hR0 hw0
  refine (HL.out w0 (HB.out.keep HX0.out id)).mono ?_
  rintro e w1 ⟨rfl, h1, h2⟩
  have HB1 := Lib.hid h1
  have HK1 := Lib.hid h2
  have HT1 := Lib.hid ((HT.out.keep HX0.out id fun _ _ => id).keep h2 htm fun x hx e => hbm (e ▸ hx))
  have HP1 := Lib.hid (HP0.out.keep h2 hpm)
  have HR1 := Lib.hid (HR0.out.keep h2 hrm)
  have hz1 := h2.size
  clear h1 h2 HP0 HR0
  generalize hpp : w.heap.size = pp at HP1 hpm hrm hz0 hml hms' HR1
  have p0 : w1.cell? ⟨pp, 0, none⟩ = some (.pointer (some ⟨ms, 0, none⟩)) := HP1.out.cell 0
  have c14 : w1.cell? ⟨ms, 14, none⟩ = some (.int .u64 s.n) := HB1.out.cell 14
  have c15 : w1.cell? ⟨ms, 15, none⟩ = some (.int .u64 s.by') := HB1.out.cell 15
  have c16 : w1.cell? ⟨ms, 16, none⟩ = some (.int .u64 s.f) := HB1.out.cell 16
  have c17 : w1.cell? ⟨ms, 17, none⟩ = some (.int .i64 s.t1) := HB1.out.cell 17
  have c18 : w1.cell? ⟨ms, 18, none⟩ = some (.int .u64 s.la) := HB1.out.cell 18
  have c19 : w1.cell? ⟨ms, 19, none⟩ = some (.int .i64 s.t2) := HB1.out.cell 19
  have c20 : w1.cell? ⟨ms, 20, none⟩ = some (.int .i64 0) := HB1.out.cell 20
  have c21 : w1.cell? ⟨ms, 21, none⟩ = some (.map none) := HB1.out.cell 21
  have c22 : w1.cell? ⟨ms, 22, none⟩ = some (.int .i64 0) := HB1.out.cell 22
  have c23 : w1.cell? ⟨ms, 23, none⟩ = some (.slice none 0 0) := HB1.out.cell 23
  have c24 : w1.cell? ⟨ms, 24, none⟩ = some (.int .i64 0) := HB1.out.cell 24
  have c26 : w1.cell? ⟨ms, 26, none⟩ = some (.pointer (some ⟨s.tb, 0, none⟩)) := HB1.out.cell 26
  have hpl := HP1.out.lt
  have hml1 := HB1.out.lt
  have q0 : ∀ o, (w1.alloc o).cell? ⟨pp, 0, none⟩ = some (.pointer (some ⟨ms, 0, none⟩)) := fun o => (World.cell?_of_block (w := w1) (Below.heap_alloc _ _ _ hpl)).trans p0
  have q26 : ∀ o, (w1.alloc o).cell? ⟨ms, 26, none⟩ = some (.pointer (some ⟨s.tb, 0, none⟩)) := fun o => (World.cell?_of_block (w := w1) (Below.heap_alloc _ _ _ hml1)).trans c26
  go_wp2_with fail
  clear q0 q26 p0 c14 c15 c16 c17 c18 c19 c20 c21 c22 c23 c24 c26
  obtain ⟨w2, hw2⟩ : ∃ w2, w1.alloc (.cells #[.int .u64 s.n, .int .u64 s.by', .int .u64 s.f, .int .i64 s.t1, .int .u64 s.la, .int .i64 s.t2, .int .i64 0, .map none, .int .i64 0, .slice none 0 0, .int .i64 0] 84) = w2 := ⟨_, rfl⟩
  rw [hw2]
  have hX2 : Ext w1 w2 := by rw [← hw2]; exact (Kp.refl _ _).alloc _
  have hS2 : Blk w2 w1.heap.size #[.int .u64 s.n, .int .u64 s.by', .int .u64 s.f, .int .i64 s.t1, .int .u64 s.la, .int .i64 s.t2, .int .i64 0, .map none, .int .i64 0, .slice none 0 0, .int .i64 0] 84 := by rw [← hw2]; exact Blk.new _ _ _
  have HX2 := Lib.hid hX2
  have HS2 := Lib.hid hS2
  clear hw2 hX2 hS2
  refine (size67 s.tb M B w2 (HT1.out.keep HX2.out id fun _ _ => id)).mono ?_
  rintro e w3 ⟨⟨sz, rfl⟩, rfl⟩
  have HP2 := Lib.hid (HP1.out.keep HX2.out id)
  have HR2 := Lib.hid (HR1.out.keep HX2.out id)
  have HB2 := Lib.hid (HB1.out.keep HX2.out id)
  have hz2 := HX2.out.size
  generalize hxx : w1.heap.size = xx at HS2 hz1 hz2
  have hpx : ¬ pp = xx := by omega
  have hrx : ¬ pp + 1 = xx := by omega
  have hmx : ¬ ms = xx := by omega
  have x0 : w2.cell? ⟨xx, 0, none⟩ = some (.int .u64 s.n) := HS2.out.cell 0
  have x1 : w2.cell? ⟨xx, 1, none⟩ = some (.int .u64 s.by') := HS2.out.cell 1
  have x2 : w2.cell? ⟨xx, 2, none⟩ = some (.int .u64 s.f) := HS2.out.cell 2
  have x3 : w2.cell? ⟨xx, 3, none⟩ = some (.int .i64 s.t1) := HS2.out.cell 3
  have x4 : w2.cell? ⟨xx, 4, none⟩ = some (.int .u64 s.la) := HS2.out.cell 4
  have x5 : w2.cell? ⟨xx, 5, none⟩ = some (.int .i64 s.t2) := HS2.out.cell 5
  have x6 : w2.cell? ⟨xx, 6, none⟩ = some (.int .i64 0) := HS2.out.cell 6
  have x7 : w2.cell? ⟨xx, 7, none⟩ = some (.map none) := HS2.out.cell 7
  have x8 : w2.cell? ⟨xx, 8, none⟩ = some (.int .i64 0) := HS2.out.cell 8
  have x9 : w2.cell? ⟨xx, 9, none⟩ = some (.slice none 0 0) := HS2.out.cell 9
  have x10 : w2.cell? ⟨xx, 10, none⟩ = some (.int .i64 0) := HS2.out.cell 10
  have z6 : w2.frozen? ⟨xx, 6, none⟩ = false := HS2.out.frozen 6
  have z9 : w2.frozen? ⟨xx, 9, none⟩ = false := HS2.out.frozen 9
  have p0 : w2.cell? ⟨pp, 0, none⟩ = some (.pointer (some ⟨ms, 0, none⟩)) := HP2.out.cell 0
  have y0 : w2.cell? ⟨pp + 1, 0, none⟩ = some (.int .u64 0) := HR2.out.cell 0
  have v0 : w2.frozen? ⟨pp + 1, 0, none⟩ = false := HR2.out.frozen 0
  have y1 : w2.cell? ⟨pp + 1, 1, none⟩ = some (.int .u64 0) := HR2.out.cell 1
  have v1 : w2.frozen? ⟨pp + 1, 1, none⟩ = false := HR2.out.frozen 1
  have y2 : w2.cell? ⟨pp + 1, 2, none⟩ = some (.int .u64 0) := HR2.out.cell 2
  have v2 : w2.frozen? ⟨pp + 1, 2, none⟩ = false := HR2.out.frozen 2
  have y3 : w2.cell? ⟨pp + 1, 3, none⟩ = some (.int .i64 0) := HR2.out.cell 3
  have v3 : w2.frozen? ⟨pp + 1, 3, none⟩ = false := HR2.out.frozen 3
  have y4 : w2.cell? ⟨pp + 1, 4, none⟩ = some (.int .u64 0) := HR2.out.cell 4
  have v4 : w2.frozen? ⟨pp + 1, 4, none⟩ = false := HR2.out.frozen 4
  have y5 : w2.cell? ⟨pp + 1, 5, none⟩ = some (.int .i64 0) := HR2.out.cell 5
  have v5 : w2.frozen? ⟨pp + 1, 5, none⟩ = false := HR2.out.frozen 5
  have y6 : w2.cell? ⟨pp + 1, 6, none⟩ = some (.int .i64 0) := HR2.out.cell 6
  have v6 : w2.frozen? ⟨pp + 1, 6, none⟩ = false := HR2.out.frozen 6
  have y7 : w2.cell? ⟨pp + 1, 7, none⟩ = some (.map none) := HR2.out.cell 7
  have v7 : w2.frozen? ⟨pp + 1, 7, none⟩ = false := HR2.out.frozen 7
  have y8 : w2.cell? ⟨pp + 1, 8, none⟩ = some (.int .i64 0) := HR2.out.cell 8
  have v8 : w2.frozen? ⟨pp + 1, 8, none⟩ = false := HR2.out.frozen 8
  have y9 : w2.cell? ⟨pp + 1, 9, none⟩ = some (.slice none 0 0) := HR2.out.cell 9
  have v9 : w2.frozen? ⟨pp + 1, 9, none⟩ = false := HR2.out.frozen 9
  have y10 : w2.cell? ⟨pp + 1, 10, none⟩ = some (.int .i64 0) := HR2.out.cell 10
  have v10 : w2.frozen? ⟨pp + 1, 10, none⟩ = false := HR2.out.frozen 10
  have HEND : Hid (∀ W, Kp (fun i => i = xx ∨ i = pp + 1) w2 W → Blk W ms { s with l0 := 1, l4 := -1073741824 }.cells 91 ∧ Kp (· = ms) w W) := Lib.hid fun W hW =>
    ⟨HB2.out.keep hW (fun e => e.elim hmx fun e => hrm e.symm), (((HX0.out.mono fun _ _ e => absurd e id).trans HK1.out fun _ _ e => e).trans HX2.out fun _ _ e => absurd e id).trans hW fun i hi e => by have := hi; omega⟩
  have hn' := Lib.hid hn
  clear hn
  by_cases hA : s.f + s.n = s.la + 1
  · have hw : wrap64 (IntKind.u64.wrap (IntKind.u64.wrap (IntKind.u64.wrap (s.la - s.f) + 1) - s.n)) = 0 := by
      exact hwz _ _ _ hA
    clear hA
    go_wp2_with fail
    have hk : ∀ W, Kp (fun i => i = xx ∨ i = pp + 1) w2 W → Blk W ms { s with l0 := 1, l4 := -1073741824 }.cells 91 ∧ Kp (· = ms) w W := HEND.out
    refine close58 (rr := pp + 1) (sz := sz) (d := none) (cap := 0) h0 h4 (hk _ ?_).1 ?_ hrm (hk _ ?_).2 rfl
    · exact ((((((((((((((Kp.refl _ _).setL _).setL _).setR _).setR _).setR _).setR _).setR _).setR _).setR _).setR _).setR _).setR _).setR _)
    · have hR := (HR2.out.setOther (a := ⟨xx, 6, none⟩) hrx (.int .i64 sz)).setOther (a := ⟨xx, 9, none⟩) hrx (.slice none 0 0)
      have hR : Blk _ (pp + 1) #[.int .u64 s.n, .int .u64 0, .int .u64 0, .int .i64 0, .int .u64 0, .int .i64 0, .int .i64 0, .map none, .int .i64 0, .slice none 0 0, .int .i64 0] 84 := hR.set 0 (.int .u64 s.n)
      have hR : Blk _ (pp + 1) #[.int .u64 s.n, .int .u64 s.by', .int .u64 0, .int .i64 0, .int .u64 0, .int .i64 0, .int .i64 0, .map none, .int .i64 0, .slice none 0 0, .int .i64 0] 84 := hR.set 1 (.int .u64 s.by')
      have hR : Blk _ (pp + 1) #[.int .u64 s.n, .int .u64 s.by', .int .u64 s.f, .int .i64 0, .int .u64 0, .int .i64 0, .int .i64 0, .map none, .int .i64 0, .slice none 0 0, .int .i64 0] 84 := hR.set 2 (.int .u64 s.f)
      have hR : Blk _ (pp + 1) #[.int .u64 s.n, .int .u64 s.by', .int .u64 s.f, .int .i64 s.t1, .int .u64 0, .int .i64 0, .int .i64 0, .map none, .int .i64 0, .slice none 0 0, .int .i64 0] 84 := hR.set 3 (.int .i64 s.t1)
      have hR : Blk _ (pp + 1) #[.int .u64 s.n, .int .u64 s.by', .int .u64 s.f, .int .i64 s.t1, .int .u64 s.la, .int .i64 0, .int .i64 0, .map none, .int .i64 0, .slice none 0 0, .int .i64 0] 84 := hR.set 4 (.int .u64 s.la)
      have hR : Blk _ (pp + 1) #[.int .u64 s.n, .int .u64 s.by', .int .u64 s.f, .int .i64 s.t1, .int .u64 s.la, .int .i64 s.t2, .int .i64 0, .map none, .int .i64 0, .slice none 0 0, .int .i64 0] 84 := hR.set 5 (.int .i64 s.t2)
      have hR : Blk _ (pp + 1) #[.int .u64 s.n, .int .u64 s.by', .int .u64 s.f, .int .i64 s.t1, .int .u64 s.la, .int .i64 s.t2, .int .i64 sz, .map none, .int .i64 0, .slice none 0 0, .int .i64 0] 84 := hR.set 6 (.int .i64 sz)
      have hR : Blk _ (pp + 1) #[.int .u64 s.n, .int .u64 s.by', .int .u64 s.f, .int .i64 s.t1, .int .u64 s.la, .int .i64 s.t2, .int .i64 sz, .map none, .int .i64 0, .slice none 0 0, .int .i64 0] 84 := hR.set 7 (.map none)
      have hR : Blk _ (pp + 1) #[.int .u64 s.n, .int .u64 s.by', .int .u64 s.f, .int .i64 s.t1, .int .u64 s.la, .int .i64 s.t2, .int .i64 sz, .map none, .int .i64 0, .slice none 0 0, .int .i64 0] 84 := hR.set 8 (.int .i64 0)
      have hR : Blk _ (pp + 1) #[.int .u64 s.n, .int .u64 s.by', .int .u64 s.f, .int .i64 s.t1, .int .u64 s.la, .int .i64 s.t2, .int .i64 sz, .map none, .int .i64 0, .slice none 0 0, .int .i64 0] 84 := hR.set 9 (.slice none 0 0)
      have hR : Blk _ (pp + 1) #[.int .u64 s.n, .int .u64 s.by', .int .u64 s.f, .int .i64 s.t1, .int .u64 s.la, .int .i64 s.t2, .int .i64 sz, .map none, .int .i64 0, .slice none 0 0, .int .i64 0] 84 := hR.set 10 (.int .i64 0)
      exact hR
    · exact ((((((((((((((Kp.refl _ _).setL _).setL _).setR _).setR _).setR _).setR _).setR _).setR _).setR _).setR _).setR _).setR _).setR _)
  · have hB : s.n = 0 ∧ s.f = 0 ∧ s.la = 0 := by
      rcases hn'.out with h | h
      · exact absurd h hA
      · exact h
    have hw : wrap64 (IntKind.u64.wrap (IntKind.u64.wrap (IntKind.u64.wrap (s.la - s.f) + 1) - s.n)) = 1 := by
      unfold wrap64
      rw [u64_wrap, u64_wrap, u64_wrap, hB.1, hB.2.1, hB.2.2]
      decide
    have HB0 := Lib.hid hB
    clear hA hB
    have hppk : ¬ (pp = xx ∨ pp = pp + 1) := by omega
    have hrx' : ¬ (pp + 1 = xx) := hrx
    have hm27 : w2.cell? ⟨ms, 27, none⟩ = some (.pointer none) := by rw [← hr]; exact HB2.out.cell 27
    obtain ⟨i0, hi, hi0, hi1, hi2⟩ := inf25
    go_wp2_with (at_make; refine stop_here'' ?_)
    refine Lib.hid ?_
    rw [hw]
    obtain ⟨w3, hw3⟩ : ∃ w3, (w2.setCell ⟨xx, 6, none⟩ (.int .i64 sz)).setCell ⟨xx, 9, none⟩ (.slice none 0 0) = w3 := ⟨_, rfl⟩
    rw [hw3]
    have HK3 : Hid (Kp (fun i => i = xx ∨ i = pp + 1) w2 w3) := Lib.hid (by rw [← hw3]; exact ((Kp.refl _ _).setL _).setL _)
    have HS3 : Hid (Blk w3 xx (stateCells s sz (.slice none 0 0)) 84) := Lib.hid (by rw [← hw3]; exact ((HS2.out.set 6 _).set 9 _))
    have HR3 : Hid (Blk w3 (pp + 1) #[.int .u64 0, .int .u64 0, .int .u64 0, .int .i64 0, .int .u64 0, .int .i64 0, .int .i64 0, .map none, .int .i64 0, .slice none 0 0, .int .i64 0] 84) := Lib.hid (by rw [← hw3]; exact (HR2.out.setOther (a := ⟨xx, 6, none⟩) hrx _).setOther (a := ⟨xx, 9, none⟩) hrx _)
    have hz3 := HK3.out.size
    clear hw3
    refine wpList_make_own _ rfl (.const (.int .i64 0)) (.tmp 37) 26 rfl w3.heap.size 25 i0 (.int .u64 0) 1 Tryz.underlying26 hi hi0 hi1 .i64 .i64 1 1 rfl rfl rfl (by rw [hi2]; decide) (by decide) (Nat.le_refl _) ?_
    intro w4 hown hgrow
    have hX4 : Ext w3 w4 := Kp.grown (Kp.refl _ _) hgrow fun k hk => by simp at hk
    have hg4 := (hown.lt _ rfl).2
    have HX4 := Lib.hid hX4
    have HS4 := Lib.hid (HS3.out.keep hX4 id)
    have HK4 : Hid (Kp (fun i => i = xx ∨ i = pp + 1) w2 w4) := Lib.hid (HK3.out.trans hX4 fun _ _ e => absurd e id)
    have HR4 := Lib.hid (HR3.out.keep hX4 id)
    clear hown hgrow hX4 x0 x1 x2 x3 x4 x5 x6 x7 x8 x9 x10 z6 z9 p0 y0 y1 y2 y3 y4 y5 y6 y7 y8 y9 y10 v0 v1 v2 v3 v4 v5 v6 v7 v8 v9 v10 hm27
    generalize hgg : w3.heap.size = g at hg4 hz3
    have x9 : w4.cell? ⟨xx, 9, none⟩ = some (.slice none 0 0) := HS4.out.cell 9
    have z9 : w4.frozen? ⟨xx, 9, none⟩ = false := HS4.out.frozen 9
    have hms4 : Blk w4 ms { s with l0 := 1, l4 := -1073741824 }.cells 91 := (HEND.out w4 HK4.out).1
    go_wp2_with fail
    obtain ⟨w5, hw5⟩ : ∃ w5, w4.setCell ⟨xx, 9, none⟩ (.slice (some ⟨g, 0, none⟩) 0 1) = w5 := ⟨_, rfl⟩
    rw [hw5]
    have HS5 : Hid (Blk w5 xx (stateCells s sz (.slice (some ⟨g, 0, none⟩) 0 1)) 84) := Lib.hid (by rw [← hw5]; exact HS4.out.set 9 _)
    have HK5 : Hid (Kp (fun i => i = xx ∨ i = pp + 1) w2 w5) := Lib.hid (by rw [← hw5]; exact HK4.out.setL _)
    have HR5 : Hid (Blk w5 (pp + 1) #[.int .u64 0, .int .u64 0, .int .u64 0, .int .i64 0, .int .u64 0, .int .i64 0, .int .i64 0, .map none, .int .i64 0, .slice none 0 0, .int .i64 0] 84) := Lib.hid (by rw [← hw5]; exact HR4.out.setOther (a := ⟨xx, 9, none⟩) hrx _)
    have hz5 := HK5.out.size
    clear x9 z9 hms4 hw5
    have hxl := HS5.out.lt
    have x2 : w5.cell? ⟨xx, 2, none⟩ = some (.int .u64 0) := by have := HS5.out.cell 2; rw [show (stateCells s sz (.slice (some ⟨g, 0, none⟩) 0 1))[2]? = some (.int .u64 s.f) from rfl, HB0.out.2.1] at this; exact this
    have x4 : w5.cell? ⟨xx, 4, none⟩ = some (.int .u64 0) := by have := HS5.out.cell 4; rw [show (stateCells s sz (.slice (some ⟨g, 0, none⟩) 0 1))[4]? = some (.int .u64 s.la) from rfl, HB0.out.2.2] at this; exact this
    have a2 : ∀ o, (w5.alloc o).cell? ⟨xx, 2, none⟩ = some (.int .u64 0) := fun o => (World.cell?_of_block (w := w5) (Below.heap_alloc _ _ _ hxl)).trans x2
    have a4 : ∀ o, (w5.alloc o).cell? ⟨xx, 4, none⟩ = some (.int .u64 0) := fun o => (World.cell?_of_block (w := w5) (Below.heap_alloc _ _ _ hxl)).trans x4
    have b2 : ∀ o o', ((w5.alloc o).alloc o').cell? ⟨xx, 2, none⟩ = some (.int .u64 0) := fun o o' => (World.cell?_of_block (w := w5.alloc o) (Below.heap_alloc _ _ _ (by simp; omega))).trans (a2 o)
    have b4 : ∀ o o', ((w5.alloc o).alloc o').cell? ⟨xx, 4, none⟩ = some (.int .u64 0) := fun o o' => (World.cell?_of_block (w := w5.alloc o) (Below.heap_alloc _ _ _ (by simp; omega))).trans (a4 o)
    have hxn : ¬ xx = w5.heap.size := by omega
    have hxn1 : ¬ xx = w5.heap.size + 1 := by omega
    have d4 : ∀ o v o', (((w5.alloc o).setCell ⟨w5.heap.size, 0, none⟩ v).alloc o').cell? ⟨xx, 4, none⟩ = some (.int .u64 0) := fun o v o' => (World.cell?_of_block (w := (w5.alloc o).setCell ⟨w5.heap.size, 0, none⟩ v) (Below.heap_alloc _ _ _ (by simp [World.setCell]; omega))).trans ((World.cell?_of_block (Below.heap_setCell _ _ _ _ (by simp; omega))).trans (a4 o))
    refine wp_region_noPanic ?_
    go_region_with fail
    all_goals refine NoPanic.normal ?_
    all_goals (
      obtain ⟨w6, hw6⟩ : ∃ w6, ((w5.alloc (.cells #[.int .u64 0] 25)).alloc (.cells #[.int .u64 0] 25)).drew = w6 := ⟨_, rfl⟩
      rw [hw6]
      have hX6 : Ext w5 w6 := by rw [← hw6]; exact (((Kp.refl _ _).alloc _).alloc _).drew
      have HK6 : Hid (Kp (fun i => i = xx ∨ i = pp + 1) w2 w6) := Lib.hid (HK5.out.trans hX6 fun _ _ e => absurd e id)
      have HS6 := Lib.hid (HS5.out.keep hX6 id)
      have HR6 := Lib.hid (HR5.out.keep hX6 id)
      have HE6 := Lib.hid (HEND.out w6 HK6.out)
      clear hX6 hw6 a2 a4 b2 b4 d4 x2 x4 hxn hxn1
      have p0 : w6.cell? ⟨pp, 0, none⟩ = some (.pointer (some ⟨ms, 0, none⟩)) := (HP2.out.keep HK6.out hppk).cell 0
      have m27 : w6.cell? ⟨ms, 27, none⟩ = some (.pointer none) := by rw [← hr]; exact HE6.out.1.cell 27
      go_wp2_with fail
      refine (range107 ms 27 _ w6 m27).mono ?_
      rintro e w7 ⟨rfl, rfl⟩
      clear p0 m27
      have x0 : w6.cell? ⟨xx, 0, none⟩ = some (.int .u64 s.n) := HS6.out.cell 0
      have y0 : w6.cell? ⟨pp + 1, 0, none⟩ = some (.int .u64 0) := HR6.out.cell 0
      have v0 : w6.frozen? ⟨pp + 1, 0, none⟩ = false := HR6.out.frozen 0
      have x1 : w6.cell? ⟨xx, 1, none⟩ = some (.int .u64 s.by') := HS6.out.cell 1
      have y1 : w6.cell? ⟨pp + 1, 1, none⟩ = some (.int .u64 0) := HR6.out.cell 1
      have v1 : w6.frozen? ⟨pp + 1, 1, none⟩ = false := HR6.out.frozen 1
      have x2 : w6.cell? ⟨xx, 2, none⟩ = some (.int .u64 s.f) := HS6.out.cell 2
      have y2 : w6.cell? ⟨pp + 1, 2, none⟩ = some (.int .u64 0) := HR6.out.cell 2
      have v2 : w6.frozen? ⟨pp + 1, 2, none⟩ = false := HR6.out.frozen 2
      have x3 : w6.cell? ⟨xx, 3, none⟩ = some (.int .i64 s.t1) := HS6.out.cell 3
      have y3 : w6.cell? ⟨pp + 1, 3, none⟩ = some (.int .i64 0) := HR6.out.cell 3
      have v3 : w6.frozen? ⟨pp + 1, 3, none⟩ = false := HR6.out.frozen 3
      have x4 : w6.cell? ⟨xx, 4, none⟩ = some (.int .u64 s.la) := HS6.out.cell 4
      have y4 : w6.cell? ⟨pp + 1, 4, none⟩ = some (.int .u64 0) := HR6.out.cell 4
      have v4 : w6.frozen? ⟨pp + 1, 4, none⟩ = false := HR6.out.frozen 4
      have x5 : w6.cell? ⟨xx, 5, none⟩ = some (.int .i64 s.t2) := HS6.out.cell 5
      have y5 : w6.cell? ⟨pp + 1, 5, none⟩ = some (.int .i64 0) := HR6.out.cell 5
      have v5 : w6.frozen? ⟨pp + 1, 5, none⟩ = false := HR6.out.frozen 5
      have x6 : w6.cell? ⟨xx, 6, none⟩ = some (.int .i64 sz) := HS6.out.cell 6
      have y6 : w6.cell? ⟨pp + 1, 6, none⟩ = some (.int .i64 0) := HR6.out.cell 6
      have v6 : w6.frozen? ⟨pp + 1, 6, none⟩ = false := HR6.out.frozen 6
      have x7 : w6.cell? ⟨xx, 7, none⟩ = some (.map none) := HS6.out.cell 7
      have y7 : w6.cell? ⟨pp + 1, 7, none⟩ = some (.map none) := HR6.out.cell 7
      have v7 : w6.frozen? ⟨pp + 1, 7, none⟩ = false := HR6.out.frozen 7
      have x8 : w6.cell? ⟨xx, 8, none⟩ = some (.int .i64 0) := HS6.out.cell 8
      have y8 : w6.cell? ⟨pp + 1, 8, none⟩ = some (.int .i64 0) := HR6.out.cell 8
      have v8 : w6.frozen? ⟨pp + 1, 8, none⟩ = false := HR6.out.frozen 8
      have x9 : w6.cell? ⟨xx, 9, none⟩ = some (.slice (some ⟨g, 0, none⟩) 0 1) := HS6.out.cell 9
      have y9 : w6.cell? ⟨pp + 1, 9, none⟩ = some (.slice none 0 0) := HR6.out.cell 9
      have v9 : w6.frozen? ⟨pp + 1, 9, none⟩ = false := HR6.out.frozen 9
      have x10 : w6.cell? ⟨xx, 10, none⟩ = some (.int .i64 0) := HS6.out.cell 10
      have y10 : w6.cell? ⟨pp + 1, 10, none⟩ = some (.int .i64 0) := HR6.out.cell 10
      have v10 : w6.frozen? ⟨pp + 1, 10, none⟩ = false := HR6.out.frozen 10
      go_wp2_with fail
      have hk : ∀ W, Kp (fun i => i = xx ∨ i = pp + 1) w2 W → Blk W ms { s with l0 := 1, l4 := -1073741824 }.cells 91 ∧ Kp (· = ms) w W := HEND.out
      refine close58 (rr := pp + 1) (sz := sz) (d := some ⟨g, 0, none⟩) (cap := 1) h0 h4 (hk _ ?_).1 ?_ hrm (hk _ ?_).2 rfl
      · exact (((((((((((HK6.out.setR _).setR _).setR _).setR _).setR _).setR _).setR _).setR _).setR _).setR _).setR _)
      · have hR := HR6.out
        have hR : Blk _ (pp + 1) #[.int .u64 s.n, .int .u64 0, .int .u64 0, .int .i64 0, .int .u64 0, .int .i64 0, .int .i64 0, .map none, .int .i64 0, .slice none 0 0, .int .i64 0] 84 := hR.set 0 (.int .u64 s.n)
        have hR : Blk _ (pp + 1) #[.int .u64 s.n, .int .u64 s.by', .int .u64 0, .int .i64 0, .int .u64 0, .int .i64 0, .int .i64 0, .map none, .int .i64 0, .slice none 0 0, .int .i64 0] 84 := hR.set 1 (.int .u64 s.by')
        have hR : Blk _ (pp + 1) #[.int .u64 s.n, .int .u64 s.by', .int .u64 s.f, .int .i64 0, .int .u64 0, .int .i64 0, .int .i64 0, .map none, .int .i64 0, .slice none 0 0, .int .i64 0] 84 := hR.set 2 (.int .u64 s.f)
        have hR : Blk _ (pp + 1) #[.int .u64 s.n, .int .u64 s.by', .int .u64 s.f, .int .i64 s.t1, .int .u64 0, .int .i64 0, .int .i64 0, .map none, .int .i64 0, .slice none 0 0, .int .i64 0] 84 := hR.set 3 (.int .i64 s.t1)
        have hR : Blk _ (pp + 1) #[.int .u64 s.n, .int .u64 s.by', .int .u64 s.f, .int .i64 s.t1, .int .u64 s.la, .int .i64 0, .int .i64 0, .map none, .int .i64 0, .slice none 0 0, .int .i64 0] 84 := hR.set 4 (.int .u64 s.la)
        have hR : Blk _ (pp + 1) #[.int .u64 s.n, .int .u64 s.by', .int .u64 s.f, .int .i64 s.t1, .int .u64 s.la, .int .i64 s.t2, .int .i64 0, .map none, .int .i64 0, .slice none 0 0, .int .i64 0] 84 := hR.set 5 (.int .i64 s.t2)
        have hR : Blk _ (pp + 1) #[.int .u64 s.n, .int .u64 s.by', .int .u64 s.f, .int .i64 s.t1, .int .u64 s.la, .int .i64 s.t2, .int .i64 sz, .map none, .int .i64 0, .slice none 0 0, .int .i64 0] 84 := hR.set 6 (.int .i64 sz)
        have hR : Blk _ (pp + 1) #[.int .u64 s.n, .int .u64 s.by', .int .u64 s.f, .int .i64 s.t1, .int .u64 s.la, .int .i64 s.t2, .int .i64 sz, .map none, .int .i64 0, .slice none 0 0, .int .i64 0] 84 := hR.set 7 (.map none)
        have hR : Blk _ (pp + 1) #[.int .u64 s.n, .int .u64 s.by', .int .u64 s.f, .int .i64 s.t1, .int .u64 s.la, .int .i64 s.t2, .int .i64 sz, .map none, .int .i64 0, .slice none 0 0, .int .i64 0] 84 := hR.set 8 (.int .i64 0)
        have hR : Blk _ (pp + 1) #[.int .u64 s.n, .int .u64 s.by', .int .u64 s.f, .int .i64 s.t1, .int .u64 s.la, .int .i64 s.t2, .int .i64 sz, .map none, .int .i64 0, .slice (some ⟨g, 0, none⟩) 0 1, .int .i64 0] 84 := hR.set 9 (.slice (some ⟨g, 0, none⟩) 0 1)
        have hR : Blk _ (pp + 1) #[.int .u64 s.n, .int .u64 s.by', .int .u64 s.f, .int .i64 s.t1, .int .u64 s.la, .int .i64 s.t2, .int .i64 sz, .map none, .int .i64 0, .slice (some ⟨g, 0, none⟩) 0 1, .int .i64 0] 84 := hR.set 10 (.int .i64 0)
        exact hR
      · exact (((((((((((HK6.out.setR _).setR _).setR _).setR _).setR _).setR _).setR _).setR _).setR _).setR _).setR _))
end Go.Proofs.YtbehafhkgbjgmaaGreatDoor
