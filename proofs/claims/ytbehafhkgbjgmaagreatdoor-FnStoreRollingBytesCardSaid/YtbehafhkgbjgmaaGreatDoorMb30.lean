/-
  A script of steps that is looked at: its lengths, its kinds, its subjects. No condition beyond what came in.
-/
import Derived.Test.YtbehafhkgbjgmaaGreatDoorMb05
import Derived.Test.YtbehafhkgbjgmaaGreatDoorMb01
import Derived.Test.YtbehafhkgbjgmaaGreatDoorMb29
namespace Go.Proofs.YtbehafhkgbjgmaaGreatDoor
open Go Go.RowKit
set_option maxRecDepth 100000

/-- A step's cells lie at off of the block b. -/
structure StepC (w : World) (b o : Nat) (v : StepV) : Prop where
  c0 : w.cell? ⟨b, o, none⟩ = some (.int .i64 v.op)
  c1 : w.cell? ⟨b, o + 1, none⟩ = some (.string (str v.subj))
  c2 : w.cell? ⟨b, o + 2, none⟩ = some (.slice v.ha v.hdr.length v.hc)
  c3 : w.cell? ⟨b, o + 3, none⟩ = some (.slice v.da v.data.length v.dc)
  c4 : w.cell? ⟨b, o + 4, none⟩ = some (.int .i64 v.time)
  c5 : w.cell? ⟨b, o + 5, none⟩ = some (.int .u64 v.seq)
  c6 : w.cell? ⟨b, o + 6, none⟩ = some (.int .u64 v.num)
  c7 : w.cell? ⟨b, o + 7, none⟩ = some (.int .u64 v.keep)
  c8 : w.cell? ⟨b, o + 8, none⟩ = some (.bool v.last)
  c9 : w.cell? ⟨b, o + 9, none⟩ = some (.slice v.sa v.subs.length v.sc)
  c10 : w.cell? ⟨b, o + 10, none⟩ = some (.int .i64 v.c0)
  c11 : w.cell? ⟨b, o + 11, none⟩ = some (.int .i64 v.c1)
  c12 : w.cell? ⟨b, o + 12, none⟩ = some (.int .i64 v.c2)
  c13 : w.cell? ⟨b, o + 13, none⟩ = some (.bool v.c3)
  c14 : w.cell? ⟨b, o + 14, none⟩ = some (.bool v.c4)
  c15 : w.cell? ⟨b, o + 15, none⟩ = some (.int .u64 v.c5)
theorem StepsAt.at {w : World} {b off j : Nat} {vs : List StepV} (h : StepsAt w (some ⟨b, off, none⟩) vs) (hj : j < vs.length) : StepC w b (off + j * 16) vs[j] := by
  obtain ⟨b', off', e, hc⟩ := h j hj
  simp only [Option.some.injEq, Addr.mk.injEq] at e
  obtain ⟨rfl, rfl, _⟩ := e
  exact ⟨(by simpa [Nat.add_assoc] using hc 0 _ rfl), (by simpa [Nat.add_assoc] using hc 1 _ rfl), (by simpa [Nat.add_assoc] using hc 2 _ rfl), (by simpa [Nat.add_assoc] using hc 3 _ rfl), (by simpa [Nat.add_assoc] using hc 4 _ rfl), (by simpa [Nat.add_assoc] using hc 5 _ rfl), (by simpa [Nat.add_assoc] using hc 6 _ rfl), (by simpa [Nat.add_assoc] using hc 7 _ rfl), (by simpa [Nat.add_assoc] using hc 8 _ rfl), (by simpa [Nat.add_assoc] using hc 9 _ rfl), (by simpa [Nat.add_assoc] using hc 10 _ rfl), (by simpa [Nat.add_assoc] using hc 11 _ rfl), (by simpa [Nat.add_assoc] using hc 12 _ rfl), (by simpa [Nat.add_assoc] using hc 13 _ rfl), (by simpa [Nat.add_assoc] using hc 14 _ rfl), (by simpa [Nat.add_assoc] using hc 15 _ rfl)⟩
theorem StepsAt.some {w : World} {ao : Option Addr} {j : Nat} {vs : List StepV} (h : StepsAt w ao vs) (hj : j < vs.length) : ∃ b off, ao = some ⟨b, off, none⟩ := by
  obtain ⟨b, off, e, _⟩ := h j hj
  exact ⟨b, off, e⟩
theorem StepC.keep {w w' : World} {F : Nat → Prop} {b o : Nat} {v : StepV} (h : StepC w b o v) (k : Kp F w w') (hb : ¬ F b) : StepC w' b o v :=
  have hl := World.block_lt_of_cell? w _ h.c0
  ⟨(k.cell hb hl).trans h.c0, (k.cell hb hl).trans h.c1, (k.cell hb hl).trans h.c2, (k.cell hb hl).trans h.c3, (k.cell hb hl).trans h.c4, (k.cell hb hl).trans h.c5, (k.cell hb hl).trans h.c6, (k.cell hb hl).trans h.c7, (k.cell hb hl).trans h.c8, (k.cell hb hl).trans h.c9, (k.cell hb hl).trans h.c10, (k.cell hb hl).trans h.c11, (k.cell hb hl).trans h.c12, (k.cell hb hl).trans h.c13, (k.cell hb hl).trans h.c14, (k.cell hb hl).trans h.c15⟩
theorem StepsAt.keep {w w' : World} {F : Nat → Prop} {ao : Option Addr} {vs : List StepV} (h : StepsAt w ao vs) (k : Kp F w w') (hb : BytesOff F ao) : StepsAt w' ao vs := by
  intro i hi
  obtain ⟨b, off, e, hc⟩ := h i hi
  exact ⟨b, off, e, fun j c hj => (k.cell (hb b off none e) (World.block_lt_of_cell? w _ (hc j c hj))).trans (hc j c hj)⟩

theorem fits21 (l : List (List UInt8)) (ao : Option Addr) (cap : Nat) (w : World) (hS : StrsAt w ao l) (hl : l.length ≤ 9223372036854775807) : Calls Tryz.prog 21 #[.slice ao l.length cap] w fun e w' => (∃ b, e = .returned (.bool b)) ∧ w = w' := by
  have HS := Lib.hid hS
  clear hS
  generalize hn : l.length = n at hl
  go_enter Tryz.func21, Tryz.ntmps21
  go_wp2_with fail
  · go_ret
    exact ⟨⟨_, rfl⟩, rfl⟩
  go_loopw [10] (fun x wr => ∃ j : Nat, j ≤ n ∧ x = .int .i64 j ∧ w = wr) (fun x _ => n - (intOf x).toNat)
  case atStart => exact ⟨0, Nat.zero_le _, rfl, rfl⟩
  case round =>
    obtain ⟨j, hj, rfl, rfl⟩ := hrel
    by_cases hjn : j < n
    · obtain ⟨b, off, rfl, hc⟩ := HS.out j (by omega)
      go_wp2_with fail
      · go_ret
        exact ⟨⟨_, rfl⟩, rfl⟩
      · go_roundw
        case measure => simp [intOf]; omega
        case rel => exact ⟨j + 1, by omega, by simp, trivial⟩
    · go_wp2_with fail
      go_ret
      exact ⟨⟨_, rfl⟩, rfl⟩

/-- The step's texts and bytes are not too long. -/
def StepV.Fits (v : StepV) : Prop := v.subj.length ≤ 2147483647 ∧ v.hdr.length ≤ 2147483647 ∧ v.data.length ≤ 2147483647
def StepV.agg (v : StepV) : Value := .agg #[.int .i64 v.op, .string (str v.subj), .slice v.ha v.hdr.length v.hc, .slice v.da v.data.length v.dc, .int .i64 v.time, .int .u64 v.seq, .int .u64 v.num, .int .u64 v.keep, .bool v.last,
  .slice v.sa v.subs.length v.sc, .int .i64 v.c0, .int .i64 v.c1, .int .i64 v.c2, .bool v.c3, .bool v.c4, .int .u64 v.c5]

set_option maxHeartbeats 1000000 in
theorem fits16 (v : StepV) (w : World) (hO : StrsAt w v.sa v.subs) (hl : v.subs.length ≤ 9223372036854775807) : Calls Tryz.prog 16 #[v.agg] w fun e w' => (∃ b, e = .returned (.bool b) ∧ (b = true → v.Fits)) ∧ Ext w w' := by
  have HX : Hid (∀ W, Ext w W → Calls Tryz.prog 21 #[.slice v.sa v.subs.length v.sc] W fun e w' => (∃ b, e = .returned (.bool b)) ∧ W = w') := Lib.hid fun W hX => fits21 v.subs v.sa v.sc W (by
    intro i hi
    obtain ⟨b, off, e, hc⟩ := hO i hi
    exact ⟨b, off, e, (hX.cell id (World.block_lt_of_cell? w _ hc)).trans hc⟩) hl
  have hs : (str v.subj).size = v.subj.length := str_size _
  unfold StepV.agg StepV.Fits
  clear hO
  generalize v.subj.length = n1 at hs
  generalize v.hdr.length = n2
  generalize v.data.length = n3
  generalize str v.subj = S at hs
  generalize v.subs.length = n4 at HX hl
  go_enter Tryz.func16, Tryz.ntmps16
  go_wp2_with fail
  · go_ret
    exact ⟨⟨_, rfl, by simp⟩, (Kp.refl _ _).alloc _⟩
  · go_ret
    exact ⟨⟨_, rfl, by simp⟩, (Kp.refl _ _).alloc _⟩
  · go_ret
    exact ⟨⟨_, rfl, by simp⟩, (Kp.refl _ _).alloc _⟩
  refine (HX.out _ ((Kp.refl _ _).alloc _)).mono ?_
  rintro e w1 ⟨⟨b, rfl⟩, rfl⟩
  cases b
  · go_wp2_with fail
    go_ret
    exact ⟨⟨_, rfl, by simp⟩, (Kp.refl _ _).alloc _⟩
  · go_wp2_with fail
    go_ret
    exact ⟨⟨_, rfl, fun _ => by omega⟩, (Kp.refl _ _).alloc _⟩

set_option maxHeartbeats 2000000 in
theorem fits6 (vs : List StepV) (ao : Option Addr) (cap : Nat) (w : World) (hS : StepsAt w ao vs) (hO : ∀ v, v ∈ vs → v.Ok w) (hl : vs.length ≤ 9223372036854775807) : Calls Tryz.prog 6 #[.slice ao vs.length cap] w fun e w' => (∃ b, e = .returned (.bool b) ∧ (b = true → ∀ v, v ∈ vs → v.Fits)) ∧ Ext w w' := by
  have HS := Lib.hid hS
  have HO := Lib.hid hO
  clear hS hO
  generalize hn : vs.length = n at hl
  go_enter Tryz.func6, Tryz.ntmps6
  go_wp2_with fail
  · go_ret
    exact ⟨⟨_, rfl, by simp⟩, Kp.refl _ _⟩
  go_loopw [10] (fun x wr => ∃ j : Nat, j ≤ n ∧ x = .int .i64 j ∧ Hid (Ext w wr) ∧ Hid (∀ i (h : i < vs.length), i < j → vs[i].Fits)) (fun x _ => n - (intOf x).toNat)
  case atStart => exact ⟨0, Nat.zero_le _, rfl, Lib.hid (Kp.refl _ _), Lib.hid fun i _ h => by omega⟩
  case round =>
    obtain ⟨j, hj, rfl, hX, hF⟩ := hrel
    by_cases hjn : j < n
    · obtain ⟨b, off, rfl⟩ := HS.out.some (j := j) (by omega)
      have hjv : j < vs.length := by omega
      have hC := (HS.out.at hjv).keep hX.out id
      have hok := HO.out vs[j] (List.getElem_mem hjv)
      have HF : Hid (∀ W, Ext w W → Calls Tryz.prog 16 #[vs[j].agg] W fun e w' => (∃ b, e = .returned (.bool b) ∧ (b = true → vs[j].Fits)) ∧ Ext W w') := Lib.hid fun W hX => fits16 vs[j] W (by
        intro i hi
        obtain ⟨b, off, e, hc⟩ := hok.subs i hi
        exact ⟨b, off, e, (hX.cell id (World.block_lt_of_cell? w _ hc)).trans hc⟩) (by have := hok.sle.1; unfold maxLen at this; omega)
      have HV : Hid (∀ v, vs[j] = v → v.Fits → ∀ i (h : i < vs.length), i < j + 1 → vs[i].Fits) := Lib.hid fun v e hv i h hi => by
        by_cases hij : i = j
        · subst hij; rw [e]; exact hv
        · exact hF.out i h (by omega)
      clear hok
      generalize hvj : vs[j] = v at hC HF
      have HV := Lib.hid (HV.out v hvj)
      clear hvj
      unfold StepV.agg at HF
      obtain ⟨c0, c1, c2, c3, c4, c5, c6, c7, c8, c9, c10, c11, c12, c13, c14, c15⟩ := hC
      go_wp2_with fail
      refine (HF.out _ (hX.out.alloc _)).mono ?_
      rintro e w1 ⟨⟨b1, rfl, hb1⟩, hX1⟩
      have HX1 := Lib.hid ((hX.out.alloc _).trans hX1 fun _ _ h => h)
      have HB1 := Lib.hid hb1
      clear hb1 hX1 c0 c1 c2 c3 c4 c5 c6 c7 c8 c9 c10 c11 c12 c13 c14 c15
      cases b1
      · go_wp2_with fail
        go_ret
        exact ⟨⟨_, rfl, by simp⟩, HX1.out⟩
      · go_wp2_with fail
        go_roundw
        case measure => simp [intOf]; omega
        case rel => exact ⟨j + 1, by omega, by simp, HX1, Lib.hid (HV.out (HB1.out (by trivial)))⟩
    · go_wp2_with fail
      go_ret
      refine ⟨⟨_, rfl, fun _ v hv => ?_⟩, hX.out⟩
      obtain ⟨i, hi, rfl⟩ := List.getElem_of_mem hv
      exact hF.out i hi (by omega)
end Go.Proofs.YtbehafhkgbjgmaaGreatDoor
