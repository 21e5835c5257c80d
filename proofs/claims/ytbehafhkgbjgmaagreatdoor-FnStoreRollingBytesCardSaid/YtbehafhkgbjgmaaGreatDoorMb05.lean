/-
  The locks of this dump: their numbers, and what their calls do to the store's lock. No condition.
-/
import Derived.Test.YtbehafhkgbjgmaaGreatDoorMb04
import Derived.Conc.RwLoneW
import Derived.Test.YtbehafhkgbjgmaaGreatDoorMb01
import Derived.Deep.Slices
import Derived.Deep.Strs
import Derived.ChangeSlices
import Derived.RowKit
import Derived.Laws.AppendOwn
import Derived.Laws.AppendOwnNone
import Derived.OwnWalk
import Derived.Deep.RegionLaw
import Derived.Deep.RegionHeld3
import Derived.Deep.RegionHeldLaw
namespace Go.Proofs.YtbehafhkgbjgmaaGreatDoor
open Go Go.RowKit
set_option maxRecDepth 100000
abbrev muLink : Go.Conc.Locks.MuLink := { lock := 120, unlock := 132, ilock := 184, iunlock := 191, lockSlow := 233, unlockSlow := 242, disable := 119, enable := 123, acquire := 124, relMerge := 129, cas32 := 232, add32 := 185, tMutex := 76, tIMutex := 74, tPMutex := 189, tPIMutex := 312, tPI32 := 266, tUP := 188, tNoCopy := 71, tU32 := 72 }
theorem muLib : Go.Conc.Locks.MuLib Tryz.prog muLink :=
  ⟨Tryz.func120, Tryz.func132, Tryz.func184, Tryz.func191, Tryz.func119, Tryz.func123, Tryz.func124, Tryz.func129, Tryz.func232, Tryz.func185, Tryz.underlying74, Tryz.runUnderlying74, Tryz.sizeOf74, Tryz.isAgg74, Tryz.zeroValue74, Tryz.underlying76, Tryz.runUnderlying76, Tryz.sizeOf76, Tryz.isAgg76, Tryz.zeroValue76, Tryz.underlying189, Tryz.runUnderlying189, Tryz.sizeOf189, Tryz.isAgg189, Tryz.zeroValue189, Tryz.underlying312, Tryz.runUnderlying312, Tryz.sizeOf312, Tryz.isAgg312, Tryz.zeroValue312, Tryz.underlying266, Tryz.runUnderlying266, Tryz.sizeOf266, Tryz.isAgg266, Tryz.zeroValue266, Tryz.underlying188, Tryz.runUnderlying188, Tryz.sizeOf188, Tryz.isAgg188, Tryz.zeroValue188, Tryz.underlying71, Tryz.runUnderlying71, Tryz.sizeOf71, Tryz.isAgg71, Tryz.zeroValue71, Tryz.underlying21, Tryz.runUnderlying21, Tryz.sizeOf21, Tryz.isAgg21, Tryz.zeroValue21, (by kernel_rfl)⟩
abbrev rwLink : Go.Conc.Locks.RwLink := { lock := 120, unlock := 132, ilock := 184, iunlock := 191, lockSlow := 233, unlockSlow := 242, disable := 119, enable := 123, acquire := 124, relMerge := 129, cas32 := 232, add32 := 185, tMutex := 76, tIMutex := 74, tPMutex := 189, tPIMutex := 312, tPI32 := 266, tUP := 188, tNoCopy := 71, tU32 := 72, rlock := 66, runlock := 68, wlock := 63, wunlock := 65, i32add := 121, raceRead := 118, release := 128, rUnlockSlow := 134, semacqR := 133, semacqW := 122, semrel := 131, sfatal := 130, tRW := 81, tPRW := 186, tAI32 := 79, tPAI32 := 264, tPU32 := 192, tANoCopy := 77 }
theorem rwCore : Go.Conc.Locks.RwCore Tryz.prog rwLink :=
  ⟨Tryz.func121, Tryz.func118, Tryz.func119, Tryz.func123, Tryz.func124, Tryz.func129, Tryz.func185, Tryz.underlying81, Tryz.runUnderlying81, Tryz.sizeOf81, Tryz.isAgg81, Tryz.zeroValue81, Tryz.underlying79, Tryz.runUnderlying79, Tryz.sizeOf79, Tryz.isAgg79, Tryz.zeroValue79, Tryz.underlying186, Tryz.runUnderlying186, Tryz.sizeOf186, Tryz.isAgg186, Tryz.zeroValue186, Tryz.underlying264, Tryz.runUnderlying264, Tryz.sizeOf264, Tryz.isAgg264, Tryz.zeroValue264, Tryz.underlying192, Tryz.runUnderlying192, Tryz.sizeOf192, Tryz.isAgg192, Tryz.zeroValue192, Tryz.underlying77, Tryz.runUnderlying77, Tryz.sizeOf77, Tryz.isAgg77, Tryz.zeroValue77, Tryz.underlying72, Tryz.runUnderlying72, Tryz.sizeOf72, Tryz.isAgg72, Tryz.zeroValue72, Tryz.underlying76, Tryz.runUnderlying76, Tryz.sizeOf76, Tryz.isAgg76, Tryz.zeroValue76, Tryz.underlying189, Tryz.runUnderlying189, Tryz.sizeOf189, Tryz.isAgg189, Tryz.zeroValue189, Tryz.underlying266, Tryz.runUnderlying266, Tryz.sizeOf266, Tryz.isAgg266, Tryz.zeroValue266, Tryz.underlying188, Tryz.runUnderlying188, Tryz.sizeOf188, Tryz.isAgg188, Tryz.zeroValue188, Tryz.underlying21, Tryz.runUnderlying21, Tryz.sizeOf21, Tryz.isAgg21, Tryz.zeroValue21, (by kernel_rfl), (by kernel_rfl)⟩
theorem rwRLib : Go.Conc.Locks.RwRLib Tryz.prog rwLink := ⟨rwCore, Tryz.func66, Tryz.func68⟩
theorem rwWLib : Go.Conc.Locks.RwWLib Tryz.prog rwLink := ⟨rwCore, muLib, Tryz.func63, Tryz.func65, Tryz.func128, Tryz.underlying3, Tryz.runUnderlying3, Tryz.sizeOf3, Tryz.isAgg3, Tryz.zeroValue3⟩

theorem up01 : wrap32 (0 + 1) = 1 := by unfold wrap32; decide
theorem down10 : wrap32 (1 + -1) = 0 := by unfold wrap32; decide

theorem lock63 (ms : Nat) (s : Sto) (w : World) (h : Blk w ms s.cells 91) (h0 : s.l0 = 0) (h4 : s.l4 = 0) :
    Calls Tryz.prog 63 #[.pointer (some ⟨ms, 0, none⟩)] w fun e w' => e = .returned (.tuple #[]) ∧ Blk w' ms { s with l0 := 1, l4 := -1073741824 }.cells 91 ∧ Kp (· = ms) w w' := by
  have c0 : w.cell? ⟨ms, 0, none⟩ = some (.int .i32 0) := by rw [h.cell 0, ← h0]; rfl
  have c4 : w.cell? ⟨ms, 0 + 4, none⟩ = some (.int .i32 0) := by rw [h.cell (0 + 4), ← h4]; rfl
  refine (Go.RwLone.wlock_free rwWLib ms 0 _ _ w c0 (h.cell (0 + 2)) (h.cell (0 + 3)) c4 (h.frozen 0) (h.frozen (0 + 4))).mono ?_
  rintro e w' ⟨rfl, rfl⟩
  exact ⟨rfl, (h.set 0 _).set (0 + 4) _, Kp.setCell (F := (· = ms)) (Kp.setCell (F := (· = ms)) (Kp.refl _ _) (.inl rfl) _) (.inl rfl) _⟩
theorem unlock65 (ms : Nat) (s : Sto) (w : World) (h : Blk w ms s.cells 91) (h0 : s.l0 = 1) (h4 : s.l4 = -1073741824) :
    Calls Tryz.prog 65 #[.pointer (some ⟨ms, 0, none⟩)] w fun e w' => e = .returned (.tuple #[]) ∧ Blk w' ms { s with l0 := 0, l4 := 0 }.cells 91 ∧ Kp (· = ms) w w' := by
  have c0 : w.cell? ⟨ms, 0, none⟩ = some (.int .i32 1) := by rw [h.cell 0, ← h0]; rfl
  have c4 : w.cell? ⟨ms, 0 + 4, none⟩ = some (.int .i32 (-1073741824)) := by rw [h.cell (0 + 4), ← h4]; rfl
  refine (Go.RwLone.wunlock_held rwWLib ms 0 _ _ w c0 (h.cell (0 + 2)) (h.cell (0 + 3)) c4 (h.frozen 0) (h.frozen (0 + 4))).mono ?_
  rintro e w' ⟨rfl, rfl⟩
  exact ⟨rfl, (h.set (0 + 4) _).set 0 _, Kp.setCell (F := (· = ms)) (Kp.setCell (F := (· = ms)) (Kp.refl _ _) (.inl rfl) _) (.inl rfl) _⟩
theorem unlock65d (ms : Nat) (s : Sto) (u : FrameMode) (w : World) (h : Blk w ms s.cells 91) (h0 : s.l0 = 1) (h4 : s.l4 = -1073741824) :
    CallsD Tryz.prog 65 #[.pointer (some ⟨ms, 0, none⟩)] u w fun e u' w' => u' = u ∧ e = .returned (.tuple #[]) ∧ Blk w' ms { s with l0 := 0, l4 := 0 }.cells 91 ∧ Kp (· = ms) w w' := by
  have c0 : w.cell? ⟨ms, 0, none⟩ = some (.int .i32 1) := by rw [h.cell 0, ← h0]; rfl
  have c4 : w.cell? ⟨ms, 0 + 4, none⟩ = some (.int .i32 (-1073741824)) := by rw [h.cell (0 + 4), ← h4]; rfl
  refine (Go.RwLone.wunlock_deferred rwWLib ms 0 _ _ u w c0 (h.cell (0 + 2)) (h.cell (0 + 3)) c4 (h.frozen 0) (h.frozen (0 + 4))).mono ?_
  rintro e u' w' ⟨rfl, rfl, rfl⟩
  exact ⟨rfl, rfl, (h.set (0 + 4) _).set 0 _, Kp.setCell (F := (· = ms)) (Kp.setCell (F := (· = ms)) (Kp.refl _ _) (.inl rfl) _) (.inl rfl) _⟩
theorem rlock66 (ms : Nat) (s : Sto) (w : World) (h : Blk w ms s.cells 91) (h4 : s.l4 = 0) :
    Calls Tryz.prog 66 #[.pointer (some ⟨ms, 0, none⟩)] w fun e w' => e = .returned (.tuple #[]) ∧ Blk w' ms { s with l4 := 1 }.cells 91 ∧ Kp (· = ms) w w' := by
  have c4 : w.cell? ⟨ms, 0 + 4, none⟩ = some (.int .i32 0) := by rw [h.cell (0 + 4), ← h4]; rfl
  refine (Go.RwLone.rlock_open rwRLib ms 0 0 _ _ w (h.cell 0) (h.cell (0 + 3)) c4 (h.frozen (0 + 4)) (by rw [up01]; decide)).mono ?_
  rintro e w' ⟨rfl, rfl⟩
  rw [up01]
  exact ⟨rfl, h.set (0 + 4) _, Kp.setCell (F := (· = ms)) (Kp.refl _ _) (.inl rfl) _⟩
theorem runlock68 (ms : Nat) (s : Sto) (w : World) (h : Blk w ms s.cells 91) (h4 : s.l4 = 1) :
    Calls Tryz.prog 68 #[.pointer (some ⟨ms, 0, none⟩)] w fun e w' => e = .returned (.tuple #[]) ∧ Blk w' ms { s with l4 := 0 }.cells 91 ∧ Kp (· = ms) w w' := by
  have c4 : w.cell? ⟨ms, 0 + 4, none⟩ = some (.int .i32 1) := by rw [h.cell (0 + 4), ← h4]; rfl
  refine (Go.RwLone.runlock_held rwRLib ms 0 1 _ _ w (h.cell 0) (h.cell (0 + 2)) c4 (h.frozen (0 + 4)) (by rw [down10]; decide)).mono ?_
  rintro e w' ⟨rfl, rfl⟩
  rw [down10]
  exact ⟨rfl, h.set (0 + 4) _, Kp.setCell (F := (· = ms)) (Kp.refl _ _) (.inl rfl) _⟩
end Go.Proofs.YtbehafhkgbjgmaaGreatDoor

/-
  A script of steps as it comes in: what its slice, its texts and its bytes read as. No condition.
-/
namespace Go.Proofs.YtbehafhkgbjgmaaGreatDoor
open Go Go.RowKit Go.ChangeShapes Go.WideShapes Go.Deep
set_option maxRecDepth 100000

/-- A step of a script. -/
structure StepV where
  op : Int
  subj : List UInt8
  ha : Option Addr
  hc : Nat
  hdr : List UInt8
  da : Option Addr
  dc : Nat
  data : List UInt8
  time : Int
  seq : Int
  num : Int
  keep : Int
  last : Bool
  sa : Option Addr
  sc : Nat
  subs : List (List UInt8)
  c0 : Int
  c1 : Int
  c2 : Int
  c3 : Bool
  c4 : Bool
  c5 : Int
def StepV.cells (v : StepV) : List Value := [.int .i64 v.op, .string (str v.subj), .slice v.ha v.hdr.length v.hc, .slice v.da v.data.length v.dc, .int .i64 v.time, .int .u64 v.seq, .int .u64 v.num, .int .u64 v.keep, .bool v.last,
  .slice v.sa v.subs.length v.sc, .int .i64 v.c0, .int .i64 v.c1, .int .i64 v.c2, .bool v.c3, .bool v.c4, .int .u64 v.c5]
/-- A slice of bytes that came in. -/
def Bs (w : World) (ao : Option Addr) (cap : Nat) (l : List UInt8) : Prop := BytesAt w ao l ∧ l.length ≤ cap ∧ l.length ≤ maxLen ∧ (ao = none → l = [] ∧ cap = 0)
/-- The texts l lie behind ao. -/
def StrsAt (w : World) (ao : Option Addr) (l : List (List UInt8)) : Prop := ∀ i (h : i < l.length), ∃ b off, ao = some ⟨b, off, none⟩ ∧ w.cell? ⟨b, off + i, none⟩ = some (.string (str l[i]))
structure StepV.Ok (w : World) (v : StepV) : Prop where
  hdr : Bs w v.ha v.hc v.hdr
  data : Bs w v.da v.dc v.data
  subs : StrsAt w v.sa v.subs
  sle : v.subs.length ≤ maxLen ∧ ∀ s, s ∈ v.subs → s.length ≤ maxLen
  subj : v.subj.length ≤ maxLen
  op : (Lit.int .i64 v.op).wf = true
  time : (Lit.int .i64 v.time).wf = true
  seq : (Lit.int .u64 v.seq).wf = true
  num : (Lit.int .u64 v.num).wf = true
  keep : (Lit.int .u64 v.keep).wf = true
def StepsAt (w : World) (ao : Option Addr) (vs : List StepV) : Prop := ∀ i (h : i < vs.length), ∃ b off, ao = some ⟨b, off, none⟩ ∧ ∀ k c, vs[i].cells[k]? = some c → w.cell? ⟨b, off + (i * 16 + k), none⟩ = some c

theorem cells5 : Tryz.prog.cellsOf 5 = 1 := by kernel_rfl
theorem cells9 : Tryz.prog.cellsOf 9 = 1 := by kernel_rfl
theorem cells44 : Tryz.prog.cellsOf 44 = 16 := by kernel_rfl

section
variable {H : Type} {enc : TypeId × Value → H}
theorem open_bytes {w : World} {base : Nat} {sp : Nat → Bool} {held : Bool} {fuel : Nat} {cs : List Value} {x : DataW H × List MemPlace} (h : DataW.trod enc Tryz.prog w base sp held fuel 36 cs = some x) :
    ∃ ao cap l, cs = [.slice ao l.length cap] ∧ Bs w ao cap l := by
  rcases open_ints Tryz.underlying36 Tryz.underlying5 cells5 h with ⟨rfl, _⟩ | ⟨a, len, cap, zs, rfl, _, hl, hm, hz, _, hc, hw⟩
  · exact ⟨none, 0, [], rfl, BytesAt.nil _ _, Nat.le_refl _, by decide, fun _ => ⟨rfl, rfl⟩⟩
  · have hlen : len ≤ zs.length := by rw [hz]; split <;> omega
    have hl1 : ((zs.take len).map fun z => UInt8.ofNat z.toNat).length = len := by simp [hlen]
    refine ⟨some a, cap, (zs.take len).map fun z => UInt8.ofNat z.toNat, by rw [hl1], ?_, by rw [hl1]; exact hl, by rw [hl1]; exact Nat.le_trans hl hm, fun e => by simp at e⟩
    intro i hi
    rw [hl1] at hi
    have h1 := hc i (by omega)
    have h2 := hc 0 (by omega)
    obtain ⟨b, off, spot⟩ := a
    have hs : spot = none := by simpa [Addr.add] using World.cell?_spot h2
    subst hs
    refine ⟨b, off, rfl, ?_⟩
    have hiz : i < zs.length := by omega
    have hwf := hw zs[i] (List.getElem_mem hiz)
    rw [show (⟨b, off, none⟩ : Addr).add i = ⟨b, off + i, none⟩ by unfold Addr.add; split <;> simp_all] at h1
    rw [h1]
    have e1 : zs.getD i 0 = zs[i] := by simp [List.getD, hiz]
    have hr : 0 ≤ zs[i] ∧ zs[i] ≤ 255 := by
      simp only [Lit.wf, Bool.and_eq_true, decide_eq_true_eq] at hwf
      exact hwf
    rw [e1]
    simp only [List.getElem_map, List.getElem_take]
    congr 2
    have : (UInt8.ofNat zs[i].toNat).toNat = zs[i].toNat := by
      simp only [UInt8.toNat_ofNat']
      omega
    rw [this]
    omega

theorem open_texts {w : World} {base : Nat} {sp : Nat → Bool} {held : Bool} {fuel : Nat} {cs : List Value} {x : DataW H × List MemPlace} (h : DataW.trod enc Tryz.prog w base sp held fuel 42 cs = some x) :
    ∃ ao cap l, cs = [.slice ao l.length cap] ∧ StrsAt w ao l ∧ l.length ≤ maxLen ∧ ∀ s, s ∈ l → s.length ≤ maxLen := by
  rcases open_strs Tryz.underlying42 Tryz.underlying9 cells9 h with ⟨rfl, _⟩ | ⟨a, len, cap, m, S, rfl, _, hl, hm, hmm, _, hc⟩
  · exact ⟨none, 0, [], rfl, fun i h => absurd h (by simp), by decide, fun s h => by simp at h⟩
  · have hlen : len ≤ m := by rw [hmm]; split <;> omega
    refine ⟨some a, cap, (List.range len).map fun i => (S i).data.toList, by simp, ?_, by simpa using Nat.le_trans hl hm, ?_⟩
    · intro i hi
      simp at hi
      have h1 := (hc i (by omega)).1
      have h2 := (hc 0 (by omega)).1
      obtain ⟨b, off, spot⟩ := a
      have hs : spot = none := by simpa [Addr.add] using World.cell?_spot h2
      subst hs
      refine ⟨b, off, rfl, ?_⟩
      rw [show (⟨b, off, none⟩ : Addr).add i = ⟨b, off + i, none⟩ by unfold Addr.add; split <;> simp_all] at h1
      rw [h1]
      simp [str_of]
    · intro s hs
      obtain ⟨i, hi, rfl⟩ := List.mem_map.1 hs
      have hi := List.mem_range.1 hi
      have := (hc i (by omega)).2
      rw [Array.length_toList]
      exact this

theorem take1 {cs : List Value} {k : Nat} {v : Value} (h : (cs.drop k).take 1 = [v]) : cs[k]? = some v := by
  have h1 : ((cs.drop k).take 1)[0]? = some v := by rw [h]; rfl
  rw [List.getElem?_take_of_lt (by omega), List.getElem?_drop] at h1
  exact h1

theorem open_step {w : World} {base : Nat} {sp : Nat → Bool} {held : Bool} {fuel : Nat} {cs : List Value} {x : DataW H × List MemPlace} (h : DataW.trod enc Tryz.prog w base sp held fuel 44 cs = some x) :
    ∃ v : StepV, cs = v.cells ∧ v.Ok w := by
  obtain ⟨xs, n, _, rfl, hl, hlen, hf⟩ := DataW.trod_struct Tryz.underlying44 h
  have g : ∀ i, i < 11 → ∃ y, xs[i]? = some y := fun i hi => ⟨xs[i]'(by rw [hlen]; exact hi), by simp⟩
  obtain ⟨y0, e0⟩ := g 0 (by omega); obtain ⟨y1, e1⟩ := g 1 (by omega); obtain ⟨y2, e2⟩ := g 2 (by omega); obtain ⟨y3, e3⟩ := g 3 (by omega)
  obtain ⟨y4, e4⟩ := g 4 (by omega); obtain ⟨y5, e5⟩ := g 5 (by omega); obtain ⟨y6, e6⟩ := g 6 (by omega); obtain ⟨y7, e7⟩ := g 7 (by omega)
  obtain ⟨y8, e8⟩ := g 8 (by omega); obtain ⟨y9, e9⟩ := g 9 (by omega); obtain ⟨y10, e10⟩ := g 10 (by omega)
  have f0 : DataW.trod enc Tryz.prog w base sp held n 3 ((cs.drop 0).take (Tryz.prog.cellsOf 3)) = some y0 := (hf 0 _ rfl).trans e0
  have f1 : DataW.trod enc Tryz.prog w base sp held n 9 ((cs.drop 1).take (Tryz.prog.cellsOf 9)) = some y1 := (hf 1 _ rfl).trans e1
  have f2 : DataW.trod enc Tryz.prog w base sp held n 36 ((cs.drop 2).take (Tryz.prog.cellsOf 36)) = some y2 := (hf 2 _ rfl).trans e2
  have f3 : DataW.trod enc Tryz.prog w base sp held n 36 ((cs.drop 3).take (Tryz.prog.cellsOf 36)) = some y3 := (hf 3 _ rfl).trans e3
  have f4 : DataW.trod enc Tryz.prog w base sp held n 2 ((cs.drop 4).take (Tryz.prog.cellsOf 2)) = some y4 := (hf 4 _ rfl).trans e4
  have f5 : DataW.trod enc Tryz.prog w base sp held n 25 ((cs.drop 5).take (Tryz.prog.cellsOf 25)) = some y5 := (hf 5 _ rfl).trans e5
  have f6 : DataW.trod enc Tryz.prog w base sp held n 25 ((cs.drop 6).take (Tryz.prog.cellsOf 25)) = some y6 := (hf 6 _ rfl).trans e6
  have f7 : DataW.trod enc Tryz.prog w base sp held n 25 ((cs.drop 7).take (Tryz.prog.cellsOf 25)) = some y7 := (hf 7 _ rfl).trans e7
  have f8 : DataW.trod enc Tryz.prog w base sp held n 4 ((cs.drop 8).take (Tryz.prog.cellsOf 4)) = some y8 := (hf 8 _ rfl).trans e8
  have f9 : DataW.trod enc Tryz.prog w base sp held n 42 ((cs.drop 9).take (Tryz.prog.cellsOf 42)) = some y9 := (hf 9 _ rfl).trans e9
  have f10 : DataW.trod enc Tryz.prog w base sp held n 33 ((cs.drop 10).take (Tryz.prog.cellsOf 33)) = some y10 := (hf 10 _ rfl).trans e10
  have k3 : Tryz.prog.cellsOf 3 = 1 := by kernel_rfl
  have k2 : Tryz.prog.cellsOf 2 = 1 := by kernel_rfl
  have k4 : Tryz.prog.cellsOf 4 = 1 := by kernel_rfl
  have k25 : Tryz.prog.cellsOf 25 = 1 := by kernel_rfl
  have k36 : Tryz.prog.cellsOf 36 = 1 := by kernel_rfl
  have k42 : Tryz.prog.cellsOf 42 = 1 := by kernel_rfl
  have k33 : Tryz.prog.cellsOf 33 = 6 := by kernel_rfl
  simp only [k3, k2, k4, k25, k36, k42, k33, cells9] at f0 f1 f2 f3 f4 f5 f6 f7 f8 f9 f10
  obtain ⟨op, h0, _, w0⟩ := DataW.trod_int Tryz.underlying3 f0
  obtain ⟨s1, h1, _, w1⟩ := DataW.trod_string Tryz.underlying9 f1
  obtain ⟨ha, hc, hdr, h2, w2⟩ := open_bytes f2
  obtain ⟨da, dc, data, h3, w3⟩ := open_bytes f3
  obtain ⟨tm, h4, _, w4⟩ := DataW.trod_int Tryz.underlying2 f4
  obtain ⟨sq, h5, _, w5⟩ := DataW.trod_int Tryz.underlying25 f5
  obtain ⟨nu, h6, _, w6⟩ := DataW.trod_int Tryz.underlying25 f6
  obtain ⟨ke, h7, _, w7⟩ := DataW.trod_int Tryz.underlying25 f7
  obtain ⟨la, h8, _⟩ := DataW.trod_bool Tryz.underlying4 f8
  obtain ⟨sa, sc, subs, h9, w9, w9', w9''⟩ := open_texts f9
  obtain ⟨zs, m, _, rfl, jl, jlen, jf⟩ := DataW.trod_struct Tryz.underlying33 f10
  have j : ∀ i, i < 6 → ∃ y, zs[i]? = some y := fun i hi => ⟨zs[i]'(by rw [jlen]; exact hi), by simp⟩
  obtain ⟨z0, d0⟩ := j 0 (by omega); obtain ⟨z1, d1⟩ := j 1 (by omega); obtain ⟨z2, d2⟩ := j 2 (by omega)
  obtain ⟨z3, d3⟩ := j 3 (by omega); obtain ⟨z4, d4⟩ := j 4 (by omega); obtain ⟨z5, d5⟩ := j 5 (by omega)
  have p0 : DataW.trod enc Tryz.prog w base sp held m 2 ((((cs.drop 10).take 6).drop 0).take (Tryz.prog.cellsOf 2)) = some z0 := (jf 0 _ rfl).trans d0
  have p1 : DataW.trod enc Tryz.prog w base sp held m 2 ((((cs.drop 10).take 6).drop 1).take (Tryz.prog.cellsOf 2)) = some z1 := (jf 1 _ rfl).trans d1
  have p2 : DataW.trod enc Tryz.prog w base sp held m 2 ((((cs.drop 10).take 6).drop 2).take (Tryz.prog.cellsOf 2)) = some z2 := (jf 2 _ rfl).trans d2
  have p3 : DataW.trod enc Tryz.prog w base sp held m 4 ((((cs.drop 10).take 6).drop 3).take (Tryz.prog.cellsOf 4)) = some z3 := (jf 3 _ rfl).trans d3
  have p4 : DataW.trod enc Tryz.prog w base sp held m 4 ((((cs.drop 10).take 6).drop 4).take (Tryz.prog.cellsOf 4)) = some z4 := (jf 4 _ rfl).trans d4
  have p5 : DataW.trod enc Tryz.prog w base sp held m 25 ((((cs.drop 10).take 6).drop 5).take (Tryz.prog.cellsOf 25)) = some z5 := (jf 5 _ rfl).trans d5
  simp only [k2, k4, k25] at p0 p1 p2 p3 p4 p5
  obtain ⟨c0, q0, _, _⟩ := DataW.trod_int Tryz.underlying2 p0
  obtain ⟨c1, q1, _, _⟩ := DataW.trod_int Tryz.underlying2 p1
  obtain ⟨c2, q2, _, _⟩ := DataW.trod_int Tryz.underlying2 p2
  obtain ⟨c3, q3, _⟩ := DataW.trod_bool Tryz.underlying4 p3
  obtain ⟨c4, q4, _⟩ := DataW.trod_bool Tryz.underlying4 p4
  obtain ⟨c5, q5, _, _⟩ := DataW.trod_int Tryz.underlying25 p5
  have h0 := take1 h0
  have h1 := take1 h1
  have h2 := take1 h2
  have h3 := take1 h3
  have h4 := take1 h4
  have h5 := take1 h5
  have h6 := take1 h6
  have h7 := take1 h7
  have h8 := take1 h8
  have h9 := take1 h9
  have tk : ∀ {k : Nat} {v : Value}, k < 6 → ((((cs.drop 10).take 6).drop k).take 1 = [v]) → cs[10 + k]? = some v := fun hk h => by
    have := take1 h
    rwa [List.getElem?_take_of_lt hk, List.getElem?_drop] at this
  have q0 := tk (by omega) q0
  have q1 := tk (by omega) q1
  have q2 := tk (by omega) q2
  have q3 := tk (by omega) q3
  have q4 := tk (by omega) q4
  have q5 := tk (by omega) q5
  rw [cells44] at hl
  refine ⟨⟨op, s1.data.toList, ha, hc, hdr, da, dc, data, tm, sq, nu, ke, la, sa, sc, subs, c0, c1, c2, c3, c4, c5⟩, ?_, ⟨w2, w3, w9, ⟨w9', w9''⟩, by rw [Array.length_toList]; exact w1, w0, w4, w5, w6, w7⟩⟩
  simp only [StepV.cells, str_of]
  match cs, hl with
  | [_, _, _, _, _, _, _, _, _, _, _, _, _, _, _, _], _ =>
    simp at h0 h1 h2 h3 h4 h5 h6 h7 h8 h9 q0 q1 q2 q3 q4 q5
    simp [h0, h1, h2, h3, h4, h5, h6, h7, h8, h9, q0, q1, q2, q3, q4, q5]

/-- A whole script. -/
theorem open_steps {w : World} {base : Nat} {sp : Nat → Bool} {held : Bool} {fuel : Nat} {cs : List Value} {x : DataW H × List MemPlace} (h : DataW.trod enc Tryz.prog w base sp held fuel 22 cs = some x) :
    ∃ ao cap vs, cs = [.slice ao vs.length cap] ∧ vs.length ≤ cap ∧ cap ≤ maxLen ∧ (ao = none → vs = [] ∧ cap = 0) ∧ StepsAt w ao vs ∧ ∀ v, v ∈ vs → v.Ok w := by
  rcases open_slice Tryz.underlying22 h with ⟨rfl, _⟩ | ⟨a, len, cap, m, n, D, Pl, rfl, hb, hl, hm, hmm, _, hall⟩
  · exact ⟨none, 0, [], rfl, Nat.le_refl _, by decide, fun _ => ⟨rfl, rfl⟩, fun i h => absurd h (by simp), fun s h => by simp at h⟩
  · have hlen : len ≤ m := by rw [hmm]; split <;> omega
    rw [cells44] at hall
    have each : ∀ i, i < len → ∃ v : StepV, (∀ k c, v.cells[k]? = some c → w.cell? ((a.add (i * 16)).add k) = some c) ∧ v.Ok w := fun i hi => by
      obtain ⟨cs', h1, h2⟩ := hall i (by omega)
      obtain ⟨v, rfl, hv⟩ := open_step h2
      obtain ⟨_, g1, g2⟩ := World.cells?_some h1
      refine ⟨v, fun k c hk => ?_, hv⟩
      have hk' : k < 16 := by
        have := (List.getElem?_eq_some_iff.1 hk).1
        omega
      rw [g2 k hk', hk]
    have : Inhabited StepV := ⟨⟨0, [], none, 0, [], none, 0, [], 0, 0, 0, 0, false, none, 0, [], 0, 0, 0, false, false, 0⟩⟩
    obtain ⟨V, hV⟩ := choose_lt each
    refine ⟨some a, cap, (List.range len).map V, by simp, by simpa using hl, hm, fun e => by simp at e, ?_, ?_⟩
    · intro i hi
      simp at hi
      obtain ⟨h1, _⟩ := hV i hi
      have h0 := (hV 0 (by omega)).1 0 _ rfl
      obtain ⟨b, off, spot⟩ := a
      have hs : spot = none := by
        have := World.cell?_spot h0
        simpa [Addr.add] using this
      subst hs
      refine ⟨b, off, rfl, fun k c hk => ?_⟩
      have := h1 k c (by simpa using hk)
      rw [add_add] at this
      rwa [show (⟨b, off, none⟩ : Addr).add (i * 16 + k) = ⟨b, off + (i * 16 + k), none⟩ by unfold Addr.add; split <;> simp_all] at this
    · intro v hv
      simp at hv
      obtain ⟨i, hi, rfl⟩ := hv
      exact (hV i hi).2
end
end Go.Proofs.YtbehafhkgbjgmaaGreatDoor

/-
  Bytes copied into memory of their own. No condition.
-/
namespace Go.Proofs.YtbehafhkgbjgmaaGreatDoor
open Go Go.RowKit
set_option maxRecDepth 100000

def u8s (l : List UInt8) : List Value := l.map fun c => .int .u8 (c.toNat : Int)
theorem u8s_length (l : List UInt8) : (u8s l).length = l.length := by simp [u8s]
theorem u8s_append (a b : List UInt8) : u8s (a ++ b) = u8s a ++ u8s b := by simp [u8s]
theorem u8s_one (l : List UInt8) : ∀ u, u ∈ u8s l → u.oneCell' = true := by
  intro u hu
  simp [u8s] at hu
  obtain ⟨a, _, rfl⟩ := hu
  rfl
theorem add_off (b off i : Nat) : (⟨b, off, none⟩ : Addr).add i = ⟨b, off + i, none⟩ := by unfold Addr.add; split <;> simp_all
theorem bytes_news {w : World} {a : Addr} {l : List UInt8} (h : BytesAt w (some a) l) : ∀ j u, (u8s l)[j]? = some u → w.cell? (a.add j) = some u := by
  intro j u hu
  simp only [u8s, List.getElem?_map, Option.map_eq_some_iff] at hu
  obtain ⟨c, hc, rfl⟩ := hu
  have hj : j < l.length := (List.getElem?_eq_some_iff.1 hc).1
  obtain ⟨b, off, e, hcell⟩ := h j hj
  obtain rfl : a = ⟨b, off, none⟩ := by simpa using e
  rw [add_off, hcell]
  obtain ⟨_, hc⟩ := List.getElem?_eq_some_iff.1 hc
  rw [hc]
/-- A row of bytes that the call made. -/
theorem own_sl {w : World} {base : Nat} {v : Value} {l : List UInt8} (h : w.ownsRow base 5 1 v l.length (u8s l)) (hl : l.length ≤ 4611686018427387904) :
    ∃ ao cap, v = .slice ao l.length cap ∧ Sl w ao cap l ∧ cap ≤ maxLen ∧ (ao = none → cap = 0) ∧ ∀ b off s, ao = some ⟨b, off, s⟩ → base ≤ b ∧ b < w.heap.size ∧ off = 0 ∧ s = none := by
  have hlt := h.lt
  have hc := fun g => h.cells (g := g)
  rcases h.2 with ⟨rfl, h0⟩ | ⟨g, cap, cur, rfl, hb, hg, hn, hm, _, _⟩
  · obtain rfl := List.eq_nil_of_length_eq_zero h0
    exact ⟨none, 0, rfl, ⟨BytesAt.nil _ _, ⟨fun _ => rfl, fun _ e => by simp at e⟩, Nat.le_refl _, by simp⟩, by decide, fun _ => rfl, fun _ _ _ e => by simp at e⟩
  · refine ⟨some ⟨g, 0, none⟩, cap, rfl, ⟨BytesAt.of fun i hi => ?_, ⟨fun e => by simp at e, fun a e => by simp at e; simp [← e]⟩, hn, hl⟩, hm, fun e => by simp at e, fun b off s e => ?_⟩
    · have := hc g rfl i (.int .u8 (l[i].toNat : Int)) (by simp [u8s, hi])
      rw [add_off] at this
      exact this
    · simp at e
      obtain ⟨rfl, rfl, rfl⟩ := e
      exact ⟨hb, (hlt g rfl).2, rfl, rfl⟩

/-- append to a row of the call's own, as a step of a region that draws. -/
theorem step_append_own {P : Program} {ops : Array Oper} {o : Oper} {a : Act} {w : World} {K : Act → World → Prop} {Q : Exit → Act → World → Prop} {E : Prop}
    (hg : o.guard = none) (s x : Operand) (t : TypeId) (ho : o.op = .call { callee := .builtin .append, args := #[s, x], argTypes := #[t, t] })
    (base : Nat) (e : TypeId) (i : TypeInfo) (z : Value) (size bytes : Nat) (ht : P.underlying t = some (.slice e)) (hi : P.info? e = some i) (hz : i.zero = some z)
    (hsize : i.size = size) (hby : i.bytes = bytes) (hzs : z.cells.size = size) (hsz : 0 < size)
    (v : Value) (n : Nat) (xs : List Value) (hs : a.eval s = v) (hown : w.ownsRow base e size v n xs)
    (ad : Addr) (m c : Nat) (news : List Value) (hx : a.eval x = .slice (some ad) m c) (hl : news.length = m * size) (hnews : ∀ j u, news[j]? = some u → w.cell? (ad.add j) = some u) (h1 : ∀ u ∈ news, u.oneCell' = true)
    (h63 : n + m ≤ maxLen) (hbytes : (n + m) * bytes ≤ 140737488355328) (hbase : base ≤ w.heap.size)
    (h : ∀ v' w', w'.ownsRow base e size v' (n + m) (xs ++ news) → w.grownBy w' v.ownBlock → (v' = .slice none 0 0 ↔ v = .slice none 0 0 ∧ m = 0) → K (a.put o.dst v') w') :
    if Region.wanted o (yielded ops a.tmps) = true then Oper.wp P o a w K Q else E := by
  rw [if_pos (by simp [Region.wanted, hg])]
  exact wp_append_own w s x t ho base e i z size bytes ht hi hz hsize hby hzs hsz v n xs hs hown ad m c news hx hl hnews h1 h63 hbytes hbase h

theorem inf5 : ∃ i, Tryz.prog.info? 5 = some i ∧ i.zero = some (.int .u8 0) ∧ i.size = 1 ∧ i.bytes = 1 := by
  have h : (Tryz.prog.info? 5).map (fun i => (i.zero, i.size, i.bytes)) = some (some (.int .u8 0), 1, 1) := by kernel_rfl
  obtain ⟨i, hi, hb⟩ := Option.map_eq_some_iff.1 h
  simp at hb
  exact ⟨i, hi, hb.1, hb.2.1, hb.2.2⟩

/-- Bytes appended to nil, as a step of a region that draws: new memory. -/
theorem step_append_bytes {ops : Array Oper} {o : Oper} {a : Act} {w : World} {K : Act → World → Prop} {Q : Exit → Act → World → Prop} {E : Prop}
    (hg : o.guard = none) (s x : Operand) (ho : o.op = .call { callee := .builtin .append, args := #[s, x], argTypes := #[36, 36] })
    (l : List UInt8) (n c : Nat) (ad : Addr) (hn : l.length = n) (hs : a.eval s = .slice none 0 0) (hx : a.eval x = .slice (some ad) n c) (hb : BytesAt w (some ad) l) (hsm : n ≤ 1099511627776)
    (h : ∀ ao cap w', Sl w' ao cap l → n ≤ cap → (ao = none → cap = 0) → (∀ b off s, ao = some ⟨b, off, s⟩ → w.heap.size ≤ b ∧ b < w'.heap.size ∧ off = 0 ∧ s = none) → Kp (fun _ => False) w w' → K (a.put o.dst (.slice ao n cap)) w') :
    if Region.wanted o (yielded ops a.tmps) = true then Oper.wp Tryz.prog o a w K Q else E := by
  obtain ⟨i0, hi, hz0, hz1, hz2⟩ := inf5
  have hml : 0 + n ≤ maxLen := by unfold maxLen; omega
  refine step_append_own hg s x 36 ho w.heap.size 5 i0 (.int .u8 0) 1 1 Tryz.underlying36 hi hz0 hz1 hz2 rfl (by decide) (.slice none 0 0) 0 [] hs (World.ownsRow_nil _ _ _ _) ad n c (u8s l) hx (by rw [u8s_length]; omega) (bytes_news hb) (u8s_one l) hml (by omega) (Nat.le_refl _) ?_
  intro v1 w1 hown hgrow _
  rw [Nat.zero_add, List.nil_append, ← hn] at hown
  obtain ⟨ao, cap', rfl, hS, _, h0, hb⟩ := own_sl hown (by omega)
  rw [hn]
  exact h ao cap' w1 hS (hn ▸ hS.le) h0 (fun b off s e => hb b off s e) (Kp.grown (Kp.refl _ _) hgrow fun k hk => by simp [Value.ownBlock] at hk)

/-- A copy of bytes: new memory. -/
def Copied (l : List UInt8) (w : World) (e : Ending) (w' : World) : Prop :=
  ∃ ao cap, e = .returned (.slice ao l.length cap) ∧ Sl w' ao cap l ∧ (ao = none → cap = 0) ∧ (∀ b off s, ao = some ⟨b, off, s⟩ → w.heap.size ≤ b ∧ b < w'.heap.size) ∧ Ext w w'

set_option maxHeartbeats 1000000 in
theorem copied30 (l : List UInt8) (ao : Option Addr) (cap : Nat) (w : World) (hB : Bs w ao cap l) (hl : l.length ≤ 1099511627776) :
    Calls Tryz.prog 30 #[.slice ao l.length cap] w (Copied l w) := by
  obtain ⟨i0, hi, hz0, hz1, hz2⟩ := inf5
  have HB := Lib.hid hB
  clear hB
  have hul := u8s_length l
  generalize hn : l.length = n at hul
  rw [hn] at hl
  cases ao with
  | none =>
    have h0 := HB.out.2.2.2 rfl
    obtain rfl := h0.2
    obtain rfl : n = 0 := by rw [← hn, h0.1]; rfl
    go_enter Tryz.func30, Tryz.ntmps30
    go_wp2
    go_ret
    obtain rfl : l = [] := h0.1
    exact ⟨_, _, rfl, ⟨BytesAt.nil _ _, ⟨fun e => by simp at e, fun a e => by simp at e; simp [← e]⟩, Nat.le_refl _, by simp⟩, fun e => by simp at e, fun b off s e => by simp at e; simp [← e.1], (Kp.refl _ _).alloc _⟩
  | some a =>
    have hnews := bytes_news (HB.out.1.alloc (.cells #[] 5))
    have hml : 0 + n ≤ maxLen := by unfold maxLen; omega
    go_enter Tryz.func30, Tryz.ntmps30
    go_wp2_with (at_builtin; refine wpList_append_own _ rfl (.tmp 3) (.tmp 4) 36 rfl w.heap.size 5 i0 (.int .u8 0) 1 1 Tryz.underlying36 hi hz0 hz1 hz2 rfl (by decide) _ 0 [] rfl (World.ownsRow_made w #[] 0 (Nat.le_refl _) (by decide) rfl) a n cap (u8s l) rfl (by omega) hnews (u8s_one l) hml (by omega) (by simp) ?_; intro v1 w1 hown hgrow _)
    simp only [Nat.zero_add, List.nil_append] at hown
    rw [← hn] at hown
    obtain ⟨ao', cap', rfl, hS, _, h0n, hb⟩ := own_sl hown (by omega)
    have H0n := Lib.hid h0n
    clear h0n
    rw [hn]
    have HS := Lib.hid hS
    have HG := Lib.hid hgrow
    go_wp2_with fail
    go_ret
    rw [← hn]
    exact ⟨ao', cap', rfl, HS.out, H0n.out, fun b off s e => ⟨(hb b off s e).1, (hb b off s e).2.1⟩, Kp.grown ((Kp.refl _ _).alloc _) HG.out fun k hk => .inr (by have : w.heap.size = k := Option.some.inj hk; omega)⟩
end Go.Proofs.YtbehafhkgbjgmaaGreatDoor

/-
  A message is loaded: a copy of it is made. No condition.
-/
namespace Go.Proofs.YtbehafhkgbjgmaaGreatDoor
open Go Go.RowKit
set_option maxRecDepth 100000

/-- The block b is a message whose bytes lie in blocks from lo on. -/
def MsgL (w : World) (lo b s : Nat) (r : Rec) : Prop :=
  ∃ ha hc da dc bv, Blk w b #[.string (str r.subj), .slice ha r.hdr.length hc, .slice da r.data.length dc, bv, .int .u64 s, .int .i64 r.time] 147 ∧ Sl w ha hc r.hdr ∧ Sl w da dc r.data ∧ In (fun x => lo ≤ x ∧ x ≠ b) ha ∧ In (fun x => lo ≤ x ∧ x ≠ b) da ∧ (ha = none → hc = 0) ∧ (da = none → dc = 0)

theorem Sl.front {w : World} {ao : Option Addr} {cap : Nat} {a b : List UInt8} (h : Sl w ao cap (a ++ b)) : Sl w ao a.length a :=
  ⟨fun i hi => by
    obtain ⟨b', off, e, hc⟩ := h.bytes i (by rw [List.length_append]; omega)
    exact ⟨b', off, e, by rw [hc, List.getElem_append_left hi]⟩,
   ⟨fun e => by have := h.plain.1 e; simp at this; exact this.1, h.plain.2⟩, Nat.le_refl _, by have := h.small; rw [List.length_append] at this; omega⟩
theorem Kp.undrew {F : Nat → Prop} {w w' : World} (h : Kp F w.drew w') : Kp F w w' := ⟨h.os, h.tape, h.output, h.size, h.block⟩
theorem MsgL.mono {w : World} {lo lo' b s : Nat} {r : Rec} (h : MsgL w lo b s r) (hl : lo' ≤ lo) : MsgL w lo' b s r := by
  obtain ⟨ha, hc, da, dc, bv, h1, h2, h3, h4, h5, h6⟩ := h
  exact ⟨ha, hc, da, dc, bv, h1, h2, h3, h4.mono fun x hx => ⟨Nat.le_trans hl hx.1, hx.2⟩, h5.mono fun x hx => ⟨Nat.le_trans hl hx.1, hx.2⟩, h6⟩
set_option maxHeartbeats 2000000 in
theorem copy94 (sb db s : Nat) (r : Rec) (U : Nat → Prop) (w : World) (hM : MsgAt w U sb s r) (hD : Blk w db #[.string (str []), .slice none 0 0, .slice none 0 0, .slice none 0 0, .int .u64 0, .int .i64 0] 147) (hU : ¬ U db) (hs : r.size ≤ 1099511627776) :
    Calls Tryz.prog 94 #[.pointer (some ⟨sb, 0, none⟩), .pointer (some ⟨db, 0, none⟩)] w fun e w' => e = .returned (.tuple #[]) ∧ MsgL w' w.heap.size db s r ∧ Kp (· = db) w w' := by
  obtain ⟨ha, hc, da, dc, bb, bc, h1, h2, h3, h4, h5, h6, h7, h8⟩ := hM
  have hne : sb ≠ db := by rintro rfl; exact hU h2
  have hne' : db ≠ sb := Ne.symm hne
  have s0 : w.cell? ⟨sb, 0, none⟩ = some (.string (str r.subj)) := h1.cell 0
  have s1 : w.cell? ⟨sb, 1, none⟩ = some (.slice ha r.hdr.length hc) := h1.cell 1
  have s3 : w.cell? ⟨sb, 3, none⟩ = some (.slice (some ⟨bb, 0, none⟩) (r.hdr ++ r.data).length bc) := h1.cell 3
  have s4 : w.cell? ⟨sb, 4, none⟩ = some (.int .u64 s) := h1.cell 4
  have s5 : w.cell? ⟨sb, 5, none⟩ = some (.int .i64 r.time) := h1.cell 5
  have d3 : w.cell? ⟨db, 3, none⟩ = some (.slice none 0 0) := hD.cell 3
  have f3 : w.frozen? ⟨db, 3, none⟩ = false := hD.frozen 3
  have hby := Lib.hid h7.bytes
  have hs2 : (r.hdr ++ r.data).length ≤ 1099511627776 := by simp [Rec.size] at *; omega
  have H1 := Lib.hid h1
  have HD := Lib.hid hD
  clear h1 h3 h4 h5 h6 h7 h8 hD
  generalize hl1 : r.hdr.length = n1 at s1
  generalize hl2 : (r.hdr ++ r.data).length = n2 at s3 hs2
  go_enter Tryz.func94, Tryz.ntmps94
  go_wp2_with fail
  go_region_law (refine step_append_bytes rfl (.tmp 21) (.tmp 25) rfl (r.hdr ++ r.data) n2 bc ⟨bb, 0, none⟩ hl2 rfl rfl hby.out hs2 ?_; intro ao cap' w1 hS hcap hcz hb hK; have H1' := Lib.hid (H1.out.drew.keep hK id); have HD' := Lib.hid (HD.out.drew.keep hK id); have HS' := Lib.hid hS; have HK' := Lib.hid hK; have HB' := Lib.hid hb; clear hS hK hb; have d3' : w1.cell? ⟨db, 3, none⟩ = some (.slice none 0 0) := HD'.out.cell 3; have f3' : w1.frozen? ⟨db, 3, none⟩ = false := HD'.out.frozen 3)
  all_goals (
    obtain ⟨w2, hw2⟩ : ∃ w2, w1.setCell ⟨db, 3, none⟩ (.slice ao n2 cap') = w2 := ⟨_, rfl⟩
    rw [hw2]
    have HD2 := Lib.hid (HD'.out.set 3 (.slice ao n2 cap'))
    have HS2 := Lib.hid (H1'.out.setOther (a := ⟨db, 3, none⟩) hne (.slice ao n2 cap'))
    rw [hw2] at HD2 HS2
    clear s0 s1 s3 s4 s5 d3 f3 d3' f3'
    have s0 : w2.cell? ⟨sb, 0, none⟩ = some (.string (str r.subj)) := HS2.out.cell 0
    have s1 : w2.cell? ⟨sb, 1, none⟩ = some (.slice ha n1 hc) := by rw [← hl1]; exact HS2.out.cell 1
    have s4 : w2.cell? ⟨sb, 4, none⟩ = some (.int .u64 s) := HS2.out.cell 4
    have s5 : w2.cell? ⟨sb, 5, none⟩ = some (.int .i64 r.time) := HS2.out.cell 5
    have d0 : w2.cell? ⟨db, 0, none⟩ = some (.string (str [])) := HD2.out.cell 0
    have d1 : w2.cell? ⟨db, 1, none⟩ = some (.slice none 0 0) := HD2.out.cell 1
    have d2 : w2.cell? ⟨db, 2, none⟩ = some (.slice none 0 0) := HD2.out.cell 2
    have d3 : w2.cell? ⟨db, 3, none⟩ = some (.slice ao n2 cap') := HD2.out.cell 3
    have d4 : w2.cell? ⟨db, 4, none⟩ = some (.int .u64 0) := HD2.out.cell 4
    have d5 : w2.cell? ⟨db, 5, none⟩ = some (.int .i64 0) := HD2.out.cell 5
    have f0 : w2.frozen? ⟨db, 0, none⟩ = false := HD2.out.frozen 0
    have f1 : w2.frozen? ⟨db, 1, none⟩ = false := HD2.out.frozen 1
    have f2 : w2.frozen? ⟨db, 2, none⟩ = false := HD2.out.frozen 2
    have f4 : w2.frozen? ⟨db, 4, none⟩ = false := HD2.out.frozen 4
    have f5 : w2.frozen? ⟨db, 5, none⟩ = false := HD2.out.frozen 5
    have h12 : n1 ≤ n2 := by rw [← hl1, ← hl2, List.length_append]; omega
    have h1c : n1 ≤ cap' := Nat.le_trans h12 hcap
    go_wp2_with fail
    go_region_held3 (fun w' => w'.cell? ⟨db, 3, none⟩ = some (.slice ao n2 cap') ∧ w'.cell? ⟨sb, 1, none⟩ = some (.slice ha n1 hc)) (refine ⟨?_, ?_⟩ <;> simp [*, World.cell?_setCell_other]) (fail))
  all_goals (
    obtain ⟨V, hV⟩ : ∃ V, (if cap' = n1 then ao else Option.map (fun x => x.add n1) ao) = V := ⟨_, rfl⟩
    rw [hV]
    obtain ⟨w3, hw3⟩ : ∃ w3, (w2.setCell ⟨db, 1, none⟩ (.slice ao n1 n1)).setCell ⟨db, 2, none⟩ (.slice V (n2 - n1) (cap' - n1)) = w3 := ⟨_, rfl⟩
    rw [hw3]
    have HD3 := Lib.hid ((HD2.out.set 1 (.slice ao n1 n1)).set 2 (.slice V (n2 - n1) (cap' - n1)))
    have HS3 := Lib.hid ((HS2.out.setOther (a := ⟨db, 1, none⟩) hne (.slice ao n1 n1)).setOther (a := ⟨db, 2, none⟩) hne (.slice V (n2 - n1) (cap' - n1)))
    rw [hw3] at HD3 HS3
    clear s0 s1 s4 s5 d0 d1 d2 d3 d4 d5 f0 f1 f2 f4 f5
    have s0 : w3.cell? ⟨sb, 0, none⟩ = some (.string (str r.subj)) := HS3.out.cell 0
    have s4 : w3.cell? ⟨sb, 4, none⟩ = some (.int .u64 s) := HS3.out.cell 4
    have s5 : w3.cell? ⟨sb, 5, none⟩ = some (.int .i64 r.time) := HS3.out.cell 5
    have d0 : w3.cell? ⟨db, 0, none⟩ = some (.string (str [])) := HD3.out.cell 0
    have d4 : w3.cell? ⟨db, 4, none⟩ = some (.int .u64 0) := HD3.out.cell 4
    have d5 : w3.cell? ⟨db, 5, none⟩ = some (.int .i64 0) := HD3.out.cell 5
    have f0 : w3.frozen? ⟨db, 0, none⟩ = false := HD3.out.frozen 0
    have f4 : w3.frozen? ⟨db, 4, none⟩ = false := HD3.out.frozen 4
    have f5 : w3.frozen? ⟨db, 5, none⟩ = false := HD3.out.frozen 5
    go_wp2_with fail
    go_region_held3 (fun w' => w'.cell? ⟨sb, 0, none⟩ = some (.string (str r.subj)) ∧ w'.cell? ⟨sb, 4, none⟩ = some (.int .u64 s) ∧ w'.cell? ⟨sb, 5, none⟩ = some (.int .i64 r.time)) (refine ⟨?_, ?_, ?_⟩ <;> simp [*, World.cell?_setCell_other]) (fail)
    clear s0 s4 s5 d0 d4 d5 f0 f4 f5
    go_wp2_with fail
    go_end0)
  all_goals (
    have hdb := HD.out.lt
    have HB'' := HB'.out
    have hk1 : Kp (· = db) w w1 := (HK'.out.undrew).mono fun _ _ h => absurd h id
    have hk2 : Kp (· = db) w1 w3 := by
      rw [← hw3, ← hw2]
      exact Kp.setCell (F := (· = db)) (Kp.setCell (F := (· = db)) (Kp.setCell (F := (· = db)) (Kp.refl _ _) (.inl rfl) _) (.inl rfl) _) (.inl rfl) _
    have hk3 : Kp (· = db) w3 (((w3.setCell ⟨db, 0, none⟩ (.string (str r.subj))).setCell ⟨db, 4, none⟩ (.int .u64 s)).setCell ⟨db, 5, none⟩ (.int .i64 r.time)).drew.drew :=
      (Kp.setCell (F := (· = db)) (Kp.setCell (F := (· = db)) (Kp.setCell (F := (· = db)) (Kp.refl _ _) (.inl rfl) _) (.inl rfl) _) (.inl rfl) _).drew.drew
    have hk13 := hk2.trans hk3 fun _ _ h => h
    have hoff : BytesOff (· = db) ao := fun b off s e => by
      have := (HB'' b off s e).1
      simp at this
      rintro rfl
      omega
    have hS1 := HS'.out
    subst hl1 hl2
    refine ⟨rfl, ⟨ao, r.hdr.length, cutAt ao cap' r.hdr.length, cap' - r.hdr.length, .slice ao (r.hdr ++ r.data).length cap', ?_, (hS1.front).keep hk13 hoff, ?_, ?_, ?_, fun e => by have := hcz e; omega, fun e => by have := hcz (by unfold cutAt at e; split at e; exact e; simpa using e); omega⟩, hk1.trans hk13 fun _ _ h => h⟩
    · have := ((HD3.out.set 0 (.string (str r.subj))).set 4 (.int .u64 s)).set 5 (.int .i64 r.time)
      rw [← hV] at this
      have e : (r.hdr ++ r.data).length - r.hdr.length = r.data.length := by rw [List.length_append]; omega
      rw [e] at this
      exact this
    · have := (hS1.cutEnd (k := r.hdr.length) (by rw [List.length_append]; omega)).keep hk13 hoff.cut
      rwa [List.drop_left] at this
    · intro b off s e
      have := (HB'' b off s e).1
      simp at this
      exact ⟨this, by omega⟩
    · intro b off s e
      obtain ⟨o', s', e'⟩ := cutAt_block e
      have := (HB'' b o' s' e').1
      simp at this
      exact ⟨this, by omega⟩)

end Go.Proofs.YtbehafhkgbjgmaaGreatDoor

/-
  LoadMsg: the message that is there, or an error. No condition.
-/
namespace Go.Proofs.YtbehafhkgbjgmaaGreatDoor
open Go Go.RowKit
set_option maxRecDepth 100000

theorem sto_unread {s : Sto} (h : s.l4 = 0) : ({ s with l4 := 0 } : Sto) = s := by cases s; simp_all

set_option maxHeartbeats 1000000 in
theorem load88 (ms n : Nat) (s : Sto) (r : Rec) (b0 : Nat) (a c : List (Nat × Nat)) (U : Nat → Prop) (w : World) (hB : Blk w ms s.cells 91) (h4 : s.l4 = 0) (hM : MapAt w s.r (a ++ (n, b0) :: c)) (ha : ∀ p, p ∈ a → p.1 ≠ n) (hU : ¬ U ms) (hUl : ∀ x, U x → x < w.heap.size)
    (hm : MsgAt w U b0 n r) (hs : r.size ≤ 1099511627776) :
    Calls Tryz.prog 88 #[.pointer (some ⟨ms, 0, none⟩), .int .u64 n, .pointer none, .bool true] w fun e w' => ∃ b, e = .returned (.tuple #[.pointer (some ⟨b, 0, none⟩), .nilIface]) ∧ w.heap.size ≤ b ∧ MsgL w' w.heap.size b n r ∧ Kp (· = ms) w w' ∧ Blk w' ms s.cells 91 := by
  have hlk := Lib.hid (rlock66 ms s w hB h4)
  have hrm : s.r ≠ ms := Ne.symm (hB.neMap hM)
  have HM := Lib.hid hM
  have HA := Lib.hid ha
  have HU := Lib.hid hU
  have HUl := Lib.hid hUl
  have Hm := Lib.hid hm
  have HB := Lib.hid hB
  clear hB hM ha hU hUl hm
  go_enter Tryz.func88, Tryz.ntmps88
  go_wp2_with fail
  refine hlk.out.mono ?_
  rintro e w1 ⟨rfl, h1, h2⟩
  have HB1 := Lib.hid h1
  have HK1 := Lib.hid h2
  clear h1 h2
  have c25 : w1.cell? ⟨ms, 25, none⟩ = some (.map (some s.r)) := HB1.out.cell 25
  have c18 : w1.cell? ⟨ms, 18, none⟩ = some (.int .u64 s.la) := HB1.out.cell 18
  have hlook := look_some (HM.out.keep HK1.out hrm) HA.out
  have hul := Lib.hid (runlock68 ms _ w1 HB1.out rfl)
  go_wp2_with fail
  refine hul.out.mono ?_
  rintro e w2 ⟨rfl, h1, h2⟩
  have HB2 : Hid (Blk w2 ms s.cells 91) := Lib.hid (by have := h1; rwa [show ({ ({ s with l4 := 1 } : Sto) with l4 := 0 } : Sto) = s from sto_unread h4] at this)
  have HK2 := Lib.hid (HK1.out.trans h2 fun _ _ h => h)
  clear h1 h2
  have hm2 := Hm.out.keep HK2.out (fun x hx e => HU.out (e ▸ hx))
  have hcon : Hid (Calls Tryz.prog 94 #[.pointer (some ⟨b0, 0, none⟩), .pointer (some ⟨w2.heap.size, 0, none⟩)] _ _) := Lib.hid (copy94 b0 w2.heap.size n r U (w2.alloc (.cells #[.string (str []), .slice none 0 0, .slice none 0 0, .slice none 0 0, .int .u64 0, .int .i64 0] 147))
    (hm2.keep ((Kp.refl (fun _ => False) w2).alloc _) fun _ _ => id) (Blk.new _ _ _) (fun h => by have := HUl.out _ h; have := HK2.out.size; omega) hs)
  clear hm2
  go_wp2_with fail
  refine hcon.out.mono ?_
  rintro e w3 ⟨rfl, h1, h2⟩
  have H1 := Lib.hid h1
  have H2 := Lib.hid h2
  clear h1 h2 hcon
  go_wp2_with fail
  go_ret2
  have hsz := HK2.out.size
  have hms := HB.out.lt
  have hka := HK2.out.alloc (.cells #[.string (str []), .slice none 0 0, .slice none 0 0, .slice none 0 0, .int .u64 0, .int .i64 0] 147)
  refine ⟨w2.heap.size, rfl, hsz, H1.out.mono (by simp only [World.size_alloc]; omega), hka.trans H2.out fun i hi e => by omega, (HB2.out.alloc _).keep H2.out (by omega)⟩

set_option maxHeartbeats 1000000 in
/-- No message: an error. -/
theorem load88_none (ms n : Nat) (s : Sto) (l : List (Nat × Nat)) (t2 t3 : TypeId) (v2 v3 : Value) (w : World) (hB : Blk w ms s.cells 91) (h4 : s.l4 = 0) (hM : MapAt w s.r l) (ha : ∀ p, p ∈ l → p.1 ≠ n) (hn : n ≤ s.la)
    (g2 : w.cell? ⟨2, 0, none⟩ = some (.iface t2 v2)) (g3 : w.cell? ⟨3, 0, none⟩ = some (.iface t3 v3)) (m2 : 2 ≠ ms) (m3 : 3 ≠ ms) :
    Calls Tryz.prog 88 #[.pointer (some ⟨ms, 0, none⟩), .int .u64 n, .pointer none, .bool true] w fun e w' => e = .returned (.tuple #[.pointer none, .iface t3 v3]) ∧ Kp (· = ms) w w' ∧ Blk w' ms s.cells 91 := by
  have hlk := Lib.hid (rlock66 ms s w hB h4)
  have hrm : s.r ≠ ms := Ne.symm (hB.neMap hM)
  have HM := Lib.hid hM
  have HA := Lib.hid ha
  have HB := Lib.hid hB
  have b2 := World.block_lt_of_cell? w _ g2
  have b3 := World.block_lt_of_cell? w _ g3
  clear hB hM ha
  go_enter Tryz.func88, Tryz.ntmps88
  go_wp2_with fail
  refine hlk.out.mono ?_
  rintro e w1 ⟨rfl, h1, h2⟩
  have HB1 := Lib.hid h1
  have HK1 := Lib.hid h2
  clear h1 h2
  have c25 : w1.cell? ⟨ms, 25, none⟩ = some (.map (some s.r)) := HB1.out.cell 25
  have c18 : w1.cell? ⟨ms, 18, none⟩ = some (.int .u64 s.la) := HB1.out.cell 18
  have hlook := look_none (HM.out.keep HK1.out hrm) HA.out
  have hul := Lib.hid (runlock68 ms _ w1 HB1.out rfl)
  go_wp2_with fail
  refine hul.out.mono ?_
  rintro e w2 ⟨rfl, h1, h2⟩
  have HB2 : Hid (Blk w2 ms s.cells 91) := Lib.hid (by have := h1; rwa [show ({ ({ s with l4 := 1 } : Sto) with l4 := 0 } : Sto) = s from sto_unread h4] at this)
  have HK2 := Lib.hid (HK1.out.trans h2 fun _ _ h => h)
  clear h1 h2 c25 c18 hlook
  have g2' : w2.cell? ⟨2, 0, none⟩ = some (.iface t2 v2) := (HK2.out.cell m2 b2).trans g2
  have g3' : w2.cell? ⟨3, 0, none⟩ = some (.iface t3 v3) := (HK2.out.cell m3 b3).trans g3
  have hn' : (n : Int) ≤ (s.la : Int) := by omega
  go_wp2_with fail
  go_ret2
  exact ⟨rfl, HK2.out, HB2.out⟩

theorem load42 (n : Nat) (p : Value) (w : World) (Q : Ending → World → Prop) (h : Calls Tryz.prog 88 #[p, .int .u64 n, .pointer none, .bool true] w fun e w' => ∃ a b, e = .returned (.tuple #[a, b]) ∧ Q e w') :
    Calls Tryz.prog 42 #[p, .int .u64 n, .pointer none] w Q := by
  have H := Lib.hid h
  clear h
  go_enter Tryz.func42, Tryz.ntmps42
  go_wp2_with fail
  refine H.out.mono ?_
  rintro e w1 ⟨a, b, rfl, hQ⟩
  have HQ := Lib.hid hQ
  clear hQ
  go_wp2_with fail
  exact HQ.out

theorem results_tmp5 {fn : Func} {a b c d e : Tmp} (h : fn.results = #[.tmp a, .tmp b, .tmp c, .tmp d, .tmp e]) (tmps : Array Value) (P : Program) (w : World) :
    (results fn tmps).run P w = .ok (.tuple #[tmps.getD a undef, tmps.getD b undef, tmps.getD c undef, tmps.getD d undef, tmps.getD e undef]) w := by
  simp [results, h]
set_option maxHeartbeats 1000000 in
theorem parts116 (lo b s : Nat) (r : Rec) (w : World) (hM : MsgL w lo b s r) :
    Calls Tryz.prog 116 #[.pointer (some ⟨b, 0, none⟩)] w fun e w' => (∃ ha hc da dc, e = .returned (.tuple #[.string (str r.subj), .slice ha r.hdr.length hc, .slice da r.data.length dc, .int .u64 s, .int .i64 r.time]) ∧ Bs w' ha hc r.hdr ∧ Bs w' da dc r.data) ∧ Ext w w' := by
  obtain ⟨ha, hc, da, dc, bv, h1, h2, h3, h4, h5, h6, h7⟩ := hM
  have s0 : w.cell? ⟨b, 0, none⟩ = some (.string (str r.subj)) := h1.cell 0
  have s1 : w.cell? ⟨b, 1, none⟩ = some (.slice ha r.hdr.length hc) := h1.cell 1
  have s2 : w.cell? ⟨b, 2, none⟩ = some (.slice da r.data.length dc) := h1.cell 2
  have s4 : w.cell? ⟨b, 4, none⟩ = some (.int .u64 s) := h1.cell 4
  have s5 : w.cell? ⟨b, 5, none⟩ = some (.int .i64 r.time) := h1.cell 5
  have Q1 : Hid (Bs w ha hc r.hdr) := Lib.hid ⟨h2.bytes, h2.le, Nat.le_trans h2.small (by decide), fun e => ⟨h2.plain.1 e, h6 e⟩⟩
  have Q2 : Hid (Bs w da dc r.data) := Lib.hid ⟨h3.bytes, h3.le, Nat.le_trans h3.small (by decide), fun e => ⟨h3.plain.1 e, h7 e⟩⟩
  clear h1 h2 h3 h4 h5 h6 h7
  go_enter Tryz.func116, Tryz.ntmps116
  go_wp2_with fail
  go_quiet (fail)
  go_wp2_with fail
  (try simp only [Exit.inBlock, Exit.then])
  refine bodyPost_ret (results_tmp5 rfl _ _ _) rfl ?_
  exact ⟨⟨ha, hc, da, dc, rfl, Q1.out, Q2.out⟩, (Kp.refl _ _).drewN _⟩

/-- The block's cells as a message told. -/
def toldMsg (w : World) (lo : Nat) (s : Nat) (r : Rec) (cs : Array Value) : Prop :=
  ∃ ha hc da dc, cs = #[.string (str r.subj), .slice ha r.hdr.length hc, .slice da r.data.length dc, .int .u64 s, .int .i64 r.time] ∧ Sl w ha hc r.hdr ∧ Sl w da dc r.data ∧ In (fun x => lo ≤ x ∧ x < w.heap.size) ha ∧ In (fun x => lo ≤ x ∧ x < w.heap.size) da ∧ (ha = none → hc = 0) ∧ (da = none → dc = 0)

set_option maxHeartbeats 1000000 in
theorem message61 (lo b s : Nat) (r : Rec) (w : World) (hM : MsgL w lo b s r) (hs : r.size ≤ 1099511627776) :
    Calls Tryz.prog 61 #[.pointer (some ⟨b, 0, none⟩)] w fun e w' => ∃ cs, e = .returned (.agg cs) ∧ toldMsg w' w.heap.size s r cs ∧ Ext w w' := by
  have hlt : b < w.heap.size := by obtain ⟨_, _, _, _, _, h1, _⟩ := hM; exact h1.lt
  have H1 := Lib.hid (fun W (hX : Ext w W) => parts116 lo b s r W (by
    obtain ⟨ha, hc, da, dc, bv, h1, h2, h3, h4, h5, h6, h7⟩ := hM
    exact ⟨ha, hc, da, dc, bv, h1.keep hX id, h2.ext hX, h3.ext hX, h4, h5, h6, h7⟩))
  have hsz1 : r.hdr.length ≤ 1099511627776 := by unfold Rec.size at hs; omega
  have hsz2 : r.data.length ≤ 1099511627776 := by unfold Rec.size at hs; omega
  clear hM
  go_enter Tryz.func61, Tryz.ntmps61
  go_wp2_with fail
  obtain ⟨w0, hw0⟩ : ∃ w0, w.alloc (.cells #[.string ⟨#[]⟩, .slice none 0 0, .slice none 0 0, .int .u64 0, .int .i64 0] 38) = w0 := ⟨_, rfl⟩
  rw [hw0]
  have HX0 : Hid (Ext w w0) := Lib.hid (by rw [← hw0]; exact (Kp.refl _ _).alloc _)
  have HR0 : Hid (Blk w0 w.heap.size #[.string ⟨#[]⟩, .slice none 0 0, .slice none 0 0, .int .u64 0, .int .i64 0] 38) := Lib.hid (by rw [← hw0]; exact Blk.new _ _ _)
  generalize hrb : w.heap.size = rb at HR0
  refine (H1.out w0 HX0.out).mono ?_
  rintro e w1 ⟨⟨ha, hc, da, dc, rfl, hq1, hq2⟩, hx1⟩
  have HX1 := Lib.hid hx1
  have HC1 := Lib.hid (copied30 r.hdr ha hc w1 hq1 hsz1)
  have HQ2 := Lib.hid hq2
  clear hx1 hq1 hq2
  generalize hl1 : r.hdr.length = n1 at HC1
  generalize hl2 : r.data.length = n2
  go_wp2_with fail
  refine HC1.out.mono ?_
  rintro e w2 ⟨ha', hc', rfl, hs1, hn1, hb1, hx2⟩
  have HN1 := Lib.hid hn1
  clear hn1
  have HS1 := Lib.hid hs1
  have HB1 := Lib.hid hb1
  have HX2 := Lib.hid hx2
  have HC2 := Lib.hid (copied30 r.data da dc w2 ⟨HQ2.out.1.keep hx2 fun _ _ _ _ => id, HQ2.out.2⟩ hsz2)
  clear hs1 hb1 hx2
  rw [hl2] at HC2
  rw [hl1]
  go_wp2_with fail
  refine HC2.out.mono ?_
  rintro e w3 ⟨da', dc', rfl, hs2, hn2, hb2, hx3⟩
  have HN2 := Lib.hid hn2
  clear hn2
  have HS2 := Lib.hid hs2
  have HB2 := Lib.hid hb2
  have HX3 := Lib.hid hx3
  clear hs2 hb2 hx3
  rw [hl2]
  have HR3 := Lib.hid (((HR0.out.keep HX1.out id).keep HX2.out id).keep HX3.out id)
  have r0 : w3.cell? ⟨rb, 0, none⟩ = some (.string ⟨#[]⟩) := HR3.out.cell 0
  have r1 : w3.cell? ⟨rb, 1, none⟩ = some (.slice none 0 0) := HR3.out.cell 1
  have r2 : w3.cell? ⟨rb, 2, none⟩ = some (.slice none 0 0) := HR3.out.cell 2
  have r3 : w3.cell? ⟨rb, 3, none⟩ = some (.int .u64 0) := HR3.out.cell 3
  have r4 : w3.cell? ⟨rb, 4, none⟩ = some (.int .i64 0) := HR3.out.cell 4
  have q0 : w3.frozen? ⟨rb, 0, none⟩ = false := HR3.out.frozen 0
  have q1 : w3.frozen? ⟨rb, 1, none⟩ = false := HR3.out.frozen 1
  have q2 : w3.frozen? ⟨rb, 2, none⟩ = false := HR3.out.frozen 2
  have q3 : w3.frozen? ⟨rb, 3, none⟩ = false := HR3.out.frozen 3
  have q4 : w3.frozen? ⟨rb, 4, none⟩ = false := HR3.out.frozen 4
  have hlt3 := HR3.out.lt
  go_wp2_with fail
  obtain ⟨w4, hw4⟩ : ∃ w4, ((((w3.setCell ⟨rb, 0, none⟩ (.string (str r.subj))).setCell ⟨rb, 1, none⟩ (.slice ha' n1 hc')).setCell ⟨rb, 2, none⟩ (.slice da' n2 dc')).setCell ⟨rb, 3, none⟩ (.int .u64 s)).setCell ⟨rb, 4, none⟩ (.int .i64 r.time) = w4 := ⟨_, rfl⟩
  rw [hw4]
  have HF : Blk w4 rb #[.string (str r.subj), .slice ha' n1 hc', .slice da' n2 dc', .int .u64 s, .int .i64 r.time] 38 := by
    rw [← hw4]
    exact ((((HR3.out.set 0 _).set 1 _).set 2 _).set 3 _).set 4 _
  have HK : Kp (· = rb) w3 w4 := by
    rw [← hw4]
    exact Kp.setCell (F := (· = rb)) (Kp.setCell (F := (· = rb)) (Kp.setCell (F := (· = rb)) (Kp.setCell (F := (· = rb)) (Kp.setCell (F := (· = rb)) (Kp.refl _ _) (.inl rfl) _) (.inl rfl) _) (.inl rfl) _) (.inl rfl) _) (.inl rfl) _
  have z0 := HX0.out.size
  have z1 := HX1.out.size
  have z2 := HX2.out.size
  have z3 := HX3.out.size
  have z4 := HK.size
  have z5 := HR0.out.lt
  have hX : Ext w w4 := (((HX0.out.trans HX1.out fun _ _ h => h).trans HX2.out fun _ _ h => h).trans HX3.out fun _ _ h => h).trans HK fun i hi e => by omega
  have ho1 : BytesOff (· = rb) ha' := fun b off s e => by have := (HB1.out b off s e).1; omega
  have ho2 : BytesOff (· = rb) da' := fun b off s e => by have := (HB2.out b off s e).1; omega
  refine bodyPost_ret (results_cell_row (P := Tryz.prog) rfl _ _ rb 38 _ (0, 0) _ rfl HF Tryz.underlying38 rfl (by kernel_rfl)) rfl ?_
  subst hl1 hl2
  refine ⟨_, rfl, ⟨ha', hc', da', dc', rfl, (HS1.out.ext HX3.out).keep HK ho1, HS2.out.keep HK ho2, ?_, ?_, HN1.out, HN2.out⟩, hX⟩
  · intro b off s e
    have := HB1.out b off s e
    omega
  · intro b off s e
    have := HB2.out b off s e
    omega

theorem message61_none (w : World) : Calls Tryz.prog 61 #[.pointer none] w fun e w' => ∃ a b c d f, e = .returned (.agg #[a, b, c, d, f]) ∧ Ext w w' := by
  go_enter Tryz.func61, Tryz.ntmps61
  go_wp2_with fail
  refine bodyPost_ret (results_cell_row (P := Tryz.prog) rfl _ _ w.heap.size 38 _ (0, 0) _ rfl (Blk.new w _ _) Tryz.underlying38 rfl (by kernel_rfl)) rfl ?_
  exact ⟨_, _, _, _, _, rfl, (Kp.refl _ _).alloc _⟩
end Go.Proofs.YtbehafhkgbjgmaaGreatDoor
