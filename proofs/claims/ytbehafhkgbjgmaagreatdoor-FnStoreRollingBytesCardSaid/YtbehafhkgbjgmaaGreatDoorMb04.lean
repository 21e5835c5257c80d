/-
  The tree of subjects in memory: which texts it has, at which blocks; slices of bytes and their parts. No program's walk; no condition.
-/
import Derived.Test.YtbehafhkgbjgmaaGreatDoorMb02
import Derived.Test.YtbehafhkgbjgmaaGreatDoorMb03
import Derived.Test.YtbehafhkgbjgmaaGreatDoorMb01
import Derived.Deep.MidRow
import Derived.MapKept
import GoSem.Claim
namespace Go.Proofs.YtbehafhkgbjgmaaGreatDoor
open Go Go.RowKit
set_option maxRecDepth 100000

/-- What is kept of a subject. -/
structure SS where
  m : Int
  f : Int
  l : Int
  a : Bool
  b : Bool
def SS.cells (s : SS) (suf : List UInt8) : Array Value := #[.int .u64 s.m, .int .u64 s.f, .int .u64 s.l, .bool s.a, .bool s.b, .string (str suf)]

/-- Which texts a node has, by its first text and its children. -/
def join (pre : List UInt8) (n : Nat) (M : Nat → List UInt8 → Option (Nat × SS)) (c : Nat → UInt8) (key : List UInt8) : Option (Nat × SS) :=
  if pre.isPrefixOf key then
    (if ix n c (pvt (key.drop pre.length) 0) = 0 then none else M (ix n c (pvt (key.drop pre.length) 0) - 1) (key.drop pre.length))
  else none

/-- How many children are too few. -/
def K.low : K → Nat | .k4 => 1 | .k10 => 4 | .k16 => 10 | .k48 => 16

/-- The tree below an interface value: its height at most d, its texts M, its blocks B. -/
inductive IsT (w : World) : Nat → Value → (List UInt8 → Option (Nat × SS)) → (Nat → Prop) → Prop
  | leaf (d b : Nat) (suf : List UInt8) (s : SS) (h : Blk w b (s.cells suf) 269) : IsT w d (.iface 267 (.pointer (some ⟨b, 0, none⟩))) (fun key => if key = suf then some (b, s) else none) (fun x => x = b)
  | node (d : Nat) (k : K) (b : Nat) (pre : List UInt8) (n : Nat) (v : Nat → Value) (c : Nat → UInt8) (M : Nat → List UInt8 → Option (Nat × SS)) (B : Nat → Nat → Prop) (hn : k.low < n) (h : NodeAt w k b pre n v c)
      (hc : ∀ i, i < n → IsT w d (v i) (M i) (B i)) (he : ∀ i, i < n → ∃ key, M i key ≠ none) (hp : ∀ i, i < n → ∀ key, M i key ≠ none → pvt key 0 = c i) (hb : ∀ i, i < n → ¬ B i b)
      (hd : ∀ i j, i < n → j < n → i ≠ j → ∀ x, B i x → ¬ B j x) : IsT w (d + 1) (.iface k.ity (.pointer (some ⟨b, 0, none⟩))) (join pre n M c) (fun x => x = b ∨ ∃ i, i < n ∧ B i x)

theorem IsT.keep {w : World} {d : Nat} {v : Value} {M : List UInt8 → Option (Nat × SS)} {B : Nat → Prop} (h : IsT w d v M B) {F : Nat → Prop} {w' : World} (hk : Kp F w w') (hF : ∀ x, B x → ¬ F x) : IsT w' d v M B := by
  induction h with
  | leaf d b suf s h => exact .leaf d b suf s (h.keep hk (hF b rfl))
  | node d k b pre n v c M B hn h hc he hp hb hd ih =>
    exact .node d k b pre n v c M B hn (h.keep hk (hF b (.inl rfl))) (fun i hi => ih i hi fun x hx => hF x (.inr ⟨i, hi, hx⟩)) he hp hb hd
theorem IsT.up {w : World} {d : Nat} {v : Value} {M : List UInt8 → Option (Nat × SS)} {B : Nat → Prop} (h : IsT w d v M B) : ∀ {d' : Nat}, d ≤ d' → IsT w d' v M B := by
  induction h with
  | leaf d b suf s h => exact fun _ => .leaf _ b suf s h
  | node d k b pre n v c M B hn h hc he hp hb hd ih =>
    intro d' hd'
    obtain ⟨e, rfl⟩ : ∃ e, d' = e + 1 := ⟨d' - 1, by omega⟩
    exact .node e k b pre n v c M B hn h (fun i hi => ih i hi (by omega)) he hp hb hd
theorem IsT.ifc {w : World} {d : Nat} {v : Value} {M : List UInt8 → Option (Nat × SS)} {B : Nat → Prop} (h : IsT w d v M B) : ∃ t b, v = .iface t (.pointer (some ⟨b, 0, none⟩)) := by
  cases h with
  | leaf => exact ⟨_, _, rfl⟩
  | node => exact ⟨_, _, rfl⟩
theorem IsT.lt {w : World} {d : Nat} {v : Value} {M : List UInt8 → Option (Nat × SS)} {B : Nat → Prop} (h : IsT w d v M B) : ∀ x, B x → x < w.heap.size := by
  induction h with
  | leaf d b suf s h => rintro x rfl; exact h.lt
  | node d k b pre n v c M B hn h hc he hp hb hd ih =>
    rintro x (rfl | ⟨i, hi, hx⟩)
    · exact h.lt
    · exact ih i hi x hx
theorem IsT.some {w : World} {d : Nat} {v : Value} {M : List UInt8 → Option (Nat × SS)} {B : Nat → Prop} (h : IsT w d v M B) : ∃ key, M key ≠ none := by
  cases h with
  | leaf d b suf s h => exact ⟨suf, by simp⟩
  | node d k b pre n v c M B hn h hc he hp hb hd =>
    obtain ⟨key, hkey⟩ := he 0 (by omega)
    refine ⟨pre ++ key, ?_⟩
    obtain ⟨cs, _, hC⟩ := h
    have h0 : ix n c (pvt key 0) = 0 + 1 := by rw [hp 0 (by omega) key hkey]; exact ix_hit hC.inj (by omega)
    unfold join
    rw [if_pos (by simp)]
    simp [h0, hkey]

theorem isPrefixOf_iff {l m : List UInt8} : l.isPrefixOf m = true ↔ ∃ r, m = l ++ r := by
  rw [List.isPrefixOf_iff_prefix]
  exact ⟨fun ⟨r, h⟩ => ⟨r, h.symm⟩, fun ⟨r, h⟩ => ⟨r, h.symm⟩⟩

section
variable {pre : List UInt8} {n : Nat} {M : Nat → List UInt8 → Option (Nat × SS)} {c : Nat → UInt8}
theorem join_at (inj : ∀ i j, i < n → j < n → c i = c j → i = j) {i : Nat} (hi : i < n) {r : List UInt8} (hr : pvt r 0 = c i) : join pre n M c (pre ++ r) = M i r := by
  unfold join
  rw [if_pos (isPrefixOf_iff.2 ⟨r, rfl⟩), List.drop_left, hr, ix_hit inj hi, if_neg (by omega), Nat.add_sub_cancel]
theorem join_none {r : List UInt8} (hr : ∀ i, i < n → c i ≠ pvt r 0) : join pre n M c (pre ++ r) = none := by
  unfold join
  rw [if_pos (isPrefixOf_iff.2 ⟨r, rfl⟩), List.drop_left, ix_miss hr, if_pos rfl]
theorem join_off {key : List UInt8} (h : ¬ ∃ r, key = pre ++ r) : join pre n M c key = none := by
  unfold join
  rw [if_neg (fun e => h (isPrefixOf_iff.1 e))]
theorem join_ne {key : List UInt8} (h : join pre n M c key ≠ none) : ∃ r i, key = pre ++ r ∧ i < n ∧ c i = pvt r 0 ∧ M i r ≠ none := by
  unfold join at h
  split at h
  · rename_i h1
    obtain ⟨r, rfl⟩ := isPrefixOf_iff.1 h1
    rw [List.drop_left] at h
    split at h
    · exact absurd rfl h
    · rename_i h2
      have := ix_pos h2
      exact ⟨r, _, rfl, this.1, this.2, h⟩
  · exact absurd rfl h
end

/-- All texts are short and without the byte 127. -/
def Good (M : List UInt8 → Option (Nat × SS)) : Prop := ∀ key, M key ≠ none → (127 : UInt8) ∉ key ∧ key.length ≤ 1099511627776
theorem Good.sub {pre : List UInt8} {n : Nat} {M : Nat → List UInt8 → Option (Nat × SS)} {c : Nat → UInt8} (h : Good (join pre n M c)) (inj : ∀ i j, i < n → j < n → c i = c j → i = j)
    (hp : ∀ i, i < n → ∀ key, M i key ≠ none → pvt key 0 = c i) {i : Nat} (hi : i < n) : Good (M i) := fun key hk => by
  have := h (pre ++ key) (by rw [join_at inj hi (hp i hi key hk)]; exact hk)
  simp only [List.mem_append, List.length_append, not_or] at this
  exact ⟨this.1.2, by omega⟩
theorem Good.pre {pre : List UInt8} {n : Nat} {M : Nat → List UInt8 → Option (Nat × SS)} {c : Nat → UInt8} (h : Good (join pre n M c)) (inj : ∀ i j, i < n → j < n → c i = c j → i = j)
    (hp : ∀ i, i < n → ∀ key, M i key ≠ none → pvt key 0 = c i) (hn : 0 < n) (he : ∃ key, M 0 key ≠ none) : (127 : UInt8) ∉ pre ∧ pre.length ≤ 1099511627776 := by
  obtain ⟨key, hk⟩ := he
  have := h (pre ++ key) (by rw [join_at inj hn (hp 0 hn key hk)]; exact hk)
  simp only [List.mem_append, List.length_append, not_or] at this
  exact ⟨this.1.1, by omega⟩

theorem pvt_drop (l : List UInt8) (k : Nat) : pvt (l.drop k) 0 = pvt l k := by simp [pvt, List.getD]

/-- A slice of bytes: its address, its capacity, its bytes. -/
structure Sl (w : World) (ao : Option Addr) (cap : Nat) (l : List UInt8) : Prop where
  bytes : BytesAt w ao l
  plain : Plain ao l
  le : l.length ≤ cap
  small : l.length ≤ 4611686018427387904

theorem Sl.keep {F : Nat → Prop} {w w' : World} {ao : Option Addr} {cap : Nat} {l : List UInt8} (h : Sl w ao cap l) (k : Kp F w w') (hb : BytesOff F ao) : Sl w' ao cap l := ⟨h.bytes.keep k hb, h.plain, h.le, h.small⟩
theorem Sl.ext {w w' : World} {ao : Option Addr} {cap : Nat} {l : List UInt8} (h : Sl w ao cap l) (k : Ext w w') : Sl w' ao cap l := h.keep k fun _ _ _ _ => id

/-- Where a part of a slice begins. -/
def cutAt (ao : Option Addr) (cap k : Nat) : Option Addr := if cap = k then ao else ao.map (·.add k)
theorem cutAt_block {ao : Option Addr} {cap k b off : Nat} {s : Option Nat} (h : cutAt ao cap k = some ⟨b, off, s⟩) : ∃ o s', ao = some ⟨b, o, s'⟩ := by
  unfold cutAt at h
  split at h
  · exact ⟨off, s, h⟩
  · cases ao with
    | none => simp at h
    | some a =>
      simp [Addr.add] at h
      split at h
      · subst h; exact ⟨_, _, rfl⟩
      · exact ⟨a.off, a.spot, by cases a; simp_all⟩

theorem run_cut {P : Program} (T E : TypeId) (hT : P.underlying T = some (.slice E)) (hE : (P.info? E).map (·.size) = some 1) (ao : Option Addr) (n cap k h : Nat) (hk : k ≤ h) (hh : h ≤ cap) (w : World) :
    (Instr.slice T (.slice ao n cap) (some (.int .i64 k)) (some (.int .i64 h)) none).run P w = .ok (.slice (cutAt ao cap k) (h - k) (cap - k)) w := by
  obtain ⟨i, hi, hs⟩ := Option.map_eq_some_iff.1 hE
  simp [Instr.slice, run_underlying hT, Instr.sliceBounds, Instr.sliceBound, asIntOf, sizeOf, typeInfo, hi, hs, Sem.run_bind, Sem.run_pure, cutAt, hk, hh]
theorem run_cutEnd {P : Program} (T E : TypeId) (hT : P.underlying T = some (.slice E)) (hE : (P.info? E).map (·.size) = some 1) (ao : Option Addr) (n cap k : Nat) (hk : k ≤ n) (w : World) :
    (Instr.slice T (.slice ao n cap) (some (.int .i64 k)) none none).run P w = .ok (.slice (cutAt ao cap k) (n - k) (cap - k)) w := by
  obtain ⟨i, hi, hs⟩ := Option.map_eq_some_iff.1 hE
  simp [Instr.slice, run_underlying hT, Instr.sliceBounds, Instr.sliceBound, asIntOf, sizeOf, typeInfo, hi, hs, Sem.run_bind, Sem.run_pure, cutAt, hk]
theorem info5 : (Tryz.prog.info? 5).map (·.size) = some 1 := by kernel_rfl

theorem Sl.cut {w : World} {ao : Option Addr} {cap : Nat} {l : List UInt8} (h : Sl w ao cap l) {k m : Nat} (hk : k ≤ m) (hm : m ≤ l.length) : Sl w (cutAt ao cap k) (cap - k) ((l.take m).drop k) where
  bytes := by
    intro i hi
    have hi' : i < m - k := by simpa [Nat.min_eq_left hm] using hi
    have hne : cap ≠ k := by have := h.le; omega
    obtain ⟨b, off, rfl, hc⟩ := h.bytes (k + i) (by omega)
    have e : cutAt (some ⟨b, off, none⟩) cap k = some ⟨b, off + k, none⟩ := by
      unfold cutAt
      rw [if_neg hne]
      simp [Addr.add]
    refine ⟨b, off + k, e, ?_⟩
    rw [show off + k + i = off + (k + i) by omega, hc]
    congr 3
    simp
  plain := by
    refine ⟨fun e => ?_, fun a ha => ?_⟩
    · unfold cutAt at e
      split at e
      · simp [h.plain.1 e]
      · cases ao with
        | none => simp [h.plain.1 rfl]
        | some a => simp at e
    · unfold cutAt at ha
      split at ha
      · exact h.plain.2 a ha
      · cases ao with
        | none => simp at ha
        | some a' =>
          have := h.plain.2 a' rfl
          simp [Addr.add] at ha
          split at ha
          · subst ha; exact this
          · subst ha; rfl
  le := by have := h.le; simp [Nat.min_eq_left hm]; omega
  small := by have := h.small; simp; omega
theorem Sl.cutEnd {w : World} {ao : Option Addr} {cap : Nat} {l : List UInt8} (h : Sl w ao cap l) {k : Nat} (hk : k ≤ l.length) : Sl w (cutAt ao cap k) (cap - k) (l.drop k) := by
  have := h.cut hk (Nat.le_refl _)
  rwa [List.take_length] at this
theorem BytesOff.cut {F : Nat → Prop} {ao : Option Addr} {cap k : Nat} (h : BytesOff F ao) : BytesOff F (cutAt ao cap k) := fun b off s e => by
  obtain ⟨o, s', e'⟩ := cutAt_block e
  exact h b o s' e'
/-- The two cuts as the walk meets them. -/
theorem cutEnd36 {w : World} {ao : Option Addr} {cap : Nat} {l : List UInt8} (_ : Sl w ao cap l) {k : Nat} (hk : k ≤ l.length) (w' : World) :
    (Instr.slice 36 (.slice ao l.length cap) (some (.int .i64 k)) none none).run Tryz.prog w' = .ok (.slice (cutAt ao cap k) (l.drop k).length (cap - k)) w' := by
  rw [run_cutEnd 36 5 Tryz.underlying36 info5 ao l.length cap k hk w', List.length_drop]
theorem cut36 {w : World} {ao : Option Addr} {cap : Nat} {l : List UInt8} (h : Sl w ao cap l) {k m : Nat} (hk : k ≤ m) (hm : m ≤ l.length) (w' : World) :
    (Instr.slice 36 (.slice ao l.length cap) (some (.int .i64 k)) (some (.int .i64 m)) none).run Tryz.prog w' = .ok (.slice (cutAt ao cap k) ((l.take m).drop k).length (cap - k)) w' := by
  rw [run_cut 36 5 Tryz.underlying36 info5 ao l.length cap k m hk (by have := h.le; omega) w', List.length_drop, List.length_take, Nat.min_eq_left hm]

theorem str_extract (l : List UInt8) (a b : Nat) : (str l).extract a b = str ((l.take b).drop a) := by
  unfold str
  apply ByteArray.ext
  rw [ByteArray.data_extract]
  apply Array.ext'
  simp
  rw [List.drop_take]
theorem str_extractEnd (l : List UInt8) (a : Nat) : (str l).extract a l.length = str (l.drop a) := by
  rw [str_extract, List.take_length]
end Go.Proofs.YtbehafhkgbjgmaaGreatDoor

/-
  A set of small numbers: 'Insert' where nothing is in it. Condition: the number is below 64.
-/
namespace Go.Proofs.YtbehafhkgbjgmaaGreatDoor
open Go Go.RowKit
set_option maxRecDepth 100000
/-- The bit of a small number. -/
def bit1 (s : Nat) : Int := IntKind.u64.wrap (2 ^ (s % 64))
theorem bit_and : ∀ s, s < 64 → bits .and .u64 0 (bit1 s) = 0 := by decide
theorem bit_or : ∀ s, s < 64 → bits .or .u64 0 (bit1 s) = bit1 s := by decide
theorem bit_self : ∀ s, s < 64 → bits .and .u64 (bit1 s) (bit1 s) = bit1 s := by decide
theorem bit_ne : ∀ s, s < 64 → ¬ (bit1 s = 0) := by decide
theorem bit_not : ∀ s, s < 64 → bits .andNot .u64 (bit1 s) (bit1 s) = 0 := by decide

set_option maxHeartbeats 1000000 in
theorem set135 (b mb o s : Nat) (w : World) (hs : s < 64) (h0 : w.cell? ⟨b, 0, none⟩ = some (.int .u64 0)) (h1 : w.cell? ⟨b, 1, none⟩ = some (.int .u64 0)) (f1 : w.frozen? ⟨b, 1, none⟩ = false)
   (hc : w.cell? ⟨mb, o, none⟩ = some (.bool false)) (fc : w.frozen? ⟨mb, o, none⟩ = false) (hne : b ≠ mb) :
    Calls Tryz.prog 135 #[.pointer (some ⟨b, 0, none⟩), .int .u64 s, .pointer (some ⟨mb, o, none⟩)] w fun e w' => e = .returned (.tuple #[]) ∧ ∃ n, w' = ((w.drewN n).setCell ⟨b, 1, none⟩ (.int .u64 (bit1 s))).setCell ⟨mb, o, none⟩ (.bool true) := by
  have hd : s / 64 = 0 := by omega
  have hd' : (s : Int) / 64 = 0 := by omega
  have hne' : mb ≠ b := Ne.symm hne
  have e1 := bit_and s hs
  have e2 := bit_or s hs
  unfold bit1 at *
  go_enter Tryz.func135, Tryz.ntmps135
  go_wp2_with fail
  go_still_tail 11, (by kernel_rfl)
  go_wp2_with fail
  go_end0
  exact ⟨rfl, _, rfl⟩

/-- The cells of a node of the set that has one number, or none. -/
def setCells (x : Int) : Array Value := #[.int .u64 0, .int .u64 x, .int .u64 0, .int .u64 0, .int .u64 0, .int .u64 0, .int .u64 0, .int .u64 0, .int .u64 0, .int .u64 0, .int .u64 0, .int .u64 0, .int .u64 0, .int .u64 0, .int .u64 0, .int .u64 0, .int .u64 0, .int .u64 0, .int .u64 0, .int .u64 0, .int .u64 0, .int .u64 0, .int .u64 0, .int .u64 0, .int .u64 0, .int .u64 0, .int .u64 0, .int .u64 0, .int .u64 0, .int .u64 0, .int .u64 0, .int .u64 0, .int .u64 0, .pointer none, .pointer none, .int .i64 1]

set_option maxHeartbeats 1000000 in
theorem insert136 (mb o o2 s : Nat) (z : Int) (cs : Array Value) (T : TypeId) (w : World) (hs : s < 64) (hM : Blk w mb cs T) (hc : cs[o]? = some (.bool false)) (hn : cs[o2]? = some (.int .i64 z)) (ho : o ≠ o2) :
    Calls Tryz.prog 136 #[.pointer none, .int .u64 s, .pointer (some ⟨mb, o, none⟩), .pointer (some ⟨mb, o2, none⟩)] w fun e w' => ∃ b z', w.heap.size ≤ b ∧ e = .returned (.pointer (some ⟨b, 0, none⟩)) ∧ Blk w' b (setCells (bit1 s)) 206 ∧ Kp (· = mb) w w' ∧
      Blk w' mb ((cs.setIfInBounds o (.bool true)).setIfInBounds o2 (.int .i64 z')) T := by
  have hlt : mb < w.heap.size := hM.lt
  have HM := Lib.hid hM
  have hd : (s : Int) / 2048 = 0 := by omega
  clear hM
  go_enter Tryz.func136, Tryz.ntmps136
  go_wp2_with fail
  obtain ⟨w1, hw1⟩ : ∃ w1, w.alloc (.cells (setCells 0) 206) = w1 := ⟨_, rfl⟩
  have hX : Ext w w1 := by rw [← hw1]; exact (Kp.refl _ _).alloc _
  have hB : Blk w1 w.heap.size (setCells 0) 206 := by rw [← hw1]; exact Blk.new _ _ _
  have HX := Lib.hid hX
  have HB := Lib.hid hB
  have HM1 := Lib.hid (HM.out.keep hX id)
  clear hX hB
  unfold setCells at hw1
  rw [hw1]
  clear hw1
  have hbm : w.heap.size ≠ mb := by omega
  refine (set135 w.heap.size mb o s w1 hs (HB.out.cell 0) (HB.out.cell 1) (HB.out.frozen 1) ((HM1.out.cell o).trans hc) (HM1.out.frozen o) hbm).mono ?_
  rintro e w2 ⟨rfl, n, hw2⟩
  have HK2 : Hid (Kp (fun x => x = mb) w w2) := by rw [hw2]; exact Kp.setCell (F := (· = mb)) (Kp.setCell (Kp.drewN (Ext.kp HX.out) n) (.inr (Nat.le_refl _)) _) (.inl rfl) _
  have HB2 : Hid (Blk w2 w.heap.size (setCells (bit1 s)) 206) := by rw [hw2]; exact ((HB.out.drewN n).set 1 _).setOther hbm _
  have HM2 : Hid (Blk w2 mb (cs.setIfInBounds o (.bool true)) T) := by rw [hw2]; exact ((HM1.out.drewN n).setOther (Ne.symm hbm) _).set _ _
  have hn2 : w2.cell? ⟨mb, o2, none⟩ = some (.int .i64 z) := (HM2.out.cell o2).trans (by rw [getSet ho]; exact hn)
  have fn2 : w2.frozen? ⟨mb, o2, none⟩ = false := HM2.out.frozen o2
  clear hw2
  go_wp2_with fail
  go_ret
  exact ⟨w.heap.size, _, Nat.le_refl _, rfl, HB2.out.setOther hbm _, Kp.setCell HK2.out (.inl rfl) _, HM2.out.set _ _⟩

/-- A set of numbers at the cells o .. o+3 of the block mb: nothing is in it. -/
def NoSet (cs : Array Value) (o : Nat) : Prop := cs[o]? = some (.pointer none) ∧ (∃ z, cs[o + 1]? = some (.int .i64 z)) ∧ (∃ z, cs[o + 2]? = some (.int .i64 z)) ∧ cs[o + 3]? = some (.bool false)
/-- The number s alone is in it. -/
def OneSet (w : World) (cs : Array Value) (o : Nat) (s b : Nat) : Prop := cs[o]? = some (.pointer (some ⟨b, 0, none⟩)) ∧ (∃ z, cs[o + 1]? = some (.int .i64 z)) ∧ (∃ z, cs[o + 2]? = some (.int .i64 z)) ∧ cs[o + 3]? = some (.bool false) ∧ Blk w b (setCells (bit1 s)) 206
/-- Besides the set's cells nothing of the block has turned. -/
def SameBut (cs cs' : Array Value) (o : Nat) : Prop := cs'.size = cs.size ∧ ∀ i, ¬ (o ≤ i ∧ i < o + 4) → cs'[i]? = cs[i]?

set_option maxHeartbeats 1000000 in
theorem insert70 (mb o s : Nat) (cs : Array Value) (T : TypeId) (w : World) (hs : s < 64) (hM : Blk w mb cs T) (hN : NoSet cs o) :
    Calls Tryz.prog 70 #[.pointer (some ⟨mb, o, none⟩), .int .u64 s] w fun e w' => e = .returned (.tuple #[]) ∧ ∃ b cs', w.heap.size ≤ b ∧ Blk w' mb cs' T ∧ OneSet w' cs' o s b ∧ SameBut cs cs' o ∧ Kp (· = mb) w w' := by
  obtain ⟨h0, ⟨z1, h1⟩, ⟨z2, h2⟩, h3⟩ := hN
  have c0 : w.cell? ⟨mb, o, none⟩ = some (.pointer none) := (hM.cell o).trans h0
  have HM := Lib.hid hM
  go_enter Tryz.func70, Tryz.ntmps70
  go_wp2_with fail
  clear c0
  go_loopw [4] (fun x wr => x = .pointer none ∧ w = wr) (fun _ _ => 0)
  case atStart => exact ⟨rfl, rfl⟩
  case round =>
    obtain ⟨rfl, rfl⟩ := hrel
    have c0 : w.cell? ⟨mb, o, none⟩ = some (.pointer none) := (hM.cell o).trans h0
    clear hM
    go_wp2_with fail
    have hsz : o + 3 < cs.size := (Array.getElem?_eq_some_iff.1 h3).1
    have hlt := HM.out.lt
    go_region_with (go_at_call 136; (with_reducible refine (insert136 mb (o + 3) (o + 2) s z2 cs T _ hs HM.out.drew h3 h2 (by omega)).mono ?_); rintro e w2 ⟨b, z', hb, rfl, hB2, hK2, hM2⟩; have c2 : w2.cell? ⟨mb, o, none⟩ = some (.pointer none) := (hM2.cell o).trans (by rw [getSet (by omega), getSet (by omega)]; exact h0); have f2 : w2.frozen? ⟨mb, o, none⟩ = false := hM2.frozen o; have HB2 := Lib.hid hB2; have HK2 := Lib.hid hK2; have HM2 := Lib.hid hM2; have HB := Lib.hid hb; clear hB2 hK2 hM2 hb)
    obtain ⟨w3, hw3⟩ : ∃ w3, w2.setCell ⟨mb, o, none⟩ (.pointer (some ⟨b, 0, none⟩)) = w3 := ⟨_, rfl⟩
    rw [hw3]
    have hM3 := HM2.out.set o (.pointer (some ⟨b, 0, none⟩))
    rw [hw3] at hM3
    have HM3 := Lib.hid hM3
    clear hM3
    have hbm : b ≠ mb := by have := HB.out; have : w.heap.size ≤ b := this; omega
    have HB3 : Hid (Blk w3 b (setCells (bit1 s)) 206) := by rw [← hw3]; exact HB2.out.setOther hbm _
    have HK3 : Hid (Kp (· = mb) w w3) := by rw [← hw3]; exact Kp.setCell (F := (· = mb)) (((Kp.refl (· = mb) w).drew).trans HK2.out fun _ _ h => h) (.inl rfl) _
    have c3 : w3.cell? ⟨mb, o + 3, none⟩ = some (.bool true) := (HM3.out.cell _).trans (by rw [getSet (by omega), getSet (by omega), getSet_same (by omega)])
    have f3 : w3.frozen? ⟨mb, o + 3, none⟩ = false := HM3.out.frozen _
    have d3 : w3.cell? ⟨mb, o + 1, none⟩ = some (.int .i64 z1) := (HM3.out.cell _).trans (by rw [getSet (by omega), getSet (by omega), getSet (by omega)]; exact h1)
    have g3 : w3.frozen? ⟨mb, o + 1, none⟩ = false := HM3.out.frozen _
    clear hw3
    go_wp2_with fail
    go_end0
    refine ⟨rfl, b, _, HB.out, (HM3.out.set _ _).set _ _, ?_, ?_, Kp.setCell (Kp.setCell HK3.out (.inl rfl) _) (.inl rfl) _⟩
    · refine ⟨?_, ?_, ?_, ?_, (HB3.out.setOther hbm _).setOther hbm _⟩
      · rw [getSet (by omega), getSet (by omega), getSet_same (by simp; omega)]
      · exact ⟨_, getSet_same (by simp; omega)⟩
      · exact ⟨z', by rw [getSet (by omega), getSet (by omega), getSet (by omega), getSet_same (by simp; omega)]⟩
      · rw [getSet (by omega), getSet_same (by simp; omega)]
    · refine ⟨by simp, fun i hi => ?_⟩
      rw [getSet (by omega), getSet (by omega), getSet (by omega), getSet (by omega), getSet (by omega)]
end Go.Proofs.YtbehafhkgbjgmaaGreatDoor

/-
  A set of small numbers: 'Delete' of the one number that is in it; 'Range' over nothing. Condition: the number is below 64.
-/
namespace Go.Proofs.YtbehafhkgbjgmaaGreatDoor
open Go Go.RowKit
set_option maxRecDepth 100000
def zeros32 : Array Value := #[.int .u64 0, .int .u64 0, .int .u64 0, .int .u64 0, .int .u64 0, .int .u64 0, .int .u64 0, .int .u64 0, .int .u64 0, .int .u64 0, .int .u64 0, .int .u64 0, .int .u64 0, .int .u64 0, .int .u64 0, .int .u64 0, .int .u64 0, .int .u64 0, .int .u64 0, .int .u64 0, .int .u64 0, .int .u64 0, .int .u64 0, .int .u64 0, .int .u64 0, .int .u64 0, .int .u64 0, .int .u64 0, .int .u64 0, .int .u64 0, .int .u64 0, .int .u64 0]
theorem zeros_at : ∀ k, k < 32 → zeros32[k]? = some (.int .u64 0)
  | 0, _ | 1, _ | 2, _ | 3, _ | 4, _ | 5, _ | 6, _ | 7, _ | 8, _ | 9, _ | 10, _ | 11, _ | 12, _ | 13, _ | 14, _ | 15, _ | 16, _ | 17, _ | 18, _ | 19, _ | 20, _ | 21, _ | 22, _ | 23, _ | 24, _ | 25, _ | 26, _ | 27, _ | 28, _ | 29, _ | 30, _ | 31, _ => rfl
  | k + 32, h => absurd h (by omega)

theorem index204 (Z : Array Value) (k : Nat) (hk : k < 32) (hz : Z[k]? = some (.int .u64 0)) (w : World) : (Instr.index 204 (.agg Z) (.int .i64 k)).run Tryz.prog w = .ok (.int .u64 0) w := by
  have h25 : (Tryz.prog.info? 25).map (·.size) = some 1 := by kernel_rfl
  obtain ⟨i, hi, hs⟩ := Option.map_eq_some_iff.1 h25
  simp [Instr.index, run_underlying Tryz.underlying204, run_underlying Tryz.underlying25, asIntOf, Sem.run_bind, Sem.run_pure, sizeOf, typeInfo, hi, hs, part, isAgg, hz]
  exact fun h => absurd h (by omega)

set_option maxHeartbeats 2000000 in
theorem clear198 (b mb o s : Nat) (w : World) (hs : s < 64) (hB : Blk w b (setCells (bit1 s)) 206)
   (hc : w.cell? ⟨mb, o, none⟩ = some (.bool false)) (fc : w.frozen? ⟨mb, o, none⟩ = false) (hne : b ≠ mb) :
    Calls Tryz.prog 198 #[.pointer (some ⟨b, 0, none⟩), .int .u64 s, .pointer (some ⟨mb, o, none⟩)] w fun e w' => e = .returned (.bool true) ∧ ∃ n, w' = ((w.drewN n).setCell ⟨b, 1, none⟩ (.int .u64 0)).setCell ⟨mb, o, none⟩ (.bool true) := by
  have hd : s / 64 = 0 := by omega
  have hd' : (s : Int) / 64 = 0 := by omega
  have hne' : mb ≠ b := Ne.symm hne
  have HB := Lib.hid hB
  have h0 : w.cell? ⟨b, 0, none⟩ = some (.int .u64 0) := hB.cell 0
  have h1 : w.cell? ⟨b, 1, none⟩ = some (.int .u64 (bit1 s)) := hB.cell 1
  have f1 : w.frozen? ⟨b, 1, none⟩ = false := hB.frozen 1
  have e1 := bit_self s hs
  have e2 := bit_not s hs
  have e3 := bit_ne s hs
  unfold bit1 at h1 e1 e2 e3
  clear hB
  go_enter Tryz.func198, Tryz.ntmps198
  go_wp2_with fail
  go_still_tail 11, (by kernel_rfl)
  go_upto_region 10 with fail
  have hfin : ∃ n, ((w.setCell ⟨b, 1, none⟩ (.int .u64 0)).setCell ⟨mb, o, none⟩ (.bool true)).drew = ((w.drewN n).setCell ⟨b, 1, none⟩ (.int .u64 0)).setCell ⟨mb, o, none⟩ (.bool true) := ⟨1, rfl⟩
  have hB3 : Blk ((w.setCell ⟨b, 1, none⟩ (.int .u64 0)).setCell ⟨mb, o, none⟩ (.bool true)).drew b (setCells 0) 206 := ((HB.out.set 1 (.int .u64 0)).setOther hne _).drew
  generalize ((w.setCell ⟨b, 1, none⟩ (.int .u64 0)).setCell ⟨mb, o, none⟩ (.bool true)).drew = w3 at hfin hB3 ⊢
  have hrg : w3.rangeAt b 1 zeros32.toList := fun j v hv => by
      rw [hB3.cell]
      have hj : j < 32 := (List.getElem?_eq_some_iff.1 hv).1
      have h2 := zeros_at j hj
      have hv' : zeros32[j]? = some v := by rw [← hv]; simp
      rw [h2] at hv'
      rw [← hv']
      have : ∀ j, j < 32 → (setCells 0)[1 + j]? = some (.int .u64 0) := fun j hj => by
        have := zeros_at j hj
        match j, hj with
        | 0, _ | 1, _ | 2, _ | 3, _ | 4, _ | 5, _ | 6, _ | 7, _ | 8, _ | 9, _ | 10, _ | 11, _ | 12, _ | 13, _ | 14, _ | 15, _ | 16, _ | 17, _ | 18, _ | 19, _ | 20, _ | 21, _ | 22, _ | 23, _ | 24, _ | 25, _ | 26, _ | 27, _ | 28, _ | 29, _ | 30, _ | 31, _ => rfl
        | k + 32, h => omega
      exact this j hj
  have hinf : (Tryz.prog.info? 204).map (·.size) = some zeros32.toList.length := by kernel_rfl
  have HF := Lib.hid hfin
  have hZ : ∀ k, k < 32 → zeros32[k]? = some (.int .u64 0) := zeros_at
  have hZs : zeros32.toList.length = 32 := rfl
  generalize zeros32 = Z at hrg hinf hZ hZs
  clear hfin hB3 h0 h1 f1 e1 e2 e3 hc fc HB
  go_wp2_with (refine wpList_load_mid (by with_reducible rfl) 204 (.tmp 53) (by with_reducible rfl) b 1 (by rfl) Z.toList _ hrg Tryz.underlying204 (by rfl) hinf ?_)
  have hZa : Z.toList.toArray = Z := by simp
  have hZz : Z.size = 32 := by simpa using hZs
  go_loopw [55] (fun x wr => ∃ k : Nat, k ≤ 32 ∧ x = .int .i64 k ∧ wr = w3) (fun x _ => 32 - (intOf x).toNat)
  case atStart => exact ⟨0, by omega, rfl, rfl⟩
  case round =>
    obtain ⟨k, hk, rfl, rfl⟩ := hrel
    by_cases hk2 : k < 32
    · have hz := hZ k hk2
      have hix := index204 Z k hk2 hz
      go_wp2_with fail
      go_roundw
      case rel => exact ⟨k + 1, by omega, by go_num, by first | rfl | trivial⟩
      case measure => simp [intOf]; omega
    · obtain rfl : k = 32 := by omega
      go_wp2_with fail
      go_ret
      exact ⟨rfl, HF.out⟩

theorem bal193 (w : World) : Calls Tryz.prog 193 #[.pointer none] w fun e w' => e = .returned (.int .i64 0) ∧ w = w' := by
  go_enter Tryz.func193, Tryz.ntmps193
  go_wp2_with fail
  go_ret
  exact ⟨rfl, rfl⟩

set_option maxHeartbeats 1000000 in
theorem delete143 (b mb o o2 s : Nat) (z : Int) (cs : Array Value) (T : TypeId) (w : World) (hs : s < 64) (hM : Blk w mb cs T) (hB : Blk w b (setCells (bit1 s)) 206) (hbm : b ≠ mb) (hc : cs[o]? = some (.bool false)) (hn : cs[o2]? = some (.int .i64 z)) (ho : o ≠ o2) :
    Calls Tryz.prog 143 #[.pointer (some ⟨b, 0, none⟩), .int .u64 s, .pointer (some ⟨mb, o, none⟩), .pointer (some ⟨mb, o2, none⟩)] w fun e w' => ∃ z', e = .returned (.pointer none) ∧ Kp (fun x => x = mb ∨ x = b) w w' ∧
      Blk w' mb ((cs.setIfInBounds o (.bool true)).setIfInBounds o2 (.int .i64 z')) T := by
  have HM := Lib.hid hM
  have HB := Lib.hid hB
  have h0 : w.cell? ⟨b, 0, none⟩ = some (.int .u64 0) := hB.cell 0
  have hn1 : w.cell? ⟨mb, o2, none⟩ = some (.int .i64 z) := (hM.cell o2).trans hn
  have hsl : ¬ ((2048 : Int) ≤ (s : Int)) := by omega
  clear hM hB
  go_enter Tryz.func143, Tryz.ntmps143
  go_wp2_with fail
  refine (clear198 b mb o s w hs HB.out ((HM.out.cell o).trans hc) (HM.out.frozen o) hbm).mono ?_
  rintro e w2 ⟨rfl, n, hw2⟩
  have HK2 : Hid (Kp (fun x => x = mb ∨ x = b) w w2) := by rw [hw2]; exact Kp.setCell (F := fun x => x = mb ∨ x = b) (Kp.setCell (Kp.drewN (Kp.refl _ _) n) (.inl (.inr rfl)) _) (.inl (.inl rfl)) _
  have HB2 : Hid (Blk w2 b (setCells 0) 206) := by rw [hw2]; exact ((HB.out.drewN n).set 1 (.int .u64 0)).setOther hbm _
  have HM2 : Hid (Blk w2 mb (cs.setIfInBounds o (.bool true)) T) := by rw [hw2]; exact ((HM.out.drewN n).setOther (Ne.symm hbm) _).set _ _
  have hn2 : w2.cell? ⟨mb, o2, none⟩ = some (.int .i64 z) := (HM2.out.cell o2).trans (by rw [getSet ho]; exact hn)
  have fn2 : w2.frozen? ⟨mb, o2, none⟩ = false := HM2.out.frozen o2
  have h33 : w2.cell? ⟨b, 33, none⟩ = some (.pointer none) := HB2.out.cell 33
  have h34 : w2.cell? ⟨b, 34, none⟩ = some (.pointer none) := HB2.out.cell 34
  have hmb : mb ≠ b := Ne.symm hbm
  clear hw2 h0 hn1
  go_wp2_with (go_at_call 193; refine (bal193 _).mono ?_; rintro e w' ⟨rfl, rfl⟩)
  all_goals
    go_ret
    exact ⟨_, rfl, Kp.setCell HK2.out (.inl (.inl rfl)) _, HM2.out.set _ _⟩

theorem empty137 (mb o : Nat) (cs : Array Value) (T : TypeId) (w : World) (hM : Blk w mb cs T) (hsz : o + 2 < cs.size) :
    Calls Tryz.prog 137 #[.pointer (some ⟨mb, o, none⟩)] w fun e w' => e = .returned (.tuple #[]) ∧ w' = ((w.setCell ⟨mb, o, none⟩ (.pointer none)).setCell ⟨mb, o + 1, none⟩ (.int .i64 0)).setCell ⟨mb, o + 2, none⟩ (.int .i64 0) := by
  obtain ⟨x0, h0⟩ : ∃ x, cs[o]? = some x := ⟨_, Array.getElem?_eq_getElem (by omega)⟩
  obtain ⟨x1, h1⟩ : ∃ x, cs[o + 1]? = some x := ⟨_, Array.getElem?_eq_getElem (by omega)⟩
  obtain ⟨x2, h2⟩ : ∃ x, cs[o + 2]? = some x := ⟨_, Array.getElem?_eq_getElem (by omega)⟩
  have c0 : w.cell? ⟨mb, o, none⟩ = some x0 := (hM.cell o).trans h0
  have c1 : w.cell? ⟨mb, o + 1, none⟩ = some x1 := (hM.cell _).trans h1
  have c2 : w.cell? ⟨mb, o + 2, none⟩ = some x2 := (hM.cell _).trans h2
  have f0 := hM.frozen o
  have f1 := hM.frozen (o + 1)
  have f2 := hM.frozen (o + 2)
  clear hM h0 h1 h2 hsz
  go_enter Tryz.func137, Tryz.ntmps137
  go_wp2_with fail
  go_end0
  exact ⟨rfl, rfl⟩

set_option maxHeartbeats 1000000 in
theorem delete80 (mb o s b : Nat) (cs : Array Value) (T : TypeId) (w : World) (hs : s < 64) (hM : Blk w mb cs T) (hN : OneSet w cs o s b) (hbm : b ≠ mb) :
    Calls Tryz.prog 80 #[.pointer (some ⟨mb, o, none⟩), .int .u64 s] w fun e w' => (∃ x, e = .returned x) ∧ ∃ cs', Blk w' mb cs' T ∧ NoSet cs' o ∧ SameBut cs cs' o ∧ Kp (fun x => x = mb ∨ x = b) w w' := by
  obtain ⟨h0, ⟨z1, h1⟩, ⟨z2, h2⟩, h3, hB⟩ := hN
  have c0 : w.cell? ⟨mb, o, none⟩ = some (.pointer (some ⟨b, 0, none⟩)) := (hM.cell o).trans h0
  have HM := Lib.hid hM
  have HB := Lib.hid hB
  have hsz : o + 3 < cs.size := (Array.getElem?_eq_some_iff.1 h3).1
  clear hM hB
  go_enter Tryz.func80, Tryz.ntmps80
  go_wp2_with fail
  go_region_with (go_at_call 143; (with_reducible refine (delete143 b mb (o + 3) (o + 2) s z2 cs T _ hs HM.out.drew HB.out.drew hbm h3 h2 (by omega)).mono ?_); rintro e w2 ⟨z', rfl, hK2, hM2⟩; have c2 : w2.cell? ⟨mb, o, none⟩ = some (.pointer (some ⟨b, 0, none⟩)) := (hM2.cell o).trans (by rw [getSet (by omega), getSet (by omega)]; exact h0); have f2 : w2.frozen? ⟨mb, o, none⟩ = false := hM2.frozen o; have HK2 := Lib.hid hK2; have HM2 := Lib.hid hM2; clear hK2 hM2)
  obtain ⟨w3, hw3⟩ : ∃ w3, w2.setCell ⟨mb, o, none⟩ (.pointer none) = w3 := ⟨_, rfl⟩
  rw [hw3]
  have hM3 := HM2.out.set o (.pointer none)
  rw [hw3] at hM3
  have HM3 := Lib.hid hM3
  clear hM3
  have HK3 : Hid (Kp (fun x => x = mb ∨ x = b) w w3) := by rw [← hw3]; exact Kp.setCell (F := fun x => x = mb ∨ x = b) (((Kp.refl (fun x => x = mb ∨ x = b) w).drew).trans HK2.out fun _ _ h => h) (.inl (.inl rfl)) _
  have c3 : w3.cell? ⟨mb, o + 3, none⟩ = some (.bool true) := (HM3.out.cell _).trans (by rw [getSet (by omega), getSet (by omega), getSet_same (by omega)])
  have f3 : w3.frozen? ⟨mb, o + 3, none⟩ = false := HM3.out.frozen _
  have d3 : w3.cell? ⟨mb, o + 1, none⟩ = some (.int .i64 z1) := (HM3.out.cell _).trans (by rw [getSet (by omega), getSet (by omega), getSet (by omega)]; exact h1)
  have g3 : w3.frozen? ⟨mb, o + 1, none⟩ = false := HM3.out.frozen _
  clear hw3
  go_wp2_with (go_at_call 137; refine (empty137 mb o _ T _ ((HM3.out.set (o + 3) (.bool false)).set (o + 1) _) (by simp; omega)).mono ?_; rintro e w5 ⟨rfl, rfl⟩)
  · go_ret
    refine ⟨⟨_, rfl⟩, _, ((((HM3.out.set _ _).set _ _).set _ _).set _ _).set _ _, ?_, ?_, Kp.setCell (Kp.setCell (Kp.setCell (Kp.setCell (Kp.setCell HK3.out (.inl (.inl rfl)) _) (.inl (.inl rfl)) _) (.inl (.inl rfl)) _) (.inl (.inl rfl)) _) (.inl (.inl rfl)) _⟩
    · refine ⟨?_, ?_, ?_, ?_⟩
      · rw [getSet (by omega), getSet (by omega), getSet_same (by simp; omega)]
      · exact ⟨0, by rw [getSet (by omega), getSet_same (by simp; omega)]⟩
      · exact ⟨0, getSet_same (by simp; omega)⟩
      · rw [getSet (by omega), getSet (by omega), getSet (by omega), getSet (by omega), getSet_same (by simp; omega)]
    · refine ⟨by simp, fun i hi => ?_⟩
      rw [getSet (by omega), getSet (by omega), getSet (by omega), getSet (by omega), getSet (by omega), getSet (by omega), getSet (by omega), getSet (by omega)]
  · go_ret
    refine ⟨⟨_, rfl⟩, _, (HM3.out.set _ _).set _ _, ?_, ?_, Kp.setCell (Kp.setCell HK3.out (.inl (.inl rfl)) _) (.inl (.inl rfl)) _⟩
    · refine ⟨?_, ?_, ?_, ?_⟩
      · rw [getSet (by omega), getSet (by omega), getSet_same (by simp; omega)]
      · exact ⟨_, getSet_same (by simp; omega)⟩
      · exact ⟨z', by rw [getSet (by omega), getSet (by omega), getSet (by omega), getSet_same (by simp; omega)]⟩
      · rw [getSet (by omega), getSet_same (by simp; omega)]
    · refine ⟨by simp, fun i hi => ?_⟩
      rw [getSet (by omega), getSet (by omega), getSet (by omega), getSet (by omega), getSet (by omega)]

/-- 'Range' over an empty set: nothing is called. -/
theorem range107 (mb o : Nat) (f : Value) (w : World) (h0 : w.cell? ⟨mb, o, none⟩ = some (.pointer none)) : Calls Tryz.prog 107 #[.pointer (some ⟨mb, o, none⟩), f] w fun e w' => e = .returned (.tuple #[]) ∧ w = w' := by
  have hit : ∀ w, Calls Tryz.prog 171 #[.pointer none, f] w fun e w' => e = .returned (.bool true) ∧ w = w' := fun w => by
    clear h0
    go_enter Tryz.func171, Tryz.ntmps171
    go_wp2_with fail
    go_ret
    exact ⟨rfl, rfl⟩
  go_enter Tryz.func107, Tryz.ntmps107
  go_wp2_with (go_at_call 171; refine (hit _).mono ?_; rintro e w' ⟨rfl, rfl⟩)
  go_end0
  exact ⟨rfl, rfl⟩
end Go.Proofs.YtbehafhkgbjgmaaGreatDoor

/-
  A map from numbers to blocks, entry by entry: looked up, one entry more, one entry less. No condition.
-/
namespace Go.Proofs.YtbehafhkgbjgmaaGreatDoor
open Go Go.RowKit
set_option maxRecDepth 100000

/-- The entry of a number at a block. -/
def ent (p : Nat × Nat) : Value × Value := (.int .u64 p.1, .pointer (some ⟨p.2, 0, none⟩))
/-- The map at r: its entries, in order. -/
def MapAt (w : World) (r : Nat) (l : List (Nat × Nat)) : Prop := ∃ es clock, w.heap[r]? = some (.map es clock) ∧ es.toList.map (fun e => (e.key, e.val)) = l.map ent
theorem MapAt.lt {w : World} {r : Nat} {l : List (Nat × Nat)} (h : MapAt w r l) : r < w.heap.size := by
  obtain ⟨es, clock, h, _⟩ := h
  exact (Array.getElem?_eq_some_iff.1 h).1
theorem MapAt.keep {F : Nat → Prop} {w w' : World} {r : Nat} {l : List (Nat × Nat)} (h : MapAt w r l) (k : Kp F w w') (hr : ¬ F r) : MapAt w' r l := by
  have hlt := h.lt
  obtain ⟨es, clock, h, he⟩ := h
  exact ⟨es, clock, (k.block r hlt hr).trans h, he⟩
theorem MapAt.drewN {w : World} {r : Nat} {l : List (Nat × Nat)} (h : MapAt w r l) (n : Nat) : MapAt (w.drewN n) r l := h

theorem findNow_none (s : Nat) : ∀ (es : List MapEntry) (l : List (Nat × Nat)) (i : Nat), es.map (fun e => (e.key, e.val)) = l.map ent → (∀ p, p ∈ l → p.1 ≠ s) → Instr.findNow (.int .u64) (.int .u64 s) es i = some none
  | [], l, i, h, _ => rfl
  | e :: es, [], i, h, _ => by simp at h
  | e :: es, p :: l, i, h, hn => by
    simp [ent] at h
    have hne : ¬ ((s : Int) = (p.1 : Int)) := fun e => hn p (by simp) (by omega)
    simp only [Instr.findNow, h.1.1, Instr.sameNow, if_true]
    have : ((s : Int) == (p.1 : Int)) = false := by simpa using hne
    rw [this]
    exact findNow_none s es l (i + 1) (by simpa using h.2) (fun q hq => hn q (by simp [hq]))
theorem findNow_some (s b : Nat) : ∀ (es : List MapEntry) (a c : List (Nat × Nat)) (i : Nat), es.map (fun e => (e.key, e.val)) = (a ++ (s, b) :: c).map ent → (∀ p, p ∈ a → p.1 ≠ s) →
    Instr.findNow (.int .u64) (.int .u64 s) es i = some (some (i + a.length, .pointer (some ⟨b, 0, none⟩)))
  | [], a, c, i, h, _ => by simp at h
  | e :: es, [], c, i, h, _ => by
    simp [ent] at h
    simp [Instr.findNow, h.1.1, Instr.sameNow, h.1.2]
  | e :: es, p :: a, c, i, h, hn => by
    simp [ent] at h
    have hne : ¬ ((s : Int) = (p.1 : Int)) := fun e => hn p (by simp) (by omega)
    simp only [Instr.findNow, h.1.1, Instr.sameNow, if_true]
    have : ((s : Int) == (p.1 : Int)) = false := by simpa using hne
    rw [this]
    have := findNow_some s b es a c (i + 1) (by simpa [ent] using h.2) (fun q hq => hn q (by simp [hq]))
    simp only [this, List.length_cons]
    congr 3
    omega

theorem isKey25 (s : Nat) : MapKept.IsKey (.int .u64) (.int .u64 s) := rfl

theorem look_none {w : World} {r : Nat} {l : List (Nat × Nat)} (h : MapAt w r l) {s : Nat} (hs : ∀ p, p ∈ l → p.1 ≠ s) : (Instr.lookup 85 (.map (some r)) (.int .u64 s) true).run Tryz.prog w = .ok (.tuple #[.pointer none, .bool false]) w := by
  obtain ⟨es, clock, h, he⟩ := h
  have hf := findNow_none s es.toList l 0 he hs
  have hz : (zeroValue 106).run Tryz.prog w = .ok (.pointer none) w := by kernel_rfl
  simp [Instr.lookup, run_underlying Tryz.underlying85, MapKept.run_getObj_map h, MapKept.run_checkKey Tryz.underlying25 (isKey25 s), MapKept.run_findKey Tryz.underlying25 hf, Result.andThen, hz]

theorem look_some {w : World} {r s b : Nat} {a c : List (Nat × Nat)} (h : MapAt w r (a ++ (s, b) :: c)) (hs : ∀ p, p ∈ a → p.1 ≠ s) : (Instr.lookup 85 (.map (some r)) (.int .u64 s) true).run Tryz.prog w = .ok (.tuple #[.pointer (some ⟨b, 0, none⟩), .bool true]) w := by
  obtain ⟨es, clock, h, he⟩ := h
  have hf := findNow_some s b es.toList a c 0 he hs
  simp [Instr.lookup, run_underlying Tryz.underlying85, MapKept.run_getObj_map h, MapKept.run_checkKey Tryz.underlying25 (isKey25 s), MapKept.run_findKey Tryz.underlying25 hf, Result.andThen]
theorem eraseIdx_map' {α β : Type} (f : α → β) : ∀ (l : List α) (i : Nat), (l.eraseIdx i).map f = (l.map f).eraseIdx i
  | [], _ => rfl
  | _ :: _, 0 => rfl
  | a :: l, i + 1 => by simp [eraseIdx_map' f l i]
theorem map_update {w : World} {r : Nat} {l : List (Nat × Nat)} (h : MapAt w r l) {s b : Nat} (hs : ∀ p, p ∈ l → p.1 ≠ s) :
    ∃ w', (Instr.mapUpdate 85 (.map (some r)) (.int .u64 s) (.pointer (some ⟨b, 0, none⟩))).run Tryz.prog w = .ok () w' ∧ MapAt w' r (l ++ [(s, b)]) ∧ Kp (· = r) w w' := by
  have hlt := h.lt
  obtain ⟨es, clock, h, he⟩ := h
  have hf := findNow_none s es.toList l 0 he hs
  refine ⟨_, ?_, ⟨es.push ⟨.int .u64 s, .pointer (some ⟨b, 0, none⟩), clock⟩, clock + 1, (MapKept.heap_set h).1, ?_⟩, Kp.setObj (F := (· = r)) (Kp.refl _ _) (.inl rfl) _⟩
  · simp [Instr.mapUpdate, run_underlying Tryz.underlying85, MapKept.run_getObj_map h, MapKept.run_checkKey Tryz.underlying25 (isKey25 s), MapKept.run_findKey Tryz.underlying25 hf, MapKept.run_setObj_map _ h, Result.andThen]
  · simp [he, ent]
theorem map_delete {w : World} {r s b : Nat} {a c : List (Nat × Nat)} (h : MapAt w r (a ++ (s, b) :: c)) (hs : ∀ p, p ∈ a → p.1 ≠ s) (ty : TypeId) :
    ∃ w', (Builtin.delete_ #[85, 25] ty #[.map (some r), .int .u64 s]).run Tryz.prog w = .ok (.tuple #[]) w' ∧ MapAt w' r (a ++ c) ∧ Kp (· = r) w w' := by
  have hlt := h.lt
  obtain ⟨es, clock, h, he⟩ := h
  have hf := findNow_some s b es.toList a c 0 he hs
  have hsz : a.length < es.size := by
    have := congrArg List.length he
    simp at this
    omega
  refine ⟨_, ?_, ⟨es.eraseIdxIfInBounds a.length, clock, (MapKept.heap_set h).1, ?_⟩, Kp.setObj (F := (· = r)) (Kp.refl _ _) (.inl rfl) _⟩
  · simp [Builtin.delete_, run_underlying Tryz.underlying85, MapKept.run_getObj_map h, MapKept.run_checkKey Tryz.underlying25 (isKey25 s), MapKept.run_findKey Tryz.underlying25 hf, MapKept.run_setObj_map _ h, Result.andThen]
  · rw [Array.eraseIdxIfInBounds, dif_pos hsz, Array.toList_eraseIdx, eraseIdx_map', he, ← eraseIdx_map']
    congr 1
    rw [List.eraseIdx_append_of_length_le (Nat.le_refl _)]
    simp
end Go.Proofs.YtbehafhkgbjgmaaGreatDoor

/-
  The plain law of a store that keeps at most so many messages or bytes: what is left behind a list of deeds. No condition.
-/
namespace Go.Proofs.YtbehafhkgbjgmaaGreatDoor

/-- A message: its subject, its header, its data, its time. -/
structure Rec where
  subj : List UInt8
  hdr : List UInt8
  data : List UInt8
  time : Int
def Rec.size (r : Rec) : Nat := r.subj.length + r.hdr.length + r.data.length + 16
def total : List Rec → Nat
  | [] => 0
  | r :: q => r.size + total q
theorem total_append (a b : List Rec) : total (a ++ b) = total a + total b := by
  induction a with
  | nil => simp [total]
  | cons r a ih => simp [total, ih]; omega
/-- The last m messages; 0: no limit. -/
def dropN (m : Nat) (q : List Rec) : List Rec := if m = 0 then q else q.drop (q.length - m)
/-- The oldest go while all take more than n bytes; 0: no limit. -/
def dropB (n : Nat) : List Rec → List Rec
  | [] => []
  | r :: q => if 0 < n ∧ n < total (r :: q) then dropB n q else r :: q
def put (m n : Nat) (q : List Rec) (r : Rec) : List Rec := dropB n (dropN m (q ++ [r]))
def after (m n : Nat) (l : List Rec) : List Rec := l.foldl (put m n) []

theorem dropB_zero (q : List Rec) : dropB 0 q = q := by cases q <;> simp [dropB]
theorem after_snoc (m n : Nat) (l : List Rec) (r : Rec) : after m n (l ++ [r]) = put m n (after m n l) r := by simp [after]
theorem snoc_cases {α : Type} (P : List α → Prop) (h0 : P []) (h1 : ∀ l r, P l → P (l ++ [r])) (l : List α) : P l := by
  have : ∀ n (l : List α), l.length = n → P l := by
    intro n
    induction n with
    | zero => intro l h; rw [List.eq_nil_of_length_eq_zero h]; exact h0
    | succ n ih =>
      intro l h
      have hne : l ≠ [] := by rintro rfl; simp at h
      rw [← List.dropLast_concat_getLast hne]
      exact h1 _ _ (ih _ (by simp [h]))
  exact this _ l rfl
theorem after_all (l : List Rec) : after 0 0 l = l := by
  refine snoc_cases (fun l => after 0 0 l = l) rfl ?_ l
  intro l r h
  simp only [after_snoc, h, put, dropN, if_pos, dropB_zero]
theorem after_most (m : Nat) (hm : 0 < m) (l : List Rec) : after m 0 l = l.drop (l.length - m) := by
  refine snoc_cases (fun l => after m 0 l = l.drop (l.length - m)) (by simp [after]) ?_ l
  intro l r h
  simp only [after_snoc, h, put, dropB_zero, dropN]
  rw [if_neg (by omega)]
  simp only [List.length_append, List.length_drop, List.length_cons, List.length_nil]
  by_cases hl : m ≤ l.length
  · have e1 : l.drop (l.length - m) ++ [r] = (l ++ [r]).drop (l.length - m) := by rw [List.drop_append_of_le_length (by omega)]
    rw [e1, List.drop_drop]
    congr 1
    omega
  · have e0 : l.length - m = 0 := by omega
    rw [e0, List.drop_zero]
    congr 1
theorem dropB_spec (n : Nat) : ∀ q : List Rec, ∃ k, k ≤ q.length ∧ dropB n q = q.drop k ∧ (0 < n → total (dropB n q) ≤ n) ∧ (0 < k → n < total (q.drop (k - 1)))
  | [] => ⟨0, by simp, by simp [dropB], by simp [dropB, total], by simp⟩
  | r :: q => by
    unfold dropB
    by_cases h : 0 < n ∧ n < total (r :: q)
    · rw [if_pos h]
      obtain ⟨k, h1, h2, h3, h4⟩ := dropB_spec n q
      refine ⟨k + 1, by simpa using h1, by simpa using h2, h3, fun _ => ?_⟩
      by_cases hk : 0 < k
      · have := h4 hk
        obtain ⟨k, rfl⟩ : ∃ j, k = j + 1 := ⟨k - 1, by omega⟩
        simpa using this
      · have : k = 0 := by omega
        subst this
        simpa using h.2
    · rw [if_neg h]
      exact ⟨0, by simp, by simp, fun hn => by have := fun h' => h ⟨hn, h'⟩; omega, by simp⟩
theorem after_bytes (n : Nat) (hn : 0 < n) (l : List Rec) : ∃ k, k ≤ l.length ∧ after 0 n l = l.drop k ∧ total (after 0 n l) ≤ n ∧ (0 < k → n < total (l.drop (k - 1))) := by
  refine snoc_cases (fun l => ∃ k, k ≤ l.length ∧ after 0 n l = l.drop k ∧ total (after 0 n l) ≤ n ∧ (0 < k → n < total (l.drop (k - 1)))) ⟨0, by simp, rfl, by simp [after, total], by simp⟩ ?_ l
  intro l r ⟨k, hk, h1, h2, h3⟩
  obtain ⟨j, g1, g2, g3, g4⟩ := dropB_spec n (l.drop k ++ [r])
  simp only [List.length_append, List.length_drop, List.length_cons, List.length_nil] at g1
  have e1 : l.drop k ++ [r] = (l ++ [r]).drop k := by rw [List.drop_append_of_le_length hk]
  have e : after 0 n (l ++ [r]) = (l ++ [r]).drop (k + j) := by
    rw [after_snoc, h1]; simp only [put, dropN, if_pos]; rw [g2, e1, List.drop_drop]
  refine ⟨k + j, by simp; omega, e, ?_, ?_⟩
  · have := g3 hn
    rw [after_snoc, h1]; simpa only [put, dropN, if_pos] using this
  · intro h0
    by_cases hj : 0 < j
    · have := g4 hj
      rw [e1, List.drop_drop] at this
      have e2 : k + (j - 1) = k + j - 1 := by omega
      rwa [e2] at this
    · have hj : j = 0 := by omega
      subst hj
      have := h3 (by omega)
      rw [Nat.add_zero, List.drop_append_of_le_length (by omega), total_append]
      omega
end Go.Proofs.YtbehafhkgbjgmaaGreatDoor

/-
  The store in memory: the cells of its block, its messages. No condition.
-/
namespace Go.Proofs.YtbehafhkgbjgmaaGreatDoor
open Go Go.RowKit
set_option maxRecDepth 100000

/-- What the store's block holds: the lock's two words, two limits, the counts, where its map and its tree are, the set of deleted numbers, the clock. -/
structure Sto where
  l0 : Int
  l4 : Int
  mm : Int
  mb : Int
  n : Nat
  by' : Nat
  f : Nat
  t1 : Int
  la : Nat
  t2 : Int
  r : Nat
  tb : Nat
  root : Value
  z1 : Int
  z2 : Int
  clock : Int
def Sto.cells (s : Sto) : Array Value := #[.int .i32 s.l0, .int .u32 0, .int .u32 0, .int .u32 0, .int .i32 s.l4, .int .i32 0,
  .string (str []), .slice none 0 0, .int .i64 s.mm, .int .i64 s.mb, .int .i64 0, .int .i64 0, .bool false, .int .u64 0,
  .int .u64 s.n, .int .u64 s.by', .int .u64 s.f, .int .i64 s.t1, .int .u64 s.la, .int .i64 s.t2, .int .i64 0, .map none, .int .i64 0, .slice none 0 0, .int .i64 0,
  .map (some s.r), .pointer (some ⟨s.tb, 0, none⟩), s.root, .int .i64 s.z1, .int .i64 s.z2, .bool false, .int .i64 0, .int .i64 s.clock]

/-- The slice's block, where it has one, is among U. -/
def In (U : Nat → Prop) (ao : Option Addr) : Prop := ∀ b off s, ao = some ⟨b, off, s⟩ → U b
theorem In.off {U F : Nat → Prop} {ao : Option Addr} (h : In U ao) (hd : ∀ x, U x → ¬ F x) : BytesOff F ao := fun b off s e => hd b (h b off s e)
theorem In.mono {U V : Nat → Prop} {ao : Option Addr} (h : In U ao) (hd : ∀ x, U x → V x) : In V ao := fun b off s e => hd b (h b off s e)
theorem In.none (U : Nat → Prop) : In U none := fun _ _ _ e => by simp at e

/-- The block b is a message: its number s, and the rest r; its bytes lie in blocks of U. -/
def MsgAt (w : World) (U : Nat → Prop) (b s : Nat) (r : Rec) : Prop :=
  ∃ ha hc da dc bb bc, Blk w b #[.string (str r.subj), .slice ha r.hdr.length hc, .slice da r.data.length dc, .slice (some ⟨bb, 0, none⟩) (r.hdr ++ r.data).length bc, .int .u64 s, .int .i64 r.time] 147 ∧ U b ∧ Sl w ha hc r.hdr ∧ In U ha ∧ Sl w da dc r.data ∧ In U da ∧ Sl w (some ⟨bb, 0, none⟩) bc (r.hdr ++ r.data) ∧ U bb
theorem MsgAt.keep {F U : Nat → Prop} {w w' : World} {b s : Nat} {r : Rec} (h : MsgAt w U b s r) (k : Kp F w w') (hd : ∀ x, U x → ¬ F x) : MsgAt w' U b s r := by
  obtain ⟨ha, hc, da, dc, bb, bc, h1, h2, h3, h4, h5, h6, h7, h8⟩ := h
  exact ⟨ha, hc, da, dc, bb, bc, h1.keep k (hd b h2), h2, h3.keep k (h4.off hd), h4, h5.keep k (h6.off hd), h6, h7.keep k (fun b' off s e => by simp at e; exact e.1 ▸ hd bb h8), h8⟩
theorem MsgAt.mono {U V : Nat → Prop} {w : World} {b s : Nat} {r : Rec} (h : MsgAt w U b s r) (hd : ∀ x, U x → V x) : MsgAt w V b s r := by
  obtain ⟨ha, hc, da, dc, bb, bc, h1, h2, h3, h4, h5, h6, h7, h8⟩ := h
  exact ⟨ha, hc, da, dc, bb, bc, h1, hd b h2, h3, h4.mono hd, h5, h6.mono hd, h7, hd bb h8⟩

/-- The messages q, numbered from f on; l: the map's entries. -/
def Msgs (w : World) (U : Nat → Prop) : Nat → List (Nat × Nat) → List Rec → Prop
  | _, [], [] => True
  | f, p :: l, r :: q => p.1 = f ∧ MsgAt w U p.2 f r ∧ Msgs w U (f + 1) l q
  | _, _, _ => False
theorem Msgs.keep {F U : Nat → Prop} {w w' : World} (k : Kp F w w') (hd : ∀ x, U x → ¬ F x) : ∀ {f : Nat} {l : List (Nat × Nat)} {q : List Rec}, Msgs w U f l q → Msgs w' U f l q
  | _, [], [], _ => trivial
  | _, _ :: _, _ :: _, ⟨h1, h2, h3⟩ => ⟨h1, h2.keep k hd, h3.keep k hd⟩
theorem Msgs.mono {U V : Nat → Prop} {w : World} (hd : ∀ x, U x → V x) : ∀ {f : Nat} {l : List (Nat × Nat)} {q : List Rec}, Msgs w U f l q → Msgs w V f l q
  | _, [], [], _ => trivial
  | _, _ :: _, _ :: _, ⟨h1, h2, h3⟩ => ⟨h1, h2.mono hd, h3.mono hd⟩
theorem Msgs.length {U : Nat → Prop} {w : World} : ∀ {f : Nat} {l : List (Nat × Nat)} {q : List Rec}, Msgs w U f l q → l.length = q.length
  | _, [], [], _ => rfl
  | _, _ :: _, _ :: _, ⟨_, _, h3⟩ => by simp [h3.length]
theorem Msgs.range {U : Nat → Prop} {w : World} : ∀ {f : Nat} {l : List (Nat × Nat)} {q : List Rec}, Msgs w U f l q → ∀ p, p ∈ l → f ≤ p.1 ∧ p.1 < f + q.length
  | _, [], [], _, _, hp => by simp at hp
  | f, p :: l, r :: q, ⟨h1, _, h3⟩, x, hp => by
    rcases List.mem_cons.1 hp with rfl | hp
    · simp [h1]
    · have := h3.range x hp
      simp only [List.length_cons]
      omega
theorem Msgs.at {U : Nat → Prop} {w : World} : ∀ {f : Nat} {l : List (Nat × Nat)} {q : List Rec}, Msgs w U f l q → ∀ i r, q[i]? = some r → ∃ a b c, l = a ++ (f + i, b) :: c ∧ (∀ p, p ∈ a → p.1 ≠ f + i) ∧ MsgAt w U b (f + i) r
  | _, [], [], _, i, r, hi => by simp at hi
  | f, p :: l, r :: q, ⟨h1, h2, h3⟩, 0, r', hi => by
    simp at hi
    subst hi
    exact ⟨[], p.2, l, by simp [← h1], by simp, h2⟩
  | f, p :: l, r :: q, ⟨h1, h2, h3⟩, i + 1, r', hi => by
    obtain ⟨a, b, c, e, hn, hm⟩ := h3.at i r' (by simpa using hi)
    have e1 : f + 1 + i = f + (i + 1) := by omega
    rw [e1] at e hn hm
    refine ⟨p :: a, b, c, by rw [e]; rfl, fun x hx => ?_, hm⟩
    rcases List.mem_cons.1 hx with rfl | hx
    · omega
    · exact hn x hx
theorem Msgs.snoc {U : Nat → Prop} {w : World} : ∀ {f : Nat} {l : List (Nat × Nat)} {q : List Rec} {b : Nat} {r : Rec}, Msgs w U f l q → MsgAt w U b (f + q.length) r → Msgs w U f (l ++ [(f + q.length, b)]) (q ++ [r])
  | _, [], [], b, r, _, h => ⟨rfl, h, trivial⟩
  | f, p :: l, r0 :: q, b, r, ⟨h1, h2, h3⟩, h => by
    simp only [List.length_cons] at h ⊢
    have e : f + (q.length + 1) = f + 1 + q.length := by omega
    rw [e] at h ⊢
    exact ⟨h1, h2, h3.snoc h⟩

theorem Blk.neMap {w : World} {b r : Nat} {cs : Array Value} {T : TypeId} {l : List (Nat × Nat)} (h : Blk w b cs T) (h' : MapAt w r l) : b ≠ r := by
  rintro rfl
  obtain ⟨es, clock, h', _⟩ := h'
  unfold Blk at h
  rw [h] at h'
  simp at h'

/-- The set of deleted numbers in the store's block, read from its cells. -/
theorem sto_sameBut {s : Sto} {cs' : Array Value} {v : Value} {a b : Int} (h : SameBut s.cells cs' 27) (h0 : cs'[27]? = some v) (h1 : cs'[27 + 1]? = some (.int .i64 a)) (h2 : cs'[27 + 2]? = some (.int .i64 b)) (h3 : cs'[27 + 3]? = some (.bool false)) :
    cs' = { s with root := v, z1 := a, z2 := b }.cells := by
  apply Array.ext_getElem?
  intro i
  have hs := h.2 i
  match i with
  | 27 => exact h0
  | 28 => exact h1
  | 29 => exact h2
  | 30 => exact h3
  | 0 | 1 | 2 | 3 | 4 | 5 | 6 | 7 | 8 | 9 | 10 | 11 | 12 | 13 | 14 | 15 | 16 | 17 | 18 | 19 | 20 | 21 | 22 | 23 | 24 | 25 | 26 | 31 | 32 => exact hs (by omega)
  | i + 33 =>
    rw [hs (by omega)]
    rfl

end Go.Proofs.YtbehafhkgbjgmaaGreatDoor
