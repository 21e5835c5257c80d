/-
  Words and small laws that all walks of this seat use: a frame outside a set of blocks, a block known whole, bytes behind a slice. No condition.
-/
import Derived.Test.YtbehafhkgbjgmaaGreatDoorProg
import Derived.WalkKit
import Derived.WalkSpells
import Derived.WalkLawsBesides
import Derived.StillTailTactics
import Derived.BigQuiet
import Derived.Deep.QuietTactic
import Derived.Deep.Draws
import Derived.Deep.DeepCutAuto
import Derived.Deep.LoopGhost
import Derived.Deep.RegionWith
import Derived.Lib.Hide
import Derived.KernelRfl
import Derived.Lib.ConvBytes
namespace Go.Proofs.YtbehafhkgbjgmaaGreatDoor
open Go Go.RowKit

/-- Outside the blocks F (below the old size) nothing has turned. -/
structure Kp (F : Nat → Prop) (w w' : World) : Prop where
  os : w'.os = w.os
  tape : w'.tape = w.tape
  output : w'.output = w.output
  size : w.heap.size ≤ w'.heap.size
  block : ∀ k, k < w.heap.size → ¬ F k → w'.heap[k]? = w.heap[k]?

theorem Kp.refl (F : Nat → Prop) (w : World) : Kp F w w := ⟨rfl, rfl, rfl, Nat.le_refl _, fun _ _ _ => rfl⟩

theorem Kp.trans {F G : Nat → Prop} {a b c : World} (h : Kp F a b) (k : Kp G b c) (hg : ∀ i, i < a.heap.size → G i → F i) : Kp F a c :=
  ⟨k.os.trans h.os, k.tape.trans h.tape, k.output.trans h.output, Nat.le_trans h.size k.size,
    fun i hi hn => (k.block i (Nat.lt_of_lt_of_le hi h.size) (fun hG => hn (hg i hi hG))).trans (h.block i hi hn)⟩

theorem Kp.mono {F G : Nat → Prop} {a b : World} (h : Kp F a b) (hg : ∀ i, i < a.heap.size → F i → G i) : Kp G a b :=
  ⟨h.os, h.tape, h.output, h.size, fun i hi hn => h.block i hi (fun hF => hn (hg i hi hF))⟩

theorem Kp.drew {F : Nat → Prop} {a w : World} (h : Kp F a w) : Kp F a w.drew := ⟨h.os, h.tape, h.output, h.size, h.block⟩
theorem Kp.drewN {F : Nat → Prop} {a w : World} (h : Kp F a w) (n : Nat) : Kp F a (w.drewN n) := ⟨h.os, h.tape, h.output, h.size, h.block⟩

theorem Kp.alloc {F : Nat → Prop} {a w : World} (h : Kp F a w) (o : Obj) : Kp F a (w.alloc o) :=
  ⟨h.os, h.tape, h.output, by simp only [World.size_alloc]; exact Nat.le_succ_of_le h.size,
    fun k hk hn => (Below.heap_alloc _ _ _ (Nat.lt_of_lt_of_le hk h.size)).trans (h.block k hk hn)⟩

theorem Kp.setCell {F : Nat → Prop} {a w : World} (h : Kp F a w) {p : Addr} (hp : F p.block ∨ a.heap.size ≤ p.block) (u : Value) : Kp F a (w.setCell p u) :=
  ⟨h.os, h.tape, h.output, by simpa [World.setCell] using h.size, fun k hk hn =>
    (Below.heap_setCell _ _ _ _ (by rintro rfl; rcases hp with hp | hp; exact hn hp; omega)).trans (h.block k hk hn)⟩

theorem Kp.setObj {F : Nat → Prop} {a w : World} (h : Kp F a w) {r : Nat} (hp : F r ∨ a.heap.size ≤ r) (o : Obj) : Kp F a { w with heap := w.heap.setIfInBounds r o } :=
  ⟨h.os, h.tape, h.output, by simpa using h.size, fun k hk hn => by
    have : r ≠ k := by rintro rfl; rcases hp with hp | hp; exact hn hp; omega
    simp [this]; exact h.block k hk hn⟩

theorem Kp.grown {F : Nat → Prop} {a w w' : World} {row : Option Nat} (h : Kp F a w) (hg : w.grownBy w' row) (hr : ∀ k, row = some k → F k ∨ a.heap.size ≤ k) : Kp F a w' :=
  ⟨hg.os.trans h.os, hg.tape.trans h.tape, hg.output.trans h.output, Nat.le_trans h.size hg.size, fun k hk hn =>
    (hg.block k (Nat.lt_of_lt_of_le hk h.size) (fun e => by rcases hr k e.symm with h' | h'; exact hn h'; omega)).trans (h.block k hk hn)⟩

theorem Kp.cell {F : Nat → Prop} {w w' : World} (h : Kp F w w') {b o : Nat} {s : Option Nat} (hb : ¬ F b) (hl : b < w.heap.size) : w'.cell? ⟨b, o, s⟩ = w.cell? ⟨b, o, s⟩ :=
  World.cell?_of_block (w := w) (h.block b hl hb)
theorem Kp.frozen {F : Nat → Prop} {w w' : World} (h : Kp F w w') {b o : Nat} {s : Option Nat} (hb : ¬ F b) (hl : b < w.heap.size) : w'.frozen? ⟨b, o, s⟩ = w.frozen? ⟨b, o, s⟩ :=
  World.frozen?_of_block (w := w) (h.block b hl hb)
theorem Kp.below {B : Nat} {F : Nat → Prop} {w w' : World} (h : Kp F w w') (hB : B ≤ w.heap.size) (hF : ∀ k, k < B → ¬ F k) : Below B w w' :=
  ⟨h.os, h.tape, h.output, h.size, fun k hk => h.block k (Nat.lt_of_lt_of_le hk hB) (hF k hk)⟩

/-- Block b holds the cells cs of the type T; none of them is frozen. -/
def Blk (w : World) (b : Nat) (cs : Array Value) (T : TypeId) : Prop := w.heap[b]? = some (.cells cs T (0, 0))

theorem Blk.lt {w : World} {b : Nat} {cs : Array Value} {T : TypeId} (h : Blk w b cs T) : b < w.heap.size := (Array.getElem?_eq_some_iff.1 h).1
theorem Blk.cell {w : World} {b : Nat} {cs : Array Value} {T : TypeId} (h : Blk w b cs T) (k : Nat) : w.cell? ⟨b, k, none⟩ = cs[k]? := by
  unfold Blk at h; simp [World.cell?, h]
theorem Blk.frozen {w : World} {b : Nat} {cs : Array Value} {T : TypeId} (h : Blk w b cs T) (k : Nat) : w.frozen? ⟨b, k, none⟩ = false := by
  unfold Blk at h; simp [World.frozen?, h]
theorem Blk.keep {F : Nat → Prop} {w w' : World} {b : Nat} {cs : Array Value} {T : TypeId} (h : Blk w b cs T) (k : Kp F w w') (hb : ¬ F b) : Blk w' b cs T :=
  (k.block b h.lt hb).trans h
theorem Blk.drew {w : World} {b : Nat} {cs : Array Value} {T : TypeId} (h : Blk w b cs T) : Blk w.drew b cs T := h
theorem Blk.drewN {w : World} {b : Nat} {cs : Array Value} {T : TypeId} (h : Blk w b cs T) (n : Nat) : Blk (w.drewN n) b cs T := h
theorem Blk.alloc {w : World} {b : Nat} {cs : Array Value} {T : TypeId} (h : Blk w b cs T) (o : Obj) : Blk (w.alloc o) b cs T :=
  (Below.heap_alloc _ _ _ h.lt).trans h
theorem Blk.new (w : World) (cs : Array Value) (T : TypeId) : Blk (w.alloc (.cells cs T)) w.heap.size cs T := heap_alloc_new w _
theorem Blk.newAt {w : World} {k : Nat} {cs : Array Value} {T : TypeId} (h : k = w.heap.size) : Blk (w.alloc (.cells cs T)) k cs T := by subst h; exact Blk.new w cs T
theorem Blk.set {w : World} {b : Nat} {cs : Array Value} {T : TypeId} (h : Blk w b cs T) (i : Nat) (v : Value) : Blk (w.setCell ⟨b, i, none⟩ v) b (cs.setIfInBounds i v) T := by
  unfold Blk at *
  simp [World.setCell, Array.getElem?_modify, h]
theorem Blk.setOther {w : World} {b : Nat} {cs : Array Value} {T : TypeId} (h : Blk w b cs T) {a : Addr} (hne : b ≠ a.block) (v : Value) : Blk (w.setCell a v) b cs T :=
  (Below.heap_setCell _ _ _ _ hne).trans h
/-- Blocks of two types are two blocks. -/
theorem Blk.ne {w : World} {b b' : Nat} {cs cs' : Array Value} {T T' : TypeId} (h : Blk w b cs T) (h' : Blk w b' cs' T') (hT : T ≠ T') : b ≠ b' := by
  rintro rfl
  unfold Blk at *
  rw [h] at h'
  simp at h'
  exact hT h'.2
theorem Blk.eqs {w : World} {b : Nat} {cs cs' : Array Value} {T T' : TypeId} (h : Blk w b cs T) (h' : Blk w b cs' T') : cs = cs' := by
  unfold Blk at *
  rw [h] at h'
  simp at h'
  exact h'.1

/-- The bytes l lie behind the address ao. -/
def BytesAt (w : World) (ao : Option Addr) (l : List UInt8) : Prop :=
  ∀ i (h : i < l.length), ∃ b off, ao = some ⟨b, off, none⟩ ∧ w.cell? ⟨b, off + i, none⟩ = some (.int .u8 (l[i].toNat : Int))

theorem BytesAt.nil (_w : World) (ao : Option Addr) : BytesAt _w ao [] := fun i h => absurd h (by simp)
theorem BytesAt.of {w : World} {b off : Nat} {l : List UInt8} (h : ∀ i (h : i < l.length), w.cell? ⟨b, off + i, none⟩ = some (.int .u8 (l[i].toNat : Int))) : BytesAt w (some ⟨b, off, none⟩) l :=
  fun i hi => ⟨b, off, rfl, h i hi⟩
theorem BytesAt.get {w : World} {b off : Nat} {l : List UInt8} (h : BytesAt w (some ⟨b, off, none⟩) l) (i : Nat) (hi : i < l.length) : w.cell? ⟨b, off + i, none⟩ = some (.int .u8 (l[i].toNat : Int)) := by
  obtain ⟨b', off', e, hc⟩ := h i hi
  simp at e
  obtain ⟨rfl, rfl⟩ := e
  exact hc
/-- The bytes are those of a block that is not among F. -/
def BytesOff (F : Nat → Prop) (ao : Option Addr) : Prop := ∀ b off s, ao = some ⟨b, off, s⟩ → ¬ F b
theorem BytesAt.keep {F : Nat → Prop} {w w' : World} {ao : Option Addr} {l : List UInt8} (h : BytesAt w ao l) (k : Kp F w w') (hb : BytesOff F ao) : BytesAt w' ao l := by
  intro i hi
  obtain ⟨b, off, e, hc⟩ := h i hi
  exact ⟨b, off, e, (k.cell (hb b off none e) (World.block_lt_of_cell? w _ hc)).trans hc⟩
theorem BytesAt.drew {w : World} {ao : Option Addr} {l : List UInt8} (h : BytesAt w ao l) : BytesAt w.drew ao l := h
theorem BytesAt.alloc {w : World} {ao : Option Addr} {l : List UInt8} (h : BytesAt w ao l) (o : Obj) : BytesAt (w.alloc o) ao l :=
  h.keep ((Kp.refl (fun _ => False) w).alloc o) (fun _ _ _ _ => id)

/-- The string of the bytes l. -/
def str (l : List UInt8) : ByteArray := ⟨l.toArray⟩
theorem str_size (l : List UInt8) : (str l).size = l.length := by simp [str, ByteArray.size]
theorem str_data (l : List UInt8) : (str l).data.toList = l := by simp [str]
theorem str_inj {l l' : List UInt8} (h : str l = str l') : l = l' := by
  have := congrArg (fun s : ByteArray => s.data.toList) h
  simpa [str] using this
theorem str_of (s : ByteArray) : str s.data.toList = s := by cases s; simp [str]

theorem strOfNums_str (l : List UInt8) : strOfNums (l.map fun c => (c.toNat : Int)) = str l := by
  unfold strOfNums str
  congr 2
  rw [List.map_map]
  conv => rhs; rw [← List.map_id l]
  exact List.map_congr_left fun c _ => by simp

/-- A slice of bytes as a string, whatever its address. -/
theorem run_bytes_str {P : Program} (w : World) (src e dst : TypeId) (hs : P.underlying src = some (.slice e)) (he : P.underlying e = some (.int .u8)) (hd : P.underlying dst = some .string)
    {ao : Option Addr} {l : List UInt8} (h : BytesAt w ao l) (cap : Nat) (hnone : ao = none → l = []) (hsp : ∀ a, ao = some a → a.spot = none) :
    (convert src dst (.slice ao l.length cap)).run P w = .ok (.string (str l)) w := by
  cases ao with
  | none =>
    obtain rfl := hnone rfl
    exact run_convert_bytes_nil (P := P) w src e hs he 0 cap dst hd
  | some a =>
    obtain ⟨b, off, sp⟩ := a
    obtain rfl : sp = none := hsp _ rfl
    have := run_convert_bytes_arg (P := P) w src e hs he b off l.length cap (l.map fun c => (c.toNat : Int)) (by simp) (fun i hi => by
      rw [h.get i hi]; simp [List.getD, hi]) dst hd
    rw [this, strOfNums_str]
end Go.Proofs.YtbehafhkgbjgmaaGreatDoor

/-
  The small functions of package stree: conversions between strings and bytes, a leaf's match, the pivot, the common beginning of two texts, new leaves. No condition beyond the sizes that are named.
-/
namespace Go.Proofs.YtbehafhkgbjgmaaGreatDoor
open Go Go.RowKit
set_option maxRecDepth 100000

/-- Nothing that was there has turned. -/
abbrev Ext (w w' : World) : Prop := Kp (fun _ => False) w w'

theorem Ext.kp {F : Nat → Prop} {w w' : World} (h : Ext w w') : Kp F w w' := h.mono fun _ _ h => h.elim

theorem ext_bytesWorld (w : World) (e : TypeId) (s : ByteArray) : Ext w (Lib.bytesWorld w e s) :=
  ⟨rfl, rfl, rfl, by rw [Lib.bytesWorld_size]; omega, fun k hk _ => Lib.bytesWorld_at_old w e s k hk⟩

theorem bytes_bytesWorld (w : World) (s : ByteArray) : BytesAt (Lib.bytesWorld w 5 s) (some ⟨w.heap.size, 0, none⟩) s.data.toList :=
  BytesAt.of fun i h => by
    have hi : i < s.size := h
    rw [Nat.zero_add, Lib.bytesWorld_cell w 5 s i hi]
    simp [List.getD, hi]

theorem str_toList (l : List UInt8) : (str l).toList = l := by rw [ByteArray.toList_eq]; simp [str]

/-- What '[]byte(s)' leaves. -/
def NewBytes (s : ByteArray) (w : World) (e : Ending) (w' : World) : Prop :=
  ∃ b cap, w.heap.size ≤ b ∧ e = .returned (.slice (some ⟨b, 0, none⟩) s.size cap) ∧ BytesAt w' (some ⟨b, 0, none⟩) s.data.toList ∧ Ext w w'

set_option maxHeartbeats 400000 in
theorem toBytes99 (s : ByteArray) (w : World) : Calls Tryz.prog 99 #[.string s] w (NewBytes s w) := by
  have hcv := Lib.run_convert_string_bytes (P := Tryz.prog) w 9 36 5 s Tryz.underlying9 Tryz.underlying36 Tryz.underlying5
  go_enter Tryz.func99, Tryz.ntmps99
  go_wp2
  go_ret
  exact ⟨w.heap.size, _, Nat.le_refl _, rfl, bytes_bytesWorld w s, ext_bytesWorld w 5 s⟩

set_option maxHeartbeats 400000 in
theorem toBytes238 (s : ByteArray) (w : World) : Calls Tryz.prog 238 #[.string s] w (NewBytes s w) := by
  have hcv := Lib.run_convert_string_bytes (P := Tryz.prog) w 9 36 5 s Tryz.underlying9 Tryz.underlying36 Tryz.underlying5
  go_enter Tryz.func238, Tryz.ntmps238
  go_wp2
  go_ret
  exact ⟨w.heap.size, _, Nat.le_refl _, rfl, bytes_bytesWorld w s, ext_bytesWorld w 5 s⟩

/-- A slice's address is none (and the slice is empty) or a plain one. -/
def Plain (ao : Option Addr) (l : List UInt8) : Prop := (ao = none → l = []) ∧ ∀ a, ao = some a → a.spot = none

theorem conv_str {w : World} {ao : Option Addr} {l : List UInt8} (h : BytesAt w ao l) (hp : Plain ao l) (cap : Nat) :
    (convert 36 9 (.slice ao l.length cap)).run Tryz.prog w = .ok (.string (str l)) w :=
  run_bytes_str w 36 5 9 Tryz.underlying36 Tryz.underlying5 Tryz.underlying9 h cap hp.1 hp.2

set_option maxHeartbeats 400000 in
theorem match_any (b : Nat) (suf : ByteArray) (l : List UInt8) (ao : Option Addr) (cap : Nat) (w : World)
    (hs : w.cell? ⟨b, 5, none⟩ = some (.string suf)) (hb : BytesAt w ao l) (hp : Plain ao l) :
    Calls Tryz.prog 186 #[.pointer (some ⟨b, 0, none⟩), .slice ao l.length cap] w fun e w' => e = .returned (.bool (l == suf.data.toList)) ∧ Ext w w' := by
  have hcv : ∀ n, (convert 36 9 (.slice ao l.length cap)).run Tryz.prog (w.drewN n) = .ok (.string (str l)) (w.drewN n) := fun n => conv_str (w := w.drewN n) hb hp cap
  clear hb
  go_enter Tryz.func186, Tryz.ntmps186
  go_wp2
  go_quiet (fail)
  go_wp2
  go_ret
  exact ⟨by rw [str_toList, ByteArray.toList_eq]; rfl, (Kp.refl _ _).drewN _⟩

/-- The byte by which a child is found. -/
def pvt (l : List UInt8) (k : Nat) : UInt8 := l.getD k 127

set_option maxHeartbeats 400000 in
theorem pivot_any (l : List UInt8) (ao : Option Addr) (cap k : Nat) (w : World) (hb : BytesAt w ao l) (_hl : l.length ≤ 4611686018427387904) (_hk : k ≤ 4611686018427387904) :
    Calls Tryz.prog 187 #[.slice ao l.length cap, .int .i64 k] w fun e w' => e = .returned (.int .u8 (pvt l k).toNat) ∧ w' = w := by
  by_cases h : k < l.length
  · obtain ⟨b, off, rfl, hc⟩ := hb k h
    have e : (pvt l k) = l[k] := by simp [pvt, h]
    rw [e]
    clear e hb
    go_enter Tryz.func187, Tryz.ntmps187
    go_wp2
    go_ret
    exact ⟨rfl, rfl⟩
  · have e : (pvt l k) = 127 := by simp [pvt, Nat.not_lt.1 h]
    have h' : l.length ≤ k := by omega
    rw [e]
    clear e hb h
    go_enter Tryz.func187, Tryz.ntmps187
    go_wp2
    go_ret
    exact ⟨rfl, rfl⟩

/-- How long the common beginning is. -/
def cpl : List UInt8 → List UInt8 → Nat
  | a :: l, b :: m => if a = b then cpl l m + 1 else 0
  | _, _ => 0
theorem cpl_le : ∀ l m : List UInt8, cpl l m ≤ l.length ∧ cpl l m ≤ m.length
  | [], m => by simp [cpl]
  | a :: l, [] => by simp [cpl]
  | a :: l, b :: m => by
    have := cpl_le l m
    simp only [cpl, List.length_cons]
    split <;> omega
theorem cpl_of {l m : List UInt8} : ∀ {k : Nat}, k ≤ l.length → k ≤ m.length → (∀ i (_ : i < k), l[i]? = m[i]?) → (k < l.length → k < m.length → l[k]? ≠ m[k]?) → cpl l m = k := by
  intro k
  induction k generalizing l m with
  | zero =>
    intro _ _ _ hn
    cases l with
    | nil => rfl
    | cons a l =>
      cases m with
      | nil => rfl
      | cons b m =>
        have := hn (by simp) (by simp)
        simp at this
        simp [cpl, this]
  | succ k ih =>
    intro hl hm hs hn
    cases l with
    | nil => simp at hl
    | cons a l =>
      cases m with
      | nil => simp at hm
      | cons b m =>
        have h0 := hs 0 (by omega)
        simp at h0
        simp only [cpl, h0, if_true]
        congr 1
        refine ih (by simpa using hl) (by simpa using hm) (fun i hi => ?_) (fun h1 h2 => ?_)
        · have := hs (i + 1) (by omega); simpa using this
        · have := hn (by simpa using h1) (by simpa using h2); simpa using this

theorem cpl_round {l m : List UInt8} {k : Nat} (hs : ∀ i (_ : i < k), l[i]? = m[i]?) (h1 : k < l.length) (h2 : k < m.length) (he : (l[k].toNat : Int) = (m[k].toNat : Int)) :
    ∀ i (_ : i < k + 1), l[i]? = m[i]? := by
  intro i hi
  by_cases h : i = k
  · subst h
    rw [List.getElem?_eq_getElem h1, List.getElem?_eq_getElem h2]
    congr 1
    exact UInt8.toNat_inj.1 (by omega)
  · exact hs i (by omega)

/-- The end of the loop of 'commonPrefixLen': what is known of the number. -/
theorem cpl_done {l m : List UInt8} {k : Nat} (hk : k ≤ l.length) (hk' : k ≤ m.length) (hs : ∀ i (_ : i < k), l[i]? = m[i]?)
    (hn : ∀ (h1 : k < l.length) (h2 : k < m.length), ¬ ((l[k].toNat : Int) = (m[k].toNat : Int))) : cpl l m = k := by
  refine cpl_of hk hk' hs fun h1 h2 => ?_
  rw [List.getElem?_eq_getElem h1, List.getElem?_eq_getElem h2]
  intro he
  exact hn h1 h2 (by rw [Option.some.inj he])
theorem ret_i64 {a b : Int} (h : a = b) : Ending.returned (.int .i64 a) = .returned (.int .i64 b) := by rw [h]

set_option maxHeartbeats 1000000 in
theorem cpl_any (l m : List UInt8) (ao bo : Option Addr) (c d : Nat) (w : World) (ha : BytesAt w ao l) (hb : BytesAt w bo m) (hl : l.length ≤ 4611686018427387904) (hm : m.length ≤ 4611686018427387904) :
    Calls Tryz.prog 237 #[.slice ao l.length c, .slice bo m.length d] w fun e w' => e = .returned (.int .i64 (cpl l m)) ∧ Ext w w' := by
  by_cases hml : m.length < l.length
  all_goals
    go_enter Tryz.func237, Tryz.ntmps237
    go_wp2
    go_loopw [6] (fun i wr => ∃ k : Nat, k ≤ l.length ∧ k ≤ m.length ∧ i = .int .i64 k ∧ Hid (∀ i (_ : i < k), l[i]? = m[i]?) ∧ ∃ n, wr = w.drewN n) (fun i _ => l.length - (intOf i).toNat)
    case atStart => exact ⟨0, Nat.zero_le _, Nat.zero_le _, rfl, fun i hi => absurd hi (Nat.not_lt_zero i), 0, rfl⟩
    case round =>
      obtain ⟨k, hk, hk', rfl, hs, n, rfl⟩ := hrel
      by_cases h1 : k < l.length ∧ k < m.length
      · obtain ⟨h1, h2⟩ := h1
        obtain ⟨b1, o1, rfl, c1⟩ := ha k h1
        obtain ⟨b2, o2, rfl, c2⟩ := hb k h2
        by_cases he : (l[k].toNat : Int) = (m[k].toNat : Int)
        · have hs' : Hid _ := cpl_round hs.out h1 h2 he
          clear hs
          go_wp2_with (go_quiet (fail))
          go_roundw
          case rel => exact ⟨k + 1, by omega, by omega, by go_num, hs', _, rfl⟩
          case measure => simp [intOf]; omega
        · have he' : ((l[k].toNat : Int) == (m[k].toNat : Int)) = false := by simpa using he
          have hd : Hid (cpl l m = k) := cpl_done hk hk' hs.out (fun _ _ => he)
          clear hs he
          go_wp2_with (go_quiet (fail))
          go_ret
          exact ⟨ret_i64 (by rw [hd.out]), ((Kp.refl _ _).drewN _).drewN _⟩
      · have hd : Hid (cpl l m = k) := cpl_done hk hk' hs.out (fun a b => absurd ⟨a, b⟩ h1)
        clear hs
        go_wp2
        go_ret
        exact ⟨ret_i64 (by rw [hd.out]), (Kp.refl _ _).drewN _⟩

/-- A struct's five cells in one aggregate. -/
def ssAgg (m f l : Int) (a b : Bool) : Value := .agg #[.int .u64 m, .int .u64 f, .int .u64 l, .bool a, .bool b]

set_option maxHeartbeats 400000 in
theorem newLeaf_any (l : List UInt8) (ao : Option Addr) (cap : Nat) (m f g : Int) (a b : Bool) (w : World) (hb : BytesAt w ao l) (hp : Plain ao l) :
    Calls Tryz.prog 236 #[.slice ao l.length cap, ssAgg m f g a b] w fun e w' => ∃ k, w.heap.size ≤ k ∧ e = .returned (.pointer (some ⟨k, 0, none⟩)) ∧
      Blk w' k #[.int .u64 m, .int .u64 f, .int .u64 g, .bool a, .bool b, .string (str l)] 269 ∧ Ext w w' := by
  have hcv : ∀ o, (convert 36 9 (.slice ao l.length cap)).run Tryz.prog (w.alloc o) = .ok (.string (str l)) (w.alloc o) := fun o => conv_str (w := w.alloc o) (hb.alloc o) hp cap
  clear hb
  unfold ssAgg
  go_enter Tryz.func236, Tryz.ntmps236
  go_wp2
  go_ret
  exact ⟨w.heap.size + 1, by omega, rfl, Blk.newAt (by simp), ((Kp.refl _ _).alloc _).alloc _⟩

set_option maxHeartbeats 400000 in
theorem setSuffix_any (b : Nat) (s0 : Value) (l : List UInt8) (ao : Option Addr) (cap : Nat) (w : World) (h5 : w.cell? ⟨b, 5, none⟩ = some s0) (f5 : w.frozen? ⟨b, 5, none⟩ = false) (hb : BytesAt w ao l) (hp : Plain ao l) :
    Calls Tryz.prog 240 #[.pointer (some ⟨b, 0, none⟩), .slice ao l.length cap] w fun e w' => e = .returned (.tuple #[]) ∧ w.setCell ⟨b, 5, none⟩ (.string (str l)) = w' := by
  have hcv := conv_str hb hp cap
  clear hb
  go_enter Tryz.func240, Tryz.ntmps240
  go_wp2
  go_end0
  exact ⟨rfl, rfl⟩

set_option maxHeartbeats 400000 in
theorem setPrefix_any (b o : Nat) (s0 : Value) (l : List UInt8) (ao : Option Addr) (cap : Nat) (w : World) (h5 : w.cell? ⟨b, o, none⟩ = some s0) (f5 : w.frozen? ⟨b, o, none⟩ = false) (hb : BytesAt w ao l) (hp : Plain ao l) :
    Calls Tryz.prog 271 #[.pointer (some ⟨b, o, none⟩), .slice ao l.length cap] w fun e w' => e = .returned (.tuple #[]) ∧ w.setCell ⟨b, o, none⟩ (.string (str l)) = w' := by
  have hcv := conv_str hb hp cap
  clear hb
  go_enter Tryz.func271, Tryz.ntmps271
  go_wp2
  go_end0
  exact ⟨rfl, rfl⟩

theorem leafIsLeaf (p : Value) (w : World) : Calls Tryz.prog 337 #[p] w fun e w' => e = .returned (.bool true) ∧ w = w' := by
  go_enter Tryz.func337, Tryz.ntmps337
  go_wp2
  go_ret
  exact ⟨rfl, rfl⟩
theorem metaIsLeaf (p : Value) (w : World) : Calls Tryz.prog 345 #[p] w fun e w' => e = .returned (.bool false) ∧ w = w' := by
  go_enter Tryz.func345, Tryz.ntmps345
  go_wp2
  go_ret
  exact ⟨rfl, rfl⟩
theorem metaBase (p : Value) (w : World) : Calls Tryz.prog 344 #[p] w fun e w' => e = .returned p ∧ w = w' := by
  go_enter Tryz.func344, Tryz.ntmps344
  go_wp2
  go_ret
  exact ⟨rfl, rfl⟩
end Go.Proofs.YtbehafhkgbjgmaaGreatDoor

/-
  What an inner node of the tree of subjects holds, as plain arrays: how its cells turn when a child is added or goes. No program; no condition.
-/
namespace Go.Proofs.YtbehafhkgbjgmaaGreatDoor
open Go Go.RowKit

/-- The kinds of inner nodes that a tree of few subjects has. -/
inductive K | k4 | k10 | k16 | k48

/-- The pointer's type, the struct's type, the room, the cells, the functions of the methods, by kind. -/
def K.ity : K → Nat | .k4 => 316 | .k10 => 385 | .k16 => 391 | .k48 => 396
def K.sty : K → Nat | .k4 => 346 | .k10 => 389 | .k16 => 395 | .k48 => 399
def K.cap : K → Nat | .k4 => 4 | .k10 => 10 | .k16 => 16 | .k48 => 48
def K.width : K → Nat | .k4 => 10 | .k10 => 22 | .k16 => 34 | .k48 => 306
def K.fFind : K → Nat | .k4 => 352 | .k10 => 362 | .k16 => 371 | .k48 => 381
def K.fAdd : K → Nat | .k4 => 241 | .k10 => 358 | .k16 => 368 | .k48 => 377
def K.fDel : K → Nat | .k4 => 351 | .k10 => 361 | .k16 => 370 | .k48 => 380
def K.fFull : K → Nat | .k4 => 354 | .k10 => 364 | .k16 => 373 | .k48 => 383
def K.fShrink : K → Nat | .k4 => 357 | .k10 => 367 | .k16 => 376 | .k48 => 386

def upd {α : Type} (f : Nat → α) (i : Nat) (x : α) : Nat → α := fun j => if j = i then x else f j
theorem upd_same {α : Type} (f : Nat → α) (i : Nat) (x : α) : upd f i x i = x := by simp [upd]
theorem upd_ne {α : Type} (f : Nat → α) {i j : Nat} (x : α) (h : j ≠ i) : upd f i x j = f j := by simp [upd, h]

/-- At which place the byte x stands among the first n (counted from 1; 0: at none). -/
def ix (n : Nat) (c : Nat → UInt8) (x : UInt8) : Nat :=
  match n with
  | 0 => 0
  | n + 1 => if c n = x then n + 1 else ix n c x
theorem ix_le : ∀ (n : Nat) (c : Nat → UInt8) (x : UInt8), ix n c x ≤ n
  | 0, _, _ => Nat.le_refl _
  | n + 1, c, x => by have := ix_le n c x; simp only [ix]; split <;> omega
theorem ix_miss : ∀ {n : Nat} {c : Nat → UInt8} {x : UInt8}, (∀ i, i < n → c i ≠ x) → ix n c x = 0
  | 0, _, _, _ => rfl
  | n + 1, c, x, h => by
    simp only [ix]
    rw [if_neg (h n (by omega))]
    exact ix_miss fun i hi => h i (by omega)
theorem ix_zero : ∀ {n : Nat} {c : Nat → UInt8} {x : UInt8}, ix n c x = 0 → ∀ i, i < n → c i ≠ x
  | 0, _, _, _, _, hi => absurd hi (Nat.not_lt_zero _)
  | n + 1, c, x, h, i, hi => by
    simp only [ix] at h
    split at h
    · omega
    · by_cases e : i = n
      · subst e; assumption
      · exact ix_zero h i (by omega)
theorem ix_pos : ∀ {n : Nat} {c : Nat → UInt8} {x : UInt8}, ix n c x ≠ 0 → ix n c x - 1 < n ∧ c (ix n c x - 1) = x
  | 0, _, _, h => absurd rfl h
  | n + 1, c, x, h => by
    simp only [ix] at h ⊢
    split
    · rename_i e; exact ⟨by omega, by simpa using e⟩
    · rename_i e
      rw [if_neg e] at h
      have := ix_pos h
      exact ⟨by omega, this.2⟩
theorem ix_hit {n : Nat} {c : Nat → UInt8} (inj : ∀ i j, i < n → j < n → c i = c j → i = j) {i : Nat} (hi : i < n) : ix n c (c i) = i + 1 := by
  have h0 : ix n c (c i) ≠ 0 := fun h => ix_zero h i hi rfl
  have := ix_pos h0
  have := inj _ _ this.1 hi this.2
  omega

/-- The cells of an inner node: its kind, its first text, how many children, which, by which bytes. -/
structure Cells (k : K) (cs : Array Value) (pre : List UInt8) (n : Nat) (v : Nat → Value) (c : Nat → UInt8) : Prop where
  size : cs.size = k.width
  le : n ≤ k.cap
  inj : ∀ i j, i < n → j < n → c i = c j → i = j
  ifc : ∀ i, i < n → ∃ t y, v i = .iface t y
  child : ∀ i, i < k.cap → cs[i]? = some (if i < n then v i else .nilIface)
  pre : cs[k.cap]? = some (.string (str pre))
  len : cs[k.cap + 1]? = some (.int .u16 n)
  key : k ≠ .k48 → ∀ i, i < k.cap → cs[k.cap + 2 + i]? = some (.int .u8 (if i < n then (c i).toNat else 0))
  key48 : k = .k48 → ∀ x : UInt8, cs[50 + x.toNat]? = some (.int .u8 (ix n c x))

/-- An inner node in memory. -/
def NodeAt (w : World) (k : K) (b : Nat) (pre : List UInt8) (n : Nat) (v : Nat → Value) (c : Nat → UInt8) : Prop :=
  ∃ cs, Blk w b cs k.sty ∧ Cells k cs pre n v c

theorem NodeAt.keep {F : Nat → Prop} {w w' : World} {k : K} {b : Nat} {pre : List UInt8} {n : Nat} {v : Nat → Value} {c : Nat → UInt8} (h : NodeAt w k b pre n v c) (hk : Kp F w w') (hb : ¬ F b) : NodeAt w' k b pre n v c :=
  let ⟨cs, hB, hC⟩ := h; ⟨cs, hB.keep hk hb, hC⟩
theorem NodeAt.lt {w : World} {k : K} {b : Nat} {pre : List UInt8} {n : Nat} {v : Nat → Value} {c : Nat → UInt8} (h : NodeAt w k b pre n v c) : b < w.heap.size :=
  let ⟨_, hB, _⟩ := h; hB.lt

theorem getSet {cs : Array Value} {i j : Nat} {x : Value} (h : i ≠ j) : (cs.setIfInBounds i x)[j]? = cs[j]? := by
  simp [h]
theorem getSet_same {cs : Array Value} {i : Nat} {x : Value} (h : i < cs.size) : (cs.setIfInBounds i x)[i]? = some x := by
  simp [h]

theorem K.wide (k : K) (h : k ≠ .k48) : k.width = k.cap + 2 + k.cap := by cases k <;> first | rfl | exact absurd rfl h

section
variable {k : K} {cs : Array Value} {pre : List UInt8} {n : Nat} {v : Nat → Value} {c : Nat → UInt8}

/-- A child is added: the byte, the child, the number. -/
theorem Cells.add (h : Cells k cs pre n v c) (hk : k ≠ .k48) (hn : n < k.cap) (ch : UInt8) (t : TypeId) (y : Value) (hnew : ∀ i, i < n → c i ≠ ch) :
    Cells k (((cs.setIfInBounds (k.cap + 2 + n) (.int .u8 ch.toNat)).setIfInBounds n (.iface t y)).setIfInBounds (k.cap + 1) (.int .u16 ((n + 1 : Nat) : Int))) pre (n + 1) (upd v n (.iface t y)) (upd c n ch) where
  size := by simp [h.size]
  le := by omega
  inj := by
    intro i j hi hj e
    unfold upd at e
    split at e <;> split at e
    · omega
    · exact absurd e.symm (hnew j (by omega))
    · exact absurd e (hnew i (by omega))
    · exact h.inj i j (by omega) (by omega) e
  ifc := by
    intro i hi
    by_cases e : i = n
    · subst e; exact ⟨t, y, upd_same _ _ _⟩
    · rw [upd_ne _ _ e]; exact h.ifc i (by omega)
  child := by
    intro i hi
    have := h.size; have := k.wide hk
    rw [getSet (by omega)]
    by_cases e : i = n
    · subst e; rw [getSet_same (by simp; omega), if_pos (by omega), upd_same]
    · rw [getSet (by omega), getSet (by omega), h.child i hi, upd_ne _ _ e]
      congr 1
      by_cases e' : i < n
      · rw [if_pos e', if_pos (by omega)]
      · rw [if_neg e', if_neg (by omega)]
  pre := by
    rw [getSet (by omega), getSet (by omega), getSet (by omega)]; exact h.pre
  len := by
    have := h.size; have := k.wide hk
    rw [getSet_same (by simp; omega)]
  key := by
    intro _ i hi
    have := h.size; have := k.wide hk
    rw [getSet (by omega), getSet (by omega)]
    by_cases e : i = n
    · subst e; rw [getSet_same (by omega), if_pos (by omega), upd_same]
    · rw [getSet (by omega), h.key hk i hi, upd_ne _ _ e]
      by_cases e' : i < n
      · rw [if_pos e', if_pos (by omega)]
      · rw [if_neg e', if_neg (by omega)]
  key48 := fun e => absurd e hk

/-- The same at a node of 48. -/
theorem Cells.add48 (h : Cells .k48 cs pre n v c) (hn : n < 48) (ch : UInt8) (t : TypeId) (y : Value) (hnew : ∀ i, i < n → c i ≠ ch) :
    Cells .k48 (((cs.setIfInBounds n (.iface t y)).setIfInBounds (50 + ch.toNat) (.int .u8 ((n + 1 : Nat) : Int))).setIfInBounds 49 (.int .u16 ((n + 1 : Nat) : Int))) pre (n + 1) (upd v n (.iface t y)) (upd c n ch) where
  size := by simp [h.size]
  le := by simp only [K.cap]; omega
  inj := by
    intro i j hi hj e
    unfold upd at e
    split at e <;> split at e
    · omega
    · exact absurd e.symm (hnew j (by omega))
    · exact absurd e (hnew i (by omega))
    · exact h.inj i j (by omega) (by omega) e
  ifc := by
    intro i hi
    by_cases e : i = n
    · subst e; exact ⟨t, y, upd_same _ _ _⟩
    · rw [upd_ne _ _ e]; exact h.ifc i (by omega)
  child := by
    intro i hi
    have hs := h.size; simp only [K.width] at hs; simp only [K.cap] at hi
    rw [getSet (by omega), getSet (by omega)]
    by_cases e : i = n
    · subst e; rw [getSet_same (by omega), if_pos (by omega), upd_same]
    · rw [getSet (by omega), h.child i hi, upd_ne _ _ e]
      congr 1
      by_cases e' : i < n
      · rw [if_pos e', if_pos (by omega)]
      · rw [if_neg e', if_neg (by omega)]
  pre := by
    simp only [K.cap]
    rw [getSet (by omega), getSet (by omega), getSet (by omega)]; exact h.pre
  len := by
    have hs := h.size; simp only [K.width] at hs; simp only [K.cap]
    rw [getSet_same (by simp; omega)]
  key := fun e => absurd rfl e
  key48 := by
    intro _ x
    have hs := h.size; simp only [K.width] at hs
    have hx := x.toNat_lt
    have hch := ch.toNat_lt
    rw [getSet (by omega)]
    have hsame : ∀ m, m ≤ n → ix m (upd c n ch) x = ix m c x := by
      intro m
      induction m with
      | zero => intro _; rfl
      | succ m ih => intro hm; simp only [ix]; rw [upd_ne _ _ (by omega), ih (by omega)]
    by_cases e : ch = x
    · subst e
      rw [getSet_same (by simp; omega)]
      simp [ix, upd_same]
    · have : ch.toNat ≠ x.toNat := fun e' => e (UInt8.toNat_inj.1 e')
      rw [getSet (by omega), getSet (by omega), h.key48 rfl x]
      simp only [ix, upd_same, if_neg e, hsame n (Nat.le_refl _)]

/-- How the children stand behind the going of number i: the last one takes its place. -/
def gone {α : Type} (f : Nat → α) (n i : Nat) : Nat → α := upd f i (f (n - 1))

theorem gone_inj (inj : ∀ i j, i < n → j < n → c i = c j → i = j) {i : Nat} (hi : i < n) : ∀ a b, a < n - 1 → b < n - 1 → gone c n i a = gone c n i b → a = b := by
  intro a b ha hb e
  unfold gone upd at e
  split at e <;> split at e
  · omega
  · have := inj _ _ (by omega) (by omega) e; omega
  · have := inj _ _ (by omega) (by omega) e; omega
  · exact inj _ _ (by omega) (by omega) e

/-- A child goes that is not the last one. -/
theorem Cells.delMid (h : Cells k cs pre n v c) (hk : k ≠ .k48) {i : Nat} (hi : i < n - 1) :
    Cells k (((((cs.setIfInBounds (k.cap + 2 + i) (.int .u8 (c (n - 1)).toNat)).setIfInBounds i (v (n - 1))).setIfInBounds (k.cap + 2 + (n - 1)) (.int .u8 0)).setIfInBounds (n - 1) .nilIface).setIfInBounds (k.cap + 1) (.int .u16 ((n - 1 : Nat) : Int)))
      pre (n - 1) (gone v n i) (gone c n i) where
  size := by simp [h.size]
  le := by have := h.le; omega
  inj := gone_inj h.inj (by omega)
  ifc := by
    intro j hj
    unfold gone upd
    split
    · exact h.ifc _ (by omega)
    · exact h.ifc _ (by omega)
  child := by
    intro j hj
    have := h.size; have := k.wide hk; have := h.le
    rw [getSet (by omega)]
    by_cases e : j = n - 1
    · subst e; rw [getSet_same (by simp; omega), if_neg (by omega)]
    · rw [getSet (by omega), getSet (by omega)]
      by_cases e' : j = i
      · subst e'; rw [getSet_same (by simp; omega), if_pos hi]; simp [gone, upd]
      · rw [getSet (by omega), getSet (by omega), h.child j hj]
        congr 1
        by_cases e'' : j < n
        · rw [if_pos e'', if_pos (by omega)]; simp [gone, upd, e']
        · rw [if_neg e'', if_neg (by omega)]
  pre := by
    have := h.le
    rw [getSet (by omega), getSet (by omega), getSet (by omega), getSet (by omega), getSet (by omega)]; exact h.pre
  len := by
    have := h.size; have := k.wide hk
    rw [getSet_same (by simp; omega)]
  key := by
    intro _ j hj
    have := h.size; have := k.wide hk; have := h.le
    rw [getSet (by omega), getSet (by omega)]
    by_cases e : j = n - 1
    · subst e; rw [getSet_same (by simp; omega), if_neg (by omega)]
    · rw [getSet (by omega), getSet (by omega)]
      by_cases e' : j = i
      · subst e'; rw [getSet_same (by omega), if_pos hi]; simp [gone, upd]
      · rw [getSet (by omega), h.key hk j hj]
        by_cases e'' : j < n
        · rw [if_pos e'', if_pos (by omega)]; simp [gone, upd, e']
        · rw [if_neg e'', if_neg (by omega)]
  key48 := fun e => absurd e hk

/-- The last child goes. -/
theorem Cells.delLast (h : Cells k cs pre n v c) (hk : k ≠ .k48) (hn : 0 < n) :
    Cells k (((cs.setIfInBounds (k.cap + 2 + (n - 1)) (.int .u8 0)).setIfInBounds (n - 1) .nilIface).setIfInBounds (k.cap + 1) (.int .u16 ((n - 1 : Nat) : Int))) pre (n - 1) (gone v n (n - 1)) (gone c n (n - 1)) where
  size := by simp [h.size]
  le := by have := h.le; omega
  inj := gone_inj h.inj (by omega)
  ifc := by
    intro j hj
    unfold gone upd
    split
    · exact h.ifc _ (by omega)
    · exact h.ifc _ (by omega)
  child := by
    intro j hj
    have := h.size; have := k.wide hk; have := h.le
    rw [getSet (by omega)]
    by_cases e : j = n - 1
    · subst e; rw [getSet_same (by simp; omega), if_neg (by omega)]
    · rw [getSet (by omega), getSet (by omega), h.child j hj]
      congr 1
      by_cases e'' : j < n
      · rw [if_pos e'', if_pos (by omega)]; simp [gone, upd, e]
      · rw [if_neg e'', if_neg (by omega)]
  pre := by
    have := h.le
    rw [getSet (by omega), getSet (by omega), getSet (by omega)]; exact h.pre
  len := by
    have := h.size; have := k.wide hk
    rw [getSet_same (by simp; omega)]
  key := by
    intro _ j hj
    have := h.size; have := k.wide hk; have := h.le
    rw [getSet (by omega), getSet (by omega)]
    by_cases e : j = n - 1
    · subst e; rw [getSet_same (by omega), if_neg (by omega)]
    · rw [getSet (by omega), h.key hk j hj]
      by_cases e'' : j < n
      · rw [if_pos e'', if_pos (by omega)]; simp [gone, upd, e]
      · rw [if_neg e'', if_neg (by omega)]
  key48 := fun e => absurd e hk

theorem ix_gone (inj : ∀ i j, i < n → j < n → c i = c j → i = j) {i : Nat} (hi : i < n) (x : UInt8) :
    ix (n - 1) (gone c n i) x = if c i = x then 0 else if c (n - 1) = x then i + 1 else ix n c x := by
  have ginj := gone_inj inj hi
  by_cases e : c i = x
  · rw [if_pos e]
    refine ix_miss fun j hj e' => ?_
    unfold gone upd at e'
    split at e'
    · have := inj _ _ (by omega) hi (e'.trans e.symm); omega
    · have := inj _ _ (by omega) hi (e'.trans e.symm); omega
  · rw [if_neg e]
    by_cases e1 : c (n - 1) = x
    · rw [if_pos e1]
      have hin : i < n - 1 := by
        rcases Nat.lt_or_ge i (n - 1) with h' | h'
        · exact h'
        · have : i = n - 1 := by omega
          subst this; exact absurd e1 e
      have := ix_hit ginj hin
      rw [show gone c n i i = x by simp [gone, upd, e1]] at this
      exact this
    · rw [if_neg e1]
      by_cases e2 : ix n c x = 0
      · rw [e2]
        refine ix_miss fun j hj e' => ?_
        unfold gone upd at e'
        split at e'
        · exact e1 e'
        · exact ix_zero e2 j (by omega) e'
      · have hp := ix_pos e2
        have h1 : ix n c x - 1 ≠ i := fun h' => e (by rw [← h']; exact hp.2)
        have h2 : ix n c x - 1 ≠ n - 1 := fun h' => e1 (by rw [← h']; exact hp.2)
        have := ix_hit ginj (i := ix n c x - 1) (by omega)
        rw [show gone c n i (ix n c x - 1) = x by simp [gone, upd, h1, hp.2]] at this
        omega

/-- A child of a node of 48 goes that is not the last one. -/
theorem Cells.delMid48 (h : Cells .k48 cs pre n v c) {i : Nat} (hi : i < n - 1) :
    Cells .k48 (((((cs.setIfInBounds i (v (n - 1))).setIfInBounds (50 + (c (n - 1)).toNat) (.int .u8 ((i + 1 : Nat) : Int))).setIfInBounds (n - 1) .nilIface).setIfInBounds (50 + (c i).toNat) (.int .u8 0)).setIfInBounds 49 (.int .u16 ((n - 1 : Nat) : Int)))
      pre (n - 1) (gone v n i) (gone c n i) where
  size := by simp [h.size]
  le := by have := h.le; omega
  inj := gone_inj h.inj (by omega)
  ifc := by
    intro j hj
    unfold gone upd
    split
    · exact h.ifc _ (by omega)
    · exact h.ifc _ (by omega)
  child := by
    intro j hj
    have hs := h.size; simp only [K.width] at hs; have hle := h.le; simp only [K.cap] at hj hle
    rw [getSet (by omega), getSet (by omega)]
    by_cases e : j = n - 1
    · subst e; rw [getSet_same (by simp; omega), if_neg (by omega)]
    · rw [getSet (by omega), getSet (by omega)]
      by_cases e' : j = i
      · subst e'; rw [getSet_same (by omega), if_pos hi]; simp [gone, upd]
      · rw [getSet (by omega), h.child j hj]
        congr 1
        by_cases e'' : j < n
        · rw [if_pos e'', if_pos (by omega)]; simp [gone, upd, e']
        · rw [if_neg e'', if_neg (by omega)]
  pre := by
    have hle := h.le; simp only [K.cap] at hle
    show _ = _
    simp only [K.cap]
    rw [getSet (by omega), getSet (by omega), getSet (by omega), getSet (by omega), getSet (by omega)]; exact h.pre
  len := by
    have hs := h.size; simp only [K.width] at hs; simp only [K.cap]
    rw [getSet_same (by simp; omega)]
  key := fun e => absurd rfl e
  key48 := by
    intro _ x
    have hs := h.size; simp only [K.width] at hs; have hle := h.le; simp only [K.cap] at hle
    have hx := x.toNat_lt
    have h1 := (c i).toNat_lt
    have h2 := (c (n - 1)).toNat_lt
    rw [getSet (by omega), ix_gone h.inj (by omega)]
    by_cases e : c i = x
    · subst e; rw [getSet_same (by simp; omega), if_pos rfl]; rfl
    · have : (c i).toNat ≠ x.toNat := fun e' => e (UInt8.toNat_inj.1 e')
      rw [getSet (by omega), getSet (by omega), if_neg e]
      by_cases e1 : c (n - 1) = x
      · subst e1; rw [getSet_same (by simp; omega), if_pos rfl]
      · have : (c (n - 1)).toNat ≠ x.toNat := fun e' => e1 (UInt8.toNat_inj.1 e')
        rw [getSet (by omega), getSet (by omega), if_neg e1]
        exact h.key48 rfl x

/-- The last child of a node of 48 goes. -/
theorem Cells.delLast48 (h : Cells .k48 cs pre n v c) (hn : 0 < n) :
    Cells .k48 (((cs.setIfInBounds (n - 1) .nilIface).setIfInBounds (50 + (c (n - 1)).toNat) (.int .u8 0)).setIfInBounds 49 (.int .u16 ((n - 1 : Nat) : Int)))
      pre (n - 1) (gone v n (n - 1)) (gone c n (n - 1)) where
  size := by simp [h.size]
  le := by have := h.le; omega
  inj := gone_inj h.inj (by omega)
  ifc := by
    intro j hj
    unfold gone upd
    split
    · exact h.ifc _ (by omega)
    · exact h.ifc _ (by omega)
  child := by
    intro j hj
    have hs := h.size; simp only [K.width] at hs; have hle := h.le; simp only [K.cap] at hj hle
    rw [getSet (by omega), getSet (by omega)]
    by_cases e : j = n - 1
    · subst e; rw [getSet_same (by omega), if_neg (by omega)]
    · rw [getSet (by omega), h.child j hj]
      congr 1
      by_cases e'' : j < n
      · rw [if_pos e'', if_pos (by omega)]; simp [gone, upd, e]
      · rw [if_neg e'', if_neg (by omega)]
  pre := by
    have hle := h.le; simp only [K.cap] at hle
    show _ = _
    simp only [K.cap]
    rw [getSet (by omega), getSet (by omega), getSet (by omega)]; exact h.pre
  len := by
    have hs := h.size; simp only [K.width] at hs; simp only [K.cap]
    rw [getSet_same (by simp; omega)]
  key := fun e => absurd rfl e
  key48 := by
    intro _ x
    have hs := h.size; simp only [K.width] at hs; have hle := h.le; simp only [K.cap] at hle
    have hx := x.toNat_lt
    have h2 := (c (n - 1)).toNat_lt
    rw [getSet (by omega), ix_gone h.inj (by omega)]
    by_cases e : c (n - 1) = x
    · subst e; rw [getSet_same (by simp; omega), if_pos rfl]; rfl
    · have : (c (n - 1)).toNat ≠ x.toNat := fun e' => e (UInt8.toNat_inj.1 e')
      rw [getSet (by omega), getSet (by omega), if_neg e, if_neg e]
      exact h.key48 rfl x
end

/-- A new node: no child. -/
theorem Cells.bare {k : K} {cs : Array Value} {pre : List UInt8} (v : Nat → Value) (c : Nat → UInt8) (hs : cs.size = k.width) (hc : ∀ i, i < k.cap → cs[i]? = some .nilIface) (hp : cs[k.cap]? = some (.string (str pre)))
    (hl : cs[k.cap + 1]? = some (.int .u16 0)) (hk : ∀ i, k.cap + 2 ≤ i → i < k.width → cs[i]? = some (.int .u8 0)) : Cells k cs pre 0 v c where
  size := hs
  le := Nat.zero_le _
  inj := fun _ _ h => absurd h (Nat.not_lt_zero _)
  ifc := fun _ h => absurd h (Nat.not_lt_zero _)
  child := fun i hi => by rw [hc i hi, if_neg (by omega)]
  pre := hp
  len := hl
  key := fun hk48 i hi => by rw [hk _ (by omega) (by rw [k.wide hk48]; omega), if_neg (by omega)]
  key48 := fun e x => by
    subst e
    have := x.toNat_lt
    rw [hk (50 + x.toNat) (by simp only [K.cap]; omega) (by simp only [K.width]; omega)]
    rfl
/-- Another first text. -/
theorem Cells.setPre {k : K} {cs : Array Value} {pre : List UInt8} {n : Nat} {v : Nat → Value} {c : Nat → UInt8} (h : Cells k cs pre n v c) (p : List UInt8) : Cells k (cs.setIfInBounds k.cap (.string (str p))) p n v c where
  size := by simp [h.size]
  le := h.le
  inj := h.inj
  ifc := h.ifc
  child := fun i hi => by rw [getSet (by omega)]; exact h.child i hi
  pre := getSet_same (by have := h.size; cases k <;> simp_all [K.width, K.cap])
  len := by rw [getSet (by omega)]; exact h.len
  key := fun hk i hi => by rw [getSet (by omega)]; exact h.key hk i hi
  key48 := fun e x => by
    subst e
    rw [getSet (by simp only [K.cap]; omega)]; exact h.key48 rfl x
/-- Another child at a place. -/
theorem Cells.setChild {k : K} {cs : Array Value} {pre : List UInt8} {n : Nat} {v : Nat → Value} {c : Nat → UInt8} (h : Cells k cs pre n v c) {i : Nat} (hi : i < n) (t : TypeId) (y : Value) :
    Cells k (cs.setIfInBounds i (.iface t y)) pre n (upd v i (.iface t y)) c where
  size := by simp [h.size]
  le := h.le
  inj := h.inj
  ifc := fun j hj => by
    by_cases e : j = i
    · subst e; exact ⟨t, y, upd_same _ _ _⟩
    · rw [upd_ne _ _ e]; exact h.ifc j hj
  child := fun j hj => by
    have := h.size; have := h.le
    have hw : k.cap ≤ k.width := by cases k <;> simp [K.cap, K.width]
    by_cases e : j = i
    · subst e; rw [getSet_same (by omega), if_pos hi, upd_same]
    · rw [getSet (by omega), h.child j hj, upd_ne _ _ e]
  pre := by have := h.le; rw [getSet (by omega)]; exact h.pre
  len := by have := h.le; rw [getSet (by omega)]; exact h.len
  key := fun hk j hj => by have := h.le; rw [getSet (by omega)]; exact h.key hk j hj
  key48 := fun e x => by
    have hle := h.le
    subst e
    simp only [K.cap] at hle
    rw [getSet (by omega)]; exact h.key48 rfl x
end Go.Proofs.YtbehafhkgbjgmaaGreatDoor

/-
  The inner nodes of 4, 10 and 16 children: a child is added, found; is there room. No condition beyond what is named.
-/
namespace Go.Proofs.YtbehafhkgbjgmaaGreatDoor
open Go Go.RowKit
set_option maxRecDepth 100000

/-- Where 'findChild' finds a child: its place's address; or nil. -/
def fres (b n : Nat) (c : Nat → UInt8) (x : UInt8) : Value := if ix n c x = 0 then .pointer none else .pointer (some ⟨b, ix n c x - 1, none⟩)
theorem fres_hit (b : Nat) {n : Nat} {c : Nat → UInt8} (inj : ∀ i j, i < n → j < n → c i = c j → i = j) {i : Nat} (hi : i < n) : fres b n c (c i) = .pointer (some ⟨b, i, none⟩) := by
  simp [fres, ix_hit inj hi]
theorem fres_miss (b : Nat) {n : Nat} {c : Nat → UInt8} {x : UInt8} (h : ∀ i, i < n → c i ≠ x) : fres b n c x = .pointer none := by
  simp [fres, ix_miss h]
theorem beq_false_bytes {a b : UInt8} (h : ¬ a = b) : ((a.toNat : Int) == (b.toNat : Int)) = false := by
  rw [beq_eq_false_iff_ne]
  intro e
  exact h (UInt8.toNat_inj.1 (by omega))
theorem ret_bool {a b : Bool} (h : a = b) : Ending.returned (.bool a) = .returned (.bool b) := by rw [h]

set_option maxHeartbeats 1000000 in
theorem add_k4 (b : Nat) (pre : List UInt8) (n : Nat) (v : Nat → Value) (c : Nat → UInt8) (ch : UInt8) (t : TypeId) (y : Value) (w : World) (h : NodeAt w .k4 b pre n v c) (hn : n < 4) (hnew : ∀ i, i < n → c i ≠ ch) :
    Calls Tryz.prog 241 #[.pointer (some ⟨b, 0, none⟩), .int .u8 ch.toNat, .iface t y] w fun e w' => e = .returned (.tuple #[]) ∧
      NodeAt w' .k4 b pre (n + 1) (upd v n (.iface t y)) (upd c n ch) ∧ Kp (· = b) w w' := by
  obtain ⟨cs, hB, hC⟩ := h
  have hC' := hC.add (by simp) hn ch t y hnew
  have hB' := ((hB.set (6 + n) (.int .u8 ch.toNat)).set n (.iface t y)).set 5 (.int .u16 ((n + 1 : Nat) : Int))
  have h5 : w.cell? ⟨b, 5, none⟩ = some (.int .u16 n) := (hB.cell 5).trans hC.len
  have h7 : w.cell? ⟨b, 6 + n, none⟩ = some (.int .u8 0) := (hB.cell _).trans ((hC.key (by simp) n hn).trans (by rw [if_neg (by omega)]))
  have h9 : w.cell? ⟨b, n, none⟩ = some .nilIface := (hB.cell _).trans ((hC.child n hn).trans (by rw [if_neg (by omega)]))
  have f := hB.frozen
  have HF := Lib.hid (show NodeAt _ .k4 b pre (n + 1) (upd v n (.iface t y)) (upd c n ch) from ⟨_, hB', hC'⟩)
  clear hB hC hB' hC' hnew
  go_enter Tryz.func241, Tryz.ntmps241
  go_wp2
  go_still_tail 10, (by kernel_rfl)
  go_wp2
  obtain ⟨w1, hw1⟩ : ∃ w1, (w.setCell ⟨b, 6 + n, none⟩ (.int .u8 ch.toNat)).drew = w1 := ⟨_, rfl⟩
  rw [hw1]
  have f1 : ∀ k, w1.frozen? ⟨b, k, none⟩ = false := fun k => by rw [← hw1]; simp [f]
  have g5 : w1.cell? ⟨b, 5, none⟩ = some (.int .u16 n) := by rw [← hw1]; simp only [World.cell?_drew]; rw [World.cell?_setCell_other _ _ _ _ (by simp; try omega)]; exact h5
  have g9 : w1.cell? ⟨b, n, none⟩ = some .nilIface := by rw [← hw1]; simp only [World.cell?_drew]; rw [World.cell?_setCell_other _ _ _ _ (by simp; try omega)]; exact h9
  have HW := Lib.hid hw1
  clear hw1 h5 h7 h9 f
  go_still_tail 10, (by kernel_rfl)
  go_wp2
  go_end0
  have hw := HW.out
  subst hw
  refine ⟨rfl, ?_, ?_⟩
  · obtain ⟨cs', hB', hC'⟩ := HF.out
    exact ⟨cs', hB', hC'⟩
  · exact Kp.setCell (F := (· = b)) (Kp.drew (Kp.setCell (F := (· = b)) (Kp.drew (Kp.setCell (F := (· = b)) (Kp.refl _ _) (.inl rfl) _)) (.inl rfl) _)) (.inl rfl) _

set_option maxHeartbeats 1000000 in
theorem find_k4 (b : Nat) (pre : List UInt8) (n : Nat) (v : Nat → Value) (c : Nat → UInt8) (ch : UInt8) (w : World) (h : NodeAt w .k4 b pre n v c) :
    Calls Tryz.prog 352 #[.pointer (some ⟨b, 0, none⟩), .int .u8 ch.toNat] w fun e w' => e = .returned (fres b n c ch) ∧ w = w' := by
  obtain ⟨cs, hB, hC⟩ := h
  have hn : n ≤ 4 := hC.le
  have h5 : w.cell? ⟨b, 5, none⟩ = some (.int .u16 n) := (hB.cell 5).trans hC.len
  have hk : Hid (∀ i, i < n → w.cell? ⟨b, 6 + i, none⟩ = some (.int .u8 (c i).toNat)) := fun i hi => (hB.cell _).trans ((hC.key (by simp) i (by simp only [K.cap]; omega)).trans (by rw [if_pos hi]))
  have inj := Lib.hid hC.inj
  clear hB hC
  go_enter Tryz.func352, Tryz.ntmps352
  go_wp2
  go_loop [5] (fun i => ∃ j : Nat, j ≤ n ∧ i = .int .u16 j ∧ Hid (∀ i, i < j → c i ≠ ch)) (fun i => n - (intOf i).toNat)
  case atStart => exact ⟨0, Nat.zero_le _, rfl, fun i hi => absurd hi (Nat.not_lt_zero i)⟩
  case round =>
    obtain ⟨j, hj, rfl, hs⟩ := hrel
    by_cases hlt : j < n
    · have hkj := hk.out j hlt
      by_cases he : c j = ch
      · subst he
        have hr : Hid (fres b n c (c j) = .pointer (some ⟨b, j, none⟩)) := fres_hit b inj.out hlt
        go_wp2
        go_ret
        exact ⟨by rw [hr.out]; rfl, rfl⟩
      · have he' : (((c j).toNat : Int) == (ch.toNat : Int)) = false := beq_false_bytes he
        have hs' : Hid (∀ i, i < j + 1 → c i ≠ ch) := fun i hi => by
          by_cases e : i = j
          · subst e; exact he
          · exact hs.out i (by omega)
        clear he hs
        go_wp2
        go_round
        case rel => exact ⟨j + 1, by omega, by go_num, hs'⟩
        case measure => simp [intOf]; omega
    · obtain rfl : j = n := by omega
      have hr : Hid (fres b j c ch = .pointer none) := fres_miss b hs.out
      go_wp2
      go_ret
      exact ⟨by rw [hr.out]; rfl, rfl⟩

theorem full_k4 (b : Nat) (pre : List UInt8) (n : Nat) (v : Nat → Value) (c : Nat → UInt8) (w : World) (h : NodeAt w .k4 b pre n v c) :
    Calls Tryz.prog 354 #[.pointer (some ⟨b, 0, none⟩)] w fun e w' => e = .returned (.bool (decide (4 ≤ n))) ∧ w = w' := by
  obtain ⟨cs, hB, hC⟩ := h
  have h5 : w.cell? ⟨b, 5, none⟩ = some (.int .u16 n) := (hB.cell 5).trans hC.len
  clear hB hC
  go_enter Tryz.func354, Tryz.ntmps354
  go_wp2
  go_ret
  exact ⟨ret_bool (by simp; omega), rfl⟩

set_option maxHeartbeats 1000000 in
theorem add_k10 (b : Nat) (pre : List UInt8) (n : Nat) (v : Nat → Value) (c : Nat → UInt8) (ch : UInt8) (t : TypeId) (y : Value) (w : World) (h : NodeAt w .k10 b pre n v c) (hn : n < 10) (hnew : ∀ i, i < n → c i ≠ ch) :
    Calls Tryz.prog 358 #[.pointer (some ⟨b, 0, none⟩), .int .u8 ch.toNat, .iface t y] w fun e w' => e = .returned (.tuple #[]) ∧
      NodeAt w' .k10 b pre (n + 1) (upd v n (.iface t y)) (upd c n ch) ∧ Kp (· = b) w w' := by
  obtain ⟨cs, hB, hC⟩ := h
  have hC' := hC.add (by simp) hn ch t y hnew
  have hB' := ((hB.set (12 + n) (.int .u8 ch.toNat)).set n (.iface t y)).set 11 (.int .u16 ((n + 1 : Nat) : Int))
  have h5 : w.cell? ⟨b, 11, none⟩ = some (.int .u16 n) := (hB.cell 11).trans hC.len
  have h7 : w.cell? ⟨b, 12 + n, none⟩ = some (.int .u8 0) := (hB.cell _).trans ((hC.key (by simp) n hn).trans (by rw [if_neg (by omega)]))
  have h9 : w.cell? ⟨b, n, none⟩ = some .nilIface := (hB.cell _).trans ((hC.child n hn).trans (by rw [if_neg (by omega)]))
  have f := hB.frozen
  have HF := Lib.hid (show NodeAt _ .k10 b pre (n + 1) (upd v n (.iface t y)) (upd c n ch) from ⟨_, hB', hC'⟩)
  clear hB hC hB' hC' hnew
  go_enter Tryz.func358, Tryz.ntmps358
  go_wp2
  go_still_tail 10, (by kernel_rfl)
  go_wp2
  obtain ⟨w1, hw1⟩ : ∃ w1, (w.setCell ⟨b, 12 + n, none⟩ (.int .u8 ch.toNat)).drew = w1 := ⟨_, rfl⟩
  rw [hw1]
  have f1 : ∀ k, w1.frozen? ⟨b, k, none⟩ = false := fun k => by rw [← hw1]; simp [f]
  have g5 : w1.cell? ⟨b, 11, none⟩ = some (.int .u16 n) := by rw [← hw1]; simp only [World.cell?_drew]; rw [World.cell?_setCell_other _ _ _ _ (by simp; try omega)]; exact h5
  have g9 : w1.cell? ⟨b, n, none⟩ = some .nilIface := by rw [← hw1]; simp only [World.cell?_drew]; rw [World.cell?_setCell_other _ _ _ _ (by simp; try omega)]; exact h9
  have HW := Lib.hid hw1
  clear hw1 h5 h7 h9 f
  go_still_tail 10, (by kernel_rfl)
  go_wp2
  go_end0
  have hw := HW.out
  subst hw
  refine ⟨rfl, ?_, ?_⟩
  · obtain ⟨cs', hB', hC'⟩ := HF.out
    exact ⟨cs', hB', hC'⟩
  · exact Kp.setCell (F := (· = b)) (Kp.drew (Kp.setCell (F := (· = b)) (Kp.drew (Kp.setCell (F := (· = b)) (Kp.refl _ _) (.inl rfl) _)) (.inl rfl) _)) (.inl rfl) _

set_option maxHeartbeats 1000000 in
theorem find_k10 (b : Nat) (pre : List UInt8) (n : Nat) (v : Nat → Value) (c : Nat → UInt8) (ch : UInt8) (w : World) (h : NodeAt w .k10 b pre n v c) :
    Calls Tryz.prog 362 #[.pointer (some ⟨b, 0, none⟩), .int .u8 ch.toNat] w fun e w' => e = .returned (fres b n c ch) ∧ w = w' := by
  obtain ⟨cs, hB, hC⟩ := h
  have hn : n ≤ 10 := hC.le
  have h5 : w.cell? ⟨b, 11, none⟩ = some (.int .u16 n) := (hB.cell 11).trans hC.len
  have hk : Hid (∀ i, i < n → w.cell? ⟨b, 12 + i, none⟩ = some (.int .u8 (c i).toNat)) := fun i hi => (hB.cell _).trans ((hC.key (by simp) i (by simp only [K.cap]; omega)).trans (by rw [if_pos hi]))
  have inj := Lib.hid hC.inj
  clear hB hC
  go_enter Tryz.func362, Tryz.ntmps362
  go_wp2
  go_loop [5] (fun i => ∃ j : Nat, j ≤ n ∧ i = .int .u16 j ∧ Hid (∀ i, i < j → c i ≠ ch)) (fun i => n - (intOf i).toNat)
  case atStart => exact ⟨0, Nat.zero_le _, rfl, fun i hi => absurd hi (Nat.not_lt_zero i)⟩
  case round =>
    obtain ⟨j, hj, rfl, hs⟩ := hrel
    by_cases hlt : j < n
    · have hkj := hk.out j hlt
      by_cases he : c j = ch
      · subst he
        have hr : Hid (fres b n c (c j) = .pointer (some ⟨b, j, none⟩)) := fres_hit b inj.out hlt
        go_wp2
        go_ret
        exact ⟨by rw [hr.out]; rfl, rfl⟩
      · have he' : (((c j).toNat : Int) == (ch.toNat : Int)) = false := beq_false_bytes he
        have hs' : Hid (∀ i, i < j + 1 → c i ≠ ch) := fun i hi => by
          by_cases e : i = j
          · subst e; exact he
          · exact hs.out i (by omega)
        clear he hs
        go_wp2
        go_round
        case rel => exact ⟨j + 1, by omega, by go_num, hs'⟩
        case measure => simp [intOf]; omega
    · obtain rfl : j = n := by omega
      have hr : Hid (fres b j c ch = .pointer none) := fres_miss b hs.out
      go_wp2
      go_ret
      exact ⟨by rw [hr.out]; rfl, rfl⟩

theorem full_k10 (b : Nat) (pre : List UInt8) (n : Nat) (v : Nat → Value) (c : Nat → UInt8) (w : World) (h : NodeAt w .k10 b pre n v c) :
    Calls Tryz.prog 364 #[.pointer (some ⟨b, 0, none⟩)] w fun e w' => e = .returned (.bool (decide (10 ≤ n))) ∧ w = w' := by
  obtain ⟨cs, hB, hC⟩ := h
  have h5 : w.cell? ⟨b, 11, none⟩ = some (.int .u16 n) := (hB.cell 11).trans hC.len
  clear hB hC
  go_enter Tryz.func364, Tryz.ntmps364
  go_wp2
  go_ret
  exact ⟨ret_bool (by simp; omega), rfl⟩

set_option maxHeartbeats 1000000 in
theorem add_k16 (b : Nat) (pre : List UInt8) (n : Nat) (v : Nat → Value) (c : Nat → UInt8) (ch : UInt8) (t : TypeId) (y : Value) (w : World) (h : NodeAt w .k16 b pre n v c) (hn : n < 16) (hnew : ∀ i, i < n → c i ≠ ch) :
    Calls Tryz.prog 368 #[.pointer (some ⟨b, 0, none⟩), .int .u8 ch.toNat, .iface t y] w fun e w' => e = .returned (.tuple #[]) ∧
      NodeAt w' .k16 b pre (n + 1) (upd v n (.iface t y)) (upd c n ch) ∧ Kp (· = b) w w' := by
  obtain ⟨cs, hB, hC⟩ := h
  have hC' := hC.add (by simp) hn ch t y hnew
  have hB' := ((hB.set (18 + n) (.int .u8 ch.toNat)).set n (.iface t y)).set 17 (.int .u16 ((n + 1 : Nat) : Int))
  have h5 : w.cell? ⟨b, 17, none⟩ = some (.int .u16 n) := (hB.cell 17).trans hC.len
  have h7 : w.cell? ⟨b, 18 + n, none⟩ = some (.int .u8 0) := (hB.cell _).trans ((hC.key (by simp) n hn).trans (by rw [if_neg (by omega)]))
  have h9 : w.cell? ⟨b, n, none⟩ = some .nilIface := (hB.cell _).trans ((hC.child n hn).trans (by rw [if_neg (by omega)]))
  have f := hB.frozen
  have HF := Lib.hid (show NodeAt _ .k16 b pre (n + 1) (upd v n (.iface t y)) (upd c n ch) from ⟨_, hB', hC'⟩)
  clear hB hC hB' hC' hnew
  go_enter Tryz.func368, Tryz.ntmps368
  go_wp2
  go_still_tail 10, (by kernel_rfl)
  go_wp2
  obtain ⟨w1, hw1⟩ : ∃ w1, (w.setCell ⟨b, 18 + n, none⟩ (.int .u8 ch.toNat)).drew = w1 := ⟨_, rfl⟩
  rw [hw1]
  have f1 : ∀ k, w1.frozen? ⟨b, k, none⟩ = false := fun k => by rw [← hw1]; simp [f]
  have g5 : w1.cell? ⟨b, 17, none⟩ = some (.int .u16 n) := by rw [← hw1]; simp only [World.cell?_drew]; rw [World.cell?_setCell_other _ _ _ _ (by simp; try omega)]; exact h5
  have g9 : w1.cell? ⟨b, n, none⟩ = some .nilIface := by rw [← hw1]; simp only [World.cell?_drew]; rw [World.cell?_setCell_other _ _ _ _ (by simp; try omega)]; exact h9
  have HW := Lib.hid hw1
  clear hw1 h5 h7 h9 f
  go_still_tail 10, (by kernel_rfl)
  go_wp2
  go_end0
  have hw := HW.out
  subst hw
  refine ⟨rfl, ?_, ?_⟩
  · obtain ⟨cs', hB', hC'⟩ := HF.out
    exact ⟨cs', hB', hC'⟩
  · exact Kp.setCell (F := (· = b)) (Kp.drew (Kp.setCell (F := (· = b)) (Kp.drew (Kp.setCell (F := (· = b)) (Kp.refl _ _) (.inl rfl) _)) (.inl rfl) _)) (.inl rfl) _

set_option maxHeartbeats 1000000 in
theorem find_k16 (b : Nat) (pre : List UInt8) (n : Nat) (v : Nat → Value) (c : Nat → UInt8) (ch : UInt8) (w : World) (h : NodeAt w .k16 b pre n v c) :
    Calls Tryz.prog 371 #[.pointer (some ⟨b, 0, none⟩), .int .u8 ch.toNat] w fun e w' => e = .returned (fres b n c ch) ∧ w = w' := by
  obtain ⟨cs, hB, hC⟩ := h
  have hn : n ≤ 16 := hC.le
  have h5 : w.cell? ⟨b, 17, none⟩ = some (.int .u16 n) := (hB.cell 17).trans hC.len
  have hk : Hid (∀ i, i < n → w.cell? ⟨b, 18 + i, none⟩ = some (.int .u8 (c i).toNat)) := fun i hi => (hB.cell _).trans ((hC.key (by simp) i (by simp only [K.cap]; omega)).trans (by rw [if_pos hi]))
  have inj := Lib.hid hC.inj
  clear hB hC
  go_enter Tryz.func371, Tryz.ntmps371
  go_wp2
  go_loop [5] (fun i => ∃ j : Nat, j ≤ n ∧ i = .int .u16 j ∧ Hid (∀ i, i < j → c i ≠ ch)) (fun i => n - (intOf i).toNat)
  case atStart => exact ⟨0, Nat.zero_le _, rfl, fun i hi => absurd hi (Nat.not_lt_zero i)⟩
  case round =>
    obtain ⟨j, hj, rfl, hs⟩ := hrel
    by_cases hlt : j < n
    · have hkj := hk.out j hlt
      by_cases he : c j = ch
      · subst he
        have hr : Hid (fres b n c (c j) = .pointer (some ⟨b, j, none⟩)) := fres_hit b inj.out hlt
        go_wp2
        go_ret
        exact ⟨by rw [hr.out]; rfl, rfl⟩
      · have he' : (((c j).toNat : Int) == (ch.toNat : Int)) = false := beq_false_bytes he
        have hs' : Hid (∀ i, i < j + 1 → c i ≠ ch) := fun i hi => by
          by_cases e : i = j
          · subst e; exact he
          · exact hs.out i (by omega)
        clear he hs
        go_wp2
        go_round
        case rel => exact ⟨j + 1, by omega, by go_num, hs'⟩
        case measure => simp [intOf]; omega
    · obtain rfl : j = n := by omega
      have hr : Hid (fres b j c ch = .pointer none) := fres_miss b hs.out
      go_wp2
      go_ret
      exact ⟨by rw [hr.out]; rfl, rfl⟩

theorem full_k16 (b : Nat) (pre : List UInt8) (n : Nat) (v : Nat → Value) (c : Nat → UInt8) (w : World) (h : NodeAt w .k16 b pre n v c) :
    Calls Tryz.prog 373 #[.pointer (some ⟨b, 0, none⟩)] w fun e w' => e = .returned (.bool (decide (16 ≤ n))) ∧ w = w' := by
  obtain ⟨cs, hB, hC⟩ := h
  have h5 : w.cell? ⟨b, 17, none⟩ = some (.int .u16 n) := (hB.cell 17).trans hC.len
  clear hB hC
  go_enter Tryz.func373, Tryz.ntmps373
  go_wp2
  go_ret
  exact ⟨ret_bool (by simp; omega), rfl⟩
end Go.Proofs.YtbehafhkgbjgmaaGreatDoor
