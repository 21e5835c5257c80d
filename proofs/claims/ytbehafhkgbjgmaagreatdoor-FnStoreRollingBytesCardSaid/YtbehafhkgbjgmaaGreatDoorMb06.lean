/-
  The methods of the inner nodes by one name: which function a call through the interface comes to, and what it does, for all kinds at once. No condition beyond what is named.
-/
import Derived.Test.YtbehafhkgbjgmaaGreatDoorMb04
namespace Go.Proofs.YtbehafhkgbjgmaaGreatDoor
open Go Go.RowKit
set_option maxRecDepth 100000

theorem m_isLeaf_leaf (a : Addr) (w : World) : (method 506 267 (.pointer (some a)) "pub-streamkeep/pub/natsserver/server/stree.isLeaf").run Tryz.prog w = .ok (337, .pointer (some a)) w := by kernel_rfl
theorem m_isLeaf (k : K) (b : Nat) (w : World) : (method 506 k.ity (.pointer (some ⟨b, 0, none⟩)) "pub-streamkeep/pub/natsserver/server/stree.isLeaf").run Tryz.prog w = .ok (345, .pointer (some ⟨b, k.cap, none⟩)) w := by
  cases k <;> kernel_rfl
theorem m_base (k : K) (b : Nat) (w : World) : (method 506 k.ity (.pointer (some ⟨b, 0, none⟩)) "pub-streamkeep/pub/natsserver/server/stree.base").run Tryz.prog w = .ok (344, .pointer (some ⟨b, k.cap, none⟩)) w := by
  cases k <;> kernel_rfl
theorem m_find (k : K) (b : Nat) (w : World) : (method 506 k.ity (.pointer (some ⟨b, 0, none⟩)) "pub-streamkeep/pub/natsserver/server/stree.findChild").run Tryz.prog w = .ok (k.fFind, .pointer (some ⟨b, 0, none⟩)) w := by
  cases k <;> kernel_rfl
theorem n_find (k : K) (b : Nat) (w : World) : (nilAhead 506 k.ity (.pointer (some ⟨b, 0, none⟩)) "pub-streamkeep/pub/natsserver/server/stree.findChild").run Tryz.prog w = .ok (some false) w := by
  cases k <;> kernel_rfl
theorem c_find (k : K) (args : Array Value) (w : World) : (callFunc k.fFind args).run Tryz.prog w = .ok (.enter k.fFind args) w := by
  cases k <;> kernel_rfl
theorem m_full (k : K) (b : Nat) (w : World) : (method 506 k.ity (.pointer (some ⟨b, 0, none⟩)) "pub-streamkeep/pub/natsserver/server/stree.isFull").run Tryz.prog w = .ok (k.fFull, .pointer (some ⟨b, 0, none⟩)) w := by
  cases k <;> kernel_rfl
theorem c_full (k : K) (args : Array Value) (w : World) : (callFunc k.fFull args).run Tryz.prog w = .ok (.enter k.fFull args) w := by
  cases k <;> kernel_rfl
theorem m_add (k : K) (b : Nat) (w : World) : (method 506 k.ity (.pointer (some ⟨b, 0, none⟩)) "pub-streamkeep/pub/natsserver/server/stree.addChild").run Tryz.prog w = .ok (k.fAdd, .pointer (some ⟨b, 0, none⟩)) w := by
  cases k <;> kernel_rfl
theorem n_add (k : K) (b : Nat) (w : World) : (nilAhead 506 k.ity (.pointer (some ⟨b, 0, none⟩)) "pub-streamkeep/pub/natsserver/server/stree.addChild").run Tryz.prog w = .ok (some false) w := by
  cases k <;> kernel_rfl
theorem c_add (k : K) (args : Array Value) (w : World) : (callFunc k.fAdd args).run Tryz.prog w = .ok (.enter k.fAdd args) w := by
  cases k <;> kernel_rfl
theorem m_del (k : K) (b : Nat) (w : World) : (method 506 k.ity (.pointer (some ⟨b, 0, none⟩)) "pub-streamkeep/pub/natsserver/server/stree.deleteChild").run Tryz.prog w = .ok (k.fDel, .pointer (some ⟨b, 0, none⟩)) w := by
  cases k <;> kernel_rfl
theorem n_del (k : K) (b : Nat) (w : World) : (nilAhead 506 k.ity (.pointer (some ⟨b, 0, none⟩)) "pub-streamkeep/pub/natsserver/server/stree.deleteChild").run Tryz.prog w = .ok (some false) w := by
  cases k <;> kernel_rfl
theorem c_del (k : K) (args : Array Value) (w : World) : (callFunc k.fDel args).run Tryz.prog w = .ok (.enter k.fDel args) w := by
  cases k <;> kernel_rfl
theorem m_shrink (k : K) (b : Nat) (w : World) : (method 506 k.ity (.pointer (some ⟨b, 0, none⟩)) "pub-streamkeep/pub/natsserver/server/stree.shrink").run Tryz.prog w = .ok (k.fShrink, .pointer (some ⟨b, 0, none⟩)) w := by
  cases k <;> kernel_rfl
theorem c_shrink (k : K) (args : Array Value) (w : World) : (callFunc k.fShrink args).run Tryz.prog w = .ok (.enter k.fShrink args) w := by
  cases k <;> kernel_rfl
theorem m_setPrefix (k : K) (b : Nat) (w : World) : (method 506 k.ity (.pointer (some ⟨b, 0, none⟩)) "pub-streamkeep/pub/natsserver/server/stree.setPrefix").run Tryz.prog w = .ok (271, .pointer (some ⟨b, k.cap, none⟩)) w := by
  cases k <;> kernel_rfl
theorem n_setPrefix (k : K) (b : Nat) (w : World) : (nilAhead 506 k.ity (.pointer (some ⟨b, 0, none⟩)) "pub-streamkeep/pub/natsserver/server/stree.setPrefix").run Tryz.prog w = .ok (some false) w := by
  cases k <;> kernel_rfl
def K.fGrow : K → Nat | .k4 => 353 | .k10 => 363 | .k16 => 372 | .k48 => 382
theorem m_grow (k : K) (b : Nat) (w : World) : (method 506 k.ity (.pointer (some ⟨b, 0, none⟩)) "pub-streamkeep/pub/natsserver/server/stree.grow").run Tryz.prog w = .ok (k.fGrow, .pointer (some ⟨b, 0, none⟩)) w := by
  cases k <;> kernel_rfl
theorem c_grow (k : K) (args : Array Value) (w : World) : (callFunc k.fGrow args).run Tryz.prog w = .ok (.enter k.fGrow args) w := by
  cases k <;> kernel_rfl

section
variable (k : K) (b : Nat) (pre : List UInt8) (n : Nat) (v : Nat → Value) (c : Nat → UInt8) (w : World)
theorem find_any (ch : UInt8) (h : NodeAt w k b pre n v c) : Calls Tryz.prog k.fFind #[.pointer (some ⟨b, 0, none⟩), .int .u8 ch.toNat] w fun e w' => e = .returned (fres b n c ch) ∧ w = w' := by
  cases k
  · exact find_k4 b pre n v c ch w h
  · exact find_k10 b pre n v c ch w h
  · exact find_k16 b pre n v c ch w h
  · exact find_k48 b pre n v c ch w h
theorem full_any (h : NodeAt w k b pre n v c) : Calls Tryz.prog k.fFull #[.pointer (some ⟨b, 0, none⟩)] w fun e w' => e = .returned (.bool (decide (k.cap ≤ n))) ∧ w = w' := by
  cases k
  · exact full_k4 b pre n v c w h
  · exact full_k10 b pre n v c w h
  · exact full_k16 b pre n v c w h
  · exact full_k48 b pre n v c w h
theorem add_any (ch : UInt8) (t : TypeId) (y : Value) (h : NodeAt w k b pre n v c) (hn : n < k.cap) (hnew : ∀ i, i < n → c i ≠ ch) :
    Calls Tryz.prog k.fAdd #[.pointer (some ⟨b, 0, none⟩), .int .u8 ch.toNat, .iface t y] w fun e w' => e = .returned (.tuple #[]) ∧ NodeAt w' k b pre (n + 1) (upd v n (.iface t y)) (upd c n ch) ∧ Kp (· = b) w w' := by
  cases k
  · exact add_k4 b pre n v c ch t y w h hn hnew
  · exact add_k10 b pre n v c ch t y w h hn hnew
  · exact add_k16 b pre n v c ch t y w h hn hnew
  · exact add_k48 b pre n v c ch t y w h hn hnew
theorem del_any (i : Nat) (h : NodeAt w k b pre n v c) (hi : i < n) :
    Calls Tryz.prog k.fDel #[.pointer (some ⟨b, 0, none⟩), .int .u8 (c i).toNat] w fun e w' => e = .returned (.tuple #[]) ∧ NodeAt w' k b pre (n - 1) (gone v n i) (gone c n i) ∧ Kp (· = b) w w' := by
  cases k
  · exact del_k4 b pre n v c i w h hi
  · exact del_k10 b pre n v c i w h hi
  · exact del_k16 b pre n v c i w h hi
  · exact del_k48 b pre n v c i w h hi
/-- The kind that follows. -/
def K.next : K → K | .k4 => .k10 | .k10 => .k16 | _ => .k48
theorem grow_any (h : NodeAt w k b pre n v c) (hn : k.cap ≤ n) (hk : n < 48) :
    Calls Tryz.prog k.fGrow #[.pointer (some ⟨b, 0, none⟩)] w fun e w' => ∃ g, w.heap.size ≤ g ∧ e = .returned (.iface k.next.ity (.pointer (some ⟨g, 0, none⟩))) ∧ NodeAt w' k.next g pre n v c ∧ n < k.next.cap ∧ Ext w w' := by
  have hle : n ≤ k.cap := by obtain ⟨cs, _, hC⟩ := h; exact hC.le
  obtain rfl : n = k.cap := by omega
  cases k
  · exact (grow_k4 b pre v c w h).mono fun e w' ⟨g, h1, h2, h3, h4⟩ => ⟨g, h1, h2, h3, by simp [K.cap, K.next], h4⟩
  · exact (grow_k10 b pre v c w h).mono fun e w' ⟨g, h1, h2, h3, h4⟩ => ⟨g, h1, h2, h3, by simp [K.cap, K.next], h4⟩
  · exact (grow_k16 b pre v c w h).mono fun e w' ⟨g, h1, h2, h3, h4⟩ => ⟨g, h1, h2, h3, by simp [K.cap, K.next], h4⟩
  · simp [K.cap] at hk
/-- The kind that a node of too few children becomes. -/
def K.prev : K → K | .k16 => .k10 | .k48 => .k16 | _ => .k4
/-- What 'shrink' gives. -/
def Shrunk (w : World) (k : K) (n : Nat) (v : Nat → Value) (c : Nat → UInt8) (e : Ending) (w' : World) : Prop :=
  (k.low < n ∧ e = .returned .nilIface ∧ w = w') ∨ (k = .k4 ∧ n = 1 ∧ e = .returned (v 0) ∧ w = w') ∨
  (n ≤ k.low ∧ ∃ g v' c', w.heap.size ≤ g ∧ e = .returned (.iface k.prev.ity (.pointer (some ⟨g, 0, none⟩))) ∧ NodeAt w' k.prev g [] n v' c' ∧ Moved n v c 256 n v' c' ∧ Ext w w')
theorem Moved.refl : Moved n v c 256 n v c := ⟨fun i hi => ⟨i, hi, rfl, rfl, (c i).toNat_lt⟩, fun i hi _ => ⟨i, hi, rfl, rfl⟩⟩
theorem shrink_any (h : NodeAt w k b pre n v c) (hn : 1 ≤ n) : Calls Tryz.prog k.fShrink #[.pointer (some ⟨b, 0, none⟩)] w (Shrunk w k n v c) := by
  by_cases hl : k.low < n
  · cases k
    · exact (shrink_k4_no b pre n v c w h hl).mono fun e w' hh => .inl ⟨hl, hh⟩
    · exact (shrink_k10_no b pre n v c w h hl).mono fun e w' hh => .inl ⟨hl, hh⟩
    · exact (shrink_k16_no b pre n v c w h hl).mono fun e w' hh => .inl ⟨hl, hh⟩
    · exact (shrink_k48_no b pre n v c w h hl).mono fun e w' hh => .inl ⟨hl, hh⟩
  · cases k
    · obtain rfl : n = 1 := by simp only [K.low] at hl; omega
      exact (shrink_k4 b pre v c w h).mono fun e w' hh => .inr (.inl ⟨rfl, rfl, hh⟩)
    · exact (shrink_k10 b pre n v c w h (by simpa [K.low] using hl)).mono fun e w' ⟨g, h1, h2, h3, h4⟩ => .inr (.inr ⟨by omega, g, v, c, h1, h2, h3, Moved.refl n v c, h4⟩)
    · exact (shrink_k16 b pre n v c w h (by simpa [K.low] using hl)).mono fun e w' ⟨g, h1, h2, h3, h4⟩ => .inr (.inr ⟨by omega, g, v, c, h1, h2, h3, Moved.refl n v c, h4⟩)
    · exact (shrink_k48 b pre n v c w h (by simpa [K.low] using hl)).mono fun e w' ⟨g, v', c', h1, h2, h3, h4, h5⟩ => .inr (.inr ⟨by omega, g, v', c', h1, h2, h3, h4, h5⟩)
end
theorem setPrefixAt {k : K} {b : Nat} {pre : List UInt8} {n : Nat} {v : Nat → Value} {c : Nat → UInt8} {w : World} (h : NodeAt w k b pre n v c) (l : List UInt8) (ao : Option Addr) (cap : Nat) (hb : BytesAt w ao l) (hp : Plain ao l) :
    Calls Tryz.prog 271 #[.pointer (some ⟨b, k.cap, none⟩), .slice ao l.length cap] w fun e w' => e = .returned (.tuple #[]) ∧ NodeAt w' k b l n v c ∧ Kp (· = b) w w' := by
  obtain ⟨cs, hB, hC⟩ := h
  refine (setPrefix_any b k.cap _ l ao cap w ((hB.cell _).trans hC.pre) (hB.frozen _) hb hp).mono ?_
  rintro e w' ⟨rfl, rfl⟩
  exact ⟨rfl, ⟨_, hB.set _ _, hC.setPre l⟩, Kp.setCell (F := (· = b)) (Kp.refl _ _) (.inl rfl) _⟩
theorem NodeAt.preCell {k : K} {b : Nat} {pre : List UInt8} {n : Nat} {v : Nat → Value} {c : Nat → UInt8} {w : World} (h : NodeAt w k b pre n v c) : w.cell? ⟨b, k.cap, none⟩ = some (.string (str pre)) :=
  let ⟨_, hB, hC⟩ := h; (hB.cell _).trans hC.pre
theorem NodeAt.childCell {k : K} {b : Nat} {pre : List UInt8} {n : Nat} {v : Nat → Value} {c : Nat → UInt8} {w : World} (h : NodeAt w k b pre n v c) {i : Nat} (hi : i < n) : w.cell? ⟨b, i, none⟩ = some (v i) :=
  let ⟨_, hB, hC⟩ := h; (hB.cell _).trans ((hC.child i (by have := hC.le; omega)).trans (by rw [if_pos hi]))
theorem NodeAt.inj {k : K} {b : Nat} {pre : List UInt8} {n : Nat} {v : Nat → Value} {c : Nat → UInt8} {w : World} (h : NodeAt w k b pre n v c) : ∀ i j, i < n → j < n → c i = c j → i = j :=
  let ⟨_, _, hC⟩ := h; hC.inj
end Go.Proofs.YtbehafhkgbjgmaaGreatDoor
