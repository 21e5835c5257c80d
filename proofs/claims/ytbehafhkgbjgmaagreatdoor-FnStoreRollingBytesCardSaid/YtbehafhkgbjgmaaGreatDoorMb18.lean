/-
  The tree of subjects: 'delete' and 'Delete' of a text that is there. No condition beyond that the texts are short.
-/
import Derived.Test.YtbehafhkgbjgmaaGreatDoorMb15
import Derived.Test.YtbehafhkgbjgmaaGreatDoorMb17
import Derived.Test.YtbehafhkgbjgmaaGreatDoorMb04
namespace Go.Proofs.YtbehafhkgbjgmaaGreatDoor
open Go Go.RowKit
set_option maxRecDepth 100000

/-- The texts without one. -/
def drop1 (M : List UInt8 → Option (Nat × SS)) (r : List UInt8) : List UInt8 → Option (Nat × SS) := fun key => if key = r then none else M key
theorem drop1_iff {M : List UInt8 → Option (Nat × SS)} {r : List UInt8} {key : List UInt8} {y : Nat × SS} : drop1 M r key = some y ↔ key ≠ r ∧ M key = some y := by
  unfold drop1
  by_cases h : key = r <;> simp [h]

/-- What 'delete' leaves. -/
def Lost (w w' : World) (pb po : Nat) (M : List UInt8 → Option (Nat × SS)) (B : Nat → Prop) (r : List UInt8) : Prop :=
  ∃ d' v' B', Kp (fun x => B x ∨ x = pb) w w' ∧ Put pb po v' w w' ∧ IsT w' d' v' (drop1 M r) B' ∧ (∀ x, B' x → B x ∨ w.heap.size ≤ x)

/-- The children but one, in an order of their own. -/
def Less (n i : Nat) (v : Nat → Value) (c : Nat → UInt8) (n' : Nat) (v' : Nat → Value) (c' : Nat → UInt8) (σ : Nat → Nat) : Prop :=
  (∀ j, j < n' → σ j < n ∧ σ j ≠ i ∧ v' j = v (σ j) ∧ c' j = c (σ j)) ∧ ∀ a, a < n → a ≠ i → ∃ j, j < n' ∧ σ j = a
theorem less_gone {n i : Nat} {v : Nat → Value} {c : Nat → UInt8} (hi : i < n) : Less n i v c (n - 1) (gone v n i) (gone c n i) (fun j => if j = i then n - 1 else j) := by
  refine ⟨fun j hj => ?_, fun a ha hne => ?_⟩
  · by_cases h : j = i
    · subst h
      simp only [if_true, gone, upd_same]
      exact ⟨by omega, by omega, trivial, trivial⟩
    · simp only [h, if_false, gone, upd_ne _ _ h]
      exact ⟨by omega, h, trivial, trivial⟩
  · by_cases h : a = n - 1
    · refine ⟨i, by omega, by simp [h]⟩
    · exact ⟨a, by omega, by simp [hne]⟩
theorem less_moved {n i n1 n' : Nat} {v v1 v2 : Nat → Value} {c c1 c2 : Nat → UInt8} {σ : Nat → Nat} (h : Less n i v c n1 v1 c1 σ) (hm : Moved n1 v1 c1 256 n' v2 c2) (inj : ∀ i j, i < n1 → j < n1 → c1 i = c1 j → i = j) : ∃ τ, Less n i v c n' v2 c2 τ := by
  have hex : ∀ j, ∃ k, j < n' → k < n1 ∧ c2 j = c1 k ∧ v2 j = v1 k := fun j => by
    by_cases hj : j < n'
    · obtain ⟨k, h1, h2, h3, _⟩ := hm.1 j hj
      exact ⟨k, fun _ => ⟨h1, h2, h3⟩⟩
    · exact ⟨0, fun h => absurd h hj⟩
  refine ⟨fun j => σ (hex j).choose, fun j hj => ?_, fun a ha hne => ?_⟩
  · have h1 := (hex j).choose_spec hj
    have h2 := h.1 _ h1.1
    exact ⟨h2.1, h2.2.1, h1.2.2.trans h2.2.2.1, h1.2.1.trans h2.2.2.2⟩
  · obtain ⟨j0, hj0, rfl⟩ := h.2 a ha hne
    obtain ⟨i', hi', e1, e2⟩ := hm.2 j0 hj0 (by have := (c1 j0).toNat_lt; simpa using this)
    have h1 := (hex i').choose_spec hi'
    refine ⟨i', hi', ?_⟩
    have : (hex i').choose = j0 := inj _ _ h1.1 hj0 (h1.2.1.symm.trans e1)
    simp only [this]

/-- A node without one of its leaves. -/
theorem isT_less {w : World} {d b : Nat} {k : K} {pre r2 : List UInt8} {n n' i : Nat} {v v' : Nat → Value} {c c' : Nat → UInt8} {σ : Nat → Nat} {M : Nat → List UInt8 → Option (Nat × SS)} {B : Nat → Nat → Prop}
    (h : NodeAt w k b pre n' v' c') (hn : k.low < n') (hs : Less n i v c n' v' c' σ) (hi : i < n) (hc : ∀ j, j < n → j ≠ i → IsT w d (v j) (M j) (B j)) (inj : ∀ i j, i < n → j < n → c i = c j → i = j) (hp : ∀ i, i < n → ∀ key, M i key ≠ none → pvt key 0 = c i)
    (hb : ∀ j, j < n → j ≠ i → ¬ B j b) (hd : ∀ i j, i < n → j < n → i ≠ j → ∀ x, B i x → ¬ B j x) (hMi : ∀ key, M i key ≠ none → key = r2) (hr : pvt r2 0 = c i) :
    IsT w (d + 1) (.iface k.ity (.pointer (some ⟨b, 0, none⟩))) (drop1 (join pre n M c) (pre ++ r2)) (fun x => x = b ∨ ∃ j, j < n' ∧ B (σ j) x) := by
  have hpp : ∀ j, j < n' → ∀ key, M (σ j) key ≠ none → pvt key 0 = c' j := fun j hj key hk => by
    have := hs.1 j hj
    rw [this.2.2.2]
    exact hp _ this.1 key hk
  have hT := IsT.node d k b pre n' v' c' (fun j => M (σ j)) (fun j => B (σ j)) hn h
    (fun j hj => by have := hs.1 j hj; rw [this.2.2.1]; exact hc _ this.1 this.2.1) (fun j hj => by have := hs.1 j hj; exact (hc _ this.1 this.2.1).some) hpp
    (fun j hj => by have := hs.1 j hj; exact hb _ this.1 this.2.1)
    (fun a j ha hj hne x => by
      have h1 := hs.1 a ha
      have h2 := hs.1 j hj
      refine hd _ _ h1.1 h2.1 (fun e => hne (h.inj a j ha hj ?_)) x
      rw [h1.2.2.2, h2.2.2.2, e])
  have e1 : join pre n' (fun j => M (σ j)) c' = drop1 (join pre n M c) (pre ++ r2) := map_ext fun key x => by
    rw [join_iff h.inj hpp, drop1_iff, join_iff inj hp]
    constructor
    · rintro ⟨j, r, hj, rfl, hx⟩
      have h1 := hs.1 j hj
      refine ⟨fun e => ?_, σ j, r, h1.1, rfl, hx⟩
      obtain rfl := List.append_cancel_left e
      exact h1.2.1 (inj _ _ h1.1 hi (by rw [← hp _ h1.1 r (by rw [hx]; simp), hr]))
    · rintro ⟨hne, a, r, ha, rfl, hx⟩
      by_cases e : a = i
      · subst e
        exact absurd (by rw [hMi r (by rw [hx]; simp)]) hne
      · obtain ⟨j, hj, rfl⟩ := hs.2 a ha e
        exact ⟨j, r, hj, rfl, hx⟩
  rw [e1] at hT
  exact hT

/-- A node one of whose children has one text less. -/
theorem isT_turnD {w : World} {d b : Nat} {k : K} {pre : List UInt8} {n : Nat} {v : Nat → Value} {c : Nat → UInt8} {M : Nat → List UInt8 → Option (Nat × SS)} {B : Nat → Nat → Prop} {i : Nat} (hi : i < n) {v' : Value} {B' : Nat → Prop} {r2 : List UInt8}
    (h : NodeAt w k b pre n (upd v i v') c) (hn : k.low < n) (hv : IsT w d v' (drop1 (M i) r2) B') (hc : ∀ j, j < n → j ≠ i → IsT w d (v j) (M j) (B j)) (he : ∀ i, i < n → ∃ key, M i key ≠ none)
    (inj : ∀ i j, i < n → j < n → c i = c j → i = j) (hp : ∀ i, i < n → ∀ key, M i key ≠ none → pvt key 0 = c i) (hb : ∀ i, i < n → ¬ B i b) (hb' : ¬ B' b) (hd : ∀ i j, i < n → j < n → i ≠ j → ∀ x, B i x → ¬ B j x) (hd' : ∀ j, j < n → j ≠ i → ∀ x, B' x → ¬ B j x) (hr : pvt r2 0 = c i) :
    IsT w (d + 1) (.iface k.ity (.pointer (some ⟨b, 0, none⟩))) (drop1 (join pre n M c) (pre ++ r2)) (fun x => x = b ∨ ∃ j, j < n ∧ upd B i B' j x) := by
  have hpp : ∀ j, j < n → ∀ key, upd M i (drop1 (M i) r2) j key ≠ none → pvt key 0 = c j := fun j hj key hk => by
    by_cases e : j = i
    · subst e
      rw [upd_same] at hk
      unfold drop1 at hk
      split at hk
      · exact absurd rfl hk
      · exact hp j hj key hk
    · rw [upd_ne _ _ e] at hk; exact hp j hj key hk
  have hT := IsT.node d k b pre n _ _ (upd M i (drop1 (M i) r2)) (upd B i B') hn h
    (fun j hj => by
      by_cases e : j = i
      · subst e; rw [upd_same, upd_same, upd_same]; exact hv
      · rw [upd_ne _ _ e, upd_ne _ _ e, upd_ne _ _ e]; exact hc j hj e)
    (fun j hj => by
      by_cases e : j = i
      · subst e; rw [upd_same]; exact hv.some
      · rw [upd_ne _ _ e]; exact he j hj) hpp
    (fun j hj => by
      by_cases e : j = i
      · subst e; rw [upd_same]; exact hb'
      · rw [upd_ne _ _ e]; exact hb j hj)
    (fun a j ha hj hne x => by
      by_cases e : a = i
      · subst e; rw [upd_same, upd_ne _ _ (Ne.symm hne)]; exact hd' j hj (Ne.symm hne) x
      · by_cases e2 : j = i
        · subst e2; rw [upd_same, upd_ne _ _ e]; exact fun h1 h2 => hd' a ha e x h2 h1
        · rw [upd_ne _ _ e, upd_ne _ _ e2]; exact hd a j ha hj hne x)
  have e1 : join pre n (upd M i (drop1 (M i) r2)) c = drop1 (join pre n M c) (pre ++ r2) := map_ext fun key x => by
    rw [join_iff inj hpp, drop1_iff, join_iff inj hp]
    constructor
    · rintro ⟨j, r, hj, rfl, hx⟩
      by_cases e2 : j = i
      · subst e2
        rw [upd_same, drop1_iff] at hx
        exact ⟨fun h => hx.1 (List.append_cancel_left h), j, r, hj, rfl, hx.2⟩
      · rw [upd_ne _ _ e2] at hx
        refine ⟨fun h => ?_, j, r, hj, rfl, hx⟩
        obtain rfl := List.append_cancel_left h
        exact e2 (inj j i hj hi (by rw [← hp j hj r (by rw [hx]; simp), hr]))
    · rintro ⟨h1, j, r, hj, rfl, hx⟩
      refine ⟨j, r, hj, rfl, ?_⟩
      by_cases e2 : j = i
      · subst e2
        rw [upd_same, drop1_iff]
        exact ⟨fun h => h1 (by rw [h]), hx⟩
      · rw [upd_ne _ _ e2]; exact hx
  rw [e1] at hT
  exact hT

/-- What 'delete' is given. -/
structure AskD (w : World) (d pb po si cap : Nat) (v : Value) (M : List UInt8 → Option (Nat × SS)) (B : Nat → Prop) (l : List UInt8) (ao : Option Addr) (x : Nat × SS) : Prop where
  cell : w.cell? ⟨pb, po, none⟩ = some v
  soft : w.frozen? ⟨pb, po, none⟩ = false
  tree : IsT w d v M B
  off : ¬ B pb
  good : Good M
  sl : Sl w ao cap l
  some_ : 0 < l.length
  at_ : si ≤ l.length
  there : M (l.drop si) = some x
def delRes (b : Nat) : Ending := .returned (.tuple #[.pointer (some ⟨b, 0, none⟩), .bool true])
abbrev DelCall (tb pb po si cap : Nat) (l : List UInt8) (ao : Option Addr) (w : World) (Q : Ending → World → Prop) : Prop :=
  Calls Tryz.prog 197 #[.pointer (some ⟨tb, 0, none⟩), .pointer (some ⟨pb, po, none⟩), .slice ao l.length cap, .int .i64 si] w Q

/-- The new tree at a node of which one child lost a text. -/
theorem del_turned (pb po b i d : Nat) (k : K) (pre r2 : List UInt8) (n : Nat) (v : Nat → Value) (c : Nat → UInt8) (M0 : Nat → List UInt8 → Option (Nat × SS)) (B0 : Nat → Nat → Prop) (w W w' : World)
    (hc : w.cell? ⟨pb, po, none⟩ = some (.iface k.ity (.pointer (some ⟨b, 0, none⟩)))) (hn2 : k.low < n) (hN : NodeAt w k b pre n v c) (hT : ∀ i, i < n → IsT w d (v i) (M0 i) (B0 i)) (he : ∀ i, i < n → ∃ key, M0 i key ≠ none)
    (hp : ∀ i, i < n → ∀ key, M0 i key ≠ none → pvt key 0 = c i) (hb : ∀ i, i < n → ¬ B0 i b) (hd : ∀ i j, i < n → j < n → i ≠ j → ∀ x, B0 i x → ¬ B0 j x) (hpb : ¬ (pb = b ∨ ∃ i, i < n ∧ B0 i pb)) (hi : i < n) (hr : pvt r2 0 = c i)
    (hX : Ext w W) (hG : Lost W w' b i (M0 i) (B0 i) r2) : Lost w w' pb po (join pre n M0 c) (fun x => x = b ∨ ∃ i, i < n ∧ B0 i x) (pre ++ r2) := by
  obtain ⟨d', v', B', hK, hP, hT', hB'⟩ := hG
  obtain ⟨t, y, rfl⟩ := hT'.ifc
  have hlt := hN.lt
  have hsz := hX.size
  have hK2 : Kp (fun x => B0 i x ∨ x = b) w w' := (hX.kp).trans hK fun _ _ h => h
  have hb' : ¬ B' b := fun h => by
    rcases hB' b h with h | h
    · exact hb i hi h
    · omega
  have hdis : ∀ j, j < n → j ≠ i → ∀ x, B' x → ¬ B0 j x := fun j hj hji x h1 h2 => by
    rcases hB' x h1 with h | h
    · exact hd i j hi hj (Ne.symm hji) x h h2
    · have := (hT j hj).lt x h2
      omega
  have hkids : ∀ j, j < n → j ≠ i → IsT w' (max d d') (v j) (M0 j) (B0 j) := fun j hj hji =>
    ((hT j hj).keep hK2 fun x h1 h2 => by
      rcases h2 with h2 | rfl
      · exact hd j i hj hi hji x h1 h2
      · exact hb j hj h1).up (Nat.le_max_left _ _)
  refine ⟨max d d' + 1, _, _, hK2.mono ?_, Put.same hc fun cs T h => h.keep hK2 ?_, isT_turnD hi (setChildAt (hN.keep hX id) hi hP) hn2 (hT'.up (Nat.le_max_right _ _)) hkids he hN.inj hp hb hb' hd hdis hr, ?_⟩
  · rintro x _ (h | h)
    · exact .inl (.inr ⟨i, hi, h⟩)
    · exact .inl (.inl h)
  · rintro (h | h)
    · exact hpb (.inr ⟨i, hi, h⟩)
    · exact hpb (.inl h)
  · rintro x (h | ⟨j, hj, h⟩)
    · exact .inl (.inl h)
    · by_cases e : j = i
      · subst e
        rw [upd_same] at h
        rcases hB' x h with h | h
        · exact .inl (.inr ⟨j, hj, h⟩)
        · exact .inr (by omega)
      · rw [upd_ne _ _ e] at h
        exact .inl (.inr ⟨j, hj, h⟩)

theorem K.low_pos (k : K) : 1 ≤ k.low := by cases k <;> decide
theorem K.prev_low {k : K} {n : Nat} (hk : k ≠ .k4) (h : k.low < n) (h2 : ¬ k.low < n - 1) : k.prev.low < n - 1 := by
  cases k <;> simp only [K.prev, K.low] at * <;> first | omega | exact absurd rfl hk

theorem delete197 : ∀ (d : Nat) (tb pb po si cap : Nat) (k0 : K) (b0 : Nat) (M : List UInt8 → Option (Nat × SS)) (B : Nat → Prop) (l : List UInt8) (ao : Option Addr) (x : Nat × SS) (w : World),
    AskD w d pb po si cap (.iface k0.ity (.pointer (some ⟨b0, 0, none⟩))) M B l ao x → DelCall tb pb po si cap l ao w fun e w' => e = delRes x.1 ∧ Lost w w' pb po M B (l.drop si) := by
  intro d
  induction d with
  | zero =>
    intro tb pb po si cap k0 b0 M B l ao x w A
    obtain ⟨v0, hv0⟩ : ∃ v0, Value.iface k0.ity (.pointer (some ⟨b0, 0, none⟩)) = v0 := ⟨_, rfl⟩
    rw [hv0] at A
    have hT := A.tree
    generalize hd0 : (0 : Nat) = d0 at hT
    cases hT with
    | leaf d b suf s0 h => simp at hv0; cases k0 <;> simp [K.ity] at hv0
    | node => omega
  | succ d ih =>
    intro tb pb po si cap k0 b0 M B l ao x w A
    obtain ⟨v0, hv0⟩ : ∃ v0, Value.iface k0.ity (.pointer (some ⟨b0, 0, none⟩)) = v0 := ⟨_, rfl⟩
    rw [hv0] at A
    have hT := A.tree
    generalize hd0 : d + 1 = d0 at hT
    cases hT with
    | leaf d' b suf s0 h => simp at hv0; cases k0 <;> simp [K.ity] at hv0
    | node d' k b pre n v c M0 B0 hn hN hT he hp hb hd =>
      obtain rfl : d = d' := by omega
      have hk0 : k0 = k := by
        simp at hv0
        have := hv0.1
        cases k0 <;> cases k <;> first | rfl | (simp [K.ity] at this)
      have hb0 : b0 = b := by simp at hv0; exact hv0.2
      subst hk0 hb0
      clear hv0
      have inj := hN.inj
      have hgp := A.good.pre inj hp (by omega) (he 0 (by omega))
      have hne : pb ≠ b0 := fun e => A.off (.inl e)
      obtain ⟨r2, i, hr, hi, hci, hMi⟩ := join_ne (by rw [A.there]; simp)
      have hat := A.at_
      have hlen : (l.drop si).length = pre.length + r2.length := by rw [hr, List.length_append]
      rw [List.length_drop] at hlen
      have hq : si + pre.length ≤ l.length := by omega
      have hr2 : r2 = l.drop (si + pre.length) := by
        rw [← List.drop_drop, hr, List.drop_left]
      have hpm : (l.take (si + pre.length)).drop si = pre := by
        rw [List.drop_take, hr, show si + pre.length - si = pre.length by omega, List.take_left]
      have hpv : pvt r2 0 = pvt l (si + pre.length) := by rw [hr2, pvt_drop]
      have hix : ix n c (pvt l (si + pre.length)) = i + 1 := by rw [← hpv, ← hci]; exact ix_hit inj hi
      have hxi : M0 i r2 = some x := by
        have := A.there
        rw [hr, join_at inj hi hci.symm] at this
        exact this
      have hlt := hN.lt
      have hkeep : ∀ {w' : World} {F : Nat → Prop} (_ : Kp F w w') (_ : ∀ y, F y → y = b0 ∨ y = pb ∨ B0 i y) (j : Nat), j < n → j ≠ i → IsT w' d (v j) (M0 j) (B0 j) := fun hK hF j hj hji => (hT j hj).keep hK fun y h1 h2 => by
        rcases hF y h2 with rfl | rfl | h3
        · exact hb j hj h1
        · exact A.off (.inr ⟨j, hj, h1⟩)
        · exact hd j i hj hi hji y h1 h3
      have hTi := hT i hi
      obtain ⟨vi, hvi⟩ : ∃ vi, v i = vi := ⟨_, rfl⟩
      obtain ⟨Mi, hMi'⟩ : ∃ Mi, M0 i = Mi := ⟨_, rfl⟩
      obtain ⟨Bi, hBi⟩ : ∃ Bi, B0 i = Bi := ⟨_, rfl⟩
      obtain ⟨d1, hd1⟩ : ∃ d1, d = d1 := ⟨_, rfl⟩
      rw [hvi, hMi', hBi, hd1] at hTi
      cases hTi with
      | node d2 k2 b2 pre2 n2 v2 c2 M2 B2 =>
        have hrec : ∀ W, Ext w W → DelCall tb b0 i (si + pre.length) cap l ao W fun e w' => e = delRes x.1 ∧ Lost W w' b0 i (M0 i) (B0 i) r2 := fun W hX => by
          rw [hr2]
          exact ih tb b0 i (si + pre.length) cap k2 b2 (M0 i) (B0 i) l ao x W
            { cell := (hX.cell id hN.lt).trans (by rw [← hvi]; exact hN.childCell hi)
              soft := by obtain ⟨cs, hB, _⟩ := hN.keep hX id; exact hB.frozen i
              tree := by rw [← hvi]; exact (hT i hi).keep hX fun _ _ => id
              off := hb i hi
              good := A.good.sub inj hp hi
              sl := A.sl.ext hX
              some_ := A.some_
              at_ := hq
              there := by rw [← hr2]; exact hxi }
        refine Calls.mono (R := fun e w' => e = delRes x.1 ∧ ∃ W, Ext w W ∧ Lost W w' b0 i (M0 i) (B0 i) r2) ?_ ?_
        · by_cases hz : pre.length = 0
          · obtain rfl : pre = [] := List.eq_nil_of_length_eq_zero hz
            exact del_desc0 tb pb po b0 si i k0 n v c l ao cap w A.cell A.sl A.at_ A.some_ hN hi hix k2 b2 hvi _ ⟨_, _, rfl⟩ _ hrec
          · exact del_desc1 tb pb po b0 si i k0 n v c l ao cap w A.cell A.sl A.at_ A.some_ pre _ rfl hq (by omega) hpm hN hi hix k2 b2 hvi _ ⟨_, _, rfl⟩ _ hrec
        · rintro e w' ⟨rfl, W, hX, hG⟩
          rw [hr]
          exact ⟨rfl, del_turned pb po b0 i d k0 pre r2 n v c M0 B0 w W w' A.cell hn hN hT he hp hb hd A.off hi hci.symm hX hG⟩
      | leaf d2 lb suf s0 hlf =>
        have hsx : r2 = suf ∧ x = (lb, s0) := by
          rw [hMi'] at hxi
          exact leafM_iff.1 hxi
        obtain ⟨rfl, rfl⟩ := hsx
        rw [hr2] at hlf
        have hMi1 : ∀ key, M0 i key ≠ none → key = r2 := fun key hk => by
          rw [hMi'] at hk
          by_cases e : key = r2
          · exact e
          · simp [e] at hk
        have hlg := less_gone (v := v) (c := c) hi
        by_cases hlow : k0.low < n - 1
        · refine Calls.mono (R := fun e w' => e = delRes lb ∧ NodeAt w' k0 b0 pre (n - 1) (gone v n i) (gone c n i) ∧ Kp (· = b0) w w') ?_ ?_
          · by_cases hz : pre.length = 0
            · obtain rfl : pre = [] := List.eq_nil_of_length_eq_zero hz
              exact del_stay0 tb pb po b0 si i k0 n v c l ao cap w A.cell A.sl A.at_ A.some_ hN hi hix lb s0 hvi hlf hlow
            · exact del_stay1 tb pb po b0 si i k0 n v c l ao cap w A.cell A.sl A.at_ A.some_ pre _ rfl hq (by omega) hpm hN hi hix lb s0 hvi hlf hlow
          · rintro e w' ⟨rfl, hN', hK⟩
            rw [hr]
            refine ⟨rfl, d + 1, _, _, hK.mono fun _ _ h => .inl (.inl h), Put.same A.cell fun cs T h => h.keep hK hne, isT_less hN' hlow hlg hi (hkeep hK fun y h => .inl h) inj hp (fun j hj _ => hb j hj) hd hMi1 hci.symm, ?_⟩
            rintro y (h | ⟨j, hj, h⟩)
            · exact .inl (.inl h)
            · exact .inl (.inr ⟨_, (hlg.1 j hj).1, h⟩)
        · by_cases hk4 : k0 = .k4
          · have hn1 : n - 1 = 1 := by rw [hk4] at hlow hn; simp only [K.low] at hlow hn; omega
            obtain ⟨j, hjn, hji, hgj, hall⟩ : ∃ j, j < n ∧ j ≠ i ∧ gone v n i 0 = v j ∧ ∀ a, a < n → a ≠ i → a = j := by
              have h1 := hlg.1 0 (by omega)
              refine ⟨_, h1.1, h1.2.1, h1.2.2.1, fun a ha hne => ?_⟩
              obtain ⟨j', hj', e⟩ := hlg.2 a ha hne
              obtain rfl : j' = 0 := by omega
              exact e.symm
            have hTj := hT j hjn
            obtain ⟨vj, hvj⟩ : ∃ vj, v j = vj := ⟨_, rfl⟩
            obtain ⟨Mj, hMj⟩ : ∃ Mj, M0 j = Mj := ⟨_, rfl⟩
            obtain ⟨Bj, hBj⟩ : ∃ Bj, B0 j = Bj := ⟨_, rfl⟩
            rw [hvj, hMj, hBj] at hTj
            have hgj' := hgj.trans hvj
            have hGj := A.good.sub inj hp hjn
            rw [hMj] at hGj
            have hjb : ∀ y, Bj y → y ≠ b0 ∧ y ≠ pb := fun y hy => by
              rw [← hBj] at hy
              exact ⟨fun e => hb j hjn (e ▸ hy), fun e => A.off (.inr ⟨j, hjn, e ▸ hy⟩)⟩
            cases hTj with
            | leaf d3 b3 suf3 s3 hl3 =>
              have hjb3 := hjb b3 rfl
              refine Calls.mono (R := fun e w' => e = delRes lb ∧ Blk w' b3 (s3.cells (pre ++ suf3)) 269 ∧ Kp (fun x => x = b0 ∨ x = b3 ∨ x = pb) w w' ∧ Put pb po (.iface 267 (.pointer (some ⟨b3, 0, none⟩))) w w') ?_ ?_
              · by_cases hz : pre.length = 0
                · obtain rfl : pre = [] := List.eq_nil_of_length_eq_zero hz
                  exact del_leaf0 tb pb po b0 si i k0 n v c l ao cap w A.cell A.sl A.at_ A.some_ hN hi hix lb s0 hvi hlf hk4 hn1 b3 s3 suf3 hgj' hl3 hjb3.1 (Ne.symm hjb3.2) hne A.soft (hGj suf3 (by simp)).2 (by simp)
                · exact del_leaf1 tb pb po b0 si i k0 n v c l ao cap w A.cell A.sl A.at_ A.some_ pre _ rfl hq (by omega) hpm hN hi hix lb s0 hvi hlf hk4 hn1 b3 s3 suf3 hgj' hl3 hjb3.1 (Ne.symm hjb3.2) hne A.soft (hGj suf3 (by simp)).2 hgp.2
              · rintro e w' ⟨rfl, hL', hK, hP⟩
                have e1 : drop1 (join pre n M0 c) (l.drop si) = leafM b3 (pre ++ suf3) s3 := map_ext fun key y => by
                  rw [hr, drop1_iff, join_iff inj hp, leafM_iff]
                  constructor
                  · rintro ⟨h1, a, r, ha, rfl, hy⟩
                    by_cases e : a = i
                    · subst e
                      exact absurd (by rw [hMi1 r (by rw [hy]; simp)]) h1
                    · obtain rfl := hall a ha e
                      rw [hMj] at hy
                      have := leafM_iff.1 hy
                      exact ⟨by rw [this.1], this.2⟩
                  · rintro ⟨rfl, rfl⟩
                    refine ⟨fun e => ?_, j, suf3, hjn, rfl, by rw [hMj]; exact leafM_iff.2 ⟨rfl, rfl⟩⟩
                    have h3 := List.append_cancel_left e
                    exact hji (inj j i hjn hi (by rw [← hp j hjn suf3 (by rw [hMj]; simp), h3, hci]))
                refine ⟨rfl, 0, _, fun y => y = b3, hK.mono ?_, hP, by rw [e1]; exact .leaf 0 b3 _ s3 hL', ?_⟩
                · rintro y _ (h | h | h)
                  · exact .inl (.inl h)
                  · exact .inl (.inr ⟨j, hjn, by rw [hBj]; exact h⟩)
                  · exact .inr h
                · rintro y rfl
                  exact .inl (.inr ⟨j, hjn, by rw [hBj]⟩)
            | node d3 k3 b3 pre3 n3 v3 c3 M3 B3 hn3 hN3 hT3 he3 hp3 hb3 hd3 =>
              have hjb3 := hjb b3 (.inl rfl)
              have hpre3 := (hGj.pre hN3.inj hp3 (by omega) (he3 0 (by omega))).2
              refine Calls.mono (R := fun e w' => e = delRes lb ∧ ∃ k' b' p' n' v' c', (k' = k3 ∧ b' = b3 ∧ p' = pre3 ∧ n' = n3 ∧ v' = v3 ∧ c' = c3) ∧ NodeAt w' k' b' (pre ++ p') n' v' c' ∧ Kp (fun x => x = b0 ∨ x = b' ∨ x = pb) w w' ∧ Put pb po (.iface k'.ity (.pointer (some ⟨b', 0, none⟩))) w w') ?_ ?_
              · have hsh : ∀ W, NodeAt W k0 b0 pre (n - 1) (gone v n i) (gone c n i) → Kp (· = b0) w W → Calls Tryz.prog k0.fShrink #[.pointer (some ⟨b0, 0, none⟩)] W fun e w' => ∃ k' b' p' n' v' c', e = .returned (.iface k'.ity (.pointer (some ⟨b', 0, none⟩))) ∧ b' ≠ b0 ∧ b' ≠ pb ∧ p'.length ≤ 1099511627776 ∧ NodeAt w' k' b' p' n' v' c' ∧ Ext W w' ∧ (k' = k3 ∧ b' = b3 ∧ p' = pre3 ∧ n' = n3 ∧ v' = v3 ∧ c' = c3) := fun W hW hKW => by
                  refine (shrink_one k0 b0 pre (n - 1) _ _ W hk4 hn1 hW).mono ?_
                  rintro e w' ⟨rfl, rfl⟩
                  exact ⟨k3, b3, pre3, n3, v3, c3, by rw [hgj'], hjb3.1, hjb3.2, hpre3, hN3.keep hKW hjb3.1, Kp.refl _ _, rfl, rfl, rfl, rfl, rfl, rfl⟩
                by_cases hz : pre.length = 0
                · obtain rfl : pre = [] := List.eq_nil_of_length_eq_zero hz
                  exact del_node0 tb pb po b0 si i k0 n v c l ao cap w A.cell A.sl A.at_ A.some_ hN hi hix lb s0 hvi hlf _ hne A.soft (by simp) hsh
                · exact del_node1 tb pb po b0 si i k0 n v c l ao cap w A.cell A.sl A.at_ A.some_ pre _ rfl hq (by omega) hpm hN hi hix lb s0 hvi hlf _ hne A.soft hgp.2 hsh
              · rintro e w' ⟨rfl, k', b', p', n', v', c', ⟨hk', hb', hp', hn', hv', hc'⟩, hN', hK, hP⟩
                rw [hk', hb', hp', hn', hv', hc'] at hN'
                rw [hb'] at hK
                rw [hk', hb'] at hP
                have hT' : ∀ a, a < n3 → IsT w' d3 (v3 a) (M3 a) (B3 a) := fun a ha => (hT3 a ha).keep hK fun y h1 h2 => by
                  have h4 := hjb y (.inr ⟨a, ha, h1⟩)
                  rcases h2 with h2 | rfl | h2
                  · exact h4.1 h2
                  · exact hb3 a ha h1
                  · exact h4.2 h2
                have hfin := IsT.node d3 k3 b3 (pre ++ pre3) n3 v3 c3 M3 B3 hn3 hN' hT' he3 hp3 hb3 hd3
                have e1 : join (pre ++ pre3) n3 M3 c3 = drop1 (join pre n M0 c) (l.drop si) := map_ext fun key y => by
                  rw [hr, drop1_iff, join_iff inj hp, join_iff hN3.inj hp3]
                  constructor
                  · rintro ⟨a, r, ha, rfl, hy⟩
                    have hj3 : M0 j (pre3 ++ r) = some y := by rw [hMj]; exact (join_iff hN3.inj hp3 _ _).2 ⟨a, r, ha, rfl, hy⟩
                    refine ⟨fun e => ?_, j, pre3 ++ r, hjn, by rw [List.append_assoc], hj3⟩
                    rw [List.append_assoc] at e
                    have h3 := List.append_cancel_left e
                    exact hji (inj j i hjn hi (by rw [← hp j hjn _ (by rw [hj3]; simp), h3, hci]))
                  · rintro ⟨h1, a, r, ha, rfl, hy⟩
                    by_cases e : a = i
                    · subst e
                      exact absurd (by rw [hMi1 r (by rw [hy]; simp)]) h1
                    · obtain rfl := hall a ha e
                      rw [hMj] at hy
                      obtain ⟨a', r', ha', rfl, hy'⟩ := (join_iff hN3.inj hp3 _ _).1 hy
                      exact ⟨a', r', ha', by rw [List.append_assoc], hy'⟩
                rw [e1] at hfin
                refine ⟨rfl, _, _, _, hK.mono ?_, hP, hfin, ?_⟩
                · rintro y _ (h | h | h)
                  · exact .inl (.inl h)
                  · exact .inl (.inr ⟨j, hjn, by rw [hBj]; exact .inl h⟩)
                  · exact .inr h
                · rintro y h
                  exact .inl (.inr ⟨j, hjn, by rw [hBj]; exact h⟩)
          · refine Calls.mono (R := fun e w' => e = delRes lb ∧ ∃ k' b' p' n' v' c', (k' = k0.prev ∧ w.heap.size ≤ b' ∧ p' = [] ∧ n' = n - 1 ∧ Moved (n - 1) (gone v n i) (gone c n i) 256 (n - 1) v' c') ∧ NodeAt w' k' b' (pre ++ p') n' v' c' ∧ Kp (fun x => x = b0 ∨ x = b' ∨ x = pb) w w' ∧ Put pb po (.iface k'.ity (.pointer (some ⟨b', 0, none⟩))) w w') ?_ ?_
            · have hlp := K.low_pos k0
              have hpbl : pb < w.heap.size := World.block_lt_of_cell? w _ A.cell
              have hsh : ∀ W, NodeAt W k0 b0 pre (n - 1) (gone v n i) (gone c n i) → Kp (· = b0) w W → Calls Tryz.prog k0.fShrink #[.pointer (some ⟨b0, 0, none⟩)] W fun e w' => ∃ k' b' p' n' v' c', e = .returned (.iface k'.ity (.pointer (some ⟨b', 0, none⟩))) ∧ b' ≠ b0 ∧ b' ≠ pb ∧ p'.length ≤ 1099511627776 ∧ NodeAt w' k' b' p' n' v' c' ∧ Ext W w' ∧ (k' = k0.prev ∧ w.heap.size ≤ b' ∧ p' = [] ∧ n' = n - 1 ∧ Moved (n - 1) (gone v n i) (gone c n i) 256 (n - 1) v' c') := fun W hW hKW => by
                refine (shrink_prev k0 b0 pre (n - 1) _ _ W hk4 (by omega) (by omega) hW).mono ?_
                rintro e w' ⟨g, v', c', h1, rfl, h2, h3, h4⟩
                have := hKW.size
                exact ⟨_, g, [], n - 1, v', c', rfl, by omega, by omega, by simp, h2, h4, rfl, by omega, rfl, rfl, h3⟩
              by_cases hz : pre.length = 0
              · obtain rfl : pre = [] := List.eq_nil_of_length_eq_zero hz
                exact del_node0 tb pb po b0 si i k0 n v c l ao cap w A.cell A.sl A.at_ A.some_ hN hi hix lb s0 hvi hlf _ hne A.soft (by simp) hsh
              · exact del_node1 tb pb po b0 si i k0 n v c l ao cap w A.cell A.sl A.at_ A.some_ pre _ rfl hq (by omega) hpm hN hi hix lb s0 hvi hlf _ hne A.soft hgp.2 hsh
            · rintro e w' ⟨rfl, _, g, _, _, v', c', ⟨rfl, hg, rfl, rfl, hm⟩, hN', hK, hP⟩
              rw [List.append_nil] at hN'
              have hginj : ∀ a b, a < n - 1 → b < n - 1 → gone c n i a = gone c n i b → a = b := gone_inj inj hi
              obtain ⟨τ, hτ⟩ := less_moved hlg hm hginj
              have hK' : Kp (fun y => y = b0 ∨ y = pb) w w' := hK.mono fun y hy h => by
                rcases h with h | h | h
                · exact .inl h
                · omega
                · exact .inr h
              rw [hr]
              refine ⟨rfl, d + 1, _, _, hK'.mono fun _ _ h => h.imp (fun h => .inl h) id, hP, isT_less hN' (K.prev_low hk4 hn hlow) hτ hi (hkeep hK' fun y h => h.imp id fun h => .inl h) inj hp (fun j hj _ h => by have := (hT j hj).lt _ h; omega) hd hMi1 hci.symm, ?_⟩
              rintro y (h | ⟨j, hj, h⟩)
              · exact .inr (by omega)
              · exact .inl (.inr ⟨_, (hτ.1 j hj).1, h⟩)
end Go.Proofs.YtbehafhkgbjgmaaGreatDoor

/-
  The tree of subjects as a whole: 'Delete' of a text that is there, 'Size', a new tree, what is kept of a text. No condition beyond that the texts are short.
-/
namespace Go.Proofs.YtbehafhkgbjgmaaGreatDoor
open Go Go.RowKit
set_option maxRecDepth 100000

set_option maxHeartbeats 1000000 in
theorem del_root (tb pb po lb : Nat) (l : List UInt8) (ao : Option Addr) (cap : Nat) (s0 : SS) (w : World) (hpc : w.cell? ⟨pb, po, none⟩ = some (.iface 267 (.pointer (some ⟨lb, 0, none⟩)))) (hpf : w.frozen? ⟨pb, po, none⟩ = false)
    (hS : Sl w ao cap l) (hl0 : 0 < l.length) (hlf : Blk w lb (s0.cells l) 269) :
    Calls Tryz.prog 197 #[.pointer (some ⟨tb, 0, none⟩), .pointer (some ⟨pb, po, none⟩), .slice ao l.length cap, .int .i64 0] w fun e w' => e = delRes lb ∧ Kp (· = pb) w w' ∧ Put pb po .nilIface w w' := by
  unfold delRes
  have hlt : pb < w.heap.size := World.block_lt_of_cell? w _ hpc
  have hl1 : ¬ ((l.length : Int) = 0) := by omega
  have HS := Lib.hid hS
  have hm := m_isLeaf_leaf ⟨lb, 0, none⟩
  have hta := ta_leaf
  have hcut : ∀ w', (Instr.slice 36 (.slice ao l.length cap) (some (.int .i64 0)) none none).run Tryz.prog w' = .ok (.slice (cutAt ao cap 0) l.length (cap - 0)) w' := fun w' => cutEnd36 hS (k := 0) (Nat.zero_le _) w'
  have HSc : Hid (Sl w (cutAt ao cap 0) (cap - 0) l) := hS.cutEnd (k := 0) (Nat.zero_le _)
  have h5 : w.cell? ⟨lb, 5, none⟩ = some (.string (str l)) := (hlf.cell 5).trans rfl
  have hbq : (l == l) = true := by simp
  clear hS hlf hl0
  go_enter Tryz.func197, Tryz.ntmps197
  go_wp2_with fail
  refine (leafIsLeaf _ _).mono ?_
  rintro e w2 ⟨rfl, rfl⟩
  go_wp2_with fail
  (with_reducible refine (match_any lb (str l) l _ _ w h5 HSc.out.bytes HSc.out.plain).mono ?_)
  rw [str_data, hbq]
  rintro e w5 ⟨rfl, hE5⟩
  have HE := Lib.hid hE5
  have hpc5 := (hE5.cell id hlt).trans hpc
  have hpf5 := (hE5.frozen id hlt).trans hpf
  clear hE5
  go_wp2_with fail
  go_ret2
  exact ⟨rfl, Kp.setCell (F := (· = pb)) (Ext.kp HE.out) (.inl rfl) _, fun cs T h => (h.keep HE.out id).set _ _⟩

/-- 'delete' from the root. -/
theorem delRoot (tb cap d : Nat) (root : Value) (sz : Int) (M : List UInt8 → Option (Nat × SS)) (B : Nat → Prop) (l : List UInt8) (ao : Option Addr) (x : Nat × SS) (w : World)
    (hB : Blk w tb #[root, .int .i64 sz] 201) (ht : ¬ B tb) (hT : IsT w d root M B) (hG : Good M) (hS : Sl w ao cap l) (hl : 0 < l.length) (hn : M l = some x) :
    Calls Tryz.prog 197 #[.pointer (some ⟨tb, 0, none⟩), .pointer (some ⟨tb, 0, none⟩), .slice ao l.length cap, .int .i64 0] w fun e w' => e = delRes x.1 ∧ ∃ root' B', Blk w' tb #[root', .int .i64 sz] 201 ∧ ¬ B' tb ∧
      ((root' = .nilIface ∧ (∀ key, drop1 M l key = none) ∧ ∀ x, ¬ B' x) ∨ ∃ d', IsT w' d' root' (drop1 M l) B') ∧ Kp (fun x => B x ∨ x = tb) w w' ∧ ∀ x, B' x → B x ∨ w.heap.size ≤ x := by
  have hlt := hB.lt
  have hT0 := hT
  cases hT with
  | leaf d b suf s h =>
    have := leafM_iff.1 hn
    obtain ⟨rfl, rfl⟩ := this
    refine (del_root tb tb 0 b l ao cap s w (hB.cell 0) (hB.frozen 0) hS hl h).mono ?_
    rintro e w' ⟨rfl, hK, hP⟩
    refine ⟨rfl, .nilIface, fun _ => False, hP _ _ hB, id, .inl ⟨rfl, fun key => ?_, fun _ => id⟩, hK.mono fun _ _ h => .inr h, fun _ h => h.elim⟩
    unfold drop1
    by_cases e : key = l <;> simp [e]
  | node d k b pre n v c M0 B0 hn' hN hT hp hb hd =>
    refine (delete197 _ tb tb 0 0 cap k b _ _ l ao x w ⟨hB.cell 0, hB.frozen 0, hT0, ht, hG, hS, hl, Nat.zero_le _, by simpa using hn⟩).mono ?_
    rintro e w' ⟨rfl, d', v', B', hK, hP, hT', hB'⟩
    refine ⟨rfl, v', B', hP _ _ hB, fun h => ?_, .inr ⟨d', by simpa using hT'⟩, hK, hB'⟩
    rcases hB' tb h with h | h
    · exact ht h
    · omega

set_option maxHeartbeats 1000000 in
theorem delete142 (tb cap : Nat) (M : List UInt8 → Option (Nat × SS)) (B : Nat → Prop) (l : List UInt8) (ao : Option Addr) (x : Nat × SS) (w : World)
    (hT : Tr w tb M B) (hG : Good M) (hS : Sl w ao cap l) (hl : 0 < l.length) (hn : M l = some x) :
    Calls Tryz.prog 142 #[.pointer (some ⟨tb, 0, none⟩), .slice ao l.length cap] w fun e w' => e = delRes x.1 ∧ ∃ B', Tr w' tb (drop1 M l) B' ∧ Kp (fun x => B x ∨ x = tb) w w' ∧ ∀ x, B' x → B x ∨ w.heap.size ≤ x := by
  obtain ⟨root, sz, hB, ht, hT⟩ := hT
  obtain ⟨d, hT⟩ : ∃ d, IsT w d root M B := by
    rcases hT with ⟨_, h, _⟩ | h
    · rw [h l] at hn; simp at hn
    · exact h
  have hcon := Lib.hid (delRoot tb cap d root sz M B l ao x w hB ht hT hG hS hl hn)
  clear hT hB hS
  unfold delRes at *
  go_enter Tryz.func142, Tryz.ntmps142
  go_wp2_with fail
  refine hcon.out.mono ?_
  rintro e w3 ⟨rfl, root', B', h1, h2, h3, h4, h5⟩
  have c1 : w3.cell? ⟨tb, 1, none⟩ = some (.int .i64 sz) := h1.cell 1
  have f1 : w3.frozen? ⟨tb, 1, none⟩ = false := h1.frozen 1
  have H1 := Lib.hid h1
  have H2 := Lib.hid h2
  have H3 := Lib.hid h3
  have H4 := Lib.hid h4
  have H5 := Lib.hid h5
  clear h1 h2 h3 h4 h5
  go_wp2_with fail
  go_ret2
  refine ⟨rfl, B', ⟨root', _, H1.out.set 1 _, H2.out, H3.out.imp id ?_⟩, Kp.setCell H4.out (.inl (.inr rfl)) _, H5.out⟩
  rintro ⟨d', hT'⟩
  exact ⟨d', hT'.keep (Kp.setCell (F := (· = tb)) (Kp.refl _ _) (.inl rfl) _) (by rintro x hx rfl; exact H2.out hx)⟩

theorem size67 (tb : Nat) (M : List UInt8 → Option (Nat × SS)) (B : Nat → Prop) (w : World) (hT : Tr w tb M B) : Calls Tryz.prog 67 #[.pointer (some ⟨tb, 0, none⟩)] w fun e w' => (∃ sz, e = .returned (.int .i64 sz)) ∧ w = w' := by
  obtain ⟨root, sz, hB, _, _⟩ := hT
  have h1 : w.cell? ⟨tb, 1, none⟩ = some (.int .i64 sz) := hB.cell 1
  clear hB
  go_enter Tryz.func67, Tryz.ntmps67
  go_wp2_with fail
  go_ret
  exact ⟨⟨_, rfl⟩, rfl⟩

theorem new117 (w : World) : Calls Tryz.prog 117 #[] w fun e w' => ∃ tb, w.heap.size ≤ tb ∧ e = .returned (.pointer (some ⟨tb, 0, none⟩)) ∧ Tr w' tb (fun _ => none) (fun _ => False) ∧ Ext w w' := by
  go_enter Tryz.func117, Tryz.ntmps117
  go_wp2_with fail
  go_ret
  exact ⟨w.heap.size, Nat.le_refl _, rfl, ⟨.nilIface, 0, Blk.new _ _ _, id, .inl ⟨rfl, fun _ => rfl, fun _ => id⟩⟩, (Kp.refl _ _).alloc _⟩

theorem IsT.leafAt {w : World} {d : Nat} {v : Value} {M : List UInt8 → Option (Nat × SS)} {B : Nat → Prop} (h : IsT w d v M B) : ∀ {key : List UInt8} {b : Nat} {s : SS}, M key = Option.some (b, s) → B b ∧ ∃ suf, Blk w b (s.cells suf) 269 := by
  induction h with
  | leaf d b suf s h =>
    intro key b' s' e
    obtain ⟨rfl, e⟩ := leafM_iff.1 e
    simp at e
    obtain ⟨rfl, rfl⟩ := e
    exact ⟨rfl, _, h⟩
  | node d k b pre n v c M B hn h hc he hp hb hd ih =>
    intro key b' s' e
    obtain ⟨i, r, hi, rfl, e2⟩ := (join_iff h.inj hp _ _).1 e
    obtain ⟨h1, h2⟩ := ih i hi e2
    exact ⟨.inr ⟨i, hi, h1⟩, h2⟩
/-- A text's state turns. -/
theorem IsT.turn {w w' : World} {d : Nat} {v : Value} {M : List UInt8 → Option (Nat × SS)} {B : Nat → Prop} {b : Nat} {s s' : SS} (h : IsT w d v M B) (hK : Kp (· = b) w w') (hb : ∀ suf, Blk w b (s.cells suf) 269 → Blk w' b (s'.cells suf) 269) :
    ∀ {key : List UInt8}, M key = Option.some (b, s) → IsT w' d v (put1 M key (b, s')) B := by
  induction h with
  | leaf d b' suf s0 h =>
    intro key e
    obtain ⟨rfl, e⟩ := leafM_iff.1 e
    simp at e
    obtain ⟨rfl, rfl⟩ := e
    have e1 : put1 (leafM b' key s0) key (b', s') = leafM b' key s' := funext fun k' => by
      unfold put1 leafM
      by_cases h : k' = key <;> simp [h]
    change IsT w' d _ (put1 (leafM b' key s0) key (b', s')) _
    rw [e1]
    exact IsT.leaf d b' key s' (hb key h)
  | node d k b0 pre n v c M B hn h hc he hp hbb hd ih =>
    intro key e
    obtain ⟨i, r, hi, rfl, e2⟩ := (join_iff h.inj hp _ _).1 e
    have hBi := ((hc i hi).leafAt e2).1
    have hvi : upd v i (v i) = v := funext fun j => by unfold upd; split <;> simp_all
    have hBi' : upd B i (B i) = B := funext fun j => by unfold upd; split <;> simp_all
    have := isT_turn (y := (b, s')) hi (v' := v i) (B' := B i) (r2 := r) (by rw [hvi]; exact h.keep hK fun e => hbb i hi (e ▸ hBi)) hn (ih i hi e2)
      (fun j hj hji => (hc j hj).keep hK fun x hx e => hd i j hi hj (Ne.symm hji) x (e ▸ hBi) hx) he h.inj hp hbb (hbb i hi) hd (fun j hj hji x h1 h2 => hd i j hi hj (Ne.symm hji) x h1 h2) (hp i hi r (by rw [e2]; simp))
    rw [hBi'] at this
    exact this
theorem Tr.leafAt {w : World} {tb : Nat} {M : List UInt8 → Option (Nat × SS)} {B : Nat → Prop} (h : Tr w tb M B) {key : List UInt8} {b : Nat} {s : SS} (hk : M key = some (b, s)) : B b ∧ b ≠ tb ∧ ∃ suf, Blk w b (s.cells suf) 269 := by
  obtain ⟨root, sz, hB, ht, h⟩ := h
  rcases h with ⟨_, h, _⟩ | ⟨d, h⟩
  · rw [h] at hk; simp at hk
  · have := h.leafAt hk
    exact ⟨this.1, fun e => ht (e ▸ this.1), this.2⟩
theorem Tr.turn {w w' : World} {tb : Nat} {M : List UInt8 → Option (Nat × SS)} {B : Nat → Prop} {b : Nat} {s s' : SS} (h : Tr w tb M B) {key : List UInt8} (hk : M key = some (b, s)) (hK : Kp (· = b) w w') (hb : ∀ suf, Blk w b (s.cells suf) 269 → Blk w' b (s'.cells suf) 269) :
    Tr w' tb (put1 M key (b, s')) B := by
  have hne := (h.leafAt hk).2.1
  obtain ⟨root, sz, hB, ht, h⟩ := h
  refine ⟨root, sz, hB.keep hK (Ne.symm hne), ht, ?_⟩
  rcases h with ⟨_, h, _⟩ | ⟨d, h⟩
  · rw [h] at hk; simp at hk
  · exact .inr ⟨d, h.turn hK hb hk⟩

/-- 'Find' in a whole tree. -/
theorem Tr.find {w : World} {tb : Nat} {M : List UInt8 → Option (Nat × SS)} {B : Nat → Prop} (h : Tr w tb M B) (hG : Good M) {l : List UInt8} {ao : Option Addr} {cap : Nat} (hS : Sl w ao cap l) :
    Calls Tryz.prog 125 #[.pointer (some ⟨tb, 0, none⟩), .slice ao l.length cap] w fun e w' => e = found (M l) ∧ Ext w w' := by
  obtain ⟨root, sz, hB, ht, h⟩ := h
  rcases h with ⟨rfl, h, _⟩ | ⟨d, h⟩
  · rw [h]
    have h0 : w.cell? ⟨tb, 0, none⟩ = some .nilIface := hB.cell 0
    unfold found
    clear hB hS
    go_enter Tryz.func125, Tryz.ntmps125
    go_wp2_with fail
    clear h0
    go_loopg [6, 7] (0 : Nat) (fun k s x wr => s = .int .i64 0 ∧ x = .nilIface ∧ w = wr)
    case atStart => exact ⟨rfl, rfl, rfl⟩
    case round =>
      obtain ⟨rfl, rfl, rfl⟩ := hrel
      go_wp2_with fail
      go_ret2
      exact ⟨rfl, Kp.refl _ _⟩
  · exact find125 tb d root M B l ao cap w (hB.cell 0) h hG hS
end Go.Proofs.YtbehafhkgbjgmaaGreatDoor

/-
  The store in memory: what holds of all of it between two deeds. No condition.
-/
namespace Go.Proofs.YtbehafhkgbjgmaaGreatDoor
open Go Go.RowKit
set_option maxRecDepth 100000

/-- The store at the block ms: what it holds (s), its messages (q), the map's entries (l), the tree's texts (M, among K), the tree's blocks (B), the messages' blocks (U). -/
structure At (w : World) (ms : Nat) (K : List (List UInt8)) (s : Sto) (q : List Rec) (l : List (Nat × Nat)) (M : List UInt8 → Option (Nat × SS)) (B U : Nat → Prop) : Prop where
  blk : Blk w ms s.cells 91
  map : MapAt w s.r l
  tr : Tr w s.tb M B
  msgs : Msgs w U s.f l q
  root : s.root = .pointer none
  num : s.f + q.length = s.la + 1 ∨ (q = [] ∧ s.f = 0 ∧ s.la = 0)
  cnt : s.n = q.length
  byt : s.by' = total q
  low : s.la < 60
  sml : ∀ r, r ∈ q → r.subj ∈ K ∧ r.size ≤ 65536
  keys : ∀ key, M key ≠ none → key ∈ K
  kgood : K.length < 48 ∧ ∀ key, key ∈ K → (127 : UInt8) ∉ key ∧ 0 < key.length ∧ key.length ≤ 65536
  bms : ¬ B ms
  br : ¬ B s.r
  ums : ¬ U ms
  ur : ¬ U s.r
  utb : ¬ U s.tb
  bu : ∀ x, B x → ¬ U x
  ult : ∀ x, U x → x < w.heap.size

theorem At.good {w : World} {ms : Nat} {K : List (List UInt8)} {s : Sto} {q : List Rec} {l : List (Nat × Nat)} {M : List UInt8 → Option (Nat × SS)} {B U : Nat → Prop} (h : At w ms K s q l M B U) : Good M :=
  fun key hk => by
    have := h.kgood.2 key (h.keys key hk)
    exact ⟨this.1, by omega⟩
theorem At.few {w : World} {ms : Nat} {K : List (List UInt8)} {s : Sto} {q : List Rec} {l : List (Nat × Nat)} {M : List UInt8 → Option (Nat × SS)} {B U : Nat → Prop} (h : At w ms K s q l M B U) : Few M :=
  ⟨K, h.kgood.1, h.keys⟩
theorem Tr.ne {w : World} {tb b : Nat} {M : List UInt8 → Option (Nat × SS)} {B : Nat → Prop} {cs : Array Value} {T : TypeId} (h : Tr w tb M B) (h' : Blk w b cs T) (hT : T ≠ 201) : b ≠ tb := by
  obtain ⟨root, sz, hB, _⟩ := h
  exact h'.ne hB hT
theorem Tr.neMap {w : World} {tb r : Nat} {M : List UInt8 → Option (Nat × SS)} {B : Nat → Prop} {l : List (Nat × Nat)} (h : Tr w tb M B) (h' : MapAt w r l) : tb ≠ r := by
  obtain ⟨root, sz, hB, _⟩ := h
  exact hB.neMap h'

/-- All blocks that a store owns. -/
def Own (ms : Nat) (s : Sto) (B U : Nat → Prop) (x : Nat) : Prop := x = ms ∨ x = s.r ∨ x = s.tb ∨ B x ∨ U x
/-- A store at the block ms, its lock free: its limits (0: none), its messages q, its first and last numbers, the blocks that it owns. -/
def Holds (w : World) (ms : Nat) (K : List (List UInt8)) (mm mb : Nat) (q : List Rec) (f la : Nat) (O : Nat → Prop) : Prop :=
  ∃ s l M B U, At w ms K s q l M B U ∧ s.l0 = 0 ∧ s.l4 = 0 ∧ s.mm = mm ∧ s.mb = mb ∧ s.f = f ∧ s.la = la ∧ ∀ x, O x ↔ Own ms s B U x
/-- What a deed leaves. -/
def Done (ms : Nat) (K : List (List UInt8)) (mm mb : Nat) (O : Nat → Prop) (q' : List Rec) (f' la' : Nat) (w w' : World) : Prop :=
  ∃ O', Holds w' ms K mm mb q' f' la' O' ∧ Kp O w w' ∧ ∀ x, O' x → O x ∨ w.heap.size ≤ x
end Go.Proofs.YtbehafhkgbjgmaaGreatDoor
