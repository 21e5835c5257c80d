/-
  The tree of subjects: 'insert' of a new text, whatever the tree. No condition beyond that the texts are few, short and bear no byte 127.
-/
import Derived.Test.YtbehafhkgbjgmaaGreatDoorMb13
import Derived.Test.YtbehafhkgbjgmaaGreatDoorMb14
import Derived.Lib.BytesEntry
import Derived.Lib.IndexLaws
namespace Go.Proofs.YtbehafhkgbjgmaaGreatDoor
open Go Go.RowKit
set_option maxRecDepth 100000

/-- The texts are fewer than 48. -/
def Few (M : List UInt8 → Option (Nat × SS)) : Prop := ∃ L : List (List UInt8), L.length < 48 ∧ ∀ key, M key ≠ none → key ∈ L

theorem pigeon {α : Type} [DecidableEq α] : ∀ (n : Nat) (f : Nat → α) (L : List α), (∀ i, i < n → f i ∈ L) → (∀ i j, i < n → j < n → f i = f j → i = j) → n ≤ L.length
  | 0, _, _, _, _ => Nat.zero_le _
  | n + 1, f, L, hm, hi => by
    have h1 := hm n (Nat.lt_succ_self n)
    have := pigeon n f (L.erase (f n)) (fun i h => by
      have hne : f i ≠ f n := fun e => by have := hi i n (by omega) (by omega) e; omega
      exact (List.mem_erase_of_ne hne).2 (hm i (by omega))) (fun i j h k e => hi i j (by omega) (by omega) e)
    rw [List.length_erase_of_mem h1] at this
    have : 0 < L.length := List.length_pos_of_mem h1
    omega

section
variable {pre : List UInt8} {n : Nat} {M : Nat → List UInt8 → Option (Nat × SS)} {c : Nat → UInt8}
theorem join_iff (inj : ∀ i j, i < n → j < n → c i = c j → i = j) (hp : ∀ i, i < n → ∀ key, M i key ≠ none → pvt key 0 = c i) (key : List UInt8) (x : Nat × SS) :
    join pre n M c key = some x ↔ ∃ i r, i < n ∧ key = pre ++ r ∧ M i r = some x := by
  constructor
  · intro h
    obtain ⟨r, i, rfl, hi, hc, _⟩ := join_ne (by rw [h]; simp)
    rw [join_at inj hi hc.symm] at h
    exact ⟨i, r, hi, rfl, h⟩
  · rintro ⟨i, r, hi, rfl, h⟩
    rw [join_at inj hi (hp i hi r (by rw [h]; simp))]
    exact h
theorem Few.lt (h : Few (join pre n M c)) (inj : ∀ i j, i < n → j < n → c i = c j → i = j) (hp : ∀ i, i < n → ∀ key, M i key ≠ none → pvt key 0 = c i) (he : ∀ i, i < n → ∃ key, M i key ≠ none) : n < 48 := by
  obtain ⟨L, hL, hk⟩ := h
  have : ∃ f : Nat → List UInt8, ∀ i, i < n → M i (f i) ≠ none :=
    ⟨fun i => if h : i < n then (he i h).choose else [], fun i h => by simp only [h, dif_pos]; exact (he i h).choose_spec⟩
  obtain ⟨f, hf⟩ := this
  have := pigeon n (fun i => pre ++ f i) L (fun i hi => hk _ (by rw [join_at inj hi (hp i hi _ (hf i hi))]; exact hf i hi))
    (fun i j hi hj e => inj i j hi hj (by rw [← hp i hi _ (hf i hi), ← hp j hj _ (hf j hj), List.append_cancel_left e]))
  omega
theorem Few.sub (h : Few (join pre n M c)) (inj : ∀ i j, i < n → j < n → c i = c j → i = j) (hp : ∀ i, i < n → ∀ key, M i key ≠ none → pvt key 0 = c i) {i : Nat} (hi : i < n) : Few (M i) := by
  obtain ⟨L, hL, hk⟩ := h
  refine ⟨L.map (List.drop pre.length), by simpa using hL, fun key h => ?_⟩
  have := hk (pre ++ key) (by rw [join_at inj hi (hp i hi key h)]; exact h)
  exact List.mem_map.2 ⟨_, this, by simp⟩
end

/-- The texts with one more. -/
def put1 (M : List UInt8 → Option (Nat × SS)) (r : List UInt8) (x : Nat × SS) : List UInt8 → Option (Nat × SS) := fun key => if key = r then some x else M key
theorem put1_iff {M : List UInt8 → Option (Nat × SS)} {r : List UInt8} {x : Nat × SS} {key : List UInt8} {y : Nat × SS} : put1 M r x key = some y ↔ (key = r ∧ y = x) ∨ (key ≠ r ∧ M key = some y) := by
  unfold put1
  by_cases h : key = r
  · simp [h, eq_comm]
  · simp [h]
theorem map_ext {M N : List UInt8 → Option (Nat × SS)} (h : ∀ key x, M key = some x ↔ N key = some x) : M = N := funext fun key => Option.ext fun x => h key x

/-- What 'insert' leaves. -/
def Grew (w w' : World) (pb po : Nat) (M : List UInt8 → Option (Nat × SS)) (B : Nat → Prop) (r : List UInt8) (s : SS) : Prop :=
  ∃ d' v' B' nb, Kp (fun x => B x ∨ x = pb) w w' ∧ Put pb po v' w w' ∧ IsT w' d' v' (put1 M r (nb, s)) B' ∧ (∀ x, B' x → B x ∨ w.heap.size ≤ x)

def leafM (b : Nat) (suf : List UInt8) (s : SS) : List UInt8 → Option (Nat × SS) := fun key => if key = suf then some (b, s) else none
theorem leafM_iff {b : Nat} {suf : List UInt8} {s : SS} {key : List UInt8} {x : Nat × SS} : leafM b suf s key = some x ↔ key = suf ∧ x = (b, s) := by
  unfold leafM
  by_cases h : key = suf
  · simp [h, eq_comm]
  · simp [h]

theorem pvt_append {a b : List UInt8} (h : 0 < a.length) : pvt (a ++ b) 0 = pvt a 0 := by
  unfold pvt List.getD
  rw [List.getElem?_append_left h]

theorem two_cases {P : Nat → Prop} (h0 : P 0) (h1 : P 1) : ∀ i, i < 2 → P i := fun i hi => by
  rcases (by omega : i = 0 ∨ i = 1) with rfl | rfl
  · exact h0
  · exact h1

theorem K.next_low {k : K} {n : Nat} (h : k.cap ≤ n) (h48 : n < 48) : k.next.low < n + 1 := by
  cases k <;> simp only [K.next, K.low, K.cap] at * <;> omega

/-- A node with two children. -/
theorem isT_pair {w : World} {d b : Nat} {pre : List UInt8} {v0 : Nat → Value} {c0 : Nat → UInt8} {va vb : Value} {ca cb : UInt8} {Ma Mb : List UInt8 → Option (Nat × SS)} {Ba Bb : Nat → Prop}
    (h : NodeAt w .k4 b pre 2 (upd (upd v0 0 va) 1 vb) (upd (upd c0 0 ca) 1 cb)) (ha : IsT w d va Ma Ba) (hb : IsT w d vb Mb Bb) (hpa : ∀ key, Ma key ≠ none → pvt key 0 = ca) (hpb : ∀ key, Mb key ≠ none → pvt key 0 = cb)
    (hba : ¬ Ba b) (hbb : ¬ Bb b) (hd : ∀ x, Ba x → ¬ Bb x) {M : List UInt8 → Option (Nat × SS)} (hM : ∀ key x, M key = some x ↔ ∃ r, key = pre ++ r ∧ (Ma r = some x ∨ Mb r = some x)) :
    IsT w (d + 1) (.iface 316 (.pointer (some ⟨b, 0, none⟩))) M (fun x => x = b ∨ Ba x ∨ Bb x) := by
  have inj := h.inj
  have hpp : ∀ i, i < 2 → ∀ key, upd (upd (fun _ _ => none) 0 Ma) 1 Mb i key ≠ none → pvt key 0 = upd (upd c0 0 ca) 1 cb i := two_cases (fun key hk => hpa key hk) (fun key hk => hpb key hk)
  have hT := IsT.node d .k4 b pre 2 _ _ (upd (upd (fun _ _ => none) 0 Ma) 1 Mb) (upd (upd (fun _ _ => False) 0 Ba) 1 Bb) (by decide) h (two_cases ha hb) (two_cases ha.some hb.some) hpp (two_cases hba hbb)
    (fun i j hi hj hij x => by
      rcases (by omega : i = 0 ∧ j = 1 ∨ i = 1 ∧ j = 0) with ⟨rfl, rfl⟩ | ⟨rfl, rfl⟩
      · exact hd x
      · exact fun h1 h2 => hd x h2 h1)
  have e1 : join pre 2 (upd (upd (fun _ _ => none) 0 Ma) 1 Mb) (upd (upd c0 0 ca) 1 cb) = M := map_ext fun key x => by
    rw [join_iff inj hpp, hM]
    constructor
    · rintro ⟨i, r, hi, e, hx⟩
      refine ⟨r, e, ?_⟩
      rcases (by omega : i = 0 ∨ i = 1) with rfl | rfl
      · exact .inl hx
      · exact .inr hx
    · rintro ⟨r, e, hx | hx⟩
      · exact ⟨0, r, by omega, e, hx⟩
      · exact ⟨1, r, by omega, e, hx⟩
  have e2 : (fun x => x = b ∨ ∃ i, i < 2 ∧ upd (upd (fun _ _ => False) 0 Ba) 1 Bb i x) = (fun x => x = b ∨ Ba x ∨ Bb x) := funext fun x => propext (by
    constructor
    · rintro (h | ⟨i, hi, h⟩)
      · exact .inl h
      · rcases (by omega : i = 0 ∨ i = 1) with rfl | rfl
        · exact .inr (.inl h)
        · exact .inr (.inr h)
    · rintro (h | h | h)
      · exact .inl h
      · exact .inr ⟨0, by omega, h⟩
      · exact .inr ⟨1, by omega, h⟩)
  rw [e1, e2] at hT
  exact hT

/-- A node with one leaf more. -/
theorem isT_more {w : World} {d b nb : Nat} {k : K} {pre r2 : List UInt8} {n : Nat} {v : Nat → Value} {c : Nat → UInt8} {ch : UInt8} {s : SS} {M : Nat → List UInt8 → Option (Nat × SS)} {B : Nat → Nat → Prop}
    (h : NodeAt w k b pre (n + 1) (upd v n (.iface 267 (.pointer (some ⟨nb, 0, none⟩)))) (upd c n ch)) (hl : Blk w nb (s.cells r2) 269) (hn : k.low < n + 1) (hc : ∀ i, i < n → IsT w d (v i) (M i) (B i)) (he : ∀ i, i < n → ∃ key, M i key ≠ none)
    (inj : ∀ i j, i < n → j < n → c i = c j → i = j) (hp : ∀ i, i < n → ∀ key, M i key ≠ none → pvt key 0 = c i) (hb : ∀ i, i < n → ¬ B i b) (hd : ∀ i j, i < n → j < n → i ≠ j → ∀ x, B i x → ¬ B j x) (hnb : ∀ i, i < n → ¬ B i nb) (hne : b ≠ nb) (hr : pvt r2 0 = ch) (hr2 : ∀ i, i < n → c i ≠ ch) :
    IsT w (d + 1) (.iface k.ity (.pointer (some ⟨b, 0, none⟩))) (put1 (join pre n M c) (pre ++ r2) (nb, s)) (fun x => x = b ∨ x = nb ∨ ∃ i, i < n ∧ B i x) := by
  have injn := h.inj
  have hcase : ∀ {P : Nat → Prop}, (∀ i, i < n → P i) → P n → ∀ i, i < n + 1 → P i := fun h1 h2 i hi => by
    rcases (by omega : i < n ∨ i = n) with h | rfl
    · exact h1 i h
    · exact h2
  have hlt : ∀ {i}, i < n → i ≠ n := fun h => by omega
  have hpp : ∀ i, i < n + 1 → ∀ key, upd M n (leafM nb r2 s) i key ≠ none → pvt key 0 = upd c n ch i := hcase (fun i hi key hk => by
      rw [upd_ne _ _ (hlt hi)] at hk ⊢; exact hp i hi key hk) (fun key hk => by
      rw [upd_same] at hk ⊢
      unfold leafM at hk
      split at hk
      · rename_i e; rw [e]; exact hr
      · exact absurd rfl hk)
  have hT := IsT.node d k b pre (n + 1) _ _ (upd M n (leafM nb r2 s)) (upd B n (fun x => x = nb)) hn h
    (hcase (fun i hi => by rw [upd_ne _ _ (hlt hi), upd_ne _ _ (hlt hi), upd_ne _ _ (hlt hi)]; exact hc i hi) (by rw [upd_same, upd_same, upd_same]; exact .leaf d nb r2 s hl))
    (hcase (fun i hi => by rw [upd_ne _ _ (hlt hi)]; exact he i hi) (by rw [upd_same]; exact ⟨r2, by simp [leafM]⟩)) hpp
    (hcase (fun i hi => by rw [upd_ne _ _ (hlt hi)]; exact hb i hi) (by rw [upd_same]; exact hne))
    (fun i j hi hj hij x => by
      rcases (by omega : i < n ∧ j < n ∨ i = n ∧ j < n ∨ i < n ∧ j = n) with ⟨h1, h2⟩ | ⟨rfl, h2⟩ | ⟨h1, rfl⟩
      · rw [upd_ne _ _ (hlt h1), upd_ne _ _ (hlt h2)]; exact hd i j h1 h2 hij x
      · rw [upd_same, upd_ne _ _ (hlt h2)]; rintro rfl; exact hnb j h2
      · rw [upd_same, upd_ne _ _ (hlt h1)]; rintro h3 rfl; exact hnb i h1 h3)
  have e1 : join pre (n + 1) (upd M n (leafM nb r2 s)) (upd c n ch) = put1 (join pre n M c) (pre ++ r2) (nb, s) := map_ext fun key x => by
    rw [join_iff injn hpp, put1_iff, join_iff inj hp]
    constructor
    · rintro ⟨i, r, hi, e, hx⟩
      rcases (by omega : i < n ∨ i = n) with h | rfl
      · rw [upd_ne _ _ (hlt h)] at hx
        refine .inr ⟨fun e2 => ?_, i, r, h, e, hx⟩
        rw [e] at e2
        obtain rfl := List.append_cancel_left e2
        exact hr2 i h (by rw [← hp i h r (by rw [hx]; simp), hr])
      · rw [upd_same, leafM_iff] at hx
        exact .inl ⟨by rw [e, hx.1], hx.2⟩
    · rintro (⟨rfl, rfl⟩ | ⟨_, i, r, hi, e, hx⟩)
      · exact ⟨n, r2, by omega, rfl, by rw [upd_same, leafM_iff]; exact ⟨rfl, rfl⟩⟩
      · exact ⟨i, r, by omega, e, by rw [upd_ne _ _ (hlt hi)]; exact hx⟩
  have e2 : (fun x => x = b ∨ ∃ i, i < n + 1 ∧ upd B n (fun x => x = nb) i x) = (fun x => x = b ∨ x = nb ∨ ∃ i, i < n ∧ B i x) := funext fun x => propext (by
    constructor
    · rintro (h | ⟨i, hi, h⟩)
      · exact .inl h
      · rcases (by omega : i < n ∨ i = n) with h1 | rfl
        · rw [upd_ne _ _ (hlt h1)] at h; exact .inr (.inr ⟨i, h1, h⟩)
        · rw [upd_same] at h; exact .inr (.inl h)
    · rintro (h | h | ⟨i, hi, h⟩)
      · exact .inl h
      · exact .inr ⟨n, by omega, by rw [upd_same]; exact h⟩
      · exact .inr ⟨i, by omega, by rw [upd_ne _ _ (hlt hi)]; exact h⟩)
  rw [e1, e2] at hT
  exact hT
/-- A node one of whose children has one text more. -/
theorem isT_turn {w : World} {d b : Nat} {k : K} {pre : List UInt8} {n : Nat} {v : Nat → Value} {c : Nat → UInt8} {M : Nat → List UInt8 → Option (Nat × SS)} {B : Nat → Nat → Prop} {i : Nat} (hi : i < n) {v' : Value} {B' : Nat → Prop} {r2 : List UInt8} {y : Nat × SS}
    (h : NodeAt w k b pre n (upd v i v') c) (hn : k.low < n) (hv : IsT w d v' (put1 (M i) r2 y) B') (hc : ∀ j, j < n → j ≠ i → IsT w d (v j) (M j) (B j)) (he : ∀ i, i < n → ∃ key, M i key ≠ none)
    (inj : ∀ i j, i < n → j < n → c i = c j → i = j) (hp : ∀ i, i < n → ∀ key, M i key ≠ none → pvt key 0 = c i) (hb : ∀ i, i < n → ¬ B i b) (hb' : ¬ B' b) (hd : ∀ i j, i < n → j < n → i ≠ j → ∀ x, B i x → ¬ B j x) (hd' : ∀ j, j < n → j ≠ i → ∀ x, B' x → ¬ B j x) (hr : pvt r2 0 = c i) :
    IsT w (d + 1) (.iface k.ity (.pointer (some ⟨b, 0, none⟩))) (put1 (join pre n M c) (pre ++ r2) y) (fun x => x = b ∨ ∃ j, j < n ∧ upd B i B' j x) := by
  have hpp : ∀ j, j < n → ∀ key, upd M i (put1 (M i) r2 y) j key ≠ none → pvt key 0 = c j := fun j hj key hk => by
    by_cases e : j = i
    · subst e
      rw [upd_same] at hk
      unfold put1 at hk
      split at hk
      · rename_i e; rw [e]; exact hr
      · exact hp j hj key hk
    · rw [upd_ne _ _ e] at hk; exact hp j hj key hk
  have hT := IsT.node d k b pre n _ _ (upd M i (put1 (M i) r2 y)) (upd B i B') hn h
    (fun j hj => by
      by_cases e : j = i
      · subst e; rw [upd_same, upd_same, upd_same]; exact hv
      · rw [upd_ne _ _ e, upd_ne _ _ e, upd_ne _ _ e]; exact hc j hj e)
    (fun j hj => by
      by_cases e : j = i
      · subst e; rw [upd_same]; exact ⟨r2, by simp [put1]⟩
      · rw [upd_ne _ _ e]; exact he j hj) hpp
    (fun j hj => by
      by_cases e : j = i
      · subst e; rw [upd_same]; exact hb'
      · rw [upd_ne _ _ e]; exact hb j hj)
    (fun a j ha hj hne x => by
      by_cases e : a = i
      · subst e; rw [upd_same, upd_ne _ _ (Ne.symm hne)]; exact hd' j hj (Ne.symm hne) x
      · by_cases e2 : j = i
        · subst e2; rw [upd_same, upd_ne _ _ e]; exact fun h1 h2 => hd' a ha e x h2 h1
        · rw [upd_ne _ _ e, upd_ne _ _ e2]; exact hd a j ha hj hne x)
  have e1 : join pre n (upd M i (put1 (M i) r2 y)) c = put1 (join pre n M c) (pre ++ r2) y := map_ext fun key x => by
    rw [join_iff inj hpp, put1_iff, join_iff inj hp]
    constructor
    · rintro ⟨j, r, hj, e, hx⟩
      by_cases e2 : j = i
      · subst e2
        rw [upd_same, put1_iff] at hx
        rcases hx with ⟨rfl, rfl⟩ | ⟨h1, h2⟩
        · exact .inl ⟨e, rfl⟩
        · exact .inr ⟨fun h => h1 (by rw [e] at h; exact List.append_cancel_left h), j, r, hj, e, h2⟩
      · rw [upd_ne _ _ e2] at hx
        refine .inr ⟨fun h => ?_, j, r, hj, e, hx⟩
        rw [e] at h
        obtain rfl := List.append_cancel_left h
        exact e2 (inj j i hj hi (by rw [← hp j hj r (by rw [hx]; simp), hr]))
    · rintro (⟨rfl, rfl⟩ | ⟨h1, j, r, hj, e, hx⟩)
      · exact ⟨i, r2, hi, rfl, by rw [upd_same, put1_iff]; exact .inl ⟨rfl, rfl⟩⟩
      · refine ⟨j, r, hj, e, ?_⟩
        by_cases e2 : j = i
        · subst e2
          rw [upd_same, put1_iff]
          exact .inr ⟨fun h => h1 (by rw [e, h]), hx⟩
        · rw [upd_ne _ _ e2]; exact hx
  rw [e1] at hT
  exact hT

/-- What 'insert' is given. -/
structure Ask (w : World) (d pb po si cap : Nat) (v : Value) (M : List UInt8 → Option (Nat × SS)) (B : Nat → Prop) (l : List UInt8) (ao : Option Addr) : Prop where
  cell : w.cell? ⟨pb, po, none⟩ = some v
  soft : w.frozen? ⟨pb, po, none⟩ = false
  tree : IsT w d v M B
  off : ¬ B pb
  good : Good M
  few : Few M
  sl : Sl w ao cap l
  away : BytesOff (fun x => B x ∨ x = pb) ao
  at_ : si ≤ l.length
  no127 : (127 : UInt8) ∉ l
  short : l.length ≤ 1099511627776
  new : M (l.drop si) = none
abbrev InsCall (p0 : Value) (pb po si cap : Nat) (l : List UInt8) (ao : Option Addr) (s : SS) (w : World) (Q : Ending → World → Prop) : Prop :=
  Calls Tryz.prog 190 #[p0, .pointer (some ⟨pb, po, none⟩), .slice ao l.length cap, ssAgg s.m s.f s.l s.a s.b, .int .i64 si] w Q

theorem Put.same {w w' : World} {pb po : Nat} {v : Value} (hc : w.cell? ⟨pb, po, none⟩ = some v) (h : ∀ cs T, Blk w pb cs T → Blk w' pb cs T) : Put pb po v w w' := fun cs T hb => by
  have e : cs.setIfInBounds po v = cs := by
    have h1 : cs[po]? = some v := (hb.cell po).symm.trans hc
    apply Array.ext_getElem?
    intro i
    by_cases hi : po = i
    · subst hi
      rw [h1]
      have : po < cs.size := (Array.getElem?_eq_some_iff.1 h1).1
      simp [this]
    · rw [getSet hi]
  rw [e]
  exact h cs T hb

theorem ins_atLeaf (p0 : Value) (pb po si cap d b : Nat) (suf l : List UInt8) (ao : Option Addr) (s0 s : SS) (w : World) (hB : Blk w b (s0.cells suf) 269)
    (A : Ask w d pb po si cap (.iface 267 (.pointer (some ⟨b, 0, none⟩))) (leafM b suf s0) (fun x => x = b) l ao) :
    InsCall p0 pb po si cap l ao s w fun e w' => e = newOne ∧ Grew w w' pb po (leafM b suf s0) (fun x => x = b) (l.drop si) s := by
  have hg := A.good suf (by simp [leafM])
  have hr : l.drop si ≠ suf := fun e => by have := A.new; simp [leafM, e] at this
  refine (ins_leaf p0 pb po b si suf l ao cap s0 s w A.cell A.soft hB (fun e => A.off e) A.sl A.away A.at_ hr A.no127 hg.1 hg.2 A.short).mono ?_
  rintro e w' ⟨rfl, b1, nb, h1, h2, ⟨v0, c0, hN⟩, hL, hB', hK, hP⟩
  have hcl := cpl_le suf (l.drop si)
  have hct := cpl_take suf (l.drop si)
  have hdd : l.drop (si + cpl suf (l.drop si)) = (l.drop si).drop (cpl suf (l.drop si)) := by rw [List.drop_drop]
  have hne1 : nb ≠ b1 := by
    obtain ⟨cs, hbl, _⟩ := hN
    exact hL.ne hbl (by decide)
  have hlt := hB.lt
  refine ⟨rfl, 1, _, _, nb, hK, hP, isT_pair hN (.leaf 0 nb _ s hL) (.leaf 0 b _ s0 hB') ?_ ?_ hne1.symm (by omega) (by omega) (M := put1 (leafM b suf s0) (l.drop si) (nb, s)) ?_, ?_⟩
  · intro key hk
    simp only [ne_eq, ite_eq_right_iff, reduceCtorEq, imp_false, Decidable.not_not] at hk
    rw [hk, pvt_drop]
  · intro key hk
    simp only [ne_eq, ite_eq_right_iff, reduceCtorEq, imp_false, Decidable.not_not] at hk
    rw [hk, pvt_drop]
  · intro key x
    rw [put1_iff, leafM_iff]
    change _ ↔ ∃ r, key = _ ++ r ∧ (leafM nb _ s r = some x ∨ leafM b _ s0 r = some x)
    simp only [leafM_iff]
    constructor
    · rintro (⟨rfl, rfl⟩ | ⟨h, rfl, rfl⟩)
      · exact ⟨_, by rw [hdd, List.take_append_drop], .inl ⟨rfl, rfl⟩⟩
      · exact ⟨_, by rw [← hct, List.take_append_drop], .inr ⟨rfl, rfl⟩⟩
    · rintro ⟨r, rfl, ⟨rfl, rfl⟩ | ⟨rfl, rfl⟩⟩
      · exact .inl ⟨by rw [hdd, List.take_append_drop], rfl⟩
      · rw [← hct, List.take_append_drop]
        exact .inr ⟨hr.symm, rfl, rfl⟩
  · rintro x (rfl | rfl | rfl)
    · exact .inr h1
    · exact .inr h2
    · exact .inl rfl

theorem setChildAt {w w' : World} {k : K} {b : Nat} {pre : List UInt8} {n : Nat} {v : Nat → Value} {c : Nat → UInt8} (h : NodeAt w k b pre n v c) {i : Nat} (hi : i < n) {t : TypeId} {y : Value} (hP : Put b i (.iface t y) w w') :
    NodeAt w' k b pre n (upd v i (.iface t y)) c := by
  obtain ⟨cs, hB, hC⟩ := h
  exact ⟨_, hP cs _ hB, hC.setChild hi t y⟩

/-- The new tree at a node of which one child was turned. -/
theorem ins_turned (pb po b i d : Nat) (k : K) (pre r2 : List UInt8) (n : Nat) (v : Nat → Value) (c : Nat → UInt8) (M0 : Nat → List UInt8 → Option (Nat × SS)) (B0 : Nat → Nat → Prop) (s : SS) (w W w' : World)
    (hc : w.cell? ⟨pb, po, none⟩ = some (.iface k.ity (.pointer (some ⟨b, 0, none⟩)))) (hn2 : k.low < n) (hN : NodeAt w k b pre n v c) (hT : ∀ i, i < n → IsT w d (v i) (M0 i) (B0 i)) (he : ∀ i, i < n → ∃ key, M0 i key ≠ none)
    (hp : ∀ i, i < n → ∀ key, M0 i key ≠ none → pvt key 0 = c i) (hb : ∀ i, i < n → ¬ B0 i b) (hd : ∀ i j, i < n → j < n → i ≠ j → ∀ x, B0 i x → ¬ B0 j x) (hpb : ¬ (pb = b ∨ ∃ i, i < n ∧ B0 i pb)) (hi : i < n) (hr : pvt r2 0 = c i)
    (hX : Ext w W) (hG : Grew W w' b i (M0 i) (B0 i) r2 s) : Grew w w' pb po (join pre n M0 c) (fun x => x = b ∨ ∃ i, i < n ∧ B0 i x) (pre ++ r2) s := by
  obtain ⟨d', v', B', nb, hK, hP, hT', hB'⟩ := hG
  obtain ⟨t, y, rfl⟩ := hT'.ifc
  have hlt := hN.lt
  have hsz := hX.size
  have hK2 : Kp (fun x => B0 i x ∨ x = b) w w' := (hX.kp).trans hK fun _ _ h => h
  have hb' : ¬ B' b := fun h => by
    rcases hB' b h with h | h
    · exact hb i hi h
    · omega
  have hdis : ∀ j, j < n → j ≠ i → ∀ x, B' x → ¬ B0 j x := fun j hj hji x h1 h2 => by
    rcases hB' x h1 with h | h
    · exact hd i j hi hj (Ne.symm hji) x h h2
    · have := (hT j hj).lt x h2
      omega
  have hkids : ∀ j, j < n → j ≠ i → IsT w' (max d d') (v j) (M0 j) (B0 j) := fun j hj hji =>
    ((hT j hj).keep hK2 fun x h1 h2 => by
      rcases h2 with h2 | rfl
      · exact hd j i hj hi hji x h1 h2
      · exact hb j hj h1).up (Nat.le_max_left _ _)
  refine ⟨max d d' + 1, _, _, nb, hK2.mono ?_, Put.same hc fun cs T h => h.keep hK2 ?_, isT_turn hi (setChildAt (hN.keep hX id) hi hP) hn2 (hT'.up (Nat.le_max_right _ _)) hkids he hN.inj hp hb hb' hd hdis hr, ?_⟩
  · rintro x _ (h | h)
    · exact .inl (.inr ⟨i, hi, h⟩)
    · exact .inl (.inl h)
  · rintro (h | h)
    · exact hpb (.inr ⟨i, hi, h⟩)
    · exact hpb (.inl h)
  · rintro x (h | ⟨j, hj, h⟩)
    · exact .inl (.inl h)
    · by_cases e : j = i
      · subst e
        rw [upd_same] at h
        rcases hB' x h with h | h
        · exact .inl (.inr ⟨j, hj, h⟩)
        · exact .inr (by omega)
      · rw [upd_ne _ _ e] at h
        exact .inl (.inr ⟨j, hj, h⟩)

theorem insert190 : ∀ (d : Nat) (p0 : Value) (pb po si cap : Nat) (v : Value) (M : List UInt8 → Option (Nat × SS)) (B : Nat → Prop) (l : List UInt8) (ao : Option Addr) (s : SS) (w : World),
    Ask w d pb po si cap v M B l ao → InsCall p0 pb po si cap l ao s w fun e w' => e = newOne ∧ Grew w w' pb po M B (l.drop si) s := by
  intro d
  induction d with
  | zero =>
    intro p0 pb po si cap v M B l ao s w A
    have hT := A.tree
    generalize hd0 : (0 : Nat) = d0 at hT
    cases hT with
    | leaf d b suf s0 h =>
      subst hd0
      exact ins_atLeaf p0 pb po si cap 0 b suf l ao s0 s w h A
    | node => omega
  | succ d ih =>
    intro p0 pb po si cap v M B l ao s w A
    have hT := A.tree
    generalize hd0 : d + 1 = d0 at hT
    cases hT with
    | leaf d' b suf s0 h =>
      subst hd0
      exact ins_atLeaf p0 pb po si cap _ b suf l ao s0 s w h A
    | node d' k b pre n v c M0 B0 hn2 hN hT he hp hb hd =>
      obtain rfl : d = d' := by omega
      have inj := hN.inj
      have hgp := A.good.pre inj hp (by omega) (he 0 (by omega))
      have hne : pb ≠ b := fun e => A.off (.inl e)
      have h48 := A.few.lt inj hp he
      have hcl := cpl_le pre (l.drop si)
      have hct := cpl_take pre (l.drop si)
      have hoff1 : BytesOff (fun x => x = b ∨ x = pb) ao := fun bb o ss e h => A.away bb o ss e (h.imp (fun h => .inl h) id)
      have hlen : (l.drop si).length = l.length - si := List.length_drop
      have hat := A.at_
      by_cases hcp : cpl pre (l.drop si) = pre.length
      · have hq : si + pre.length ≤ l.length := by omega
        have hr : l.drop si = pre ++ l.drop (si + pre.length) := by
          rw [hcp, List.take_length] at hct
          conv => lhs; rw [← List.take_append_drop pre.length (l.drop si), ← hct, List.drop_drop]
        have hnew : join pre n M0 c (pre ++ l.drop (si + pre.length)) = none := by rw [← hr]; exact A.new
        by_cases hi : ix n c (pvt l (si + pre.length)) = 0
        · have hmore : ∀ {w' : World} {k' : K} {b' nb : Nat}, Kp (fun x => x = b ∨ x = pb) w w' → NodeAt w' k' b' pre (n + 1) (upd v n (.iface 267 (.pointer (some ⟨nb, 0, none⟩)))) (upd c n (pvt l (si + pre.length))) → Blk w' nb (s.cells (l.drop (si + pre.length))) 269 →
              (b' = b ∨ w.heap.size ≤ b') → w.heap.size ≤ nb → b' ≠ nb → k'.low < n + 1 → IsT w' (d + 1) (.iface k'.ity (.pointer (some ⟨b', 0, none⟩))) (put1 (join pre n M0 c) (l.drop si) (nb, s)) (fun x => x = b' ∨ x = nb ∨ ∃ i, i < n ∧ B0 i x) := by
            intro w' k' b' nb hK hN' hL hb' hnb hne' hlow
            rw [hr]
            refine isT_more hN' hL hlow (fun i hi => (hT i hi).keep hK fun x h1 h2 => ?_) he inj hp (fun i hi h => ?_) hd (fun i hi h => ?_) hne' (pvt_drop _ _) (ix_zero hi)
            · rcases h2 with rfl | rfl
              · exact hb i hi h1
              · exact A.off (.inr ⟨i, hi, h1⟩)
            · rcases hb' with rfl | hb'
              · exact hb i hi h
              · have := (hT i hi).lt _ h; omega
            · have := (hT i hi).lt _ h; omega
          by_cases hfull : n < k.cap
          · refine Calls.mono (R := fun e w' => e = newOne ∧ ∃ nb, w.heap.size ≤ nb ∧ NodeAt w' k b pre (n + 1) (upd v n (.iface 267 (.pointer (some ⟨nb, 0, none⟩)))) (upd c n (pvt l (si + pre.length))) ∧ Blk w' nb (s.cells (l.drop (si + pre.length))) 269 ∧ Kp (· = b) w w') ?_ ?_
            · by_cases hz : pre.length = 0
              · obtain rfl : pre = [] := List.eq_nil_of_length_eq_zero hz
                exact ins_add0 p0 pb po b si k n v c l ao cap s w A.cell A.soft A.sl A.at_ hN hi hfull
              · exact ins_add1 p0 pb po b si k n v c l ao cap s w A.cell A.soft A.sl A.at_ pre _ rfl hq hgp.2 (by omega) hcp hN hi hfull
            · rintro e w' ⟨rfl, nb, h1, h2, h3, h4⟩
              have hK : Kp (fun x => x = b ∨ x = pb) w w' := h4.mono fun _ _ h => .inl h
              refine ⟨rfl, d + 1, _, _, nb, hK.mono fun _ _ h => h.imp (fun h => .inl h) id, Put.same A.cell fun cs T h => h.keep h4 hne, hmore hK h2 h3 (.inl rfl) h1 (by have := hN.lt; omega) (by omega), ?_⟩
              rintro x (h | h | h)
              · exact .inl (.inl h)
              · exact .inr (by omega)
              · exact .inl (.inr h)
          · refine Calls.mono (R := fun e w' => e = newOne ∧ ∃ g nb, w.heap.size ≤ g ∧ w.heap.size ≤ nb ∧ g ≠ nb ∧ NodeAt w' k.next g pre (n + 1) (upd v n (.iface 267 (.pointer (some ⟨nb, 0, none⟩)))) (upd c n (pvt l (si + pre.length))) ∧ Blk w' nb (s.cells (l.drop (si + pre.length))) 269 ∧ Kp (· = pb) w w' ∧ Put pb po (.iface k.next.ity (.pointer (some ⟨g, 0, none⟩))) w w') ?_ ?_
            · by_cases hz : pre.length = 0
              · obtain rfl : pre = [] := List.eq_nil_of_length_eq_zero hz
                exact ins_grow0 p0 pb po b si k n v c l ao cap s w A.cell A.soft A.sl A.at_ (fun bb o ss e h => A.away bb o ss e (.inr h)) hN hi (by omega) h48
              · exact ins_grow1 p0 pb po b si k n v c l ao cap s w A.cell A.soft A.sl A.at_ (fun bb o ss e h => A.away bb o ss e (.inr h)) pre _ rfl hq hgp.2 (by omega) hcp hN hi (by omega) h48
            · rintro e w' ⟨rfl, g, nb, h0, h1, hgn, h2, h3, h4, hP⟩
              have hK : Kp (fun x => x = b ∨ x = pb) w w' := h4.mono fun _ _ h => .inr h
              refine ⟨rfl, d + 1, _, _, nb, hK.mono fun _ _ h => h.imp (fun h => .inl h) id, hP, hmore hK h2 h3 (.inr h0) h1 hgn (K.next_low (by omega) h48), ?_⟩
              rintro x (h | h | h)
              · exact .inr (by omega)
              · exact .inr (by omega)
              · exact .inl (.inr h)
        · obtain ⟨i, hi'⟩ : ∃ i, ix n c (pvt l (si + pre.length)) = i + 1 := ⟨ix n c (pvt l (si + pre.length)) - 1, by omega⟩
          have hpos := ix_pos hi
          rw [hi', Nat.add_sub_cancel] at hpos
          have hM0 : M0 i (l.drop (si + pre.length)) = none := by
            rw [join_at inj hpos.1 (by rw [pvt_drop, hpos.2])] at hnew
            exact hnew
          have hrec : ∀ W, Ext w W → InsCall p0 b i (si + pre.length) cap l ao s W fun e w' => e = newOne ∧ Grew W w' b i (M0 i) (B0 i) (l.drop (si + pre.length)) s := fun W hX =>
            ih p0 b i (si + pre.length) cap (v i) (M0 i) (B0 i) l ao s W
              { cell := (hX.cell id hN.lt).trans (hN.childCell hpos.1)
                soft := by obtain ⟨cs, hB, _⟩ := hN.keep hX id; exact hB.frozen i
                tree := (hT i hpos.1).keep hX fun _ _ => id
                off := hb i hpos.1
                good := A.good.sub inj hp hpos.1
                few := A.few.sub inj hp hpos.1
                sl := A.sl.ext hX
                away := fun bb o ss e h => A.away bb o ss e (.inl (h.elim (fun h => .inr ⟨i, hpos.1, h⟩) (fun h => .inl h)))
                at_ := hq
                no127 := A.no127
                short := A.short
                new := hM0 }
          refine Calls.mono (R := fun e w' => e = newOne ∧ ∃ W, Ext w W ∧ Grew W w' b i (M0 i) (B0 i) (l.drop (si + pre.length)) s) ?_ ?_
          · by_cases hz : pre.length = 0
            · obtain rfl : pre = [] := List.eq_nil_of_length_eq_zero hz
              exact ins_desc0 p0 pb po b si k n v c l ao cap s w A.cell A.soft A.sl A.at_ i hN hi' (fun W w' => Grew W w' b i (M0 i) (B0 i) (l.drop si) s) hrec
            · exact ins_desc1 p0 pb po b si k n v c l ao cap s w A.cell A.soft A.sl A.at_ i pre _ rfl hq hgp.2 hN (by omega) hcp hi' _ hrec
          · rintro e w' ⟨rfl, W, hX, hG⟩
            rw [hr]
            exact ⟨rfl, ins_turned pb po b i d k pre _ n v c M0 B0 s w W w' A.cell hn2 hN hT he hp hb hd A.off hpos.1 (by rw [pvt_drop, hpos.2]) hX hG⟩
      · have hlt : cpl pre (l.drop si) < pre.length := by omega
        have hner : l.drop si ≠ pre := fun e => by
          have : cpl pre pre = pre.length := cpl_of (Nat.le_refl _) (Nat.le_refl _) (fun _ _ => rfl) (fun h => by omega)
          rw [e] at hlt
          omega
        have hsp := split_ne hner hgp.1 (fun h => A.no127 (List.mem_of_mem_drop h))
        have hdd : pvt (l.drop si) (cpl pre (l.drop si)) = pvt l (si + cpl pre (l.drop si)) := by
          rw [← pvt_drop, List.drop_drop, pvt_drop]
        refine (ins_split p0 pb po b si k n v c l ao cap s w A.cell A.soft A.sl A.at_ hne hoff1 pre _ _ rfl (by omega) hgp.2 hN hlt rfl (by rw [← hdd]; exact hsp.symm)).mono ?_
        rintro e w' ⟨rfl, b1, nb, h1, h2, h12, ⟨v0, c0, hN1⟩, hN2, hL, hK, hP⟩
        generalize hcc : cpl pre (l.drop si) = cp at *
        have hkids : ∀ i, i < n → IsT w' d (v i) (M0 i) (B0 i) := fun i hi => (hT i hi).keep hK fun x h1 h2 => by
          rcases h2 with rfl | rfl
          · exact hb i hi h1
          · exact A.off (.inr ⟨i, hi, h1⟩)
        have hlow := IsT.node d k b (pre.drop cp) n v c M0 B0 hn2 hN2 hkids he hp hb hd
        have hblt := hN.lt
        have hdl : l.drop (si + cp) = (l.drop si).drop cp := by rw [List.drop_drop]
        have htk : (l.take (si + cp)).drop si = (l.drop si).take cp := by rw [List.drop_take]; congr 1; omega
        refine ⟨rfl, d + 2, _, _, nb, hK.mono fun _ _ h => h.imp (fun h => .inl h) id, hP, isT_pair hN1 hlow (.leaf (d + 1) nb _ s hL) ?_ ?_ ?_ (by omega) ?_ (M := put1 (join pre n M0 c) (l.drop si) (nb, s)) ?_, ?_⟩
        · intro key hk
          obtain ⟨r, i, rfl, _⟩ := join_ne hk
          rw [pvt_append (by simp; omega), pvt_drop]
        · intro key hk
          simp only [ne_eq, ite_eq_right_iff, reduceCtorEq, imp_false, Decidable.not_not] at hk
          rw [hk, pvt_drop]
        · rintro (h | ⟨i, hi, h⟩)
          · omega
          · have := (hT i hi).lt _ h; omega
        · rintro x (rfl | ⟨i, hi, h⟩)
          · omega
          · have := (hT i hi).lt _ h; omega
        · intro key x
          rw [put1_iff, join_iff inj hp]
          change _ ↔ ∃ r, key = _ ++ r ∧ (join (pre.drop cp) n M0 c r = some x ∨ leafM nb _ s r = some x)
          simp only [leafM_iff, join_iff inj hp]
          rw [htk]
          constructor
          · rintro (⟨rfl, rfl⟩ | ⟨h, i, r, hi, rfl, hx⟩)
            · exact ⟨_, by rw [hdl, List.take_append_drop], .inr ⟨rfl, rfl⟩⟩
            · exact ⟨pre.drop cp ++ r, by rw [← hct, ← List.append_assoc, List.take_append_drop], .inl ⟨i, r, hi, rfl, hx⟩⟩
          · rintro ⟨r, rfl, ⟨i, r', hi, rfl, hx⟩ | ⟨rfl, rfl⟩⟩
            · refine .inr ⟨fun e => ?_, i, r', hi, by rw [← hct, ← List.append_assoc, List.take_append_drop], hx⟩
              rw [← hct, ← List.append_assoc, List.take_append_drop] at e
              have := A.new
              rw [← e, join_at inj hi (hp i hi r' (by rw [hx]; simp)), hx] at this
              simp at this
            · exact .inl ⟨by rw [hdl, List.take_append_drop], rfl⟩
        · rintro x (rfl | (rfl | h) | rfl)
          · exact .inr h1
          · exact .inl (.inl rfl)
          · exact .inl (.inr h)
          · exact .inr h2
end Go.Proofs.YtbehafhkgbjgmaaGreatDoor

/-
  The tree of subjects as a whole, and 'Insert' of a new text. No condition beyond that the texts are few, short and bear no byte 127.
-/
namespace Go.Proofs.YtbehafhkgbjgmaaGreatDoor
open Go Go.RowKit
set_option maxRecDepth 100000

theorem bytesOf_map (l : List UInt8) : Lib.bytesOf (l.map fun c => (c.toNat : Int)) = l := by
  unfold Lib.bytesOf
  rw [List.map_map]
  conv => rhs; rw [← List.map_id l]
  exact List.map_congr_left fun c _ => by simp

theorem run_indexByte (l : List UInt8) (ao : Option Addr) (cap : Nat) (c : UInt8) (w : World) (hb : BytesAt w ao l) (hp : Plain ao l) :
    (Extern.BytealgIndexByte.indexByte #[.slice ao l.length cap, .int .u8 (c.toNat : Int)]).run Tryz.prog w = .ok (.int .i64 (Lib.indexByte l c)) w := by
  cases ao with
  | none =>
    obtain rfl := hp.1 rfl
    exact Lib.run_indexByteNil w _ _ _
  | some a =>
    obtain ⟨b, off, sp⟩ := a
    obtain rfl : sp = none := hp.2 _ rfl
    rw [Lib.run_indexByteSlice w b off l.length cap (l.map fun c => (c.toNat : Int)) (by simp) (fun i hi => by rw [hb.get i hi]; simp [List.getD, hi]) (c.toNat : Int), bytesOf_map]
    simp

set_option maxHeartbeats 400000 in
theorem index189 (l : List UInt8) (ao : Option Addr) (cap : Nat) (w : World) (hb : BytesAt w ao l) (hp : Plain ao l) (h : (127 : UInt8) ∉ l) :
    Calls Tryz.prog 189 #[.slice ao l.length cap, .int .u8 127] w fun e w' => e = .returned (.int .i64 (-1)) ∧ w = w' := by
  have hr := run_indexByte l ao cap 127 w hb hp
  have hi : Lib.indexByte l 127 = -1 := by
    by_cases e : Lib.indexByte l 127 = -1
    · exact e
    · have := Lib.indexByte_ge l 127
      obtain ⟨o, ho⟩ : ∃ o : Nat, Lib.indexByte l 127 = o := ⟨(Lib.indexByte l 127).toNat, by omega⟩
      have := (Lib.indexByte_some ho).1
      exact absurd (List.mem_of_getElem? this) h
  rw [hi] at hr
  have hr' : (Extern.BytealgIndexByte.indexByte #[.slice ao l.length cap, .int .u8 127]).run Tryz.prog w = .ok (.int .i64 (-1)) w := hr
  clear hr hi
  go_enter Tryz.func189, Tryz.ntmps189
  go_wp2
  rw [run_callFunc_extern Tryz.func235 (by kernel_rfl) (by kernel_rfl) (by kernel_rfl) (e := Extern.BytealgIndexByte.indexByte) (by kernel_rfl), hr']
  simp only [Result.andThen]
  rw [Oper.upon_value]
  go_wp2
  go_ret
  exact ⟨rfl, rfl⟩

/-- A whole tree of subjects: the block tb, its texts M, its blocks B. -/
def Tr (w : World) (tb : Nat) (M : List UInt8 → Option (Nat × SS)) (B : Nat → Prop) : Prop :=
  ∃ root sz, Blk w tb #[root, .int .i64 sz] 201 ∧ ¬ B tb ∧ ((root = .nilIface ∧ (∀ key, M key = none) ∧ ∀ x, ¬ B x) ∨ ∃ d, IsT w d root M B)
theorem Tr.keep {F : Nat → Prop} {w w' : World} {tb : Nat} {M : List UInt8 → Option (Nat × SS)} {B : Nat → Prop} (h : Tr w tb M B) (k : Kp F w w') (h1 : ¬ F tb) (h2 : ∀ x, B x → ¬ F x) : Tr w' tb M B := by
  obtain ⟨root, sz, hB, ht, h⟩ := h
  refine ⟨root, sz, hB.keep k h1, ht, h.imp id ?_⟩
  rintro ⟨d, hT⟩
  exact ⟨d, hT.keep k h2⟩
theorem Tr.lt {w : World} {tb : Nat} {M : List UInt8 → Option (Nat × SS)} {B : Nat → Prop} (h : Tr w tb M B) : tb < w.heap.size ∧ ∀ x, B x → x < w.heap.size := by
  obtain ⟨root, sz, hB, ht, h⟩ := h
  refine ⟨hB.lt, fun x hx => ?_⟩
  rcases h with ⟨_, _, h⟩ | ⟨d, hT⟩
  · exact absurd hx (h x)
  · exact hT.lt x hx

/-- 'insert' from the root. -/
theorem insRoot (p0 : Value) (tb cap d : Nat) (root : Value) (sz : Int) (M : List UInt8 → Option (Nat × SS)) (B : Nat → Prop) (l : List UInt8) (ao : Option Addr) (s : SS) (w : World)
    (hB : Blk w tb #[root, .int .i64 sz] 201) (ht : ¬ B tb) (hT : (root = .nilIface ∧ (∀ key, M key = none) ∧ ∀ x, ¬ B x) ∨ IsT w d root M B) (hG : Good M) (hF : Few M) (hS : Sl w ao cap l) (hO : BytesOff (fun x => B x ∨ x = tb) ao)
    (h127 : (127 : UInt8) ∉ l) (hl : l.length ≤ 1099511627776) (hn : M l = none) :
    InsCall p0 tb 0 0 cap l ao s w fun e w' => e = newOne ∧ ∃ root' d' B' nb, Blk w' tb #[root', .int .i64 sz] 201 ∧ ¬ B' tb ∧ IsT w' d' root' (put1 M l (nb, s)) B' ∧ Kp (fun x => B x ∨ x = tb) w w' ∧ ∀ x, B' x → B x ∨ w.heap.size ≤ x := by
  rcases hT with ⟨rfl, h1, h2⟩ | hT
  · refine (ins_nil p0 tb 0 l ao cap s w (hB.cell 0) (hB.frozen 0) hS).mono ?_
    rintro e w' ⟨rfl, nb, hnb, hL, hK, hP⟩
    refine ⟨rfl, _, 0, fun x => x = nb, nb, hP _ _ hB, ?_, ?_, hK.mono fun _ _ h => .inr h, ?_⟩
    · have := hB.lt
      show ¬ tb = nb
      omega
    · have e : put1 M l (nb, s) = leafM nb l s := funext fun key => by unfold put1 leafM; rw [h1]
      rw [e]
      exact .leaf 0 nb l s hL
    · rintro x rfl
      exact .inr hnb
  · refine (insert190 d p0 tb 0 0 cap root M B l ao s w ⟨hB.cell 0, hB.frozen 0, hT, ht, hG, hF, hS, hO, Nat.zero_le _, h127, hl, by simpa using hn⟩).mono ?_
    rintro e w' ⟨rfl, d', v', B', nb, hK, hP, hT', hB'⟩
    refine ⟨rfl, v', d', B', nb, hP _ _ hB, fun h => ?_, by simpa using hT', hK, hB'⟩
    have := hB.lt
    rcases hB' tb h with h | h
    · exact ht h
    · omega

set_option maxHeartbeats 1000000 in
theorem insert127 (tb cap : Nat) (M : List UInt8 → Option (Nat × SS)) (B : Nat → Prop) (l : List UInt8) (ao : Option Addr) (s : SS) (w : World)
    (hT : Tr w tb M B) (hG : Good M) (hF : Few M) (hS : Sl w ao cap l) (hO : BytesOff (fun x => B x ∨ x = tb) ao) (h127 : (127 : UInt8) ∉ l) (hl : l.length ≤ 1099511627776) (hn : M l = none) :
    Calls Tryz.prog 127 #[.pointer (some ⟨tb, 0, none⟩), .slice ao l.length cap, ssAgg s.m s.f s.l s.a s.b] w fun e w' => e = newOne ∧ ∃ B' nb, Tr w' tb (put1 M l (nb, s)) B' ∧ Kp (fun x => B x ∨ x = tb) w w' ∧ ∀ x, B' x → B x ∨ w.heap.size ≤ x := by
  obtain ⟨root, sz, hB, ht, hT⟩ := hT
  obtain ⟨d, hT⟩ : ∃ d, (root = .nilIface ∧ (∀ key, M key = none) ∧ ∀ x, ¬ B x) ∨ IsT w d root M B := by
    rcases hT with h | ⟨d, h⟩
    · exact ⟨0, .inl h⟩
    · exact ⟨d, .inr h⟩
  have hcon : Hid (∀ W, Ext w W → Calls Tryz.prog 190 #[.pointer (some ⟨tb, 0, none⟩), .pointer (some ⟨tb, 0, none⟩), .slice ao l.length cap, ssAgg s.m s.f s.l s.a s.b, .int .i64 0] W fun e w' => e = newOne ∧ ∃ root' d' B' nb, Blk w' tb #[root', .int .i64 sz] 201 ∧ ¬ B' tb ∧ IsT w' d' root' (put1 M l (nb, s)) B' ∧ Kp (fun x => B x ∨ x = tb) w w' ∧ ∀ x, B' x → B x ∨ w.heap.size ≤ x) := fun W hX =>
    (insRoot _ tb cap d root sz M B l ao s W (hB.keep hX id) ht (hT.imp id fun h => h.keep hX fun _ _ => id) hG hF (hS.ext hX) hO h127 hl hn).mono (by
      rintro e w' ⟨rfl, root', d', B', nb, h1, h2, h3, h4, h5⟩
      exact ⟨rfl, root', d', B', nb, h1, h2, h3, (hX.kp).trans h4 fun _ _ h => h, fun x hx => (h5 x hx).imp id fun h => Nat.le_trans hX.size h⟩)
  have hlt := hB.lt
  have Hi : Hid (∀ W, Ext w W → Calls Tryz.prog 189 #[.slice ao l.length cap, .int .u8 127] W fun e w' => e = .returned (.int .i64 (-1)) ∧ W = w') := fun W hX => index189 l ao cap W (hS.ext hX).bytes hS.plain h127
  clear hT hB hS
  unfold newOne at *
  unfold ssAgg at *
  go_enter Tryz.func127, Tryz.ntmps127
  go_wp2_with fail
  obtain ⟨w1, hw1⟩ : ∃ w1, (w.alloc (.cells #[.int .u64 s.m, .int .u64 s.f, .int .u64 s.l, .bool s.a, .bool s.b] 116)) = w1 := ⟨_, rfl⟩
  rw [hw1]
  have HX : Hid (Ext w w1) := by rw [← hw1]; exact (Kp.refl _ _).alloc _
  have HBx : Hid (Blk w1 w.heap.size #[.int .u64 s.m, .int .u64 s.f, .int .u64 s.l, .bool s.a, .bool s.b] 116) := by rw [← hw1]; exact Blk.new w _ _
  generalize hbx : w.heap.size = bx at HBx
  clear hw1
  refine (Hi.out w1 HX.out).mono ?_
  rintro e w2 ⟨rfl, rfl⟩
  have hx0 : w1.cell? ⟨bx, 0, none⟩ = some (.int .u64 s.m) := HBx.out.cell 0
  have hx1 : w1.cell? ⟨bx, 1, none⟩ = some (.int .u64 s.f) := HBx.out.cell 1
  have hx2 : w1.cell? ⟨bx, 2, none⟩ = some (.int .u64 s.l) := HBx.out.cell 2
  have hx3 : w1.cell? ⟨bx, 3, none⟩ = some (.bool s.a) := HBx.out.cell 3
  have hx4 : w1.cell? ⟨bx, 4, none⟩ = some (.bool s.b) := HBx.out.cell 4
  go_wp2_with fail
  go_region_with (go_at_call 190; (with_reducible refine (hcon.out _ HX.out.drew).mono ?_); rintro e w3 ⟨rfl, root', d', B', nb, h1, h2, h3, h4, h5⟩)
  have c1 : w3.cell? ⟨tb, 1, none⟩ = some (.int .i64 sz) := h1.cell 1
  have f1 : w3.frozen? ⟨tb, 1, none⟩ = false := h1.frozen 1
  have H1 := Lib.hid h1
  have H2 := Lib.hid h2
  have H3 := Lib.hid h3
  have H4 := Lib.hid h4
  have H5 := Lib.hid h5
  clear h1 h2 h3 h4 h5

  go_wp2_with fail
  go_ret2
  refine ⟨rfl, B', nb, ⟨root', _, H1.out.set 1 _, H2.out, .inr ⟨d', H3.out.keep (Kp.setCell (F := (· = tb)) (Kp.refl _ _) (.inl rfl) _) ?_⟩⟩, Kp.setCell H4.out (.inl (.inr rfl)) _, H5.out⟩
  rintro x hx rfl
  exact H2.out hx
end Go.Proofs.YtbehafhkgbjgmaaGreatDoor
