/-
  A script of steps that store is looked at: its subjects, its headers, its length. No condition beyond what came in.
-/
import Derived.Test.YtbehafhkgbjgmaaGreatDoorMb30
import Derived.Test.YtbehafhkgbjgmaaGreatDoorMb33
namespace Go.Proofs.YtbehafhkgbjgmaaGreatDoor
open Go Go.RowKit
set_option maxRecDepth 100000

set_option maxHeartbeats 1000000 in
theorem speaks18 (l : List UInt8) (ao : Option Addr) (cap : Nat) (w : World) (hB : BytesAt w ao l) (hl : l.length ≤ 40) : Calls Tryz.prog 18 #[.slice ao l.length cap] w fun e w' => (∃ b, e = .returned (.bool b)) ∧ w = w' := by
  have HB := Lib.hid hB
  clear hB
  generalize hn : l.length = n at hl
  go_enter Tryz.func18, Tryz.ntmps18
  go_wp2_with fail
  go_loopw [3] (fun x wr => ∃ j : Nat, j ≤ n ∧ x = .int .i64 j ∧ w = wr) (fun x _ => n - (intOf x).toNat)
  case atStart => exact ⟨0, Nat.zero_le _, rfl, rfl⟩
  case round =>
    obtain ⟨j, hj, rfl, rfl⟩ := hrel
    by_cases hjn : j + 5 ≤ n
    · obtain ⟨b, off, rfl, g0⟩ := HB.out j (by omega)
      have g1 := HB.out.get (j + 1) (by omega)
      have g2 := HB.out.get (j + 2) (by omega)
      have g3 := HB.out.get (j + 3) (by omega)
      have g4 := HB.out.get (j + 4) (by omega)
      generalize l[j]'(by omega) = x0 at g0
      generalize l[j + 1]'(by omega) = x1 at g1
      generalize l[j + 2]'(by omega) = x2 at g2
      generalize l[j + 3]'(by omega) = x3 at g3
      generalize l[j + 4]'(by omega) = x4 at g4
      have hle : (j : Int) + 5 ≤ (n : Int) := by omega
      go_wp2_with fail
      all_goals first
        | (go_ret
           exact ⟨⟨_, rfl⟩, rfl⟩)
        | (go_roundw
           case measure => simp [intOf]; omega
           case rel => exact ⟨j + 1, by omega, by simp, by trivial⟩)
    · have hgt : ¬ (j : Int) + 5 ≤ (n : Int) := by omega
      go_wp2_with fail
      go_ret
      first
        | exact ⟨⟨_, rfl⟩, rfl⟩
        | exact ⟨.inl rfl, by trivial⟩

set_option maxHeartbeats 4000000 in
theorem subject19 (l : List UInt8) (w : World) (hl : l.length ≤ 2147483647) : Calls Tryz.prog 19 #[.string (str l), .bool false] w fun e w' => (∃ b, e = .returned (.bool b) ∧ (b = true → GoodSubj l)) ∧ Ext w w' := by
  have H27 := Lib.hid (tokens27 l w hl)
  have hlen : (tokens l).length ≤ 2147483648 := by have := (toks_len l).1; simp [tokens]; omega
  have hlt := (toks_len l).2
  have HG := Lib.hid (fun h1 h2 => good_of (s := l) h1 h2)
  generalize tokens l = T at H27 hlen hlt HG
  generalize hS : str l = S at H27
  clear hS
  go_enter Tryz.func19, Tryz.ntmps19
  go_wp2_with fail
  refine H27.out.mono ?_
  rintro e w1 ⟨⟨ao, cap, rfl, hT⟩, hX1⟩
  have HT := Lib.hid hT
  have HX1 := Lib.hid hX1
  clear hT hX1 H27
  generalize hn : T.length = n at hlen
  go_wp2_with fail
  go_loopw [6] (fun x wr => ∃ j : Nat, j ≤ n ∧ x = .int .i64 j ∧ w1 = wr ∧ Hid (∀ (k : Nat) (t : List UInt8), k < j → T[k]? = some t → 0 < t.length ∧ t.length ≤ 8 ∧ ∀ c, c ∈ t → okByte c)) (fun x _ => n - (intOf x).toNat)
  case atStart => exact ⟨0, Nat.zero_le _, rfl, rfl, Lib.hid fun k t hk => by omega⟩
  case round =>
    obtain ⟨j, hj, rfl, rfl, hK⟩ := hrel
    by_cases hjn : j < n
    · have hjT : j < T.length := by omega
      obtain ⟨b, off, rfl, hc⟩ := HT.out j hjT
      have htl : (T[j]'hjT).length ≤ 2147483647 := by have := hlt T[j] (List.getElem_mem hjT); omega
      have HTj : Hid (T[j]? = some T[j]) := Lib.hid (by simp)
      generalize T[j]'hjT = t at hc htl HTj
      have hidx := str_index w1 t
      have hst : (str t).size = t.length := str_size t
      have hstl : (str t).toList = t := ByteArray.toList_mk t
      have HI := Lib.hid hidx
      clear hidx
      generalize str t = S2 at hc hst hstl HI
      generalize hm : t.length = m at hst htl
      by_cases ht0 : t = []
      · have e0 : S2.toList = [] := by rw [hstl, ht0]
        clear hstl
        go_wp2_with fail
        go_ret
        first | exact ⟨⟨_, rfl, by simp⟩, HX1.out⟩ | exact ⟨.inl rfl, HX1.out⟩
      · have e0 : (S2.toList == []) = false := by rw [hstl]; simpa using ht0
        clear hstl
        have hm0 : 0 < m := by rw [← hm]; exact List.length_pos_iff.2 ht0
        clear ht0
        by_cases hm8 : m ≤ 8
        · have hm8' : ¬ (8 : Int) < (m : Int) := by omega
          go_wp2_with fail
          go_loopw [8] (fun x wr => ∃ k : Nat, k ≤ m ∧ x = .int .i64 k ∧ w1 = wr ∧ Hid (∀ (p : Nat) (c : UInt8), p < k → t[p]? = some c → okByte c)) (fun x _ => m - (intOf x).toNat)
          case atStart => exact ⟨0, Nat.zero_le _, rfl, rfl, Lib.hid fun p c h => by omega⟩
          case round =>
            obtain ⟨k, hk, rfl, rfl, hP⟩ := hrel
            by_cases hkm : k < m
            · have hkt : k < t.length := by omega
              have hidx := HI.out k hkt
              have HC : Hid (t[k]? = some (t[k]'hkt)) := Lib.hid (by simp)
              generalize t[k]'hkt = c at hidx HC
              go_wp2_with fail
              all_goals first
                | (go_ret; (first | exact ⟨⟨_, rfl, by simp⟩, HX1.out⟩ | exact ⟨.inl rfl, HX1.out⟩))
                | (have hok : okByte c := by unfold okByte; omega
                   have HP2 : Hid (∀ (p : Nat) (c : UInt8), p < k + 1 → t[p]? = some c → okByte c) := Lib.hid fun p c' hp hc' => by
                     by_cases hpk : p = k
                     · subst hpk
                       rw [HC.out] at hc'
                       simp at hc'
                       exact hc' ▸ hok
                     · exact hP.out p c' (by omega) hc'
                   go_roundw
                   case measure => simp [intOf]; omega
                   case rel => exact ⟨k + 1, by omega, by simp, by trivial, HP2⟩)
            · have HK2 : Hid (∀ (p : Nat) (t' : List UInt8), p < j + 1 → T[p]? = some t' → 0 < t'.length ∧ t'.length ≤ 8 ∧ ∀ c, c ∈ t' → okByte c) := Lib.hid fun p t' hp ht' => by
                by_cases hpj : p = j
                · subst hpj
                  rw [HTj.out] at ht'
                  simp at ht'
                  subst ht'
                  refine ⟨by omega, by omega, fun c hc => ?_⟩
                  obtain ⟨r, hr, rfl⟩ := List.getElem_of_mem hc
                  exact hP.out r _ (by omega) (by simp [hr])
                · exact hK.out p t' (by omega) ht'
              go_wp2_with fail
              go_roundw
              case measure => simp [intOf]; omega
              case rel => exact ⟨j + 1, by omega, by simp, by trivial, HK2⟩
        · have hm8' : (8 : Int) < (m : Int) := by omega
          go_wp2_with fail
          go_ret
          first | exact ⟨⟨_, rfl, by simp⟩, HX1.out⟩ | exact ⟨.inl rfl, HX1.out⟩
    · go_wp2_with fail
      go_ret
      refine ⟨⟨_, rfl, fun h => HG.out (fun t ht => ?_) (by simp at h; omega)⟩, HX1.out⟩
      obtain ⟨r, hr, rfl⟩ := List.getElem_of_mem ht
      exact hK.out r _ (by omega) (by simp [hr])

/-- What the laws ask of a step that stores. -/
def StepV.Small (v : StepV) : Prop := GoodSubj v.subj ∧ v.hdr.length ≤ 40 ∧ v.data.length ≤ 60
set_option maxHeartbeats 8000000 in
theorem deeds14 (vs : List StepV) (ao : Option Addr) (cap : Nat) (w : World) (hS : StepsAt w ao vs) (hO : ∀ v, v ∈ vs → v.Ok w) (hop : ∀ v, v ∈ vs → v.op = 0) (hF : ∀ v, v ∈ vs → v.Fits) (hl : vs.length ≤ 9223372036854775807) :
    Calls Tryz.prog 14 #[.slice ao vs.length cap] w fun e w' => (∃ b, e = .returned (.bool b) ∧ (b = true → vs.length ≤ 24 ∧ ∀ v, v ∈ vs → v.Small)) ∧ Ext w w' := by
  have HS := Lib.hid hS
  have HO := Lib.hid hO
  have HOP := Lib.hid hop
  have HF := Lib.hid hF
  clear hS hO hop hF
  generalize hn : vs.length = n at hl
  go_enter Tryz.func14, Tryz.ntmps14
  go_wp2_with fail
  go_loopw [3, 4, 5] (fun mn lt x wr => ∃ (j : Nat) (tl : Int), j ≤ n ∧ x = .int .i64 j ∧ lt = .int .i64 tl ∧ mn = .int .u64 0 ∧ Hid (Ext w wr) ∧ Hid (∀ (k : Nat) (v : StepV), k < j → vs[k]? = some v → v.Small)) (fun _ _ x _ => n - (intOf x).toNat)
  case atStart => exact ⟨0, 1, Nat.zero_le _, rfl, rfl, rfl, Lib.hid (Kp.refl _ _), Lib.hid fun k v h => by omega⟩
  case round =>
    obtain ⟨j, tl, hj, rfl, rfl, rfl, hX, hK⟩ := hrel
    by_cases hjn : j < n
    · obtain ⟨b, off, rfl⟩ := HS.out.some (j := j) (by omega)
      have hjv : j < vs.length := by omega
      have hC := (HS.out.at hjv).keep hX.out id
      have hmem := List.getElem_mem hjv
      have hok := HO.out vs[j] hmem
      have hop := HOP.out vs[j] hmem
      have HVJ : Hid (vs[j]? = some vs[j]) := Lib.hid (by simp)
      have H18 : Hid (vs[j].hdr.length ≤ 40 → ∀ W, Ext w W → Calls Tryz.prog 18 #[.slice vs[j].ha vs[j].hdr.length vs[j].hc] W fun e w' => (∃ b, e = .returned (.bool b)) ∧ W = w') := Lib.hid fun h W hW => speaks18 vs[j].hdr vs[j].ha vs[j].hc W (hok.hdr.1.keep hW fun _ _ _ _ => id) h
      have H19 : Hid (∀ W, Calls Tryz.prog 19 #[.string (str vs[j].subj), .bool false] W fun e w' => (∃ b, e = .returned (.bool b) ∧ (b = true → GoodSubj vs[j].subj)) ∧ Ext W w') := Lib.hid fun W => subject19 vs[j].subj W (HF.out vs[j] hmem).1
      clear hok hmem
      generalize vs[j] = v at hC hop HVJ H18 H19
      obtain ⟨c0, c1, c2, c3, c4, c5, c6, c7, c8, c9, c10, c11, c12, c13, c14, c15⟩ := hC
      rw [hop] at c0
      clear hop
      generalize h1 : v.hdr.length = n1 at c2 H18
      generalize h2 : v.data.length = n2 at c3
      go_wp2_with fail
      all_goals first
        | (go_ret; (first | exact ⟨⟨_, rfl, by simp⟩, hX.out.alloc _⟩ | exact ⟨.inl rfl, hX.out.alloc _⟩))
        | skip
      obtain ⟨w1, hw1⟩ : ∃ w1, wr.alloc (.cells #[.int .i64 0, .string (str v.subj), .slice v.ha n1 v.hc, .slice v.da n2 v.dc, .int .i64 v.time, .int .u64 v.seq, .int .u64 v.num, .int .u64 v.keep, .bool v.last, .slice v.sa v.subs.length v.sc, .int .i64 v.c0, .int .i64 v.c1, .int .i64 v.c2, .bool v.c3, .bool v.c4, .int .u64 v.c5] 44) = w1 := ⟨_, rfl⟩
      rw [hw1]
      have HX1 : Hid (Ext w w1) := Lib.hid (by rw [← hw1]; exact hX.out.alloc _)
      have HB1 : Hid (Blk w1 wr.heap.size #[.int .i64 0, .string (str v.subj), .slice v.ha n1 v.hc, .slice v.da n2 v.dc, .int .i64 v.time, .int .u64 v.seq, .int .u64 v.num, .int .u64 v.keep, .bool v.last, .slice v.sa v.subs.length v.sc, .int .i64 v.c0, .int .i64 v.c1, .int .i64 v.c2, .bool v.c3, .bool v.c4, .int .u64 v.c5] 44) := Lib.hid (by rw [← hw1]; exact Blk.new _ _ _)
      clear hw1 c0 c1 c2 c3 c4 c5 c6 c7 c8 c9 c10 c11 c12 c13 c14 c15
      refine (H18.out (by omega) w1 HX1.out).mono ?_
      rintro e w1' ⟨⟨b1, rfl⟩, rfl⟩
      have p0 : w1.cell? ⟨wr.heap.size, 0, none⟩ = some (.int .i64 0) := HB1.out.cell 0
      have p1 : w1.cell? ⟨wr.heap.size, 1, none⟩ = some (.string (str v.subj)) := HB1.out.cell 1
      have p2 : w1.cell? ⟨wr.heap.size, 2, none⟩ = some (.slice v.ha n1 v.hc) := HB1.out.cell 2
      have p3 : w1.cell? ⟨wr.heap.size, 3, none⟩ = some (.slice v.da n2 v.dc) := HB1.out.cell 3
      have p4 : w1.cell? ⟨wr.heap.size, 4, none⟩ = some (.int .i64 v.time) := HB1.out.cell 4
      have p5 : w1.cell? ⟨wr.heap.size, 5, none⟩ = some (.int .u64 v.seq) := HB1.out.cell 5
      have p6 : w1.cell? ⟨wr.heap.size, 6, none⟩ = some (.int .u64 v.num) := HB1.out.cell 6
      have p7 : w1.cell? ⟨wr.heap.size, 7, none⟩ = some (.int .u64 v.keep) := HB1.out.cell 7
      cases b1
      · go_wp2_with fail
        all_goals first
          | (go_ret; (first | exact ⟨⟨_, rfl, by simp⟩, HX1.out⟩ | exact ⟨.inl rfl, HX1.out⟩))
          | skip
        refine (H19.out w1).mono ?_
        rintro e w2 ⟨⟨b2, rfl, hb2⟩, hX2⟩
        have HX2 := Lib.hid (HX1.out.trans hX2 fun _ _ h => h)
        have HB2 := Lib.hid (HB1.out.keep hX2 id)
        have Hb2 := Lib.hid hb2
        clear hb2 hX2 p0 p1 p2 p3 p4 p5 p6 p7
        have p0 : w2.cell? ⟨wr.heap.size, 0, none⟩ = some (.int .i64 0) := HB2.out.cell 0
        have p1 : w2.cell? ⟨wr.heap.size, 1, none⟩ = some (.string (str v.subj)) := HB2.out.cell 1
        have p2 : w2.cell? ⟨wr.heap.size, 2, none⟩ = some (.slice v.ha n1 v.hc) := HB2.out.cell 2
        have p3 : w2.cell? ⟨wr.heap.size, 3, none⟩ = some (.slice v.da n2 v.dc) := HB2.out.cell 3
        have p4 : w2.cell? ⟨wr.heap.size, 4, none⟩ = some (.int .i64 v.time) := HB2.out.cell 4
        have p5 : w2.cell? ⟨wr.heap.size, 5, none⟩ = some (.int .u64 v.seq) := HB2.out.cell 5
        have p6 : w2.cell? ⟨wr.heap.size, 6, none⟩ = some (.int .u64 v.num) := HB2.out.cell 6
        have p7 : w2.cell? ⟨wr.heap.size, 7, none⟩ = some (.int .u64 v.keep) := HB2.out.cell 7
        cases b2
        · go_wp2_with fail
          all_goals (go_ret; (first | exact ⟨⟨_, rfl, by simp⟩, HX2.out⟩ | exact ⟨.inl rfl, HX2.out⟩))
        · have HKJ : Hid (∀ (k : Nat) (v' : StepV), k < j + 1 → vs[k]? = some v' → v'.Small) := Lib.hid fun k v' hk hv' => by
            by_cases hkj : k = j
            · subst hkj
              rw [HVJ.out] at hv'
              simp at hv'
              subst hv'
              exact ⟨Hb2.out (by trivial), by omega, by omega⟩
            · exact hK.out k v' (by omega) hv'
          go_wp2_with fail
          all_goals first
            | (go_ret; (first | exact ⟨⟨_, rfl, by simp⟩, HX2.out⟩ | exact ⟨.inl rfl, HX2.out⟩))
            | (go_roundw
               case measure => simp [intOf]; omega
               case rel => exact ⟨j + 1, _, by omega, by simp, rfl, by trivial, HX2, HKJ⟩)
      · go_wp2_with fail
        all_goals (go_ret; (first | exact ⟨⟨_, rfl, by simp⟩, HX1.out⟩ | exact ⟨.inl rfl, HX1.out⟩))
    · have HKA : Hid (∀ v, v ∈ vs → v.Small) := Lib.hid fun v hv => by
        obtain ⟨r, hr, rfl⟩ := List.getElem_of_mem hv
        exact hK.out r _ (by omega) (by simp [hr])
      go_wp2_with fail
      all_goals go_ret
      all_goals first
        | exact ⟨.inl rfl, hX.out⟩
        | exact ⟨⟨_, rfl, fun h => ⟨by simp at h; omega, HKA.out⟩⟩, hX.out⟩
        | exact ⟨.inr ⟨rfl, by omega, HKA.out⟩, hX.out⟩
        | exact ⟨⟨_, rfl, fun h => ⟨by omega, HKA.out⟩⟩, hX.out⟩

end Go.Proofs.YtbehafhkgbjgmaaGreatDoor
