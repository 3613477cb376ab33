/- minMut, MinMut. -/
import Derived.Test.YtkgcjgedpefhjaaWq
namespace Go.Proofs.Ytkgcjgedpefhjaa
open Go.RowKit

theorem its_head {α : Type} {h : Nat} {T : BT α h} {mn mx : Nat} (hs : Sh mn mx h T) (h1 : 1 ≤ (its T).length) : 1 ≤ (toL h T).length := Nat.le_trans h1 (its_sub hs).length_le

theorem first_kid {α : Type} {h : Nat} {T : BT α (h + 1)} {mn mx : Nat} (hs : Sh mn mx (h + 1) T) (h1 : 1 ≤ T.2.1.length) (hmn : 1 ≤ mn) :
    ∃ c, T.2.2[0]? = some c ∧ 1 ≤ (its c).length ∧ Sh mn mx h c ∧ (toL h c).head? = (toL (h + 1) T).head? ∧ (toL h c).length < (toL (h + 1) T).length := by
  have hl := hs.2.1
  obtain ⟨c, hc⟩ : ∃ c, T.2.2[0]? = some c := ⟨_, List.getElem?_eq_getElem (by omega)⟩
  obtain ⟨g1, g2⟩ := hs.2.2 c (List.mem_of_getElem? hc)
  have g3 : 1 ≤ (toL h c).length := its_head g2 (by omega)
  refine ⟨c, hc, by omega, g2, ?_, ?_⟩
  · rw [toL_at hs hc]
    cases e : toL h c with
    | nil => rw [e] at g3; simp at g3
    | cons a l => simp [pre]
  · rw [toL_at hs hc]
    have : 1 ≤ (post (T.2.1.drop 0) ((T.2.2.map (toL h)).drop (0 + 1))).length := by
      match h2 : T.2.1, h3 : T.2.2 with
      | x :: xs, a :: b :: ts => simp [post]
      | [], _ => rw [h2] at h1; simp at h1
      | x :: xs, [] => rw [h2, h3] at hl; simp at hl
      | x :: xs, [a] => rw [h2, h3] at hl; simp at hl
    simp only [List.length_append]
    omega

def mOf (H : Nat → Option (NodeR (Int × Int))) (v : Value) : Nat := match v with
  | .pointer (some a) => (cntOf H a.block).toNat
  | _ => 0

theorem mOf_root {H : Nat → Option (NodeR (Int × Int))} {h : Nat} {T : BT (Int × Int) h} (hT : IsT H h T) : mOf H (.pointer (some ⟨rid T, 0, none⟩)) = (toL h T).length := by
  show (cntOf H (rid T)).toNat = _
  unfold cntOf
  rw [hT.root]
  simp [recOf_cnt]

def headV (o : Option (Int × Int)) : Value := match o with
  | some x => .tuple #[.int .i64 x.1, .int .i64 x.2, .bool true]
  | none => .tuple #[.int .i64 0, .int .i64 0, .bool false]

theorem Fam.node {p : Par (Int × Int)} {w : World} {F : Nat → Prop} {H : Nat → Option (NodeR (Int × Int))} (h : Fam p w F H) {n : Nat} {r : NodeR (Int × Int)} (hn : H n = some r) : ∃ l, NodeAt p w n r l := by
  obtain ⟨l, h1, _⟩ := h.work hn
  exact ⟨l, h1⟩

set_option maxRecDepth 100000 in
set_option maxHeartbeats 1000000 in
theorem minMut_any {mn mx : Nat} {w : World} {F : Nat → Prop} {t : Nat} {l : List (Int × Int)} (hM : MapIn mn mx w F t l) (hmn : 1 ≤ mn) :
    Calls Try.prog 89 #[.pointer (some ⟨t, 0, none⟩), .bool true] w fun e w' => e = .returned (headV l.head?) ∧ Chg (fun _ _ => False) w w' := by
  rcases hM with ⟨rfl, _, hB⟩ | ⟨H, h, T, hI, hB, rfl, h1⟩
  · have c2 : w.cell? ⟨t, 2, none⟩ = some (.pointer none) := hB.c2
    go_enter Try.func89, Try.ntmps89
    go_wp2
    go_ret3
    exact ⟨rfl, Chg.refl _ _⟩
  · have c2 : w.cell? ⟨t, 2, none⟩ = some (.pointer (some ⟨rid T, 0, none⟩)) := hB.c2
    have c0 := hB.at_.c0
    obtain ⟨l0, hn0⟩ := hI.fam.node hI.isT.root
    have n0 := hn0.c0
    go_enter Try.func89, Try.ntmps89
    go_wp2_with fail
    refine (isoLoad_any t (rid T) 0 _ _ _ c2 n0 c0).mono ?_
    rintro e w1 ⟨rfl, m, hw1⟩
    have hc1 : Chg (fun _ _ => False) w w1 := by rw [hw1]; exact (Chg.refl _ _).drewN _
    clear hw1
    go_wp2_with fail
    go_loopw [7] (fun nv wr => ∃ h', ∃ T' : BT (Int × Int) h', nv = .pointer (some ⟨rid T', 0, none⟩) ∧ IsT H h' T' ∧ Sh mn mx h' T' ∧ 1 ≤ (its T').length ∧ (toL h' T').head? = (toL h T).head? ∧ Chg (fun _ _ => False) w wr) (fun nv _ => mOf H nv)
    case atStart => exact ⟨h, T, rfl, hI.isT, hI.sh, h1, rfl, hc1⟩
    case round =>
      obtain ⟨h', T', rfl, hT, hs, hit, hhead, hc⟩ := hrel
      obtain ⟨l2, hn2⟩ := (hI.fam.chg hc (fun _ _ _ h => h)).node hT.root
      match h', T', hT, hs, hit, hhead, hn2 with
      | 0, T', hT, hs, hit, hhead, hn2 =>
        have hit' : 1 ≤ T'.2.length := hit
        obtain ⟨x, hx⟩ : ∃ x, T'.2[0]? = some x := ⟨_, List.getElem?_eq_getElem (by omega)⟩
        have n3 := hn2.c3n rfl
        have n2 := hn2.c2
        have iv := hn2.mval (j := 0) hx
        have ik := hn2.mkey (j := 0) hx
        simp only [Nat.zero_mul, Nat.add_zero] at iv ik
        have i1 : (0 : Int) < (T'.2.length : Int) := by omega
        rw [recOf_items] at n2
        have n2' : wr.cell? ⟨rid T', 2, none⟩ = some (.slice (some ⟨l2.ib, l2.io, none⟩) T'.2.length l2.ic) := n2
        have hh : (toL h T).head? = some x := by
          rw [← hhead]
          show T'.2.head? = some x
          rw [List.head?_eq_getElem?]; exact hx
        clear n2 hx
        go_wp2_with (go_at_call 70; refine (leaf_any _ none _ ?_).mono ?_; (focus go_simp); rintro e w' ⟨rfl, rfl⟩)
        refine name_world (fun w2 => Chg (fun _ _ => False) wr w2 ∧ w2.heap[wr.heap.size]? = some (.cells #[.int .i64 x.2, .int .i64 x.1] 94 (0, 0))) ⟨(Chg.refl _ _).alloc _, ha_at _ _ rfl⟩ ?_
        rintro w2 ⟨hc2, hb2⟩
        have q0 := cell_of_block hb2 0
        have q1 := cell_of_block hb2 1
        simp only [List.getElem?_toArray, List.getElem?_cons_zero, List.getElem?_cons_succ] at q0 q1
        go_quiet (fail)
        go_wp2
        go_ret3
        exact ⟨by rw [hh]; rfl, (hc.trans hc2).drewN _⟩
      | h' + 1, T', hT, hs, hit, hhead, hn2 =>
        obtain ⟨c, hc0, g1, g2, g3, g4⟩ := first_kid hs hit hmn
        have hcm : c ∈ T'.2.2 := List.mem_of_getElem? hc0
        have hk : (recOf (h' + 1) T').kids = some (T'.2.2.map fun c => some (rid c)) := rfl
        have n3 := hn2.c3s hk
        have nc := hn2.cc hk
        have k0 := hn2.kidc hk (j := 0) (o := some (rid c)) (by simp [hc0])
        have k0' : wr.cell? ⟨l2.cb, l2.co, none⟩ = some (.pointer (some ⟨rid c, 0, none⟩)) := k0
        rw [List.length_map] at nc
        have hkl : 1 ≤ T'.2.2.length := by have := (List.getElem?_eq_some_iff.1 hc0).1; omega
        have i1 : (0 : Int) < (T'.2.2.length : Int) := by omega
        have cw0 := hc.cell (fun h => h) c0
        obtain ⟨lc, hnc⟩ := (hI.fam.chg hc (fun _ _ _ h => h)).node (hT.kid hcm).root
        have nc0 := hnc.c0
        have m1 := mOf_root hT
        have m2 := mOf_root (hT.kid hcm)
        clear k0
        go_wp2_with (go_at_call 70; refine (leaf_any _ (some ⟨l2.cc, 0, none⟩) _ ?_).mono ?_; (focus go_simp); rintro e w' ⟨rfl, rfl⟩)
        refine (isoLoad_any t (rid c) 0 _ _ _ k0' nc0 cw0).mono ?_
        rintro e w3 ⟨rfl, m3, hw3⟩
        have hc3 : Chg (fun _ _ => False) wr w3 := by rw [hw3]; exact (Chg.refl _ _).drewN _
        clear hw3
        go_wp2_with fail
        go_roundw
        case rel => exact ⟨h', c, rfl, hT.kid hcm, g2, g1, g3.trans hhead, hc.trans hc3⟩
        case measure => omega

set_option maxRecDepth 100000 in
theorem MinMut_any {mn mx : Nat} {w : World} {F : Nat → Prop} {t : Nat} {l : List (Int × Int)} (hM : MapIn mn mx w F t l) (hmn : 1 ≤ mn) :
    Calls Try.prog 65 #[.pointer (some ⟨t, 0, none⟩)] w fun e w' => e = .returned (headV l.head?) ∧ Chg (fun _ _ => False) w w' := by
  have hmin := minMut_any hM hmn
  generalize l.head? = o at hmin ⊢
  have HM := Lib.hid hmin
  clear hmin
  cases o
  all_goals
    go_enter Try.func65, Try.ntmps65
    go_wp2_with fail
    refine HM.out.mono ?_
    rintro e w1 ⟨rfl, hc⟩
    unfold headV
    go_wp2_with fail
    go_ret3
    exact ⟨rfl, hc⟩
end Go.Proofs.Ytkgcjgedpefhjaa
