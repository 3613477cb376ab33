/- Min of a tree of interfaces. -/
import Derived.Test.YtcabnhpnkaielaaA11
import Derived.Test.YtcabnhpnkaielaaMo
namespace Go.Proofs.Ytcabnhpnkaielaa
set_option linter.unusedSimpArgs false
set_option linter.unusedVariables false
open Go.RowKit

theorem lock_any (t : Nat) (b : Bool) (w : World) : Calls Try.prog 91 #[.pointer (some ⟨t, 0, none⟩), .bool b] w fun e w' => e = .returned (.bool false) ∧ w = w' := by
  go_enter Try.func91, Try.ntmps91
  go_wp2
  go_ret
  exact ⟨rfl, rfl⟩

theorem first_kid {α : Type} {h : Nat} {T : BT α (h + 1)} {mn mx : Nat} (hs : Sh mn mx (h + 1) T) (h1 : 1 ≤ T.2.1.length) (hmn : 1 ≤ mn) :
    ∃ c, T.2.2[0]? = some c ∧ 1 ≤ (its c).length ∧ Sh mn mx h c ∧ (toL h c).head? = (toL (h + 1) T).head? ∧ (toL h c).length < (toL (h + 1) T).length := by
  have hl := hs.2.1
  obtain ⟨c, hc⟩ : ∃ c, T.2.2[0]? = some c := ⟨_, List.getElem?_eq_getElem (by omega)⟩
  obtain ⟨g1, g2⟩ := hs.2.2 c (List.mem_of_getElem? hc)
  have g3 : 1 ≤ (toL h c).length := its_head g2 (by omega)
  refine ⟨c, hc, by omega, g2, ?_, ?_⟩
  · rw [toL_at hs hc]
    cases e : toL h c with
    | nil => rw [e] at g3; simp at g3
    | cons a l => simp [pre]
  · rw [toL_at hs hc]
    have : 1 ≤ (post (T.2.1.drop 0) ((T.2.2.map (toL h)).drop (0 + 1))).length := by
      match h2 : T.2.1, h3 : T.2.2 with
      | x :: xs, a :: b :: ts => simp [post]
      | [], _ => rw [h2] at h1; simp at h1
      | x :: xs, [] => rw [h2, h3] at hl; simp at hl
      | x :: xs, [a] => rw [h2, h3] at hl; simp at hl
    simp only [List.length_append]
    omega

def endV {ord : List Int} (o : Option (It ord)) : Value := match o with
  | some x => .tuple #[.iface 26 (.agg #[.int .i64 x.1, .int .i64 x.2]), .bool true]
  | none => .tuple #[.nilIface, .bool false]

set_option maxRecDepth 100000 in
set_option maxHeartbeats 1000000 in
theorem minMut_any {ord : List Int} {k : Kc ord} {mn mx : Nat} {w : World} {F : Nat → Prop} {t : Nat} {l : List (It ord)} (b : Bool) (hM : MapIn k mn mx w F t l) (hmn : 1 ≤ mn) :
    Calls Try.prog 101 #[.pointer (some ⟨t, 0, none⟩), .bool b] w fun e w' => e = .returned (endV l.head?) ∧ Chg (fun _ _ => False) w w' := by
  rcases hM with ⟨rfl, _, hB⟩ | ⟨H, h, T, hI, hB, rfl, h1⟩
  · have c2 : w.cell? ⟨t, 2, none⟩ = some (.pointer none) := hB.c2
    have c7 := hB.at_.c4
    clear hB
    go_enter Try.func101, Try.ntmps101
    go_wp2_with fail
    refine (lock_any t b _).mono ?_
    rintro e w' ⟨rfl, rfl⟩
    go_wp2_with fail
    refine bodyPost_ret (v := .tuple #[.nilIface, .bool false]) (by simp [results, Try.results101, go_sem]) rfl ?_
    exact ⟨rfl, Chg.refl _ _⟩
  · have HB := Lib.hid hB
    have HI := Lib.hid hI
    have hmx := hI.m1000
    have c2 : w.cell? ⟨t, 2, none⟩ = some (.pointer (some ⟨rid T, 0, none⟩)) := hB.c2
    have c0 := hB.at_.c0
    obtain ⟨l0, hn0⟩ := hI.fam.node hI.isT.root
    have n0 := hn0.c0
    clear hB hI hn0
    go_enter Try.func101, Try.ntmps101
    go_wp2_with fail
    refine (lock_any t b _).mono ?_
    rintro e w' ⟨rfl, rfl⟩
    go_wp2_with fail
    refine (isoLoad_any t (rid T) k _ _ _ c2 n0 c0).mono ?_
    rintro e w2 ⟨rfl, m, hw1⟩
    have hc2 : Chg (fun _ _ => False) w w2 := by rw [hw1]; exact (Chg.refl _ _).drewN _
    clear hw1 c2 c0 n0
    go_wp2_with fail
    go_loopw [6] (fun nv wr => ∃ h', ∃ T' : BT (It ord) h', nv = .pointer (some ⟨rid T', 0, none⟩) ∧ IsT H h' T' ∧ Sh mn mx h' T' ∧ 1 ≤ (its T').length ∧ (toL h' T').head? = (toL h T).head? ∧ Chg (fun _ _ => False) w wr) (fun nv _ => mOf H nv)
    case atStart => exact ⟨h, T, rfl, HI.out.isT, HI.out.sh, h1, rfl, hc2⟩
    case round =>
      obtain ⟨h', T', rfl, hT, hs, hit, hhead, hc⟩ := hrel
      obtain ⟨l2, hn2w⟩ := HI.out.fam.node hT.root
      have hn2 := hn2w.chg hc (fun _ _ _ h => h)
      match h', T', hT, hs, hit, hhead, hn2 with
      | 0, T', hT, hs, hit, hhead, hn2 =>
        have hit' : 1 ≤ T'.2.length := hit
        have hlen : T'.2.length ≤ mx := hs
        obtain ⟨x, hx⟩ : ∃ x, T'.2[0]? = some x := ⟨_, List.getElem?_eq_getElem (by omega)⟩
        have n3 := hn2.c3n rfl
        have n2 := hn2.c2
        have iv : wr.cell? ⟨l2.ib, l2.io, none⟩ = some (.iface 26 (.agg #[.int .i64 x.1, .int .i64 x.2])) := hn2.mval (j := 0) hx
        have i1 : (0 : Int) < (T'.2.length : Int) := by omega
        rw [recOf_items] at n2
        have n2' : wr.cell? ⟨rid T', 2, none⟩ = some (.slice (some ⟨l2.ib, l2.io, none⟩) T'.2.length l2.ic) := n2
        have hh : (toL h T).head? = some x := by
          rw [← hhead]
          show T'.2.head? = some x
          rw [List.head?_eq_getElem?]; exact hx
        clear n2 hx hn2
        go_wp2_with fail
        refine (leaf_any _ none _ n3).mono ?_
        rintro e w' ⟨rfl, rfl⟩
        go_wp2_with fail
        refine bodyPost_ret (v := .tuple #[.iface 26 (.agg #[.int .i64 x.1, .int .i64 x.2]), .bool true]) (by simp [results, Try.results101, go_sem]) rfl ?_
        exact ⟨by rw [hh]; rfl, hc⟩
      | h' + 1, T', hT, hs, hit, hhead, hn2 =>
        obtain ⟨c, hc0, g1, g2, g3, g4⟩ := first_kid hs hit hmn
        have hcm : c ∈ T'.2.2 := List.mem_of_getElem? hc0
        have hk : (recOf (h' + 1) T').kids = some (T'.2.2.map fun c => some (rid c)) := rfl
        have hlen : T'.2.1.length ≤ mx := hs.1
        have hkn : T'.2.2.length = T'.2.1.length + 1 := hs.2.1
        have n3 := hn2.c3s hk
        have nc := hn2.cc hk
        have k0 := hn2.kidc hk (j := 0) (o := some (rid c)) (by simp [hc0])
        have k0' : wr.cell? ⟨l2.cb, l2.co, none⟩ = some (.pointer (some ⟨rid c, 0, none⟩)) := k0
        rw [List.length_map] at nc
        have i1 : (0 : Int) < (T'.2.2.length : Int) := by omega
        have cw0 : wr.cell? ⟨t, 0, none⟩ = some (.int .u64 k.iso) := (HB.out.chg hc (fun _ _ _ h => h)).at_.c0
        obtain ⟨lc, hnc⟩ := (HI.out.fam.chg hc (fun _ _ _ h => h)).node (hT.kid hcm).root
        have nc0 := hnc.c0
        have m1 := mOf_root hT
        have m2 := mOf_root (hT.kid hcm)
        clear k0 hc0 hn2 hnc hkn
        go_wp2_with fail
        refine (leaf_any _ (some ⟨l2.cc, 0, none⟩) _ n3).mono ?_
        rintro e w' ⟨rfl, rfl⟩
        go_wp2_with fail
        refine (isoLoad_any t (rid c) k _ _ wr k0' nc0 cw0).mono ?_
        rintro e w3 ⟨rfl, m3, hw3⟩
        have hc3 : Chg (fun _ _ => False) wr w3 := by rw [hw3]; exact (Chg.refl _ _).drewN _
        clear hw3
        go_wp2_with fail
        go_roundw
        case rel => exact ⟨h', c, rfl, hT.kid hcm, g2, g1, g3.trans hhead, hc.trans hc3⟩
        case measure => omega

theorem Min_any {ord : List Int} {k : Kc ord} {mn mx : Nat} {w : World} {F : Nat → Prop} {t : Nat} {l : List (It ord)} (hM : MapIn k mn mx w F t l) (hmn : 1 ≤ mn) :
    Calls Try.prog 80 #[.pointer (some ⟨t, 0, none⟩)] w fun e w' => e = .returned (endV l.head?) ∧ Chg (fun _ _ => False) w w' := by
  have HC := Lib.hid (minMut_any false hM hmn)
  clear hM
  generalize l.head? = o at HC ⊢
  go_enter Try.func80, Try.ntmps80
  go_wp2_with fail
  refine HC.out.mono ?_
  rintro e w2 ⟨rfl, hc⟩
  rcases o with _ | y
  all_goals
    unfold endV
    go_wp2_with fail
    go_ret2
    exact ⟨rfl, hc⟩

theorem HMin_any {ord : List Int} {k : Kc ord} {mn mx : Nat} {w : World} {F : Nat → Prop} {hp t : Nat} {l : List (It ord)} (hh : HeapAt k w hp t) (hM : MapIn k mn mx w F t l) (hmn : 1 ≤ mn) :
    Calls Try.prog 58 #[.pointer (some ⟨hp, 0, none⟩)] w fun e w' => e = .returned (optV l.head?) ∧ Chg (fun _ _ => False) w w' := by
  have HC := Lib.hid (Min_any hM hmn)
  have c0 := cell_of_block hh 0
  simp only [List.getElem?_toArray, List.getElem?_cons_zero] at c0
  clear hM hh
  generalize l.head? = o at HC ⊢
  go_enter Try.func58, Try.ntmps58
  go_wp2_with fail
  refine HC.out.mono ?_
  rintro e w2 ⟨rfl, hc⟩
  rcases o with _ | y
  all_goals
    unfold endV
    go_wp2_with fail
    go_ret
    exact ⟨rfl, hc⟩

theorem foundAny_any {ord : List Int} (o : Option (It ord)) (w : World) :
    Calls Try.prog 57 #[optV o] w fun e w' => e = .returned (foundV o) ∧ Chg (fun _ _ => False) w w' := by
  have f1 := asItem
  rcases o with _ | y
  · unfold optV
    go_enter Try.func57, Try.ntmps57
    go_wp2
    refine bodyPost_ret (v := foundV none) (by simp [results, Try.results57, go_sem, foundV]) rfl ?_
    exact ⟨rfl, (Chg.refl _ _).alloc _⟩
  · unfold optV aggM
    go_enter Try.func57, Try.ntmps57
    go_wp2
    refine bodyPost_ret (v := foundV (some y)) (by simp [results, Try.results57, go_sem, foundV]) rfl ?_
    exact ⟨rfl, (Chg.refl _ _).alloc _⟩
end Go.Proofs.Ytcabnhpnkaielaa
