/- spec: Cut, At. -/
import Derived.Test.YtjggkpmlffhjgaaA9
namespace Go.Proofs.Ytjggkpmlffhjgaa
set_option linter.unusedSimpArgs false
set_option linter.unusedVariables false
open Go.RowKit

def atL (l : List (Int × Int)) (i : Int) : Option (Int × Int) := if 0 ≤ i then l[i.toNat]? else none
def cutL0 (l : List (Int × Int)) (i : Int) : List (Int × Int) := if 0 ≤ i then l.take i.toNat ++ l.drop (i.toNat + 1) else l

def CutPost (p : Option Addr) (cap : Nat) (l : List (Int × Int)) (i : Int) (w : World) (e : Ending) (w' : World) : Prop :=
  ∃ v, e = .returned (.tuple #[v, foundV (atL l i)]) ∧ ((v = .slice p l.length cap ∧ atL l i = none) ∨ (RowI w' v (cutL0 l i) w.heap.size ∧ (atL l i).isSome)) ∧ Chg (fun _ _ => False) w w'

theorem cut_out (p : Option Addr) (cap : Nat) (l : List (Int × Int)) (i : Int) (w : World) (hi : i < 0 ∨ (l.length : Int) ≤ i) :
    Calls Try.prog 130 #[.slice p l.length cap, .int .i64 i] w (CutPost p cap l i w) := by
  have hat : atL l i = none := by
    unfold atL
    split
    · rw [List.getElem?_eq_none (by omega)]
    · rfl
  have fin : ∀ w', Chg (fun _ _ => False) w w' → CutPost p cap l i w (.returned (.tuple #[.slice p l.length cap, foundV none])) w' := fun w' h => ⟨_, by rw [hat], .inl ⟨rfl, hat⟩, h⟩
  have FIN := Lib.hid fin
  clear fin hat
  by_cases h0 : i < 0
  · go_enter Try.func130, Try.ntmps130
    go_wp2
    refine bodyPost_ret (v := .tuple #[.slice p l.length cap, foundV none]) (by simp [results, Try.results130, go_sem, foundV]) rfl (FIN.out _ ?_)
    exact (Chg.refl _ _).alloc _
  · have h1 : (l.length : Int) ≤ i := by omega
    go_enter Try.func130, Try.ntmps130
    go_wp2
    refine bodyPost_ret (v := .tuple #[.slice p l.length cap, foundV none]) (by simp [results, Try.results130, go_sem, foundV]) rfl (FIN.out _ ?_)
    exact (Chg.refl _ _).alloc _

set_option maxRecDepth 100000 in
set_option maxHeartbeats 1000000 in
theorem cut_in (b' o' cap : Nat) (l : List (Int × Int)) (i : Nat) (w : World) (hi : i < l.length) (hl : CellsAt w b' o' l) (hlen : l.length ≤ 2147483648) (hcap : l.length ≤ cap) :
    Calls Try.prog 130 #[.slice (some ⟨b', o', none⟩) l.length cap, .int .i64 i] w (CutPost (some ⟨b', o', none⟩) cap l i w) := by
  have HL := Lib.hid hl
  clear hl
  obtain ⟨i0, hi0, hz0, hz1, hz2⟩ := info_parts infoItem
  obtain ⟨y, hy⟩ : ∃ y, l[i]? = some y := ⟨_, List.getElem?_eq_getElem hi⟩
  have hy0 := HL.out i y hy
  have hb : b' < w.heap.size := World.block_lt_of_cell? w _ hy0.1
  have HY := Lib.hid hy
  clear hy
  have i0' : (0 : Int) ≤ (i : Int) := by omega
  have i1 : (i : Int) < (l.length : Int) := by omega
  have i1' : ¬ (l.length : Int) ≤ (i : Int) := by omega
  have i2 : (i : Int) ≤ (cap : Int) := by omega
  have i3 : i ≤ cap := by omega
  have s2 : (0 : Int) ≤ (i : Int) + 1 := by omega
  have s3 : ((i : Int) + 1).toNat = i + 1 := by omega
  have s4 : (i : Int) + 1 ≤ (l.length : Int) := by omega
  obtain ⟨od, hif, hod⟩ : ∃ od, (if cap = i + 1 then some (⟨b', o', none⟩ : Addr) else some ⟨b', o' + (i + 1) * 2, none⟩) = some ⟨b', od, none⟩ ∧ (i + 1 < l.length → od = o' + (i + 1) * 2) := by
    by_cases h : cap = i + 1
    · exact ⟨o', by rw [if_pos h], fun h2 => by omega⟩
    · exact ⟨_, by rw [if_neg h], fun _ => rfl⟩
  have s1 : IntKind.i64.wrap ((i : Int) + 1) = (i : Int) + 1 := IntWalk.i64_in _ (by omega)
  go_enter Try.func130, Try.ntmps130
  go_wp2
  refine name_world (fun w1 => Chg (fun _ _ => False) w w1 ∧ w1.heap[w.heap.size]? = some (.cells #[.int .i64 0, .int .i64 0, .bool false] 121 (0, 0))) ⟨(Chg.refl _ _).alloc _, ha_at _ _ rfl⟩ ?_
  rintro w1 ⟨hc1, hb1⟩
  have HB1 := Lib.hid hb1
  clear hb1
  have g0 := hc1.cell (fun h => h) hy0.1
  have g1 := hc1.cell (fun h => h) hy0.2
  have hsz1 := hc1.size
  clear hy0
  refine wp_region_script (fun w' => w'.cell? ⟨b', o' + i * 2, none⟩ = some (.int .i64 y.1) ∧ w'.cell? ⟨b', o' + i * 2 + 1, none⟩ = some (.int .i64 y.2)) 16 [(1, true), (2, true), (3, true), (5, true), (6, true), (7, true), (8, true), (10, true), (11, true), (12, true), (13, true), (14, true), (0, false), (4, false), (9, false), (15, true), (16, false)] (by kernel_rfl) (by kernel_rfl) (fun _ _ _ _ _ h => h) ⟨g0, g1⟩ ?_
  refine script_soft (by rfl) ?_ (by simp [Region.wanted, yielded]) ?_ ?_
  rotate_left
  · intro w' hS
    try obtain ⟨a1, a2⟩ := hS
    go_simp
    try with_reducible rfl
  simp only [Act.put, List.setIfInBounds_toArray, List.set_cons_zero, List.set_cons_succ]
  refine script_soft (by rfl) ?_ (by simp [Region.wanted, yielded]) ?_ ?_
  rotate_left
  · intro w' hS
    try obtain ⟨a1, a2⟩ := hS
    go_simp
    try with_reducible rfl
  simp only [Act.put, List.setIfInBounds_toArray, List.set_cons_zero, List.set_cons_succ]
  refine script_soft (by rfl) ?_ (by simp [Region.wanted, yielded]) ?_ ?_
  rotate_left
  · intro w' hS
    try obtain ⟨a1, a2⟩ := hS
    go_simp
    try with_reducible rfl
  simp only [Act.put, List.setIfInBounds_toArray, List.set_cons_zero, List.set_cons_succ]
  refine script_soft (by rfl) ?_ (by simp [Region.wanted, yielded]) ?_ ?_
  rotate_left
  · intro w' hS
    try obtain ⟨a1, a2⟩ := hS
    go_simp
    try with_reducible rfl
  simp only [Act.put, List.setIfInBounds_toArray, List.set_cons_zero, List.set_cons_succ]
  refine script_soft (by rfl) ?_ (by simp [Region.wanted, yielded]) ?_ ?_
  rotate_left
  · intro w' hS
    try obtain ⟨a1, a2⟩ := hS
    go_simp
    try with_reducible rfl
  simp only [Act.put, List.setIfInBounds_toArray, List.set_cons_zero, List.set_cons_succ]
  refine script_soft (by rfl) ?_ (by simp [Region.wanted, yielded]) ?_ ?_
  rotate_left
  · intro w' hS
    try obtain ⟨a1, a2⟩ := hS
    go_simp
    try with_reducible rfl
  simp only [Act.put, List.setIfInBounds_toArray, List.set_cons_zero, List.set_cons_succ]
  refine script_soft (by rfl) ?_ (by simp [Region.wanted, yielded]) ?_ ?_
  rotate_left
  · intro w' hS
    try obtain ⟨a1, a2⟩ := hS
    go_simp
    try with_reducible rfl
  simp only [Act.put, List.setIfInBounds_toArray, List.set_cons_zero, List.set_cons_succ]
  refine script_soft (by rfl) ?_ (by simp [Region.wanted, yielded]) ?_ ?_
  rotate_left
  · intro w' hS
    try obtain ⟨a1, a2⟩ := hS
    go_simp
    try with_reducible rfl
  simp only [Act.put, List.setIfInBounds_toArray, List.set_cons_zero, List.set_cons_succ]
  refine script_soft (by rfl) ?_ (by simp [Region.wanted, yielded]) ?_ ?_
  rotate_left
  · intro w' hS
    try obtain ⟨a1, a2⟩ := hS
    go_simp
    try with_reducible rfl
  simp only [Act.put, List.setIfInBounds_toArray, List.set_cons_zero, List.set_cons_succ]
  refine script_soft (by rfl) ?_ (by simp [Region.wanted, yielded]) ?_ ?_
  rotate_left
  · intro w' hS
    try obtain ⟨a1, a2⟩ := hS
    go_simp
    try with_reducible rfl
  simp only [Act.put, List.setIfInBounds_toArray, List.set_cons_zero, List.set_cons_succ]
  refine script_soft (by rfl) ?_ (by simp [Region.wanted, yielded]) ?_ ?_
  rotate_left
  · intro w' hS
    try obtain ⟨a1, a2⟩ := hS
    go_simp
    try with_reducible rfl
  simp only [Act.put, List.setIfInBounds_toArray, List.set_cons_zero, List.set_cons_succ]
  refine script_soft (by rfl) ?_ (by simp [Region.wanted, yielded]) ?_ ?_
  rotate_left
  · intro w' hS
    try obtain ⟨a1, a2⟩ := hS
    go_simp
    try with_reducible rfl
  simp only [Act.put, List.setIfInBounds_toArray, List.set_cons_zero, List.set_cons_succ]
  refine script_hard (by rfl) (by simp [Region.wanted, yielded]) (fun K hK => ?_)
  go_simp
  have hc2 : Chg (fun _ _ => False) w1 (w1.alloc (.cells #[] 53)).drew := ((Chg.refl _ _).alloc _).drew
  refine hK _ _ (fun _ => ⟨hc2.cell (fun h => h) g0, hc2.cell (fun h => h) g1⟩) ?_
  clear hK K
  refine script_hard (by rfl) (by simp [Region.wanted, yielded]) (fun K hK => ?_)
  refine wp_append_opt _ _ _ (by rfl) 53 i0 _ 2 16 Try.underlying35 hi0 hz0 hz1 hz2 rfl w1.heap.size 0 0 0 (by rfl) [] ?_ rfl (Nat.le_refl _) (some ⟨b', o', none⟩) i _ (by rfl) (flatI (l.take i)) ?_ ?_ (flatI_one _) ?_ ?_ ?_
  · exact RowAt.of_block (c := #[]) (ha_at _ _ rfl) _ _ (by simp) (by simp) (by simp)
  · rw [flatI_len, List.length_take]; omega
  · refine .inl ⟨_, rfl, fun j u hj => ?_⟩
    have := ItemsAt.src (HL.out.chg (hc1.trans hc2)) 0 i j u (by rw [List.drop_zero]; exact hj)
    simpa using this
  · unfold maxLen; omega
  · omega
  intro b3 o3 cap3 w3 h3
  have hc3 : Chg (fun _ _ => False) w1 w3 := hc2.trans (h3.chg.mono (fun _ o _ h => by have := h.2; omega))
  refine hK _ _ (fun _ => ⟨hc3.cell (fun h => h) g0, hc3.cell (fun h => h) g1⟩) ?_
  clear hK K
  have r3 := h3.row
  rw [List.nil_append] at r3
  have room3 := h3.room
  have pl3 : w1.heap.size ≤ b3 := by
    rcases h3.place with h | h
    · have := h.1; omega
    · have h2 : (w1.alloc (.cells #[] 53)).heap.size ≤ b3 := h.1
      simp at h2
      omega
  clear h3
  simp only [Nat.zero_add] at room3
  simp only [Act.put, List.setIfInBounds_toArray, List.set_cons_zero, List.set_cons_succ, Nat.zero_add]
  refine script_hard (by rfl) (by simp [Region.wanted, yielded]) (fun K hK => ?_)
  refine wp_append_opt _ _ _ (by rfl) 53 i0 _ 2 16 Try.underlying35 hi0 hz0 hz1 hz2 rfl b3 o3 i cap3 (by rfl) (flatI (l.take i)) r3 ?_ room3 (some ⟨b', od, none⟩) (l.length - (i + 1)) _ (by rfl) (flatI (l.drop (i + 1))) ?_ ?_ (flatI_one _) ?_ ?_ ?_
  · rw [flatI_len, List.length_take]; omega
  · rw [flatI_len, List.length_drop]
  · rcases Nat.lt_or_ge (i + 1) l.length with hlt | hge
    · refine .inl ⟨_, rfl, fun j u hj => ?_⟩
      rw [hod hlt]
      exact ItemsAt.src (HL.out.chg (hc1.trans hc3)) (i + 1) l.length j u (by rw [List.take_of_length_le (by simp)]; exact hj)
    · exact .inr ⟨by omega, by rw [List.drop_eq_nil_of_le hge]; rfl⟩
  · unfold maxLen; omega
  · omega
  intro b4 o4 cap4 w4 h4
  have hc4 : Chg (fun b _ => w1.heap.size ≤ b) w3 w4 := h4.chg.mono (fun b o _ h => by have := h.1; show w1.heap.size ≤ b; omega)
  have hc14 : Chg (fun _ _ => False) w1 w4 := hc3.trans' hc4 (fun _ _ _ h => h) (fun b o hb h => by omega)
  refine hK _ _ (fun _ => ⟨hc14.cell (fun h => h) g0, hc14.cell (fun h => h) g1⟩) ?_
  clear hK K
  have r4 := h4.row
  rw [← flatI_app] at r4
  have room4 := h4.room
  have hsz3 := hc3.size
  have pl4 : w1.heap.size ≤ b4 := by
    rcases h4.place with h | h
    · have := h.1; omega
    · have h2 : w3.heap.size ≤ b4 := h.1
      omega
  clear h4 hc4 r3 room3 pl3
  refine script_soft (by rfl) ?_ (by simp [Region.wanted, yielded]) ?_ ?_
  rotate_left
  · intro w' hS
    try obtain ⟨a1, a2⟩ := hS
    go_simp
    try with_reducible rfl
  simp only [Act.put, List.setIfInBounds_toArray, List.set_cons_zero, List.set_cons_succ]
  have q4 : w4.heap[w.heap.size]? = some (.cells #[.int .i64 0, .int .i64 0, .bool false] 121 (0, 0)) := by rw [hc14.block (heap_lt HB1.out) (fun _ h => h)]; exact HB1.out
  have k0 := cell_of_block q4 0
  have k1 := cell_of_block q4 1
  have k2 := cell_of_block q4 2
  have z0 := frozen_of_block q4 0
  have z1 := frozen_of_block q4 1
  have z2 := frozen_of_block q4 2
  simp only [List.getElem?_toArray, List.getElem?_cons_zero, List.getElem?_cons_succ] at k0 k1 k2
  have hlt1 := heap_lt HB1.out
  clear q4
  refine script_hard (by rfl) (by simp [Region.wanted, yielded]) (fun K hK => ?_)
  go_simp
  refine hK _ _ (fun h => absurd h (by decide)) (script_nil ?_)
  clear hK K
  go_wp2_with fail
  have hat : atL l (i : Int) = some y := by unfold atL; rw [if_pos (by omega)]; simpa using HY.out
  have hcl : cutL0 l (i : Int) = l.take i ++ l.drop (i + 1) := by unfold cutL0; rw [if_pos (by omega)]; simp
  have hpn : (cutL0 l (i : Int)).length = i + (l.length - (i + 1)) := by rw [hcl]; simp; omega
  refine bodyPost_ret (v := .tuple #[.slice (some ⟨b4, o4, none⟩) (i + (l.length - (i + 1))) cap4, foundV (some y)]) (by simp [results, Try.results130, go_sem, foundV, k0, k1, k2]) rfl ?_
  refine ⟨_, by rw [hat], .inr ⟨⟨b4, o4, cap4, by rw [hpn], by rw [hpn]; exact room4, by omega, ?_⟩, by rw [hat]; rfl⟩, ?_⟩
  · rw [hcl]
    refine r4.chg (A := fun b _ => b = w.heap.size) ?_ (fun j _ h => by omega)
    repeat (first | refine Chg.drew ?_ | refine Chg.setCell ?_ (.inl rfl) _ | exact Chg.refl _ _)
  · refine (hc1.trans hc14).trans' (A' := fun b _ => b = w.heap.size) ?_ (fun _ _ _ h => h) (fun b o hb h => by omega)
    repeat (first | refine Chg.drew ?_ | refine Chg.setCell ?_ (.inl rfl) _ | exact Chg.refl _ _)

theorem cut_any (p : Option Addr) (cap : Nat) (l : List (Int × Int)) (i : Int) (w : World) (hl : ItemsAt w p l) (hlen : l.length ≤ 2147483648) (hcap : l.length ≤ cap) :
    Calls Try.prog 130 #[.slice p l.length cap, .int .i64 i] w (CutPost p cap l i w) := by
  by_cases h : i < 0 ∨ (l.length : Int) ≤ i
  · exact cut_out p cap l i w h
  · rcases hl with rfl | ⟨b, o, rfl, hc⟩
    · simp at h; omega
    · obtain ⟨j, rfl⟩ : ∃ j : Nat, i = (j : Int) := ⟨i.toNat, by omega⟩
      exact cut_in b o cap l j w (by omega) hc hlen hcap


set_option maxRecDepth 100000 in
theorem at_any (p : Option Addr) (cap : Nat) (l : List (Int × Int)) (i : Int) (w : World) (hl : ItemsAt w p l) (hlen : l.length ≤ 2147483648) (hcap : l.length ≤ cap) :
    Calls Try.prog 92 #[.slice p l.length cap, .int .i64 i] w fun e w' => e = .returned (foundV (atL l i)) ∧ Chg (fun _ _ => False) w w' := by
  have hcut := fun w1 (c : Chg (fun _ _ => False) w w1) => cut_any p cap l i w1 (hl.chg c) hlen hcap
  have HC := Lib.hid hcut
  clear hcut hl
  unfold CutPost at HC
  generalize atL l i = o at HC ⊢
  go_enter Try.func92, Try.ntmps92
  go_wp2_with fail
  refine (HC.out _ ((Chg.refl _ _).alloc _)).mono ?_
  rintro e w1 ⟨v, rfl, _, hc⟩
  have hb1 : w1.heap[w.heap.size]? = some (.cells #[.int .i64 0, .int .i64 0, .bool false] 121 (0, 0)) := by rw [hc.block (by simp) (fun _ h => h)]; exact ha_at _ _ (by simp)
  have c0 := cell_of_block hb1 0
  have c1 := cell_of_block hb1 1
  have c2 := cell_of_block hb1 2
  have z0 := frozen_of_block hb1 0
  have z1 := frozen_of_block hb1 1
  have z2 := frozen_of_block hb1 2
  simp only [List.getElem?_toArray, List.getElem?_cons_zero, List.getElem?_cons_succ] at c0 c1 c2
  have HB1 := Lib.hid hb1
  clear hb1
  have hlt := heap_lt HB1.out
  have ca : ∀ (W : World) o k, w.heap.size < W.heap.size → (W.alloc o).cell? ⟨w.heap.size, k, none⟩ = W.cell? ⟨w.heap.size, k, none⟩ := fun W o k h => World.cell?_alloc_lt W o _ h
  rcases o with _ | y
  all_goals
    unfold foundV
    go_wp2_with fail
  · refine bodyPost_ret (v := foundV none) (by simp [results, Try.results92, go_sem, foundV, c0, c1, c2, ca, hlt]) rfl ⟨rfl, ?_⟩
    refine (((Chg.refl _ _).alloc _).trans hc).trans' (A' := fun b _ => b = w.heap.size) ?_ (fun _ _ _ h => h) (fun b o hb h => by omega)
    repeat (first | refine Chg.alloc ?_ _ | refine Chg.setCell ?_ (.inl rfl) _ | exact Chg.refl _ _)
  · refine bodyPost_ret (v := foundV (some y)) (by simp [results, Try.results92, go_sem, foundV, c0, c1, c2, ca, hlt]) rfl ⟨rfl, ?_⟩
    refine (((Chg.refl _ _).alloc _).trans hc).trans' (A' := fun b _ => b = w.heap.size) ?_ (fun _ _ _ h => h) (fun b o hb h => by omega)
    repeat (first | refine Chg.alloc ?_ _ | refine Chg.setCell ?_ (.inl rfl) _ | exact Chg.refl _ _)

def makeV (ordv : Value) (d : Int) (b : Bool) : Value := .agg #[ordv, .int .i64 d, .bool b]

end Go.Proofs.Ytjggkpmlffhjgaa
