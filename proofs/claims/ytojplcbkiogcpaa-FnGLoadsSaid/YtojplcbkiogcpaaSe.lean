/- spec: Put, the walk. -/
import Derived.Test.YtojplcbkiogcpaaSd
import Derived.Test.YtojplcbkiogcpaaRege
import Derived.StillTailTactics
import Derived.Deep.AppendLies
namespace Go.Proofs.Ytojplcbkiogcpaa
set_option linter.unusedSimpArgs false
set_option linter.unusedVariables false
open Go.RowKit

def CellsAt (w : World) (b o : Nat) (l : List (Int × Int)) : Prop := ∀ i x, l[i]? = some x → w.cell? ⟨b, o + i * 2, none⟩ = some (.int .i64 x.1) ∧ w.cell? ⟨b, o + i * 2 + 1, none⟩ = some (.int .i64 x.2)

theorem CellsAt.chg {w w' : World} {b o : Nat} {l : List (Int × Int)} (h : CellsAt w b o l) (c : Chg (fun _ _ => False) w w') : CellsAt w' b o l := fun i x hx => ⟨c.cell (fun h => h) (h i x hx).1, c.cell (fun h => h) (h i x hx).2⟩

/-- A Found as a value. -/
def foundV (o : Option (Int × Int)) : Value := match o with
  | some x => .agg #[.int .i64 x.1, .int .i64 x.2, .bool true]
  | none => .agg #[.int .i64 0, .int .i64 0, .bool false]

def putL (l : List (Int × Int)) (x : Int × Int) (i : Nat) (b : Bool) : List (Int × Int) := l.take i ++ x :: (if b then l.drop (i + 1) else l.drop i)
def putF (l : List (Int × Int)) (i : Nat) (b : Bool) : Option (Int × Int) := if b then l[i]? else none

def PutPost (rk : Int → Int) (l : List (Int × Int)) (x : Int × Int) (w : World) (e : Ending) (w' : World) : Prop :=
  ∃ v i b, PlaceIs (ltR rk) l x i b ∧ e = .returned (.tuple #[v, foundV (putF l i b)]) ∧ RowI w' v (putL l x i b) w.heap.size ∧ Chg (fun _ _ => False) w w'


set_option maxRecDepth 100000 in
set_option maxHeartbeats 1000000 in
theorem put_some (ordv : Value) (rk : Int → Int) (b' o' : Nat) (cap : Nat) (l : List (Int × Int)) (x : Int × Int) (w : World) (hR : RankOk ordv rk w) (hl : CellsAt w b' o' l) (hlen : l.length ≤ 2147483648) (hcap : l.length ≤ cap) :
    Calls Try.prog 82 #[ordv, .slice (some ⟨b', o', none⟩) l.length cap, itemV x] w (PutPost rk l x w) := by
  have HR := Lib.hid hR
  have HL := Lib.hid hl
  clear hR hl
  obtain ⟨i0, hi0, hz0, hz1, hz2⟩ := info_parts infoItem
  unfold itemV
  go_enter Try.func82, Try.ntmps82
  go_wp2_with fail
  refine name_calls (fun w1 => Chg (fun _ _ => False) w w1 ∧ w1.heap[w.heap.size]? = some (.cells #[.int .i64 x.1, .int .i64 x.2] 26 (0, 0)) ∧ w1.heap[w.heap.size + 1]? = some (.cells #[.int .i64 0, .int .i64 0, .bool false] 38 (0, 0))) ⟨((Chg.refl _ _).alloc _).alloc _, ?_, ?_⟩ ?_
  · rw [ha_lt _ _ (by simp)]; exact ha_at _ _ rfl
  · exact ha_at _ _ (by simp)
  rintro w1 ⟨hc1, hb1, hb2⟩
  refine (place_any ordv rk _ cap l x w1 (HR.out.chg hc1) (.inr ⟨b', o', rfl, HL.out.chg hc1⟩) hlen).mono ?_
  rintro e w2 ⟨⟨i, b, rfl, hpl⟩, hc2⟩
  have HB1 := Lib.hid hb1
  have HB2 := Lib.hid hb2
  have HP := Lib.hid hpl
  clear hb1 hb2 hpl
  have hile := HP.out.1
  have j0 : (0 : Int) ≤ (i : Int) := by omega
  have j1 : (i : Int) ≤ (cap : Int) := by omega
  have j2 : i ≤ cap := by omega
  go_wp2_with (refine wpList_append_opt (by rfl) _ _ _ (by rfl) 26 i0 _ 2 16 Try.underlying31 hi0 hz0 hz1 hz2 rfl w2.heap.size 0 0 0 (by rfl) [] ?_ rfl (Nat.le_refl _) (some ⟨b', o', none⟩) i _ (by rfl) (flatI (l.take i)) ?_ ?_ (flatI_one _) ?_ ?_ ?_)
  · exact RowAt.of_block (c := #[]) (ha_at _ _ rfl) _ _ (by simp) (by simp) (by simp)
  · rw [flatI_len, List.length_take]; omega
  · have hsz2 : ∀ o, Chg (fun _ _ => False) w (w2.alloc o) := fun o => ((hc1.trans hc2).alloc o)
    refine .inl ⟨_, rfl, fun j u hj => ?_⟩
    have := ItemsAt.src (HL.out.chg (hsz2 (.cells #[] 26))) 0 i j u (by rw [List.drop_zero]; exact hj)
    simpa using this
  · unfold maxLen; omega
  · omega
  intro b1 o1 cap1 w3 h3
  have hc3 : Chg (fun _ _ => False) w2 w3 := ((Chg.refl _ _).alloc _).trans (h3.chg.mono (fun _ o _ h => by have := h.2; omega))
  have hcc := (hc1.trans hc2).trans hc3
  have q3 : w3.heap[w.heap.size]? = some (.cells #[.int .i64 x.1, .int .i64 x.2] 26 (0, 0)) := by rw [(hc2.trans hc3).block (heap_lt HB1.out) (fun _ h => h)]; exact HB1.out
  have q0 := cell_of_block q3 0
  have q1 := cell_of_block q3 1
  simp only [List.getElem?_toArray, List.getElem?_cons_zero, List.getElem?_cons_succ] at q0 q1
  clear q3
  have r3 := h3.row
  rw [List.nil_append] at r3
  have room3 := h3.room
  have pl3 : w2.heap.size ≤ b1 := by
    rcases h3.place with h | h
    · have := h.1; omega
    · have h2 := h.1
      simp at h2
      omega
  clear h3
  simp only [Nat.zero_add] at room3
  go_wp2_with (refine wpList_append_opt (by rfl) _ _ _ (by rfl) 26 i0 _ 2 16 Try.underlying31 hi0 hz0 hz1 hz2 rfl b1 o1 i cap1 (by rfl) (flatI (l.take i)) ?_ ?_ ?_ (some ⟨w3.heap.size, 0, none⟩) 1 _ (by rfl) [.int .i64 x.1, .int .i64 x.2] (by rfl) ?_ (by simp [Value.oneCell']) ?_ ?_ ?_)
  · exact r3.alloc _
  · rw [flatI_len, List.length_take]; omega
  · exact room3
  · exact .inl ⟨_, rfl, World.news_of_block (cs := #[.int .i64 x.1, .int .i64 x.2]) (t := 26) (fr := (0, 0)) (ha_at _ _ rfl)⟩
  · unfold maxLen; omega
  · omega
  intro b2 o2 cap2 w4 h4
  have hsz2 := (hc1.trans hc2).size
  have hsz23 := hc3.size
  have hc4 : Chg (fun b _ => w2.heap.size ≤ b) w3 w4 := ((Chg.refl _ _).alloc _).trans (h4.chg.mono (fun b o _ h => by have := h.1; show w2.heap.size ≤ b; omega))
  have hc24 : Chg (fun _ _ => False) w2 w4 := hc3.trans' hc4 (fun _ _ _ h => h) (fun b o hb h => by omega)
  have hcw4 := (hc1.trans hc2).trans hc24
  have r4 := h4.row
  rw [show flatI (l.take i) ++ [.int .i64 x.1, .int .i64 x.2] = flatI (l.take i ++ [x]) by rw [flatI_app]; rfl] at r4
  have room4 := h4.room
  have pl4 : w2.heap.size ≤ b2 := by
    rcases h4.place with h | h
    · have := h.1; omega
    · have h2 := h.1
      simp at h2
      omega
  have q2 : w4.heap[w.heap.size + 1]? = some (.cells #[.int .i64 0, .int .i64 0, .bool false] 38 (0, 0)) := by rw [(hc2.trans hc24).block (heap_lt HB2.out) (fun _ h => h)]; exact HB2.out
  have HQ2 := Lib.hid q2
  clear q2 h4 hc4 r3 room3 pl3 q0 q1 hc3 hcc
  have j3 : (i : Int) ≤ (l.length : Int) := by omega
  have hmin : l.length - i + i = l.length := by omega
  cases b
  · obtain ⟨od, hif, hod⟩ : ∃ od, (if cap = i then some (⟨b', o', none⟩ : Addr) else some ⟨b', o' + i * 2, none⟩) = some ⟨b', od, none⟩ ∧ (i < l.length → od = o' + i * 2) := by
      by_cases h : cap = i
      · exact ⟨o', by rw [if_pos h], fun h2 => by omega⟩
      · exact ⟨_, by rw [if_neg h], fun _ => rfl⟩
    go_wp2_with (refine wpList_append_opt (by rfl) _ _ _ (by rfl) 26 i0 _ 2 16 Try.underlying31 hi0 hz0 hz1 hz2 rfl b2 o2 (i + 1) cap2 (by rfl) (flatI (l.take i ++ [x])) r4 ?_ room4 (some ⟨b', od, none⟩) (l.length - i) _ (by rfl) (flatI (l.drop i)) ?_ ?_ (flatI_one _) ?_ ?_ ?_)
    · rw [flatI_len]; simp; omega
    · rw [flatI_len, List.length_drop]
    · rcases Nat.lt_or_ge i l.length with hlt | hge
      · refine .inl ⟨_, rfl, fun j u hj => ?_⟩
        rw [hod hlt]
        exact ItemsAt.src (HL.out.chg hcw4) i l.length j u (by rw [List.take_of_length_le (by simp)]; exact hj)
      · exact .inr ⟨by omega, by rw [List.drop_eq_nil_of_le hge]; rfl⟩
    · unfold maxLen; omega
    · omega
    intro b5 o5 cap5 w5 h5
    have hc5 : Chg (fun b _ => w2.heap.size ≤ b) w4 w5 :=  (h5.chg.mono (fun b o _ h => by have := h.1; show w2.heap.size ≤ b; omega))
    have hsz4 := hc24.size
    have hcw5 : Chg (fun _ _ => False) w w5 := hcw4.trans' hc5 (fun _ _ _ h => h) (fun b o hb h => by omega)
    have hlt2 := heap_lt HB2.out
    have hsz12 := hc2.size
    have q5 : w5.heap[w.heap.size + 1]? = some (.cells #[.int .i64 0, .int .i64 0, .bool false] 38 (0, 0)) := by rw [hc5.block (heap_lt HQ2.out) (fun _ h => by omega)]; exact HQ2.out
    have k0 := cell_of_block q5 0
    have k1 := cell_of_block q5 1
    have k2 := cell_of_block q5 2
    have z0 := frozen_of_block q5 0
    have z1 := frozen_of_block q5 1
    have z2 := frozen_of_block q5 2
    simp only [List.getElem?_toArray, List.getElem?_cons_zero, List.getElem?_cons_succ] at k0 k1 k2
    have r5 := h5.row
    have room5 := h5.room
    have pl5 : w2.heap.size ≤ b5 := by
      rcases h5.place with h | h
      · have := h.1; omega
      · have h2 : w4.heap.size ≤ b5 := h.1
        omega
    clear q5 h5
    go_wp2_with fail
    have hpl : putL l x i false = l.take i ++ [x] ++ l.drop i := by simp [putL]
    have hpn : (putL l x i false).length = i + 1 + (l.length - i) := by rw [hpl]; simp; omega
    refine bodyPost_ret (v := .tuple #[.slice (some ⟨b5, o5, none⟩) (i + 1 + (l.length - i)) cap5, foundV none]) (by simp [results, Try.results82, go_sem, foundV, k0, k1, k2]) rfl ?_
    refine ⟨_, i, false, HP.out, rfl, ⟨b5, o5, cap5, by rw [hpn], by rw [hpn]; exact room5, by omega, ?_⟩, ?_⟩
    · rw [hpl, flatI_app]
      refine r5.chg (A := fun b _ => b = w.heap.size + 1) ?_ (fun j _ h => by omega)
      repeat (first | refine Chg.drew ?_ | refine Chg.setCell ?_ (.inl rfl) _ | exact Chg.refl _ _)
    · refine hcw5.trans' (A' := fun b _ => b = w.heap.size + 1) ?_ (fun _ _ _ h => h) (fun b o hb h => by omega)
      repeat (first | refine Chg.drew ?_ | refine Chg.setCell ?_ (.inl rfl) _ | exact Chg.refl _ _)
  · obtain ⟨y, hy, hyx⟩ : ∃ y, l[i]? = some y ∧ ltR rk x y = false := by
      rcases HP.out.2.2.2 with ⟨y, h1, h2, _⟩ | ⟨_, h⟩
      · exact ⟨y, h1, h2⟩
      · cases h
    have hilt := (List.getElem?_eq_some_iff.1 hy).1
    obtain ⟨g0, g1⟩ := HL.out.chg hcw4 i y hy
    have HY := Lib.hid hy
    clear hy
    have i1 : (i : Int) < (l.length : Int) := by omega
    have s2 : (0 : Int) ≤ (i : Int) + 1 := by omega
    have s3 : ((i : Int) + 1).toNat = i + 1 := by omega
    have s4 : (i : Int) + 1 ≤ (l.length : Int) := by omega
    obtain ⟨od, hif, hod⟩ : ∃ od, (if cap = i + 1 then some (⟨b', o', none⟩ : Addr) else some ⟨b', o' + (i + 1) * 2, none⟩) = some ⟨b', od, none⟩ ∧ (i + 1 < l.length → od = o' + (i + 1) * 2) := by
      by_cases h : cap = i + 1
      · exact ⟨o', by rw [if_pos h], fun h2 => by omega⟩
      · exact ⟨_, by rw [if_neg h], fun _ => rfl⟩
    have s1 : IntKind.i64.wrap ((i : Int) + 1) = (i : Int) + 1 := IntWalk.i64_in _ (by omega)
    go_wp2_with fail
    refine wp_region_script (fun w' => w'.cell? ⟨b', o' + i * 2, none⟩ = some (.int .i64 y.1) ∧ w'.cell? ⟨b', o' + i * 2 + 1, none⟩ = some (.int .i64 y.2)) 12 [(0, true), (1, true), (2, true), (3, true), (4, true), (6, true), (7, true), (8, true), (9, true), (10, true), (5, false), (11, true), (12, false)] (by kernel_rfl) (by kernel_rfl) (fun _ _ _ _ _ h => h) ⟨g0, g1⟩ ?_
    refine script_soft (by rfl) ?_ (by simp [Region.wanted, yielded]) ?_ ?_
    rotate_left
    · intro w' hS
      try obtain ⟨a1, a2⟩ := hS
      go_simp
      try with_reducible rfl
    simp only [Act.put, List.setIfInBounds_toArray, List.set_cons_zero, List.set_cons_succ]
    refine script_soft (by rfl) ?_ (by simp [Region.wanted, yielded]) ?_ ?_
    rotate_left
    · intro w' hS
      try obtain ⟨a1, a2⟩ := hS
      go_simp
      try with_reducible rfl
    simp only [Act.put, List.setIfInBounds_toArray, List.set_cons_zero, List.set_cons_succ]
    refine script_soft (by rfl) ?_ (by simp [Region.wanted, yielded]) ?_ ?_
    rotate_left
    · intro w' hS
      try obtain ⟨a1, a2⟩ := hS
      go_simp
      try with_reducible rfl
    simp only [Act.put, List.setIfInBounds_toArray, List.set_cons_zero, List.set_cons_succ]
    refine script_soft (by rfl) ?_ (by simp [Region.wanted, yielded]) ?_ ?_
    rotate_left
    · intro w' hS
      try obtain ⟨a1, a2⟩ := hS
      go_simp
      try with_reducible rfl
    simp only [Act.put, List.setIfInBounds_toArray, List.set_cons_zero, List.set_cons_succ]
    refine script_soft (by rfl) ?_ (by simp [Region.wanted, yielded]) ?_ ?_
    rotate_left
    · intro w' hS
      try obtain ⟨a1, a2⟩ := hS
      go_simp
      try with_reducible rfl
    simp only [Act.put, List.setIfInBounds_toArray, List.set_cons_zero, List.set_cons_succ]
    refine script_soft (by rfl) ?_ (by simp [Region.wanted, yielded]) ?_ ?_
    rotate_left
    · intro w' hS
      try obtain ⟨a1, a2⟩ := hS
      go_simp
      try with_reducible rfl
    simp only [Act.put, List.setIfInBounds_toArray, List.set_cons_zero, List.set_cons_succ]
    refine script_soft (by rfl) ?_ (by simp [Region.wanted, yielded]) ?_ ?_
    rotate_left
    · intro w' hS
      try obtain ⟨a1, a2⟩ := hS
      go_simp
      try with_reducible rfl
    simp only [Act.put, List.setIfInBounds_toArray, List.set_cons_zero, List.set_cons_succ]
    refine script_soft (by rfl) ?_ (by simp [Region.wanted, yielded]) ?_ ?_
    rotate_left
    · intro w' hS
      try obtain ⟨a1, a2⟩ := hS
      go_simp
      try with_reducible rfl
    simp only [Act.put, List.setIfInBounds_toArray, List.set_cons_zero, List.set_cons_succ]
    refine script_soft (by rfl) ?_ (by simp [Region.wanted, yielded]) ?_ ?_
    rotate_left
    · intro w' hS
      try obtain ⟨a1, a2⟩ := hS
      go_simp
      try with_reducible rfl
    simp only [Act.put, List.setIfInBounds_toArray, List.set_cons_zero, List.set_cons_succ]
    refine script_soft (by rfl) ?_ (by simp [Region.wanted, yielded]) ?_ ?_
    rotate_left
    · intro w' hS
      try obtain ⟨a1, a2⟩ := hS
      go_simp
      try with_reducible rfl
    simp only [Act.put, List.setIfInBounds_toArray, List.set_cons_zero, List.set_cons_succ]
    refine script_hard (by rfl) (by simp [Region.wanted, yielded]) (fun K hK => ?_)
    refine wp_append_opt _ _ _ (by rfl) 26 i0 _ 2 16 Try.underlying31 hi0 hz0 hz1 hz2 rfl b2 o2 (i + 1) cap2 (by rfl) (flatI (l.take i ++ [x])) r4 ?_ room4 (some ⟨b', od, none⟩) (l.length - (i + 1)) _ (by rfl) (flatI (l.drop (i + 1))) ?_ ?_ (flatI_one _) ?_ ?_ ?_
    · rw [flatI_len]; simp; omega
    · rw [flatI_len, List.length_drop]
    · rcases Nat.lt_or_ge (i + 1) l.length with hlt | hge
      · refine .inl ⟨_, rfl, fun j u hj => ?_⟩
        rw [hod hlt]
        exact ItemsAt.src (HL.out.chg hcw4.drew) (i + 1) l.length j u (by rw [List.take_of_length_le (by simp)]; exact hj)
      · exact .inr ⟨by omega, by rw [List.drop_eq_nil_of_le hge]; rfl⟩
    · unfold maxLen; omega
    · omega
    intro b5 o5 cap5 w5 h5
    have h5c := h5.chg
    have hkp : ∀ o, ¬ (b' = b2 ∧ o2 + (i + 1) * 2 ≤ o ∧ o < o2 + cap2 * 2) := fun o h => by
      have h1 := World.block_lt_of_cell? w _ (HL.out i y HY.out).1
      have h2 := h.1
      have h3 : b' < w.heap.size := h1
      omega
    have g0' := h5c.cell (hkp _) g0
    have g1' := h5c.cell (hkp _) g1
    refine hK _ _ (fun _ => ⟨g0', g1'⟩) ?_
    clear hK K
    have hc5 : Chg (fun b _ => w2.heap.size ≤ b) w4 w5 := (Chg.refl _ _).drew.trans (h5.chg.mono (fun b o _ h => by have := h.1; show w2.heap.size ≤ b; omega))
    have hsz4 := hc24.size
    have hcw5 : Chg (fun _ _ => False) w w5 := hcw4.trans' hc5 (fun _ _ _ h => h) (fun b o hb h => by omega)
    have hlt2 := heap_lt HB2.out
    have hsz12 := hc2.size
    have q5 : w5.heap[w.heap.size + 1]? = some (.cells #[.int .i64 0, .int .i64 0, .bool false] 38 (0, 0)) := by rw [hc5.block (heap_lt HQ2.out) (fun _ h => by omega)]; exact HQ2.out
    have k0 := cell_of_block q5 0
    have k1 := cell_of_block q5 1
    have k2 := cell_of_block q5 2
    have z0 := frozen_of_block q5 0
    have z1 := frozen_of_block q5 1
    have z2 := frozen_of_block q5 2
    simp only [List.getElem?_toArray, List.getElem?_cons_zero, List.getElem?_cons_succ] at k0 k1 k2
    have r5 := h5.row
    have room5 := h5.room
    have pl5 : w2.heap.size ≤ b5 := by
      rcases h5.place with h | h
      · have := h.1; omega
      · have h2 : w4.heap.size ≤ b5 := h.1
        omega
    clear q5 h5
    refine script_soft (by rfl) ?_ (by simp [Region.wanted, yielded]) ?_ ?_
    rotate_left
    · intro w' hS
      try obtain ⟨a1, a2⟩ := hS
      go_simp
      try with_reducible rfl
    simp only [Act.put, List.setIfInBounds_toArray, List.set_cons_zero, List.set_cons_succ]
    refine script_hard (by rfl) (by simp [Region.wanted, yielded]) (fun K hK => ?_)
    go_simp
    refine hK _ _ (fun h => absurd h (by decide)) (script_nil ?_)
    clear hK K
    go_wp2_with fail
    have hpl : putL l x i true = l.take i ++ [x] ++ l.drop (i + 1) := by simp [putL]
    have hpn : (putL l x i true).length = i + 1 + (l.length - (i + 1)) := by rw [hpl]; simp; omega
    have hpf : putF l i true = some y := by show l[i]? = _; exact HY.out
    refine bodyPost_ret (v := .tuple #[.slice (some ⟨b5, o5, none⟩) (i + 1 + (l.length - (i + 1))) cap5, foundV (some y)]) (by simp [results, Try.results82, go_sem, foundV, k0, k1, k2]) rfl ?_
    refine ⟨_, i, true, HP.out, by rw [hpf], ⟨b5, o5, cap5, by rw [hpn], by rw [hpn]; exact room5, by omega, ?_⟩, ?_⟩
    · rw [hpl, flatI_app]
      refine r5.chg (A := fun b _ => b = w.heap.size + 1) ?_ (fun j _ h => by omega)
      repeat (first | refine Chg.drew ?_ | refine Chg.setCell ?_ (.inl rfl) _ | exact Chg.refl _ _)
    · refine hcw5.trans' (A' := fun b _ => b = w.heap.size + 1) ?_ (fun _ _ _ h => h) (fun b o hb h => by omega)
      repeat (first | refine Chg.drew ?_ | refine Chg.setCell ?_ (.inl rfl) _ | exact Chg.refl _ _)

set_option maxRecDepth 100000 in
set_option maxHeartbeats 1000000 in
theorem put_none (ordv : Value) (rk : Int → Int) (x : Int × Int) (w : World) (hR : RankOk ordv rk w) :
    Calls Try.prog 82 #[ordv, .slice none 0 0, itemV x] w (PutPost rk [] x w) := by
  have HR := Lib.hid hR
  clear hR
  obtain ⟨i0, hi0, hz0, hz1, hz2⟩ := info_parts infoItem
  unfold itemV
  go_enter Try.func82, Try.ntmps82
  go_wp2_with fail
  refine name_calls (fun w1 => Chg (fun _ _ => False) w w1 ∧ w1.heap[w.heap.size]? = some (.cells #[.int .i64 x.1, .int .i64 x.2] 26 (0, 0)) ∧ w1.heap[w.heap.size + 1]? = some (.cells #[.int .i64 0, .int .i64 0, .bool false] 38 (0, 0))) ⟨((Chg.refl _ _).alloc _).alloc _, ?_, ?_⟩ ?_
  · rw [ha_lt _ _ (by simp)]; exact ha_at _ _ rfl
  · exact ha_at _ _ (by simp)
  rintro w1 ⟨hc1, hb1, hb2⟩
  refine (place_any ordv rk none 0 [] x w1 (HR.out.chg hc1) (.inl rfl) (by simp)).mono ?_
  rintro e w2 ⟨⟨i, b, rfl, hpl⟩, hc2⟩
  obtain rfl : i = 0 := by have := hpl.1; simpa using this
  obtain rfl : b = false := by
    rcases hpl.2.2.2 with ⟨y, h1, _⟩ | ⟨_, h⟩
    · simp at h1
    · exact h
  have HB1 := Lib.hid hb1
  have HB2 := Lib.hid hb2
  have HP := Lib.hid hpl
  clear hb1 hb2 hpl
  go_wp2_with (refine wpList_append_opt (by rfl) _ _ _ (by rfl) 26 i0 _ 2 16 Try.underlying31 hi0 hz0 hz1 hz2 rfl w2.heap.size 0 0 0 (by rfl) [] ?_ rfl (Nat.le_refl _) none 0 _ (by rfl) [] ?_ (.inr ⟨rfl, rfl⟩) ?_ ?_ ?_ ?_)
  · exact RowAt.of_block (c := #[]) (ha_at _ _ rfl) _ _ (by simp) (by simp) (by simp)
  · rfl
  · simp
  · unfold maxLen; omega
  · omega
  intro b1 o1 cap1 w3 h3
  have hc3 : Chg (fun _ _ => False) w2 w3 := ((Chg.refl _ _).alloc _).trans (h3.chg.mono (fun _ o _ h => by have := h.2; omega))
  have q3 : w3.heap[w.heap.size]? = some (.cells #[.int .i64 x.1, .int .i64 x.2] 26 (0, 0)) := by rw [(hc2.trans hc3).block (heap_lt HB1.out) (fun _ h => h)]; exact HB1.out
  have q0 := cell_of_block q3 0
  have q1 := cell_of_block q3 1
  simp only [List.getElem?_toArray, List.getElem?_cons_zero, List.getElem?_cons_succ] at q0 q1
  clear q3
  have r3 := h3.row
  rw [List.nil_append] at r3
  have room3 := h3.room
  have pl3 : w2.heap.size ≤ b1 := by
    rcases h3.place with h | h
    · have := h.1; omega
    · have h2 := h.1
      simp at h2
      omega
  clear h3
  simp only [Nat.zero_add] at room3
  go_wp2_with (refine wpList_append_opt (by rfl) _ _ _ (by rfl) 26 i0 _ 2 16 Try.underlying31 hi0 hz0 hz1 hz2 rfl b1 o1 0 cap1 (by rfl) [] ?_ ?_ ?_ (some ⟨w3.heap.size, 0, none⟩) 1 _ (by rfl) [.int .i64 x.1, .int .i64 x.2] (by rfl) ?_ (by simp [Value.oneCell']) ?_ ?_ ?_)
  · exact r3.alloc _
  · rfl
  · exact room3
  · exact .inl ⟨_, rfl, World.news_of_block (cs := #[.int .i64 x.1, .int .i64 x.2]) (t := 26) (fr := (0, 0)) (ha_at _ _ rfl)⟩
  · unfold maxLen; omega
  · omega
  intro b2 o2 cap2 w4 h4
  have hsz2 := (hc1.trans hc2).size
  have hsz23 := hc3.size
  have hc4 : Chg (fun b _ => w2.heap.size ≤ b) w3 w4 := ((Chg.refl _ _).alloc _).trans (h4.chg.mono (fun b o _ h => by have := h.1; show w2.heap.size ≤ b; omega))
  have hc24 : Chg (fun _ _ => False) w2 w4 := hc3.trans' hc4 (fun _ _ _ h => h) (fun b o hb h => by omega)
  have hcw4 := (hc1.trans hc2).trans hc24
  have r4 := h4.row
  rw [List.nil_append] at r4
  have room4 := h4.room
  have pl4 : w2.heap.size ≤ b2 := by
    rcases h4.place with h | h
    · have := h.1; omega
    · have h2 := h.1
      simp at h2
      omega
  have q2 : w4.heap[w.heap.size + 1]? = some (.cells #[.int .i64 0, .int .i64 0, .bool false] 38 (0, 0)) := by rw [(hc2.trans hc24).block (heap_lt HB2.out) (fun _ h => h)]; exact HB2.out
  have HQ2 := Lib.hid q2
  clear q2 h4 hc4 r3 room3 pl3 q0 q1 hc3
  go_wp2_with (refine wpList_append_opt (by rfl) _ _ _ (by rfl) 26 i0 _ 2 16 Try.underlying31 hi0 hz0 hz1 hz2 rfl b2 o2 (0 + 1) cap2 (by rfl) [.int .i64 x.1, .int .i64 x.2] r4 ?_ room4 none 0 _ (by rfl) [] ?_ (.inr ⟨rfl, rfl⟩) ?_ ?_ ?_ ?_)
  · rfl
  · rfl
  · simp
  · unfold maxLen; omega
  · omega
  intro b5 o5 cap5 w5 h5
  have hc5 : Chg (fun b _ => w2.heap.size ≤ b) w4 w5 :=  (h5.chg.mono (fun b o _ h => by have := h.1; show w2.heap.size ≤ b; omega))
  have hsz4 := hc24.size
  have hcw5 : Chg (fun _ _ => False) w w5 := hcw4.trans' hc5 (fun _ _ _ h => h) (fun b o hb h => by omega)
  have hlt2 := heap_lt HB2.out
  have hsz12 := hc2.size
  have q5 : w5.heap[w.heap.size + 1]? = some (.cells #[.int .i64 0, .int .i64 0, .bool false] 38 (0, 0)) := by rw [hc5.block (heap_lt HQ2.out) (fun _ h => by omega)]; exact HQ2.out
  have k0 := cell_of_block q5 0
  have k1 := cell_of_block q5 1
  have k2 := cell_of_block q5 2
  have z0 := frozen_of_block q5 0
  have z1 := frozen_of_block q5 1
  have z2 := frozen_of_block q5 2
  simp only [List.getElem?_toArray, List.getElem?_cons_zero, List.getElem?_cons_succ] at k0 k1 k2
  have r5 := h5.row
  have room5 := h5.room
  have pl5 : w2.heap.size ≤ b5 := by
    rcases h5.place with h | h
    · have := h.1; omega
    · have h2 : w4.heap.size ≤ b5 := h.1
      omega
  clear q5 h5
  go_wp2_with fail
  refine bodyPost_ret (v := .tuple #[.slice (some ⟨b5, o5, none⟩) (0 + 1 + 0) cap5, foundV none]) (by simp [results, Try.results82, go_sem, foundV, k0, k1, k2]) rfl ?_
  refine ⟨_, 0, false, HP.out, rfl, ⟨b5, o5, cap5, rfl, room5, by omega, ?_⟩, ?_⟩
  · rw [List.append_nil] at r5
    refine r5.chg (A := fun b _ => b = w.heap.size + 1) ?_ (fun j _ h => by omega)
    repeat (first | refine Chg.drew ?_ | refine Chg.setCell ?_ (.inl rfl) _ | exact Chg.refl _ _)
  · refine hcw5.trans' (A' := fun b _ => b = w.heap.size + 1) ?_ (fun _ _ _ h => h) (fun b o hb h => by omega)
    repeat (first | refine Chg.drew ?_ | refine Chg.setCell ?_ (.inl rfl) _ | exact Chg.refl _ _)
end Go.Proofs.Ytojplcbkiogcpaa
