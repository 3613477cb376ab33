/- The walk of nodeSet at a branch: the child is full. -/
import Derived.Test.YtjggkpmlffhjgaaA2
import Derived.Test.YtjggkpmlffhjgaaA5
namespace Go.Proofs.Ytjggkpmlffhjgaa
set_option linter.unusedSimpArgs false
set_option linter.unusedVariables false
open Go.RowKit

/-- What the call for the child leaves. -/
def KidPost (k : Int) (F : Nat → Prop) (Z : World → (Nat → Option (NodeR (Int × Int))) → Int → Bool → Bool → Prop) (w1 : World) (e : Ending) (w' : World) : Prop :=
  ∃ H' pr rp sp, e = .returned (.tuple #[.agg #[], .bool rp, .bool sp]) ∧ Fam (parM k) w' (grow F w1 w') H' ∧ Chg (fun b _ => F b) w1 w' ∧ Z w1 H' pr rp sp

theorem Fam.grow1 {p : Par (Int × Int)} {w0 w1 w2 : World} {F : Nat → Prop} {H : Nat → Option (NodeR (Int × Int))} (h : Fam p w2 (grow F w1 w2) H) (h1 : w0.heap.size ≤ w1.heap.size) : Fam p w2 (grow F w0 w2) H := by
  refine h.mono (fun b hb => ?_) (fun b hb => ?_)
  · rcases hb with hb | hb
    · exact .inl hb
    · exact .inr ⟨by omega, hb.2⟩
  · rcases hb with hb | hb
    · exact h.lt (.inl hb)
    · exact hb.2

theorem Fam.grow2 {p : Par (Int × Int)} {w0 w1 w2 w3 : World} {F : Nat → Prop} {H : Nat → Option (NodeR (Int × Int))} (h : Fam p w3 (grow (grow F w1 w2) w2 w3) H) (h1 : w0.heap.size ≤ w1.heap.size) (h2 : w1.heap.size ≤ w2.heap.size) (h3 : w2.heap.size ≤ w3.heap.size) : Fam p w3 (grow F w0 w3) H := by
  refine h.mono (fun b hb => ?_) (fun b hb => ?_)
  · rcases hb with (hb | hb) | hb
    · exact .inl hb
    · exact .inr ⟨by omega, by omega⟩
    · exact .inr ⟨by omega, hb.2⟩
  · rcases hb with hb | hb
    · exact h.lt (.inl (.inl hb))
    · exact hb.2

def KidOk (k : Int) (w : World) (F : Nat → Prop) (n : Nat) (r : NodeR (Int × Int)) (Z : World → (Nat → Option (NodeR (Int × Int))) → Int → Bool → Bool → Prop) (e : Ending) (w' : World) : Prop :=
  ∃ w1 H' pr rp, Chg (fun _ _ => False) w w1 ∧ Z w1 H' pr rp false ∧ e = .returned (.tuple #[.agg #[], .bool rp, .bool false]) ∧
    Fam (parM k) w' (grow F w w') (if rp then H' else upd H' n { r with cnt := r.cnt + 1 }) ∧ Chg (fun b _ => F b) w w'


set_option maxRecDepth 100000 in
set_option maxHeartbeats 4000000 in
theorem nodeSet_kid_ok (k : Int) (mn mx t n : Nat) (pa : Addr) (x : Int × Int) (i : Nat) (r : NodeR (Int × Int)) (w : World) (F : Nat → Prop) (H : Nat → Option (NodeR (Int × Int))) (hF : Fam (parM k) w F H) (ht : MapAt k mn mx w t) (htF : ∀ b, MOwn k t b → ¬ F b) (hn : H n = some r)
    (hpa : w.cell? pa = some (.pointer (some ⟨n, 0, none⟩))) (hs : Srt ltM r.items) (hlen : r.items.length ≤ mx) (hmx : mx ≤ 1000) (hy : PosAt ltM r.items x i) (kl : List Nat) (hk : r.kids = some (kl.map some)) (c : Nat) (hc : kl[i]? = some c) (hcnt : 0 ≤ r.cnt) (hcnt2 : r.cnt ≤ 100000000000000)
    (Z : World → (Nat → Option (NodeR (Int × Int))) → Int → Bool → Bool → Prop)
    (hcall : ∀ w1 pa, Chg (fun _ _ => False) w w1 → Fam (parM k) w1 F H → MapAt k mn mx w1 t → w1.cell? pa = some (.pointer (some ⟨c, 0, none⟩)) → Calls Try.prog 174 #[.pointer (some ⟨t, 0, none⟩), .pointer (some pa), aggM x] w1 (KidPost k F Z w1))
    (hZ : ∀ w1 H' pr rp sp, Z w1 H' pr rp sp → w.heap.size ≤ w1.heap.size → sp = false ∧ H' n = some r) :
    Calls Try.prog 174 #[.pointer (some ⟨t, 0, none⟩), .pointer (some pa), aggM x] w (KidOk k w F n r Z) := by
  obtain ⟨l, hna, hb, ho, cl⟩ := hF.work hn
  have t0 := ht.c0
  have n0 := hna.c0
  have hpk : (parM k).k = k := rfl
  rw [hpk] at n0
  have nlt : n < w.heap.size := World.block_lt_of_cell? w _ n0
  have tlt : t < w.heap.size := World.block_lt_of_cell? w _ t0
  have plt := World.block_lt_of_cell? w _ hpa
  have hpa1 : ∀ o, (w.alloc o).cell? pa = some (.pointer (some ⟨n, 0, none⟩)) := fun o => by rw [World.cell?_alloc_lt w _ _ plt]; exact hpa
  unfold aggM
  go_enter Try.func174, Try.ntmps174
  go_wp2_with (go_at_call 161; refine (isoLoad_any _ n k _ _ _ ?_ ?_ ?_).mono ?_; (focus go_simp); (focus go_simp); (focus go_simp); rintro e w' ⟨rfl, m, rfl⟩)
  refine name_calls (fun w1 => Chg (fun _ _ => False) w w1 ∧ w1.heap[w.heap.size]? = some (.cells #[.int .i64 x.1] 107 (0, 0)) ∧ w1.heap[w.heap.size + 2]? = some (.cells #[.pointer (some ⟨n, 0, none⟩)] 137 (0, 0))) ⟨?_, ?_, ?_⟩ ?_
  · repeat (first | refine Chg.drew ?_ | refine Chg.drewN ?_ _ | refine Chg.alloc ?_ _ | exact Chg.refl _ _)
  · try simp only [hd_drew, hd_drewN]
    repeat (first | exact ha_at _ _ rfl | (rw [ha_lt _ _ (by simp; try omega)]; try simp only [hd_drew, hd_drewN]))
  · try simp only [hd_drew, hd_drewN]
    exact ha_at _ _ (by simp)
  rintro w1 ⟨hc1, hb1, hb2⟩
  have hn1 := hna.chg hc1 (fun _ _ _ h => h)
  have ht1 := ht.chg hc1 (by simp)
  refine (search_node t x ht1 hn1 hs (by omega)).mono ?_
  rintro e w2 ⟨i', f, rfl, hw2, hf⟩
  have hfi : f = false ∧ i' = i := by
    rcases hf with ⟨h1, y', h2⟩ | ⟨h1, h2⟩
    · exact absurd h2.n2 (by rw [hy.right i' y' (hit_le hy h2) h2.at_]; simp)
    · exact ⟨h1, pos_same h2 hy swoM⟩
  obtain ⟨rfl, rfl⟩ := hfi
  have hc2 : Chg (fun _ _ => False) w1 w2 := hw2
  have hn2 := hn1.chg hc2 (fun _ _ _ h => h)
  have ht2 := ht1.chg hc2 (by simp)
  have hb1' : w2.heap[w.heap.size]? = some (.cells #[.int .i64 x.1] 107 (0, 0)) := by rw [hw2.block (heap_lt hb1) (fun _ h => h)]; exact hb1
  have hb2' : w2.heap[w.heap.size + 2]? = some (.cells #[.pointer (some ⟨n, 0, none⟩)] 137 (0, 0)) := by rw [hw2.block (heap_lt hb2) (fun _ h => h)]; exact hb2
  have HB1 := Lib.hid hb1'
  have HB2 := Lib.hid hb2'
  have q0 := cell_of_block hb1' 0
  have q1 := cell_of_block hb1' 0
  have q2 := cell_of_block hb2' 0
  simp only [List.getElem?_toArray, List.getElem?_cons_zero, List.getElem?_cons_succ] at q0 q1 q2
  have n3 := hn2.c3s hk
  have hcc := hc1.trans hc2
  have hkl := (List.getElem?_eq_some_iff.1 hc).1
  have g1 := hn2.cc hk
  rw [List.length_map] at g1
  have g2 := hn2.kidc hk (j := i') (o := some c) (by simp [hc])
  clear hw2 hb1 hb2 hb1' hb2' t0 n0 hpa hpa1
  go_wp2_with (go_at_call 162; refine (leaf_any _ (some ⟨l.cc, 0, none⟩) _ ?_).mono ?_; (focus go_simp); rintro e w' ⟨rfl, rfl⟩)
  refine name_world (fun w3 => Chg (fun _ _ => False) w2 w3) (Chg.refl _ _) ?_
  rintro w3 hc3
  replace q0 := hc3.cell (fun h => h) q0
  replace q1 := hc3.cell (fun h => h) q1
  replace q2 := hc3.cell (fun h => h) q2
  replace n3 := hc3.cell (fun h => h) n3
  replace g1 := hc3.cell (fun h => h) g1
  replace g2 := hc3.cell (fun h => h) g2
  have hcc3 := hcc.trans hc3
  have j0 : (0 : Int) ≤ (i' : Int) := by omega
  have j1 : (i' : Int) < (kl.length : Int) := by omega
  have HB1' : Hid (w3.heap[w.heap.size]? = some (.cells #[.int .i64 x.1] 107 (0, 0))) := Lib.hid (by rw [hc3.block (heap_lt HB1.out) (fun _ h => h)]; exact HB1.out)
  have HB2' : Hid (w3.heap[w.heap.size + 2]? = some (.cells #[.pointer (some ⟨n, 0, none⟩)] 137 (0, 0))) := Lib.hid (by rw [hc3.block (heap_lt HB2.out) (fun _ h => h)]; exact HB2.out)
  refine wp_region_callt (fun w' => w'.cell? ⟨w.heap.size, 0, none⟩ = some (.int .i64 x.1) ∧ w'.cell? ⟨w.heap.size, 0, none⟩ = some (.int .i64 x.1) ∧ w'.cell? ⟨w.heap.size + 2, 0, none⟩ = some (.pointer (some ⟨n, 0, none⟩)) ∧ w'.cell? ⟨n, 3, none⟩ = some (.pointer (some ⟨l.cc, 0, none⟩)) ∧ w'.cell? ⟨l.cc, 0, none⟩ = some (.slice (some ⟨l.cb, l.co, none⟩) kl.length l.ck))
    10 [0, 1, 2, 3, 4, 5, 6, 7, 8, 9] _ [(11, true), (12, true), (13, true), (14, true), (15, false), (16, true), (17, true)] (by kernel_rfl) (by kernel_rfl) (fun _ _ _ _ _ h => h) rfl rfl ⟨q0, q1, q2, n3, g1⟩ ?_
  simp only [pickOps, List.filterMap_cons, List.filterMap_nil, List.getElem?_cons_zero, List.getElem?_cons_succ]
  iterate 10
    refine wpSoft_step ?_ rfl ?_ ?_
    rotate_left
    · intro w' hS
      obtain ⟨s0, s1, s2, s3, s4⟩ := hS
      go_simp
      try with_reducible rfl
    simp only [Act.put, List.setIfInBounds_toArray, List.set_cons_zero, List.set_cons_succ]
  refine wpSoft_nil ?_
  refine wp_hide (fun K hK => ?_)
  go_simp
  go_at_call 174
  have hc13 : Chg (fun _ _ => False) w w3.drew := hcc3.drew
  refine (hcall _ _ hc13 (hF.chg hc13 (fun _ _ _ h => h)) (ht.chg hc13 (by simp)) g2).mono ?_
  rintro e w4 ⟨H', pr, rp, sp, rfl, hF4, hc4, hz4⟩
  obtain ⟨rfl, hn4⟩ := hZ _ _ _ _ _ hz4 hc13.size
  refine hK _ _ ?_
  clear hK K
  refine script_soft (by rfl) ?_ (by simp [Region.wanted, yielded]) ?_ ?_
  rotate_left
  · intro w' hS
    try obtain ⟨a1⟩ := hS
    go_simp
    try with_reducible rfl
  simp only [Act.put, List.setIfInBounds_toArray, List.set_cons_zero, List.set_cons_succ]
  refine script_soft (by rfl) ?_ (by simp [Region.wanted, yielded]) ?_ ?_
  rotate_left
  · intro w' hS
    try obtain ⟨a1⟩ := hS
    go_simp
    try with_reducible rfl
  simp only [Act.put, List.setIfInBounds_toArray, List.set_cons_zero, List.set_cons_succ]
  refine script_soft (by rfl) ?_ (by simp [Region.wanted, yielded]) ?_ ?_
  rotate_left
  · intro w' hS
    try obtain ⟨a1⟩ := hS
    go_simp
    try with_reducible rfl
  simp only [Act.put, List.setIfInBounds_toArray, List.set_cons_zero, List.set_cons_succ]
  refine script_soft (by rfl) ?_ (by simp [Region.wanted, yielded]) ?_ ?_
  rotate_left
  · intro w' hS
    try obtain ⟨a1⟩ := hS
    go_simp
    try with_reducible rfl
  simp only [Act.put, List.setIfInBounds_toArray, List.set_cons_zero, List.set_cons_succ]
  refine script_hard (by rfl) (by simp [Region.wanted, yielded]) (fun K hK => ?_)
  go_simp
  refine hK _ _ (fun _ => trivial) ?_
  clear hK K
  refine script_soft (by rfl) ?_ (by simp [Region.wanted, yielded]) ?_ ?_
  rotate_left
  · intro w' hS
    try obtain ⟨a1⟩ := hS
    go_simp
    try with_reducible rfl
  simp only [Act.put, List.setIfInBounds_toArray, List.set_cons_zero, List.set_cons_succ]
  refine script_soft (by rfl) ?_ (by simp [Region.wanted, yielded]) ?_ ?_
  rotate_left
  · intro w' hS
    try obtain ⟨a1⟩ := hS
    go_simp
    try with_reducible rfl
  simp only [Act.put, List.setIfInBounds_toArray, List.set_cons_zero, List.set_cons_succ]
  refine script_nil ?_
  replace hc4 : Chg (fun b _ => F b) w3 w4 := ((Chg.refl _ _).drew).trans hc4
  have nF : ∀ b, w.heap.size ≤ b → ¬ F b := fun b hb h => Nat.lt_irrefl _ (Nat.lt_of_lt_of_le (hF.lt h) hb)
  have q5 := hc4.cell (nF _ (Nat.le_add_right _ _)) q2
  obtain ⟨l4, hna4, hb4, ho4, cl4⟩ := hF4.work hn4
  have c4 := hna4.c1
  have fz4 := hna4.fz 1
  have hsz3 := hc13.size
  have hsz4 := hc4.size
  have hw04 : Chg (fun b _ => F b) w w4 := (hcc3.mono (fun _ _ _ h => h.elim)).trans hc4
  have s1 : IntKind.i64.wrap (r.cnt + 1) = r.cnt + 1 := IntWalk.i64_in _ (by omega)
  clear q0 q1 q2 n3 g1 g2
  cases rp
  · go_wp2_with fail
    refine bodyPost_ret (v := .tuple #[.agg #[], .bool false, .bool false]) (by simp [results, Try.results174, go_sem]) rfl ?_
    obtain ⟨f5, g5⟩ := cl4 _ _ _ ((Run.start hna4).setCnt (r.cnt + 1))
    refine ⟨_, H', pr, false, hc13, hz4, rfl, ?_, ?_⟩
    · exact f5.grow2 hsz3 hsz4 (by simp)
    · exact hw04.trans' g5 (fun _ _ _ h => h) (fun b o hb h => by
        rcases h with h | h
        · exact h
        · have := h.1; omega)
  · go_wp2_with fail
    refine bodyPost_ret (v := .tuple #[.agg #[], .bool true, .bool false]) (by simp [results, Try.results174, go_sem]) rfl ?_
    refine ⟨_, H', pr, true, hc13, hz4, rfl, ?_, ?_⟩
    · exact hF4.grow1 hsz3
    · exact hw04
end Go.Proofs.Ytjggkpmlffhjgaa

namespace Go.Proofs.Ytjggkpmlffhjgaa
set_option linter.unusedSimpArgs false
set_option linter.unusedVariables false
open Go.RowKit

/-- Nothing is done: the way is full. -/
def SetNo (k : Int) (w : World) (F : Nat → Prop) (H : Nat → Option (NodeR (Int × Int))) (e : Ending) (w' : World) : Prop :=
  e = .returned (.tuple #[.agg #[], .bool false, .bool true]) ∧ Fam (parM k) w' (grow F w w') H ∧ Chg (fun b _ => F b) w w'

set_option maxRecDepth 100000 in
set_option maxHeartbeats 4000000 in
theorem nodeSet_kid_full (k : Int) (mn mx t n : Nat) (pa : Addr) (x : Int × Int) (i : Nat) (r : NodeR (Int × Int)) (w : World) (F : Nat → Prop) (H : Nat → Option (NodeR (Int × Int))) (hF : Fam (parM k) w F H) (ht : MapAt k mn mx w t) (htF : ∀ b, MOwn k t b → ¬ F b) (hn : H n = some r)
    (hpa : w.cell? pa = some (.pointer (some ⟨n, 0, none⟩))) (hs : Srt ltM r.items) (hlen : r.items.length = mx) (hmx : mx ≤ 1000) (hy : PosAt ltM r.items x i) (kl : List Nat) (hk : r.kids = some (kl.map some)) (c : Nat) (hc : kl[i]? = some c)
    (Z : World → (Nat → Option (NodeR (Int × Int))) → Int → Bool → Bool → Prop)
    (hcall : ∀ w1 pa, Chg (fun _ _ => False) w w1 → Fam (parM k) w1 F H → MapAt k mn mx w1 t → w1.cell? pa = some (.pointer (some ⟨c, 0, none⟩)) → Calls Try.prog 174 #[.pointer (some ⟨t, 0, none⟩), .pointer (some pa), aggM x] w1 (KidPost k F Z w1))
    (hZ : ∀ w1 H' pr rp sp, Z w1 H' pr rp sp → w.heap.size ≤ w1.heap.size → sp = true ∧ H' = H) :
    Calls Try.prog 174 #[.pointer (some ⟨t, 0, none⟩), .pointer (some pa), aggM x] w (SetNo k w F H) := by
  obtain ⟨l, hna, hb, ho, cl⟩ := hF.work hn
  have t0 := ht.c0
  have n0 := hna.c0
  have hpk : (parM k).k = k := rfl
  rw [hpk] at n0
  have nlt : n < w.heap.size := World.block_lt_of_cell? w _ n0
  have tlt : t < w.heap.size := World.block_lt_of_cell? w _ t0
  have plt := World.block_lt_of_cell? w _ hpa
  have hpa1 : ∀ o, (w.alloc o).cell? pa = some (.pointer (some ⟨n, 0, none⟩)) := fun o => by rw [World.cell?_alloc_lt w _ _ plt]; exact hpa
  unfold aggM
  go_enter Try.func174, Try.ntmps174
  go_wp2_with (go_at_call 161; refine (isoLoad_any _ n k _ _ _ ?_ ?_ ?_).mono ?_; (focus go_simp); (focus go_simp); (focus go_simp); rintro e w' ⟨rfl, m, rfl⟩)
  refine name_calls (fun w1 => Chg (fun _ _ => False) w w1 ∧ w1.heap[w.heap.size]? = some (.cells #[.int .i64 x.1] 107 (0, 0)) ∧ w1.heap[w.heap.size + 2]? = some (.cells #[.pointer (some ⟨n, 0, none⟩)] 137 (0, 0))) ⟨?_, ?_, ?_⟩ ?_
  · repeat (first | refine Chg.drew ?_ | refine Chg.drewN ?_ _ | refine Chg.alloc ?_ _ | exact Chg.refl _ _)
  · try simp only [hd_drew, hd_drewN]
    repeat (first | exact ha_at _ _ rfl | (rw [ha_lt _ _ (by simp; try omega)]; try simp only [hd_drew, hd_drewN]))
  · try simp only [hd_drew, hd_drewN]
    exact ha_at _ _ (by simp)
  rintro w1 ⟨hc1, hb1, hb2⟩
  have hn1 := hna.chg hc1 (fun _ _ _ h => h)
  have ht1 := ht.chg hc1 (by simp)
  refine (search_node t x ht1 hn1 hs (by omega)).mono ?_
  rintro e w2 ⟨i', f, rfl, hw2, hf⟩
  have hfi : f = false ∧ i' = i := by
    rcases hf with ⟨h1, y', h2⟩ | ⟨h1, h2⟩
    · exact absurd h2.n2 (by rw [hy.right i' y' (hit_le hy h2) h2.at_]; simp)
    · exact ⟨h1, pos_same h2 hy swoM⟩
  obtain ⟨rfl, rfl⟩ := hfi
  have hc2 : Chg (fun _ _ => False) w1 w2 := hw2
  have hn2 := hn1.chg hc2 (fun _ _ _ h => h)
  have ht2 := ht1.chg hc2 (by simp)
  have hb1' : w2.heap[w.heap.size]? = some (.cells #[.int .i64 x.1] 107 (0, 0)) := by rw [hw2.block (heap_lt hb1) (fun _ h => h)]; exact hb1
  have hb2' : w2.heap[w.heap.size + 2]? = some (.cells #[.pointer (some ⟨n, 0, none⟩)] 137 (0, 0)) := by rw [hw2.block (heap_lt hb2) (fun _ h => h)]; exact hb2
  have HB1 := Lib.hid hb1'
  have HB2 := Lib.hid hb2'
  have q0 := cell_of_block hb1' 0
  have q1 := cell_of_block hb1' 0
  have q2 := cell_of_block hb2' 0
  simp only [List.getElem?_toArray, List.getElem?_cons_zero, List.getElem?_cons_succ] at q0 q1 q2
  have n3 := hn2.c3s hk
  have hcc := hc1.trans hc2
  have hkl := (List.getElem?_eq_some_iff.1 hc).1
  have g1 := hn2.cc hk
  rw [List.length_map] at g1
  have g2 := hn2.kidc hk (j := i') (o := some c) (by simp [hc])
  clear hw2 hb1 hb2 hb1' hb2' t0 n0 hpa hpa1
  go_wp2_with (go_at_call 162; refine (leaf_any _ (some ⟨l.cc, 0, none⟩) _ ?_).mono ?_; (focus go_simp); rintro e w' ⟨rfl, rfl⟩)
  refine name_world (fun w3 => Chg (fun _ _ => False) w2 w3) (Chg.refl _ _) ?_
  rintro w3 hc3
  replace q0 := hc3.cell (fun h => h) q0
  replace q1 := hc3.cell (fun h => h) q1
  replace q2 := hc3.cell (fun h => h) q2
  replace n3 := hc3.cell (fun h => h) n3
  replace g1 := hc3.cell (fun h => h) g1
  replace g2 := hc3.cell (fun h => h) g2
  have hcc3 := hcc.trans hc3
  have j0 : (0 : Int) ≤ (i' : Int) := by omega
  have j1 : (i' : Int) < (kl.length : Int) := by omega
  have HB1' : Hid (w3.heap[w.heap.size]? = some (.cells #[.int .i64 x.1] 107 (0, 0))) := Lib.hid (by rw [hc3.block (heap_lt HB1.out) (fun _ h => h)]; exact HB1.out)
  have HB2' : Hid (w3.heap[w.heap.size + 2]? = some (.cells #[.pointer (some ⟨n, 0, none⟩)] 137 (0, 0))) := Lib.hid (by rw [hc3.block (heap_lt HB2.out) (fun _ h => h)]; exact HB2.out)
  refine wp_region_callt (fun w' => w'.cell? ⟨w.heap.size, 0, none⟩ = some (.int .i64 x.1) ∧ w'.cell? ⟨w.heap.size, 0, none⟩ = some (.int .i64 x.1) ∧ w'.cell? ⟨w.heap.size + 2, 0, none⟩ = some (.pointer (some ⟨n, 0, none⟩)) ∧ w'.cell? ⟨n, 3, none⟩ = some (.pointer (some ⟨l.cc, 0, none⟩)) ∧ w'.cell? ⟨l.cc, 0, none⟩ = some (.slice (some ⟨l.cb, l.co, none⟩) kl.length l.ck))
    10 [0, 1, 2, 3, 4, 5, 6, 7, 8, 9] _ [(11, true), (12, true), (13, true), (14, true), (15, false), (16, true), (17, true)] (by kernel_rfl) (by kernel_rfl) (fun _ _ _ _ _ h => h) rfl rfl ⟨q0, q1, q2, n3, g1⟩ ?_
  simp only [pickOps, List.filterMap_cons, List.filterMap_nil, List.getElem?_cons_zero, List.getElem?_cons_succ]
  iterate 10
    refine wpSoft_step ?_ rfl ?_ ?_
    rotate_left
    · intro w' hS
      obtain ⟨s0, s1, s2, s3, s4⟩ := hS
      go_simp
      try with_reducible rfl
    simp only [Act.put, List.setIfInBounds_toArray, List.set_cons_zero, List.set_cons_succ]
  refine wpSoft_nil ?_
  refine wp_hide (fun K hK => ?_)
  go_simp
  go_at_call 174
  have hc13 : Chg (fun _ _ => False) w w3.drew := hcc3.drew
  refine (hcall _ _ hc13 (hF.chg hc13 (fun _ _ _ h => h)) (ht.chg hc13 (by simp)) g2).mono ?_
  rintro e w4 ⟨H', pr, rp, sp, rfl, hF4, hc4, hz4⟩
  obtain ⟨rfl, rfl⟩ := hZ _ _ _ _ _ hz4 hc13.size
  refine hK _ _ ?_
  clear hK K
  refine script_soft (by rfl) ?_ (by simp [Region.wanted, yielded]) ?_ ?_
  rotate_left
  · intro w' hS
    try obtain ⟨a1⟩ := hS
    go_simp
    try with_reducible rfl
  simp only [Act.put, List.setIfInBounds_toArray, List.set_cons_zero, List.set_cons_succ]
  refine script_soft (by rfl) ?_ (by simp [Region.wanted, yielded]) ?_ ?_
  rotate_left
  · intro w' hS
    try obtain ⟨a1⟩ := hS
    go_simp
    try with_reducible rfl
  simp only [Act.put, List.setIfInBounds_toArray, List.set_cons_zero, List.set_cons_succ]
  refine script_soft (by rfl) ?_ (by simp [Region.wanted, yielded]) ?_ ?_
  rotate_left
  · intro w' hS
    try obtain ⟨a1⟩ := hS
    go_simp
    try with_reducible rfl
  simp only [Act.put, List.setIfInBounds_toArray, List.set_cons_zero, List.set_cons_succ]
  refine script_soft (by rfl) ?_ (by simp [Region.wanted, yielded]) ?_ ?_
  rotate_left
  · intro w' hS
    try obtain ⟨a1⟩ := hS
    go_simp
    try with_reducible rfl
  simp only [Act.put, List.setIfInBounds_toArray, List.set_cons_zero, List.set_cons_succ]
  refine script_hard (by rfl) (by simp [Region.wanted, yielded]) (fun K hK => ?_)
  go_simp
  refine hK _ _ (fun _ => trivial) ?_
  clear hK K
  refine script_soft (by rfl) ?_ (by simp [Region.wanted, yielded]) ?_ ?_
  rotate_left
  · intro w' hS
    try obtain ⟨a1⟩ := hS
    go_simp
    try with_reducible rfl
  simp only [Act.put, List.setIfInBounds_toArray, List.set_cons_zero, List.set_cons_succ]
  refine script_soft (by rfl) ?_ (by simp [Region.wanted, yielded]) ?_ ?_
  rotate_left
  · intro w' hS
    try obtain ⟨a1⟩ := hS
    go_simp
    try with_reducible rfl
  simp only [Act.put, List.setIfInBounds_toArray, List.set_cons_zero, List.set_cons_succ]
  refine script_nil ?_
  replace hc4 : Chg (fun b _ => F b) w3 w4 := ((Chg.refl _ _).drew).trans hc4
  have nF : ∀ b, w.heap.size ≤ b → ¬ F b := fun b hb h => Nat.lt_irrefl _ (Nat.lt_of_lt_of_le (hF.lt h) hb)
  have hsz3 := hc13.size
  have hsz4 := hc4.size
  have hw04 : Chg (fun b _ => F b) w w4 := (hcc3.mono (fun _ _ _ h => h.elim)).trans hc4
  have ht4 := ht.chg hw04 (fun b _ hm h => htF b hm h)
  have HQ0 := Lib.hid q0
  have HQ1 := Lib.hid q1
  have HQ2 := Lib.hid q2
  clear q0 q1 q2 n3 g1 g2
  have q2 := hc4.cell (nF _ (Nat.le_add_right _ _)) HQ2.out
  obtain ⟨l4, hna4, hb4, ho4, cl4⟩ := hF4.work hn
  have c4 := hna4.c2
  have e4 := ht4.c4
  have pz := fun m => (ht4.chg ((Chg.refl (fun _ _ => False) _).drewN m) (fun _ _ _ h => h)).pz
  have e7 := ht4.c7
  have htest : ((r.items.length : Int) == (mx : Int)) = true := by simp; omega
  clear hlen
  go_wp2_with fail
  go_quiet (fail)
  go_wp2_with fail
  refine bodyPost_ret (v := .tuple #[.agg #[], .bool false, .bool true]) (by simp [results, Try.results174, go_sem]) rfl ?_
  refine ⟨rfl, ?_, ?_⟩
  · exact (hF4.grow1 hsz3).chg ((Chg.refl (fun _ _ => False) w4).drewN _) (fun _ _ _ h => h)
  · exact hw04.drewN _
end Go.Proofs.Ytjggkpmlffhjgaa
