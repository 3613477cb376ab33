/- The walk of nodeSet at a branch: the child is full. -/
import Derived.Test.YtnohimhihombmaaA2
import Derived.Test.YtnohimhihombmaaA5
namespace Go.Proofs.Ytnohimhihombmaa
set_option linter.unusedSimpArgs false
set_option linter.unusedVariables false
open Go.RowKit
variable {ord : List Int} {k : Kc ord}

/-- What the call for the child leaves. -/
def KidPost (k : Kc ord) (F : Nat → Prop) (Z : World → (Nat → Option (NodeR (It ord))) → It ord → Bool → Bool → Prop) (w1 : World) (e : Ending) (w' : World) : Prop :=
  ∃ H' pr rp sp, e = .returned (.tuple #[.agg #[.int .i64 pr.1, .int .i64 pr.2], .bool rp, .bool sp]) ∧ Fam (parM k) w' (grow F w1 w') H' ∧ Chg (fun b _ => F b) w1 w' ∧ Z w1 H' pr rp sp

theorem Fam.grow1 {p : Par (It ord)} {w0 w1 w2 : World} {F : Nat → Prop} {H : Nat → Option (NodeR (It ord))} (h : Fam p w2 (grow F w1 w2) H) (h1 : w0.heap.size ≤ w1.heap.size) : Fam p w2 (grow F w0 w2) H := by
  refine h.mono (fun b hb => ?_) (fun b hb => ?_)
  · rcases hb with hb | hb
    · exact .inl hb
    · exact .inr ⟨by omega, hb.2⟩
  · rcases hb with hb | hb
    · exact h.lt (.inl hb)
    · exact hb.2

theorem Fam.grow2 {p : Par (It ord)} {w0 w1 w2 w3 : World} {F : Nat → Prop} {H : Nat → Option (NodeR (It ord))} (h : Fam p w3 (grow (grow F w1 w2) w2 w3) H) (h1 : w0.heap.size ≤ w1.heap.size) (h2 : w1.heap.size ≤ w2.heap.size) (h3 : w2.heap.size ≤ w3.heap.size) : Fam p w3 (grow F w0 w3) H := by
  refine h.mono (fun b hb => ?_) (fun b hb => ?_)
  · rcases hb with (hb | hb) | hb
    · exact .inl hb
    · exact .inr ⟨by omega, by omega⟩
    · exact .inr ⟨by omega, hb.2⟩
  · rcases hb with hb | hb
    · exact h.lt (.inl (.inl hb))
    · exact hb.2

def KidOk (k : Kc ord) (w : World) (F : Nat → Prop) (n : Nat) (r : NodeR (It ord)) (Z : World → (Nat → Option (NodeR (It ord))) → It ord → Bool → Bool → Prop) (e : Ending) (w' : World) : Prop :=
  ∃ w1 H' pr rp, Chg (fun _ _ => False) w w1 ∧ Z w1 H' pr rp false ∧ e = .returned (.tuple #[.agg #[.int .i64 pr.1, .int .i64 pr.2], .bool rp, .bool false]) ∧
    Fam (parM k) w' (grow F w w') (if rp then H' else upd H' n { r with cnt := r.cnt + 1 }) ∧ Chg (fun b _ => F b) w w'


set_option maxRecDepth 100000 in
set_option maxHeartbeats 4000000 in
theorem nodeSet_kid_ok (k : Kc ord) (mn mx t n : Nat) (pa : Addr) (dp : Int) (x : It ord) (i : Nat) (r : NodeR (It ord)) (w : World) (F : Nat → Prop) (H : Nat → Option (NodeR (It ord))) (hF : Fam (parM k) w F H) (ht : MapAt k mn mx w t) (htF : ∀ b, MOwn k t b → ¬ F b) (hn : H n = some r)
    (hpa : w.cell? pa = some (.pointer (some ⟨n, 0, none⟩))) (hs : Srt ltM r.items) (hlen : r.items.length ≤ mx) (hmx : mx ≤ 1000) (hy : PosAt ltM r.items x i) (kl : List Nat) (hk : r.kids = some (kl.map some)) (c : Nat) (hc : kl[i]? = some c) (hcnt : 0 ≤ r.cnt) (hcnt2 : r.cnt ≤ 100000000000000)
    (Z : World → (Nat → Option (NodeR (It ord))) → It ord → Bool → Bool → Prop)
    (hcall : ∀ w1 pa dp, Chg (fun _ _ => False) w w1 → Fam (parM k) w1 F H → MapAt k mn mx w1 t → w1.cell? pa = some (.pointer (some ⟨c, 0, none⟩)) → Calls Try.prog 84 #[.pointer (some ⟨t, 0, none⟩), .pointer (some pa), aggM x, .pointer none, .int .i64 dp] w1 (KidPost k F Z w1))
    (hZ : ∀ w1 H' pr rp sp, Z w1 H' pr rp sp → w.heap.size ≤ w1.heap.size → sp = false ∧ H' n = some r) :
    Calls Try.prog 84 #[.pointer (some ⟨t, 0, none⟩), .pointer (some pa), aggM x, .pointer none, .int .i64 dp] w (KidOk k w F n r Z) := by
  obtain ⟨l, hna, hb, ho, cl⟩ := hF.work hn
  have t0 := ht.c0
  have n0 := hna.c0
  have hpk : (parM k).k = k.iso := rfl
  rw [hpk] at n0
  have nlt : n < w.heap.size := World.block_lt_of_cell? w _ n0
  have tlt : t < w.heap.size := World.block_lt_of_cell? w _ t0
  have plt := World.block_lt_of_cell? w _ hpa
  have hpa1 : ∀ o, (w.alloc o).cell? pa = some (.pointer (some ⟨n, 0, none⟩)) := fun o => by rw [World.cell?_alloc_lt w _ _ plt]; exact hpa
  have hpa2 : ∀ o o', ((w.alloc o).alloc o').cell? pa = some (.pointer (some ⟨n, 0, none⟩)) := fun o o' => by rw [World.cell?_alloc_lt _ _ _ (by simp; omega)]; exact hpa1 o
  have hn1 : ∀ o o', ((w.alloc o).alloc o').cell? ⟨n, 0, none⟩ = some (.int .u64 k.iso) := fun o o' => ((hna.chg (((Chg.refl (fun _ _ => False) w).alloc o).alloc o') (fun _ _ _ h => h)).c0)
  have ht1 : ∀ o o', ((w.alloc o).alloc o').cell? ⟨t, 0, none⟩ = some (.int .u64 k.iso) := fun o o' => ((ht.chg (((Chg.refl (fun _ _ => False) w).alloc o).alloc o') (fun _ _ _ h => h)).c0)
  unfold aggM
  go_enter Try.func84, Try.ntmps84
  go_wp2_with fail
  go_quiet (fail)
  go_wp2_with fail
  clear hn1 ht1
  refine name_calls (fun w1 => Chg (fun _ _ => False) w w1 ∧ w1.heap[w.heap.size]? = some (.cells #[.int .i64 x.1, .int .i64 x.2] 27 (0, 0)) ∧ w1.heap[w.heap.size + 1]? = some (.cells #[.int .i64 0, .int .i64 0] 27 (0, 0)) ∧ w1.heap[w.heap.size + 2]? = some (.cells #[.pointer (some ⟨n, 0, none⟩)] 97 (0, 0))) ⟨?_, ?_, ?_, ?_⟩ ?_
  · repeat (first | refine Chg.drew ?_ | refine Chg.drewN ?_ _ | refine Chg.alloc ?_ _ | exact Chg.refl _ _)
  · try simp only [hd_drew, hd_drewN]
    repeat (first | exact ha_at _ _ rfl | (rw [ha_lt _ _ (by simp; try omega)]; try simp only [hd_drew, hd_drewN]))
  · try simp only [hd_drew, hd_drewN]
    rw [ha_lt _ _ (by simp; try omega)]
    try simp only [hd_drew, hd_drewN]
    exact ha_at _ _ (by simp)
  · try simp only [hd_drew, hd_drewN]
    exact ha_at _ _ (by simp)
  rintro w1 ⟨hc1, hb1, hbp, hb2⟩
  have hn1 := hna.chg hc1 (fun _ _ _ h => h)
  have ht1 := ht.chg hc1 (by simp)
  refine (search_node t x ht1 hn1 hs (by omega)).mono ?_
  rintro e w2 ⟨i', f, rfl, hw2, hf⟩
  have hfi : f = false ∧ i' = i := by
    rcases hf with ⟨h1, y', h2⟩ | ⟨h1, h2⟩
    · exact absurd h2.n2 (by rw [hy.right i' y' (hit_le hy h2) h2.at_]; simp)
    · exact ⟨h1, pos_same h2 hy swoM⟩
  obtain ⟨rfl, rfl⟩ := hfi
  have hc2 : Chg (fun _ _ => False) w1 w2 := hw2
  have hn2 := hn1.chg hc2 (fun _ _ _ h => h)
  have ht2 := ht1.chg hc2 (by simp)
  have hb1' : w2.heap[w.heap.size]? = some (.cells #[.int .i64 x.1, .int .i64 x.2] 27 (0, 0)) := by rw [hw2.block (heap_lt hb1) (fun _ h => h)]; exact hb1
  have hb2' : w2.heap[w.heap.size + 2]? = some (.cells #[.pointer (some ⟨n, 0, none⟩)] 97 (0, 0)) := by rw [hw2.block (heap_lt hb2) (fun _ h => h)]; exact hb2
  have hbp' : w2.heap[w.heap.size + 1]? = some (.cells #[.int .i64 0, .int .i64 0] 27 (0, 0)) := by rw [hw2.block (heap_lt hbp) (fun _ h => h)]; exact hbp
  have HB1 := Lib.hid hb1'
  have HBP := Lib.hid hbp'
  have HB2 := Lib.hid hb2'
  have q0 := cell_of_block hb1' 0
  have q1 := cell_of_block hb1' 1
  have q2 := cell_of_block hb2' 0
  simp only [List.getElem?_toArray, List.getElem?_cons_zero, List.getElem?_cons_succ] at q0 q1 q2
  have n3 := hn2.c3s hk
  have hcc := hc1.trans hc2
  have hkl := (List.getElem?_eq_some_iff.1 hc).1
  have g1 := hn2.cc hk
  rw [List.length_map] at g1
  have g2 := hn2.kidc hk (j := i') (o := some c) (by simp [hc])
  clear hw2 hb1 hb2 hbp hb1' hb2' hbp' t0 n0 hpa hpa1 hpa2
  go_wp2_with (go_at_call 51; refine (leaf_any _ (some ⟨l.cc, 0, none⟩) _ ?_).mono ?_; (focus go_simp); rintro e w' ⟨rfl, rfl⟩)
  refine name_world (fun w3 => Chg (fun _ _ => False) w2 w3) (Chg.refl _ _) ?_
  rintro w3 hc3
  replace q0 := hc3.cell (fun h => h) q0
  replace q1 := hc3.cell (fun h => h) q1
  replace q2 := hc3.cell (fun h => h) q2
  replace n3 := hc3.cell (fun h => h) n3
  replace g1 := hc3.cell (fun h => h) g1
  replace g2 := hc3.cell (fun h => h) g2
  have hcc3 := hcc.trans hc3
  have j0 : (0 : Int) ≤ (i' : Int) := by omega
  have j1 : (i' : Int) < (kl.length : Int) := by omega
  have HB1' : Hid (w3.heap[w.heap.size]? = some (.cells #[.int .i64 x.1, .int .i64 x.2] 27 (0, 0))) := Lib.hid (by rw [hc3.block (heap_lt HB1.out) (fun _ h => h)]; exact HB1.out)
  have HBP' : Hid (w3.heap[w.heap.size + 1]? = some (.cells #[.int .i64 0, .int .i64 0] 27 (0, 0))) := Lib.hid (by rw [hc3.block (heap_lt HBP.out) (fun _ h => h)]; exact HBP.out)
  have HB2' : Hid (w3.heap[w.heap.size + 2]? = some (.cells #[.pointer (some ⟨n, 0, none⟩)] 97 (0, 0))) := Lib.hid (by rw [hc3.block (heap_lt HB2.out) (fun _ h => h)]; exact HB2.out)
  refine wp_region_callt (fun w' => w'.cell? ⟨w.heap.size, 0, none⟩ = some (.int .i64 x.1) ∧ w'.cell? ⟨w.heap.size, 1, none⟩ = some (.int .i64 x.2) ∧ w'.cell? ⟨w.heap.size + 2, 0, none⟩ = some (.pointer (some ⟨n, 0, none⟩)) ∧ w'.cell? ⟨n, 3, none⟩ = some (.pointer (some ⟨l.cc, 0, none⟩)) ∧ w'.cell? ⟨l.cc, 0, none⟩ = some (.slice (some ⟨l.cb, l.co, none⟩) kl.length l.ck))
    13 [0, 1, 2, 3, 4, 5, 6, 7, 8, 9, 10, 11, 12] _ [(14, true), (15, true), (16, true), (17, true), (18, false), (19, true), (20, true)] (by kernel_rfl) (by kernel_rfl) (fun _ _ _ _ _ h => h) rfl rfl ⟨q0, q1, q2, n3, g1⟩ ?_
  simp only [pickOps, List.filterMap_cons, List.filterMap_nil, List.getElem?_cons_zero, List.getElem?_cons_succ]
  iterate 13
    refine wpSoft_step ?_ rfl ?_ ?_
    rotate_left
    · intro w' hS
      obtain ⟨s0, s1, s2, s3, s4⟩ := hS
      go_simp
      try with_reducible rfl
    simp only [Act.put, List.setIfInBounds_toArray, List.set_cons_zero, List.set_cons_succ]
  refine wpSoft_nil ?_
  refine wp_hide (fun K hK => ?_)
  go_simp
  go_at_call 84
  have hc13 : Chg (fun _ _ => False) w w3.drew := hcc3.drew
  refine (hcall _ _ _ hc13 (hF.chg hc13 (fun _ _ _ h => h)) (ht.chg hc13 (by simp)) g2).mono ?_
  rintro e w4 ⟨H', pr, rp, sp, rfl, hF4, hc4, hz4⟩
  obtain ⟨rfl, hn4⟩ := hZ _ _ _ _ _ hz4 hc13.size
  replace hc4 : Chg (fun b _ => F b) w3 w4 := ((Chg.refl _ _).drew).trans hc4
  have nF : ∀ b, w.heap.size ≤ b → ¬ F b := fun b hb h => Nat.lt_irrefl _ (Nat.lt_of_lt_of_le (hF.lt h) hb)
  have hbp4 : w4.heap[w.heap.size + 1]? = some (.cells #[.int .i64 0, .int .i64 0] 27 (0, 0)) := by rw [hc4.block (heap_lt HBP'.out) (fun _ h => nF _ (Nat.le_add_right _ _) h)]; exact HBP'.out
  have p0 := cell_of_block hbp4 0
  have p1 := cell_of_block hbp4 1
  have pf0 := frozen_of_block hbp4 0
  have pf1 := frozen_of_block hbp4 1
  simp only [List.getElem?_toArray, List.getElem?_cons_zero, List.getElem?_cons_succ] at p0 p1
  have HBP4 := Lib.hid hbp4
  clear hbp4
  refine hK _ _ ?_
  clear hK K
  refine script_soft (by rfl) ?_ (by simp [Region.wanted, yielded]) ?_ ?_
  rotate_left
  · intro w' hS
    try obtain ⟨a1⟩ := hS
    go_simp
    try with_reducible rfl
  simp only [Act.put, List.setIfInBounds_toArray, List.set_cons_zero, List.set_cons_succ]
  refine script_soft (by rfl) ?_ (by simp [Region.wanted, yielded]) ?_ ?_
  rotate_left
  · intro w' hS
    try obtain ⟨a1⟩ := hS
    go_simp
    try with_reducible rfl
  simp only [Act.put, List.setIfInBounds_toArray, List.set_cons_zero, List.set_cons_succ]
  refine script_soft (by rfl) ?_ (by simp [Region.wanted, yielded]) ?_ ?_
  rotate_left
  · intro w' hS
    try obtain ⟨a1⟩ := hS
    go_simp
    try with_reducible rfl
  simp only [Act.put, List.setIfInBounds_toArray, List.set_cons_zero, List.set_cons_succ]
  refine script_soft (by rfl) ?_ (by simp [Region.wanted, yielded]) ?_ ?_
  rotate_left
  · intro w' hS
    try obtain ⟨a1⟩ := hS
    go_simp
    try with_reducible rfl
  simp only [Act.put, List.setIfInBounds_toArray, List.set_cons_zero, List.set_cons_succ]
  refine script_hard (by rfl) (by simp [Region.wanted, yielded]) (fun K hK => ?_)
  go_simp
  refine hK _ _ (fun _ => trivial) ?_
  clear hK K
  refine script_soft (by rfl) ?_ (by simp [Region.wanted, yielded]) ?_ ?_
  rotate_left
  · intro w' hS
    try obtain ⟨a1⟩ := hS
    go_simp
    try with_reducible rfl
  simp only [Act.put, List.setIfInBounds_toArray, List.set_cons_zero, List.set_cons_succ]
  refine script_soft (by rfl) ?_ (by simp [Region.wanted, yielded]) ?_ ?_
  rotate_left
  · intro w' hS
    try obtain ⟨a1⟩ := hS
    go_simp
    try with_reducible rfl
  simp only [Act.put, List.setIfInBounds_toArray, List.set_cons_zero, List.set_cons_succ]
  refine script_nil ?_
  refine name_prop (fun w5 => Chg (fun b _ => b = w.heap.size + 1) w4 w5 ∧ w5.heap[w.heap.size + 1]? = some (.cells #[.int .i64 pr.1, .int .i64 pr.2] 27 (0, 0))) ⟨?_, ?_⟩ ?_
  · repeat (first | refine Chg.drew ?_ | refine Chg.setCell ?_ (.inl rfl) _ | exact Chg.refl _ _)
  · rw [hs_same (hs_same HBP4.out _)]; rfl
  clear p0 p1 pf0 pf1
  rintro w5 ⟨hc5, hbp5⟩
  have p0 := cell_of_block hbp5 0
  have p1 := cell_of_block hbp5 1
  have pf0 := frozen_of_block hbp5 0
  have pf1 := frozen_of_block hbp5 1
  simp only [List.getElem?_toArray, List.getElem?_cons_zero, List.getElem?_cons_succ] at p0 p1
  have hc45 : Chg (fun b _ => F b ∨ b = w.heap.size + 1) w3 w5 := hc4.trans' hc5 (fun _ _ _ h => .inl h) (fun _ _ _ h => .inr h)
  have q5 := hc45.cell (fun h => by rcases h with h | h; exact nF _ (Nat.le_add_right _ _) h; simp at h) q2
  have hF5 := hF4.chg hc5 (fun b o hb e => by
    rcases hb with hb | hb
    · exact nF b (by omega) hb
    · have h1 := hb.1; have h2 := heap_lt HBP'.out; have h3 : w3.drew.heap.size = w3.heap.size := rfl; omega)
  obtain ⟨l4, hna4, hb4, ho4, cl4⟩ := hF5.work hn4
  have c4 := hna4.c1
  have fz4 := hna4.fz 1
  have hsz3 := hc13.size
  have hsz4 := hc4.size
  have hsz5 := hc5.size
  have hw05 : Chg (fun b _ => F b) w w5 := (hcc3.trans' (B := fun b o => F b ∨ b = w.heap.size + 1) hc45 (fun _ _ _ h => h.elim) (fun _ _ _ h => h)).mono (fun b o hb h => by
    rcases h with h | h
    · exact h
    · omega)
  have s1 : IntKind.i64.wrap (r.cnt + 1) = r.cnt + 1 := IntWalk.i64_in _ (by omega)
  have u1 : ¬ w.heap.size + 1 = n := by omega
  have u1' : ¬ n = w.heap.size + 1 := by omega
  have hg5 : ∀ b, grow F w3.drew w4 b → grow F w3.drew w5 b := fun b h => by
    rcases h with h | h
    · exact .inl h
    · exact .inr ⟨h.1, by omega⟩
  clear q0 q1 q2 n3 g1 g2
  cases rp
  · go_wp2_with fail
    refine bodyPost_ret (v := .tuple #[.agg #[.int .i64 pr.1, .int .i64 pr.2], .bool false, .bool false]) (by simp [results, Try.results84, go_sem, p0, p1, u1, u1']) rfl ?_
    have hpf : ∀ w', Chg (fun b _ => b = w.heap.size + 1) (w5.setCell ⟨n, 1, none⟩ (.int .i64 (r.cnt + 1))) w' → Fam (parM k) w' (grow F w w') (upd H' n { r with cnt := r.cnt + 1 }) ∧ Chg (fun b _ => F b) w w' := by
      intro w' c
      obtain ⟨f5, g5⟩ := cl4 _ _ _ ((Run.start hna4).setCnt (r.cnt + 1))
      have hsw := c.size
      simp at hsw
      have f6 := f5.chg c (fun b o hb e => by
        rcases hb with (hb | hb) | hb
        · exact nF b (by omega) hb
        · have h1 := hb.1; have h2 := heap_lt HBP'.out; have h3 : w3.drew.heap.size = w3.heap.size := rfl; omega
        · have h1 := hb.1; have h2 := heap_lt HBP'.out; omega)
      refine ⟨f6.mono (fun b hb => ?_) (fun b hb => ?_), ?_⟩
      · rcases hb with (hb | hb) | hb
        · exact .inl hb
        · have h1 := hb.1; have h3 : w3.drew.heap.size = w3.heap.size := rfl; have h4 := hcc3.size; exact .inr ⟨by omega, by omega⟩
        · have h1 := hb.1; have h2 := hb.2; simp at h2; exact .inr ⟨by omega, by omega⟩
      · rcases hb with hb | hb
        · exact f6.lt (.inl (.inl hb))
        · exact hb.2
      · refine (hw05.trans' g5 (B := fun b _ => F b ∨ b = w.heap.size + 1) (fun _ _ _ h => .inl h) (fun b o hb h => ?_)).trans' c (fun b o hb h => ?_) (fun b o hb e => by omega)
        · rcases h with h | h
          · exact .inl h
          · have h1 := h.1; have h3 : w3.drew.heap.size = w3.heap.size := rfl; have h4 := hcc3.size; omega
        · rcases h with h | h
          · exact h
          · omega
    have fin : ∀ w', Chg (fun b _ => b = w.heap.size + 1) (w5.setCell ⟨n, 1, none⟩ (.int .i64 (r.cnt + 1))) w' → KidOk k w F n r Z (.returned (.tuple #[.agg #[.int .i64 pr.1, .int .i64 pr.2], .bool false, .bool false])) w' := fun w' c => by
      obtain ⟨f7, g7⟩ := hpf w' c
      exact ⟨_, H', pr, false, hc13, hz4, rfl, f7, g7⟩
    refine fin _ ?_
    repeat (first | refine Chg.drew ?_ | refine Chg.drewN ?_ _ | refine Chg.setCell ?_ (.inl rfl) _ | exact Chg.refl _ _)
  · go_wp2_with fail
    refine bodyPost_ret (v := .tuple #[.agg #[.int .i64 pr.1, .int .i64 pr.2], .bool true, .bool false]) (by simp [results, Try.results84, go_sem, p0, p1]) rfl ?_
    have hpf : ∀ w', Chg (fun b _ => b = w.heap.size + 1) w5 w' → Fam (parM k) w' (grow F w w') H' ∧ Chg (fun b _ => F b) w w' := by
      intro w' c
      have hsw := c.size
      have f6 := hF5.chg c (fun b o hb e => by
        rcases hb with hb | hb
        · exact nF b (by omega) hb
        · have h1 := hb.1; have h2 := heap_lt HBP'.out; have h3 : w3.drew.heap.size = w3.heap.size := rfl; omega)
      refine ⟨f6.mono (fun b hb => ?_) (fun b hb => ?_), hw05.trans' (B := fun b _ => F b) c (fun _ _ _ h => h) (fun b o hb e => by omega)⟩
      · rcases hb with hb | hb
        · exact .inl hb
        · have h1 := hb.1; have h3 : w3.drew.heap.size = w3.heap.size := rfl; have h4 := hcc3.size; exact .inr ⟨by omega, by omega⟩
      · rcases hb with hb | hb
        · exact f6.lt (.inl hb)
        · exact hb.2
    have fin : ∀ w', Chg (fun b _ => b = w.heap.size + 1) (w5) w' → KidOk k w F n r Z (.returned (.tuple #[.agg #[.int .i64 pr.1, .int .i64 pr.2], .bool true, .bool false])) w' := fun w' c => by
      obtain ⟨f7, g7⟩ := hpf w' c
      exact ⟨_, H', pr, true, hc13, hz4, rfl, f7, g7⟩
    refine fin _ ?_
    repeat (first | refine Chg.drew ?_ | refine Chg.drewN ?_ _ | refine Chg.setCell ?_ (.inl rfl) _ | exact Chg.refl _ _)
end Go.Proofs.Ytnohimhihombmaa

namespace Go.Proofs.Ytnohimhihombmaa
set_option linter.unusedSimpArgs false
set_option linter.unusedVariables false
open Go.RowKit
variable {ord : List Int} {k : Kc ord}

/-- Nothing is done: the way is full. -/
def SetNo (k : Kc ord) (w : World) (F : Nat → Prop) (H : Nat → Option (NodeR (It ord))) (e : Ending) (w' : World) : Prop :=
  e = .returned (.tuple #[.agg #[.int .i64 0, .int .i64 0], .bool false, .bool true]) ∧ Fam (parM k) w' (grow F w w') H ∧ Chg (fun b _ => F b) w w'

set_option maxRecDepth 100000 in
set_option maxHeartbeats 4000000 in
theorem nodeSet_kid_full (k : Kc ord) (mn mx t n : Nat) (pa : Addr) (dp : Int) (x : It ord) (i : Nat) (r : NodeR (It ord)) (w : World) (F : Nat → Prop) (H : Nat → Option (NodeR (It ord))) (hF : Fam (parM k) w F H) (ht : MapAt k mn mx w t) (htF : ∀ b, MOwn k t b → ¬ F b) (hn : H n = some r)
    (hpa : w.cell? pa = some (.pointer (some ⟨n, 0, none⟩))) (hs : Srt ltM r.items) (hlen : r.items.length = mx) (hmx : mx ≤ 1000) (hy : PosAt ltM r.items x i) (kl : List Nat) (hk : r.kids = some (kl.map some)) (c : Nat) (hc : kl[i]? = some c)
    (Z : World → (Nat → Option (NodeR (It ord))) → It ord → Bool → Bool → Prop)
    (hcall : ∀ w1 pa dp, Chg (fun _ _ => False) w w1 → Fam (parM k) w1 F H → MapAt k mn mx w1 t → w1.cell? pa = some (.pointer (some ⟨c, 0, none⟩)) → Calls Try.prog 84 #[.pointer (some ⟨t, 0, none⟩), .pointer (some pa), aggM x, .pointer none, .int .i64 dp] w1 (KidPost k F Z w1))
    (hZ : ∀ w1 H' pr rp sp, Z w1 H' pr rp sp → w.heap.size ≤ w1.heap.size → sp = true ∧ H' = H) :
    Calls Try.prog 84 #[.pointer (some ⟨t, 0, none⟩), .pointer (some pa), aggM x, .pointer none, .int .i64 dp] w (SetNo k w F H) := by
  obtain ⟨l, hna, hb, ho, cl⟩ := hF.work hn
  have t0 := ht.c0
  have n0 := hna.c0
  have hpk : (parM k).k = k.iso := rfl
  rw [hpk] at n0
  have nlt : n < w.heap.size := World.block_lt_of_cell? w _ n0
  have tlt : t < w.heap.size := World.block_lt_of_cell? w _ t0
  have plt := World.block_lt_of_cell? w _ hpa
  have hpa1 : ∀ o, (w.alloc o).cell? pa = some (.pointer (some ⟨n, 0, none⟩)) := fun o => by rw [World.cell?_alloc_lt w _ _ plt]; exact hpa
  have hpa2 : ∀ o o', ((w.alloc o).alloc o').cell? pa = some (.pointer (some ⟨n, 0, none⟩)) := fun o o' => by rw [World.cell?_alloc_lt _ _ _ (by simp; omega)]; exact hpa1 o
  have hn1 : ∀ o o', ((w.alloc o).alloc o').cell? ⟨n, 0, none⟩ = some (.int .u64 k.iso) := fun o o' => ((hna.chg (((Chg.refl (fun _ _ => False) w).alloc o).alloc o') (fun _ _ _ h => h)).c0)
  have ht1 : ∀ o o', ((w.alloc o).alloc o').cell? ⟨t, 0, none⟩ = some (.int .u64 k.iso) := fun o o' => ((ht.chg (((Chg.refl (fun _ _ => False) w).alloc o).alloc o') (fun _ _ _ h => h)).c0)
  unfold aggM
  go_enter Try.func84, Try.ntmps84
  go_wp2_with fail
  go_quiet (fail)
  go_wp2_with fail
  clear hn1 ht1
  refine name_calls (fun w1 => Chg (fun _ _ => False) w w1 ∧ w1.heap[w.heap.size]? = some (.cells #[.int .i64 x.1, .int .i64 x.2] 27 (0, 0)) ∧ w1.heap[w.heap.size + 1]? = some (.cells #[.int .i64 0, .int .i64 0] 27 (0, 0)) ∧ w1.heap[w.heap.size + 2]? = some (.cells #[.pointer (some ⟨n, 0, none⟩)] 97 (0, 0))) ⟨?_, ?_, ?_, ?_⟩ ?_
  · repeat (first | refine Chg.drew ?_ | refine Chg.drewN ?_ _ | refine Chg.alloc ?_ _ | exact Chg.refl _ _)
  · try simp only [hd_drew, hd_drewN]
    repeat (first | exact ha_at _ _ rfl | (rw [ha_lt _ _ (by simp; try omega)]; try simp only [hd_drew, hd_drewN]))
  · try simp only [hd_drew, hd_drewN]
    rw [ha_lt _ _ (by simp; try omega)]
    try simp only [hd_drew, hd_drewN]
    exact ha_at _ _ (by simp)
  · try simp only [hd_drew, hd_drewN]
    exact ha_at _ _ (by simp)
  rintro w1 ⟨hc1, hb1, hbp, hb2⟩
  have hn1 := hna.chg hc1 (fun _ _ _ h => h)
  have ht1 := ht.chg hc1 (by simp)
  refine (search_node t x ht1 hn1 hs (by omega)).mono ?_
  rintro e w2 ⟨i', f, rfl, hw2, hf⟩
  have hfi : f = false ∧ i' = i := by
    rcases hf with ⟨h1, y', h2⟩ | ⟨h1, h2⟩
    · exact absurd h2.n2 (by rw [hy.right i' y' (hit_le hy h2) h2.at_]; simp)
    · exact ⟨h1, pos_same h2 hy swoM⟩
  obtain ⟨rfl, rfl⟩ := hfi
  have hc2 : Chg (fun _ _ => False) w1 w2 := hw2
  have hn2 := hn1.chg hc2 (fun _ _ _ h => h)
  have ht2 := ht1.chg hc2 (by simp)
  have hb1' : w2.heap[w.heap.size]? = some (.cells #[.int .i64 x.1, .int .i64 x.2] 27 (0, 0)) := by rw [hw2.block (heap_lt hb1) (fun _ h => h)]; exact hb1
  have hb2' : w2.heap[w.heap.size + 2]? = some (.cells #[.pointer (some ⟨n, 0, none⟩)] 97 (0, 0)) := by rw [hw2.block (heap_lt hb2) (fun _ h => h)]; exact hb2
  have hbp' : w2.heap[w.heap.size + 1]? = some (.cells #[.int .i64 0, .int .i64 0] 27 (0, 0)) := by rw [hw2.block (heap_lt hbp) (fun _ h => h)]; exact hbp
  have HB1 := Lib.hid hb1'
  have HBP := Lib.hid hbp'
  have HB2 := Lib.hid hb2'
  have q0 := cell_of_block hb1' 0
  have q1 := cell_of_block hb1' 1
  have q2 := cell_of_block hb2' 0
  simp only [List.getElem?_toArray, List.getElem?_cons_zero, List.getElem?_cons_succ] at q0 q1 q2
  have n3 := hn2.c3s hk
  have hcc := hc1.trans hc2
  have hkl := (List.getElem?_eq_some_iff.1 hc).1
  have g1 := hn2.cc hk
  rw [List.length_map] at g1
  have g2 := hn2.kidc hk (j := i') (o := some c) (by simp [hc])
  clear hw2 hb1 hb2 hbp hb1' hb2' hbp' t0 n0 hpa hpa1 hpa2
  go_wp2_with (go_at_call 51; refine (leaf_any _ (some ⟨l.cc, 0, none⟩) _ ?_).mono ?_; (focus go_simp); rintro e w' ⟨rfl, rfl⟩)
  refine name_world (fun w3 => Chg (fun _ _ => False) w2 w3) (Chg.refl _ _) ?_
  rintro w3 hc3
  replace q0 := hc3.cell (fun h => h) q0
  replace q1 := hc3.cell (fun h => h) q1
  replace q2 := hc3.cell (fun h => h) q2
  replace n3 := hc3.cell (fun h => h) n3
  replace g1 := hc3.cell (fun h => h) g1
  replace g2 := hc3.cell (fun h => h) g2
  have hcc3 := hcc.trans hc3
  have j0 : (0 : Int) ≤ (i' : Int) := by omega
  have j1 : (i' : Int) < (kl.length : Int) := by omega
  have HB1' : Hid (w3.heap[w.heap.size]? = some (.cells #[.int .i64 x.1, .int .i64 x.2] 27 (0, 0))) := Lib.hid (by rw [hc3.block (heap_lt HB1.out) (fun _ h => h)]; exact HB1.out)
  have HBP' : Hid (w3.heap[w.heap.size + 1]? = some (.cells #[.int .i64 0, .int .i64 0] 27 (0, 0))) := Lib.hid (by rw [hc3.block (heap_lt HBP.out) (fun _ h => h)]; exact HBP.out)
  have HB2' : Hid (w3.heap[w.heap.size + 2]? = some (.cells #[.pointer (some ⟨n, 0, none⟩)] 97 (0, 0))) := Lib.hid (by rw [hc3.block (heap_lt HB2.out) (fun _ h => h)]; exact HB2.out)
  refine wp_region_callt (fun w' => w'.cell? ⟨w.heap.size, 0, none⟩ = some (.int .i64 x.1) ∧ w'.cell? ⟨w.heap.size, 1, none⟩ = some (.int .i64 x.2) ∧ w'.cell? ⟨w.heap.size + 2, 0, none⟩ = some (.pointer (some ⟨n, 0, none⟩)) ∧ w'.cell? ⟨n, 3, none⟩ = some (.pointer (some ⟨l.cc, 0, none⟩)) ∧ w'.cell? ⟨l.cc, 0, none⟩ = some (.slice (some ⟨l.cb, l.co, none⟩) kl.length l.ck))
    13 [0, 1, 2, 3, 4, 5, 6, 7, 8, 9, 10, 11, 12] _ [(14, true), (15, true), (16, true), (17, true), (18, false), (19, true), (20, true)] (by kernel_rfl) (by kernel_rfl) (fun _ _ _ _ _ h => h) rfl rfl ⟨q0, q1, q2, n3, g1⟩ ?_
  simp only [pickOps, List.filterMap_cons, List.filterMap_nil, List.getElem?_cons_zero, List.getElem?_cons_succ]
  iterate 13
    refine wpSoft_step ?_ rfl ?_ ?_
    rotate_left
    · intro w' hS
      obtain ⟨s0, s1, s2, s3, s4⟩ := hS
      go_simp
      try with_reducible rfl
    simp only [Act.put, List.setIfInBounds_toArray, List.set_cons_zero, List.set_cons_succ]
  refine wpSoft_nil ?_
  refine wp_hide (fun K hK => ?_)
  go_simp
  go_at_call 84
  have hc13 : Chg (fun _ _ => False) w w3.drew := hcc3.drew
  refine (hcall _ _ _ hc13 (hF.chg hc13 (fun _ _ _ h => h)) (ht.chg hc13 (by simp)) g2).mono ?_
  rintro e wk ⟨H', pr, rp, sp, rfl, hFk, hck, hz4⟩
  obtain ⟨rfl, rfl⟩ := hZ _ _ _ _ _ hz4 hc13.size
  replace hck : Chg (fun b _ => F b) w3 wk := ((Chg.refl _ _).drew).trans hck
  have nF : ∀ b, w.heap.size ≤ b → ¬ F b := fun b hb h => Nat.lt_irrefl _ (Nat.lt_of_lt_of_le (hF.lt h) hb)
  have hbpk : wk.heap[w.heap.size + 1]? = some (.cells #[.int .i64 0, .int .i64 0] 27 (0, 0)) := by rw [hck.block (heap_lt HBP'.out) (fun _ h => nF _ (Nat.le_add_right _ _) h)]; exact HBP'.out
  have p0 := cell_of_block hbpk 0
  have p1 := cell_of_block hbpk 1
  have pf0 := frozen_of_block hbpk 0
  have pf1 := frozen_of_block hbpk 1
  simp only [List.getElem?_toArray, List.getElem?_cons_zero, List.getElem?_cons_succ] at p0 p1
  have HBPK := Lib.hid hbpk
  clear hbpk
  refine hK _ _ ?_
  clear hK K
  refine script_soft (by rfl) ?_ (by simp [Region.wanted, yielded]) ?_ ?_
  rotate_left
  · intro w' hS
    try obtain ⟨a1⟩ := hS
    go_simp
    try with_reducible rfl
  simp only [Act.put, List.setIfInBounds_toArray, List.set_cons_zero, List.set_cons_succ]
  refine script_soft (by rfl) ?_ (by simp [Region.wanted, yielded]) ?_ ?_
  rotate_left
  · intro w' hS
    try obtain ⟨a1⟩ := hS
    go_simp
    try with_reducible rfl
  simp only [Act.put, List.setIfInBounds_toArray, List.set_cons_zero, List.set_cons_succ]
  refine script_soft (by rfl) ?_ (by simp [Region.wanted, yielded]) ?_ ?_
  rotate_left
  · intro w' hS
    try obtain ⟨a1⟩ := hS
    go_simp
    try with_reducible rfl
  simp only [Act.put, List.setIfInBounds_toArray, List.set_cons_zero, List.set_cons_succ]
  refine script_soft (by rfl) ?_ (by simp [Region.wanted, yielded]) ?_ ?_
  rotate_left
  · intro w' hS
    try obtain ⟨a1⟩ := hS
    go_simp
    try with_reducible rfl
  simp only [Act.put, List.setIfInBounds_toArray, List.set_cons_zero, List.set_cons_succ]
  refine script_hard (by rfl) (by simp [Region.wanted, yielded]) (fun K hK => ?_)
  go_simp
  refine hK _ _ (fun _ => trivial) ?_
  clear hK K
  refine script_soft (by rfl) ?_ (by simp [Region.wanted, yielded]) ?_ ?_
  rotate_left
  · intro w' hS
    try obtain ⟨a1⟩ := hS
    go_simp
    try with_reducible rfl
  simp only [Act.put, List.setIfInBounds_toArray, List.set_cons_zero, List.set_cons_succ]
  refine script_soft (by rfl) ?_ (by simp [Region.wanted, yielded]) ?_ ?_
  rotate_left
  · intro w' hS
    try obtain ⟨a1⟩ := hS
    go_simp
    try with_reducible rfl
  simp only [Act.put, List.setIfInBounds_toArray, List.set_cons_zero, List.set_cons_succ]
  refine script_nil ?_
  refine name_prop (fun w4 => Chg (fun b _ => b = w.heap.size + 1) wk w4 ∧ w4.heap[w.heap.size + 1]? = some (.cells #[.int .i64 pr.1, .int .i64 pr.2] 27 (0, 0))) ⟨?_, ?_⟩ ?_
  · repeat (first | refine Chg.drew ?_ | refine Chg.setCell ?_ (.inl rfl) _ | exact Chg.refl _ _)
  · rw [hs_same (hs_same HBPK.out _)]; rfl
  clear p0 p1 pf0 pf1
  rintro w4 ⟨hcz, hbp4⟩
  have p0 := cell_of_block hbp4 0
  have p1 := cell_of_block hbp4 1
  have pf0 := frozen_of_block hbp4 0
  have pf1 := frozen_of_block hbp4 1
  simp only [List.getElem?_toArray, List.getElem?_cons_zero, List.getElem?_cons_succ] at p0 p1
  have hc4 : Chg (fun b _ => F b ∨ b = w.heap.size + 1) w3 w4 := hck.trans' hcz (fun _ _ _ h => .inl h) (fun _ _ _ h => .inr h)
  have nFq : ∀ b, w.heap.size ≤ b → b ≠ w.heap.size + 1 → ¬ (F b ∨ b = w.heap.size + 1) := fun b hb hne h => by
    rcases h with h | h
    · exact nF b hb h
    · exact hne h
  have hszk := hck.size
  have hszz := hcz.size
  have hbl3 := heap_lt HBP'.out
  have hF4 := (hFk.chg hcz (fun b o hb e => by
    rcases hb with hb | hb
    · exact nF b (by omega) hb
    · have h1 := hb.1; have h3 : w3.drew.heap.size = w3.heap.size := rfl; omega)).mono (F' := grow F w3.drew w4) (fun b h => by
    rcases h with h | h
    · exact .inl h
    · exact .inr ⟨h.1, by omega⟩) (fun b h => by
    rcases h with h | h
    · have := hF.lt h; have := hcc3.size; omega
    · exact h.2)
  have HBP4 := Lib.hid hbp4
  clear hbp4
  have hsz3 := hc13.size
  have hsz4 := hc4.size
  have hw04 : Chg (fun b _ => F b) w w4 := (hcc3.trans' (B := fun b o => F b ∨ b = w.heap.size + 1) hc4 (fun _ _ _ h => h.elim) (fun _ _ _ h => h)).mono (fun b o hb h => by
    rcases h with h | h
    · exact h
    · omega)
  have ht4 := ht.chg hw04 (fun b _ hm h => htF b hm h)
  have HQ0 := Lib.hid q0
  have HQ1 := Lib.hid q1
  have HQ2 := Lib.hid q2
  clear q0 q1 q2 n3 g1 g2
  have q2 := hc4.cell (nFq (w.heap.size + 2) (Nat.le_add_right _ _) (by omega)) HQ2.out
  obtain ⟨l4, hna4, hb4, ho4, cl4⟩ := hF4.work hn
  have c4 := hna4.c2
  have e4 := ht4.c4
  have e5 := ht4.c5
  
  have e7 := ht4.c7
  have htest : ((r.items.length : Int) == (mx : Int)) = true := by simp; omega
  clear hlen
  go_wp2_with fail
  go_quiet (fail)
  go_wp2_with fail
  refine bodyPost_ret (v := .tuple #[.agg #[.int .i64 0, .int .i64 0], .bool false, .bool true]) (by simp [results, Try.results84, go_sem, p0, p1]) rfl ?_
  have hpf : ∀ w', Chg (fun b _ => b = w.heap.size + 1) w4 w' → SetNo k w F H' (.returned (.tuple #[.agg #[.int .i64 0, .int .i64 0], .bool false, .bool true])) w' := by
    intro w' c
    have hsw := c.size
    have f6 := hF4.chg c (fun b o hb e => by
      rcases hb with hb | hb
      · exact nF b (by omega) hb
      · have h1 := hb.1; have h3 : w3.drew.heap.size = w3.heap.size := rfl; omega)
    refine ⟨rfl, f6.mono (fun b hb => ?_) (fun b hb => ?_), hw04.trans' (B := fun b _ => F b) c (fun _ _ _ h => h) (fun b o hb e => by omega)⟩
    · rcases hb with hb | hb
      · exact .inl hb
      · have h1 := hb.1; have h3 : w3.drew.heap.size = w3.heap.size := rfl; have h4 := hcc3.size; exact .inr ⟨by omega, by omega⟩
    · rcases hb with hb | hb
      · exact f6.lt (.inl hb)
      · exact hb.2
  refine hpf _ ?_
  repeat (first | refine Chg.drew ?_ | refine Chg.drewN ?_ _ | refine Chg.setCell ?_ (.inl rfl) _ | exact Chg.refl _ _)
end Go.Proofs.Ytnohimhihombmaa
