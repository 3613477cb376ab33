/- The map's own block. -/
import Derived.Test.YtpgaedmhgchgeaaM1
import Derived.Test.YtpgaedmhgchgeaaM5
namespace Go.Proofs.Ytpgaedmhgchgeaa.M
set_option linter.unusedSimpArgs false
set_option linter.unusedVariables false
open Go.RowKit

theorem upList_set2 {β : Type} (ys : List β) (z x : β) (i : Nat) (hi : i < ys.length) : ((ys ++ [z]).take (i + 1) ++ ys.drop i).set (i + 1) x = ys.take (i + 1) ++ x :: ys.drop (i + 1) := by
  have h1 : ((ys ++ [z]).take (i + 1)).length = i + 1 := by simp; omega
  rw [List.set_append_right _ _ (by omega), h1, Nat.sub_self, List.take_append_of_le_length (by omega), List.drop_eq_getElem_cons hi, List.set_cons_zero]

theorem Run.setKid {α : Type} {p : Par α} {w0 w : World} {n : Nat} {r0 r : NodeR α} {l0 l : Lay} (h : Run p w0 n r0 l0 w r l) {ks : List (Option Nat)} (hk : r.kids = some ks) (i : Nat) (o : Option Nat) (hi : i < ks.length) :
    Run p w0 n r0 l0 (w.setCell ⟨l.cb, l.co + i, none⟩ (kidV o)) { r with kids := some (ks.set i o) } l := by
  obtain ⟨_, c, h1, h2, _⟩ := (h.at_.kid _ hk).2
  have hlen := h.at_.klen hk
  have hp := h.putKids hk i [o] (by simp; omega)
  rw [show ks.take i ++ [o] ++ ks.drop (i + [o].length) = ks.set i o by rw [List.set_eq_take_append_cons_drop, if_pos hi]; simp] at hp
  rw [List.map_cons, List.map_nil, ← putCells_one h1 (by omega)] at hp
  exact hp

/-- What the second call, for the node itself, leaves. -/
def KidTwo (k : Int) (w : World) (F : Nat → Prop) (Z2 : World → (Nat → Option (NodeR (Int × Int))) → Int → Bool → Bool → Prop) (e : Ending) (w' : World) : Prop :=
  ∃ w1 H' pr rp sp, w.heap.size ≤ w1.heap.size ∧ Z2 w1 H' pr rp sp ∧ e = .returned (.tuple #[.int .i64 pr, .bool rp, .bool sp]) ∧ Fam (parM k) w' (grow F w w') H' ∧ Chg (fun b _ => F b) w w'

set_option maxRecDepth 100000 in
set_option maxHeartbeats 4000000 in
theorem nodeSet_kid_split (k : Int) (mn mx t n : Nat) (pa : Addr) (x : Int × Int) (i : Nat) (r : NodeR (Int × Int)) (w : World) (F : Nat → Prop) (H : Nat → Option (NodeR (Int × Int))) (hF : Fam (parM k) w F H) (ht : MapAt k mn mx w t) (htF : ∀ b, MOwn k t b → ¬ F b) (hn : H n = some r)
    (hpa : w.cell? pa = some (.pointer (some ⟨n, 0, none⟩))) (hs : Srt ltM r.items) (hlen : r.items.length < mx) (hmx : mx ≤ 1000) (hm3 : 3 ≤ mx) (hy : PosAt ltM r.items x i) (kl : List Nat) (hk : r.kids = some (kl.map some)) (hkll : kl.length ≤ mx) (c : Nat) (hc : kl[i]? = some c)
    (Z : World → (Nat → Option (NodeR (Int × Int))) → Int → Bool → Bool → Prop)
    (hcall : ∀ w1 pa, Chg (fun _ _ => False) w w1 → Fam (parM k) w1 F H → MapAt k mn mx w1 t → w1.cell? pa = some (.pointer (some ⟨c, 0, none⟩)) → Calls Try.prog 44 #[.pointer (some ⟨t, 0, none⟩), .pointer (some pa), aggM x] w1 (KidPost k F Z w1))
    (hZ : ∀ w1 H' pr rp sp, Z w1 H' pr rp sp → w.heap.size ≤ w1.heap.size → sp = true ∧ H' = H)
    (rc : NodeR (Int × Int)) (hrc : H c = some rc) (hcn : c ≠ n) (kl2 : List Nat) (hk2 : (rc.kids = none ∧ kl2 = []) ∨ (rc.kids = some (kl2.map some) ∧ kl2.length = mx + 1)) (hlen2 : rc.items.length = mx) (cf : Nat → Int)
    (hkid : ∀ a ∈ kl2, a ≠ c ∧ ∃ s, H a = some s ∧ s.cnt = cf a ∧ 0 ≤ cf a) (hsum : ksum cf kl2 ≤ 100000000000000)
    (Z2 : World → (Nat → Option (NodeR (Int × Int))) → Int → Bool → Bool → Prop)
    (hcall2 : ∀ w1 pa F1 m x2, w.heap.size ≤ m → m < w1.heap.size → rc.items[mx / 2]? = some x2 → (∀ b, F b → F1 b) → (∀ b, b < w.heap.size → F1 b → F b) →
      Fam (parM k) w1 F1 (upd (upd (upd H c ⟨(mx / 2 : Nat) + ksum cf (kl2.take (mx / 2 + 1)), rc.items.take (mx / 2), rc.kids.map (·.take (mx / 2 + 1))⟩) m ⟨((mx - (mx / 2 + 1) : Nat) : Int) + ksum cf (kl2.drop (mx / 2 + 1)), rc.items.drop (mx / 2 + 1), rc.kids.map (·.drop (mx / 2 + 1))⟩) n
        ⟨r.cnt, r.items.take i ++ x2 :: r.items.drop i, some ((kl.take (i + 1) ++ m :: kl.drop (i + 1)).map some)⟩) →
      MapAt k mn mx w1 t → w1.cell? pa = some (.pointer (some ⟨n, 0, none⟩)) → Calls Try.prog 44 #[.pointer (some ⟨t, 0, none⟩), .pointer (some pa), aggM x] w1 (KidPost k F1 Z2 w1)) :
    Calls Try.prog 44 #[.pointer (some ⟨t, 0, none⟩), .pointer (some pa), aggM x] w (KidTwo k w F Z2) := by
  obtain ⟨l, hna, hb, ho, cl⟩ := hF.work hn
  have t0 := ht.c0
  have n0 := hna.c0
  have hpk : (parM k).k = k := rfl
  rw [hpk] at n0
  have nlt : n < w.heap.size := World.block_lt_of_cell? w _ n0
  have tlt : t < w.heap.size := World.block_lt_of_cell? w _ t0
  have plt := World.block_lt_of_cell? w _ hpa
  have hpa1 : ∀ o, (w.alloc o).cell? pa = some (.pointer (some ⟨n, 0, none⟩)) := fun o => by rw [World.cell?_alloc_lt w _ _ plt]; exact hpa
  unfold aggM
  go_enter Try.func44, Try.ntmps44
  go_wp2_with (go_at_call 60; refine (isoLoad_any _ n k _ _ _ ?_ ?_ ?_).mono ?_; (focus go_simp); (focus go_simp); (focus go_simp); rintro e w' ⟨rfl, m, rfl⟩)
  refine name_calls (fun w1 => Chg (fun _ _ => False) w w1 ∧ w1.heap[w.heap.size]? = some (.cells #[.int .i64 x.2, .int .i64 x.1] 65 (0, 0)) ∧ w1.heap[w.heap.size + 1]? = some (.cells #[.pointer (some ⟨n, 0, none⟩)] 63 (0, 0))) ⟨?_, ?_, ?_⟩ ?_
  · repeat (first | refine Chg.drew ?_ | refine Chg.drewN ?_ _ | refine Chg.alloc ?_ _ | exact Chg.refl _ _)
  · try simp only [hd_drew, hd_drewN]
    repeat (first | exact ha_at _ _ rfl | (rw [ha_lt _ _ (by simp; try omega)]; try simp only [hd_drew, hd_drewN]))
  · try simp only [hd_drew, hd_drewN]
    exact ha_at _ _ (by simp)
  rintro w1 ⟨hc1, hb1, hb2⟩
  have hn1 := hna.chg hc1 (fun _ _ _ h => h)
  have ht1 := ht.chg hc1 (by simp)
  refine (search_node t x ht1 hn1 hs (by omega)).mono ?_
  rintro e w2 ⟨i', f, rfl, hw2, hf⟩
  have hfi : f = false ∧ i' = i := by
    rcases hf with ⟨h1, y', h2⟩ | ⟨h1, h2⟩
    · exact absurd h2.n2 (by rw [hy.right i' y' (hit_le hy h2) h2.at_]; simp)
    · exact ⟨h1, pos_same h2 hy swoM⟩
  obtain ⟨rfl, rfl⟩ := hfi
  have hc2 : Chg (fun _ _ => False) w1 w2 := hw2
  have hn2 := hn1.chg hc2 (fun _ _ _ h => h)
  have ht2 := ht1.chg hc2 (by simp)
  have hb1' : w2.heap[w.heap.size]? = some (.cells #[.int .i64 x.2, .int .i64 x.1] 65 (0, 0)) := by rw [hw2.block (heap_lt hb1) (fun _ h => h)]; exact hb1
  have hb2' : w2.heap[w.heap.size + 1]? = some (.cells #[.pointer (some ⟨n, 0, none⟩)] 63 (0, 0)) := by rw [hw2.block (heap_lt hb2) (fun _ h => h)]; exact hb2
  have HB1 := Lib.hid hb1'
  have HB2 := Lib.hid hb2'
  have q0 := cell_of_block hb1' 0
  have q1 := cell_of_block hb1' 1
  have q2 := cell_of_block hb2' 0
  simp only [List.getElem?_toArray, List.getElem?_cons_zero, List.getElem?_cons_succ] at q0 q1 q2
  have n3 := hn2.c3s hk
  have hcc := hc1.trans hc2
  have hkl := (List.getElem?_eq_some_iff.1 hc).1
  have g1 := hn2.cc hk
  rw [List.length_map] at g1
  have g2 := hn2.kidc hk (j := i') (o := some c) (by simp [hc])
  clear hw2 hb1 hb2 hb1' hb2' t0 n0 hpa hpa1
  go_wp2_with (go_at_call 47; refine (leaf_any _ (some ⟨l.cc, 0, none⟩) _ ?_).mono ?_; (focus go_simp); rintro e w' ⟨rfl, rfl⟩)
  refine name_world (fun w3 => Chg (fun _ _ => False) w2 w3) (Chg.refl _ _) ?_
  rintro w3 hc3
  replace q0 := hc3.cell (fun h => h) q0
  replace q1 := hc3.cell (fun h => h) q1
  replace q2 := hc3.cell (fun h => h) q2
  replace n3 := hc3.cell (fun h => h) n3
  replace g1 := hc3.cell (fun h => h) g1
  replace g2 := hc3.cell (fun h => h) g2
  have hcc3 := hcc.trans hc3
  have j0 : (0 : Int) ≤ (i' : Int) := by omega
  have j1 : (i' : Int) < (kl.length : Int) := by omega
  have HB1' : Hid (w3.heap[w.heap.size]? = some (.cells #[.int .i64 x.2, .int .i64 x.1] 65 (0, 0))) := Lib.hid (by rw [hc3.block (heap_lt HB1.out) (fun _ h => h)]; exact HB1.out)
  have HB2' : Hid (w3.heap[w.heap.size + 1]? = some (.cells #[.pointer (some ⟨n, 0, none⟩)] 63 (0, 0))) := Lib.hid (by rw [hc3.block (heap_lt HB2.out) (fun _ h => h)]; exact HB2.out)
  refine wp_region_call (fun w' => w'.cell? ⟨w.heap.size, 0, none⟩ = some (.int .i64 x.2) ∧ w'.cell? ⟨w.heap.size, 1, none⟩ = some (.int .i64 x.1) ∧ w'.cell? ⟨w.heap.size + 1, 0, none⟩ = some (.pointer (some ⟨n, 0, none⟩)) ∧ w'.cell? ⟨n, 3, none⟩ = some (.pointer (some ⟨l.cc, 0, none⟩)) ∧ w'.cell? ⟨l.cc, 0, none⟩ = some (.slice (some ⟨l.cb, l.co, none⟩) kl.length l.ck))
    10 [0, 1, 2, 3, 4, 5, 6, 7, 8, 9] _ [11, 12, 13, 14, 15, 16, 17] (by kernel_rfl) (by kernel_rfl) (fun _ _ _ _ _ h => h) rfl rfl rfl ⟨q0, q1, q2, n3, g1⟩ ?_
  simp only [pickOps, List.filterMap_cons, List.filterMap_nil, List.getElem?_cons_zero, List.getElem?_cons_succ]
  iterate 10
    refine wpSoft_step ?_ rfl ?_ ?_
    rotate_left
    · intro w' hS
      obtain ⟨s0, s1, s2, s3, s4⟩ := hS
      go_simp
      try with_reducible rfl
    simp only [Act.put, List.setIfInBounds_toArray, List.set_cons_zero, List.set_cons_succ]
  refine wpSoft_nil ?_
  refine wp_hide (fun K hK => ?_)
  go_simp
  go_at_call 44
  have hc13 : Chg (fun _ _ => False) w w3.drew := hcc3.drew
  refine (hcall _ _ hc13 (hF.chg hc13 (fun _ _ _ h => h)) (ht.chg hc13 (by simp)) g2).mono ?_
  rintro e w4 ⟨H', pr, rp, sp, rfl, hF4, hc4, hz4⟩
  obtain ⟨rfl, rfl⟩ := hZ _ _ _ _ _ hz4 hc13.size
  refine hK _ _ ?_
  clear hK K
  iterate 7
    refine wpSoft_step ?_ rfl ?_ ?_
    rotate_left
    · intro w' _
      go_simp
      try with_reducible rfl
    simp only [Act.put, List.setIfInBounds_toArray, List.set_cons_zero, List.set_cons_succ]
  refine wpSoft_nil ?_
  replace hc4 : Chg (fun b _ => F b) w3 w4 := ((Chg.refl _ _).drew).trans hc4
  have nF : ∀ b, w.heap.size ≤ b → ¬ F b := fun b hb h => Nat.lt_irrefl _ (Nat.lt_of_lt_of_le (hF.lt h) hb)
  have hsz3 := hc13.size
  have hsz4 := hc4.size
  have hw04 : Chg (fun b _ => F b) w w4 := (hcc3.mono (fun _ _ _ h => h.elim)).trans hc4
  have ht4 := ht.chg hw04 (fun b _ hm h => htF b hm h)
  have HQ0 := Lib.hid q0
  have HQ1 := Lib.hid q1
  have HQ2 := Lib.hid q2
  clear q0 q1 q2 n3 g1 g2
  have q2 := hc4.cell (nF _ (Nat.le_add_right _ _)) HQ2.out
  obtain ⟨l4, hna4, hb4, ho4, cl4⟩ := hF4.work hn
  have c4 := hna4.c2
  have e7 := ht4.c7
  have htest : ((r.items.length : Int) == (mx : Int)) = false := by simp; omega
  have hib4 := hna4.c3s hk
  have g4 := hna4.cc hk
  rw [List.length_map] at g4
  have g5 := hna4.kidc hk (j := i') (o := some c) (by simp [hc])
  have hbs3 : w.heap.size + 1 < w3.heap.size := heap_lt HB2'.out
  obtain ⟨F4, hF4e⟩ : ∃ F4, F4 = grow F w3.drew w4 := ⟨_, rfl⟩
  have tlt4 : t < w.heap.size := tlt
  have htF4 : ∀ b, MOwn k t b → ¬ F4 b := by
    intro b hm
    rw [hF4e]
    rintro (h | h)
    · exact htF b hm h
    · have := h.1; have := ht.lt hm; have : (w3.drew).heap.size = w3.heap.size := rfl; omega
  rw [← hF4e] at hF4 hb4 cl4
  have nF4 : ∀ b, w.heap.size ≤ b → b < w3.heap.size → ¬ F4 b := by
    intro b h1 h2
    rw [hF4e]
    rintro (h | h)
    · exact nF b h1 h
    · have := h.1; have : (w3.drew).heap.size = w3.heap.size := rfl; omega
  have old4 : ∀ b, b < w.heap.size → F4 b → F b := by
    intro b h1
    rw [hF4e]
    rintro (h | h)
    · exact h
    · have := h.1; have : (w3.drew).heap.size = w3.heap.size := rfl; omega
  have up4 : ∀ b, F b → F4 b := by rw [hF4e]; exact fun b h => .inl h
  have hrl : r.items.length ≤ 1000 := by omega
  clear hlen hF4e
  have HQ24 := Lib.hid q2
  go_wp2_with fail
  go_quiet (fail)
  go_wp2_with fail
  refine (nodeSplit_any k mn mx t c rc _ F4 H' (hF4.chg ((Chg.refl (fun _ _ => False) w4).drewN _) (fun _ _ _ h => h)) (ht4.chg ((Chg.refl (fun _ _ => False) w4).drewN _) (by simp)) hrc kl2 hk2 hlen2 hmx hm3 cf hkid hsum).mono ?_
  rintro e w5 ⟨m, x2, rfl, hx2, hm, hc5, hF5⟩
  replace hc5 : Chg (fun b _ => F4 b) w4 w5 := ((Chg.refl _ _).drewN _).trans hc5
  replace hF5 : Fam (parM k) w5 (grow F4 w4 w5) _ := hF5
  have hm4 : w4.heap.size ≤ m := hm
  clear hm hib4 g4 g5 c4 e7 htest q2
  have hsz5 := hc5.size
  have q25 := hc5.cell (nF4 _ (Nat.le_add_right _ _) hbs3) HQ24.out
  have b05 := hc5.cell (nF4 w.heap.size (Nat.le_refl _) (by have := hbs3; omega)) (hc4.cell (nF _ (Nat.le_refl _)) HQ0.out)
  have b15 := hc5.cell (nF4 w.heap.size (Nat.le_refl _) (by have := hbs3; omega)) (hc4.cell (nF _ (Nat.le_refl _)) HQ1.out)
  have ht5 := ht4.chg hc5 (fun b _ hm h => htF4 b hm h)
  obtain ⟨F5, hF5e⟩ : ∃ F5, F5 = grow F4 w4 w5 := ⟨_, rfl⟩
  obtain ⟨H5, hH5e⟩ : ∃ H5, H5 = (upd (upd H' c ⟨(mx / 2 : Nat) + ksum cf (kl2.take (mx / 2 + 1)), rc.items.take (mx / 2), rc.kids.map (·.take (mx / 2 + 1))⟩) m ⟨((mx - (mx / 2 + 1) : Nat) : Int) + ksum cf (kl2.drop (mx / 2 + 1)), rc.items.drop (mx / 2 + 1), rc.kids.map (·.drop (mx / 2 + 1))⟩) := ⟨_, rfl⟩
  rw [hlen2, ← hF5e, ← hH5e] at hF5
  have hn5 : H5 n = some r := by
    rw [hH5e]
    simp only [upd]
    rw [if_neg (by omega), if_neg (fun e => hcn e.symm)]
    exact hn
  have nF5 : ∀ b, w.heap.size ≤ b → b < w3.heap.size → ¬ F5 b := by
    intro b h1 h2
    rw [hF5e]
    rintro (h | h)
    · exact nF4 b h1 h2 h
    · have := h.1; have : (w3.drew).heap.size = w3.heap.size := rfl; omega
  have htF5 : ∀ b, MOwn k t b → ¬ F5 b := by
    intro b hm
    rw [hF5e]
    rintro (h | h)
    · exact htF4 b hm h
    · have := h.1; have := ht.lt hm; have : (w3.drew).heap.size = w3.heap.size := rfl; omega
  have old5 : ∀ b, b < w.heap.size → F5 b → F b := by
    intro b h1
    rw [hF5e]
    rintro (h | h)
    · exact old4 b h1 h
    · have := h.1; have : (w3.drew).heap.size = w3.heap.size := rfl; omega
  have up5 : ∀ b, F b → F5 b := by rw [hF5e]; exact fun b h => .inl (up4 b h)
  have hm5 : m < w5.heap.size := hF5.lt (hF5.mem (n := m) (by rw [hH5e]; exact if_pos rfl))
  have HH5 := Lib.hid hH5e
  have hw05 : Chg (fun b _ => F b) w w5 := hw04.trans' hc5 (fun _ _ _ h => h) (fun b o hb h => old4 b hb h)
  clear hF5e hH5e up4 old4
  go_wp2_with fail
  refine name_world (fun w6 => Chg (fun _ _ => False) w5 w6 ∧ w6.heap[w5.heap.size]? = some (.cells #[.int .i64 x2.2, .int .i64 x2.1] 65 (0, 0))) ⟨(Chg.refl _ _).alloc _, ha_at _ _ rfl⟩ ?_
  rintro w6 ⟨hc6, hbm⟩
  have hsz6 := hc6.size
  have hbm6 := heap_lt hbm
  have m06 := cell_of_block hbm 0
  have m16 := cell_of_block hbm 1
  simp only [List.getElem?_toArray, List.getElem?_cons_zero, List.getElem?_cons_succ] at m06 m16
  have hF6 := hF5.chg hc6 (fun _ _ _ h => h)
  have ht6 := ht5.chg hc6 (fun _ _ _ h => h)
  obtain ⟨l6, hna6, hb6, ho6, cl6⟩ := hF6.work hn5
  have r6 := Run.start hna6
  have nM : ¬ F5 w5.heap.size := fun h => Nat.lt_irrefl _ (hF5.lt h)
  obtain ⟨KEEP, hKEEP⟩ : ∃ KEEP : World → Prop, (∀ w', KEEP w' ↔ (w'.cell? ⟨w.heap.size + 1, 0, none⟩ = some (.pointer (some ⟨n, 0, none⟩)) ∧ w'.cell? ⟨w.heap.size, 0, none⟩ = some (.int .i64 x.2) ∧ w'.cell? ⟨w.heap.size, 1, none⟩ = some (.int .i64 x.1) ∧
      w'.cell? ⟨w5.heap.size, 0, none⟩ = some (.int .i64 x2.2) ∧ w'.cell? ⟨w5.heap.size, 1, none⟩ = some (.int .i64 x2.1) ∧ MapAt k mn mx w' t)) := ⟨fun _ => _, fun _ => Iff.rfl⟩
  have k6 : KEEP w6 := (hKEEP _).2 ⟨hc6.cell (fun h => h) q25, hc6.cell (fun h => h) b05, hc6.cell (fun h => h) b15, m06, m16, ht6⟩
  have hext : ∀ b o, Ext (parM k) n r l6 b o → F5 b := fun b o h => hb6 b h.blk
  have keep : ∀ w' A, Chg A w6 w' → (∀ b o, A b o → F5 b) → KEEP w' := by
    intro w' A hc hA
    obtain ⟨a1, a2, a3, a4, a5, a6⟩ := (hKEEP _).1 k6
    exact (hKEEP _).2 ⟨hc.cell (fun h => nF5 _ (Nat.le_add_right _ _) hbs3 (hA _ _ h)) a1, hc.cell (fun h => nF5 w.heap.size (Nat.le_refl _) (by have := hbs3; omega) (hA _ _ h)) a2, hc.cell (fun h => nF5 w.heap.size (Nat.le_refl _) (by have := hbs3; omega) (hA _ _ h)) a3,
      hc.cell (fun h => nM (hA _ _ h)) a4, hc.cell (fun h => nM (hA _ _ h)) a5, a6.chg hc (fun b o hm h => htF5 b hm (hA _ _ h))⟩
  clear q25 b05 b15 m06 m16 hbm
  obtain ⟨q2, q0, q1, mm0, mm1, ht6'⟩ := (hKEEP _).1 k6
  have n3 := hna6.c3s hk
  have g4 := hna6.cc hk
  have gz := hna6.ccz hk 0
  rw [List.length_map] at g4
  obtain ⟨i0, hi0, hz0, hz1, hz2⟩ := info_parts infoNode
  obtain ⟨d1, d2, d3, d4, d5⟩ := hna6.d2 (by rw [hk]; simp)
  have hklen6 := hna6.klen hk
  rw [List.length_map] at hklen6
  have cclt := heap_lt (hna6.kid _ hk).1
  have fz2a : ∀ o, (w6.alloc o).drew.frozen? ⟨l6.cc, 0, none⟩ = false := fun o => by rw [World.frozen?_drew, World.frozen?_alloc_past _ _ _ cclt]; exact gz
  have bcb : w.heap.size + 1 ≠ l6.cb := fun h => nF5 _ (Nat.le_add_right _ _) hbs3 (by have h2 := hb6 l6.cb (.inr (.inr ⟨by rw [hk]; simp, .inr rfl⟩)); rw [← h] at h2; exact h2)
  have nlt6 : n < w6.heap.size := hna6.lt (.inl rfl)
  clear q0 q1 mm0 mm1
  refine wp_region_soft (fun w' => w'.cell? ⟨w.heap.size + 1, 0, none⟩ = some (.pointer (some ⟨n, 0, none⟩)) ∧ w'.cell? ⟨n, 3, none⟩ = some (.pointer (some ⟨l6.cc, 0, none⟩)) ∧ w'.cell? ⟨l6.cc, 0, none⟩ = some (.slice (some ⟨l6.cb, l6.co, none⟩) kl.length l6.ck))
    12 [0, 1, 2, 3, 4, 5, 6, 7, 8, 9] [10, 11] (by kernel_rfl) (by kernel_rfl) (fun _ _ _ _ _ h => h) rfl rfl ⟨q2, n3, g4⟩ ?_
  simp only [pickOps, List.filterMap_cons, List.filterMap_nil, List.getElem?_cons_zero, List.getElem?_cons_succ]
  iterate 10
    refine wpSoft_step ?_ rfl ?_ ?_
    rotate_left
    · intro w' hS
      obtain ⟨s1, s2, s3⟩ := hS
      go_simp
      try with_reducible rfl
    simp only [Act.put, List.setIfInBounds_toArray, List.set_cons_zero, List.set_cons_succ]
  refine wpSoft_nil ?_
  refine wpHards_step (fun K hK => ?_)
  go_simp
  refine hK _ _ ⟨?_, ?_, ?_⟩ ?_
  iterate 3 go_keep
  clear hK K
  refine wpHards_step (fun K hK => ?_)
  refine wp_append_row _ _ _ (by rfl) 63 i0 _ 1 8 Try.underlying86 hi0 hz0 hz1 hz2 rfl l6.cb l6.co kl.length l6.ck (by rfl) ((kl.map some).map kidV) (by rw [Nat.mul_one]; exact (((hna6.kid _ hk).2.alloc _).drew)) (by simp) ⟨w6.heap.size, 0, none⟩ 1 _ (by rfl) [.pointer none] (by rfl) (World.news_of_block (cs := #[.pointer none]) (t := 63) (fr := (0, 0)) (heap_alloc_new w6 _)) (by simp [Value.oneCell']) (by unfold maxLen; omega) (by omega) ?_
  intro b' o1 cap' w4 happ
  refine hK _ _ ⟨happ.chg.cell (fun h => absurd h.1 bcb) (by rw [World.cell?_drew, World.cell?_alloc_past _ _ _ (by omega)]; exact q2), happ.chg.cell (fun h => absurd h.1 (Ne.symm d2)) (by rw [World.cell?_drew, World.cell?_alloc_past _ _ _ (by omega)]; exact n3), happ.chg.cell (fun h => absurd h.1 (Ne.symm d5)) (by rw [World.cell?_drew, World.cell?_alloc_past _ _ _ (by omega)]; exact g4)⟩ ?_
  clear hK K
  simp only [wpHards, List.drop_succ_cons, List.drop_zero, Act.put, List.setIfInBounds_toArray, List.set_cons_zero, List.set_cons_succ]
  have g24 : w4.cell? ⟨l6.cc, 0, none⟩ = some (.slice (some ⟨l6.cb, l6.co, none⟩) kl.length l6.ck) := happ.chg.cell (fun h => absurd h.1 (Ne.symm d5)) (by rw [World.cell?_drew, World.cell?_alloc_past _ _ _ (by omega)]; exact g4)
  have z2 : w4.frozen? ⟨l6.cc, 0, none⟩ = false := by rw [happ.chg.frozen (by simp; omega)]; exact fz2a _
  go_wp2_with fail
  have r3' := r6.still (((Chg.refl (fun _ _ => False) w6).alloc (.cells #[.pointer none] 63)).drew)
  have happ' : Appd (parM k).TP 1 ((w6.alloc (.cells #[.pointer none] 63)).drew) l6.cb l6.co (kl.map some).length l6.ck ((kl.map some).map kidV) (([none] : List (Option Nat)).map kidV) ([none] : List (Option Nat)).length b' o1 cap' w4 := by
    rw [List.length_map]; exact happ
  have r7 := r3'.appendKids hk [none] happ' (Chg.refl _ _)
  have hroom := happ.room
  clear happ happ' g24 z2 r3' n3 g4 gz fz2a hi0 hz0 hz1 hz2
  refine name_world (fun w7 => ∃ l7, Run (parM k) w6 n r l6 w7 { r with kids := some (kl.map some ++ [none]) } l7 ∧ kl.length + 1 ≤ l7.ck) ⟨_, by rw [List.length_map] at r7; exact r7, hroom⟩ ?_
  clear r7 hroom
  rintro w7 ⟨l7, r7, hroom⟩
  have keepR : ∀ w' r' l', Run (parM k) w6 n r l6 w' r' l' → KEEP w' := fun w' r' l' hr => keep w' _ hr.chg hext
  obtain ⟨q2, -, -, -, -, -⟩ := (hKEEP _).1 (keepR _ _ _ r7)
  have n3 := r7.at_.c3s rfl
  have g4 := r7.at_.cc rfl
  simp only [List.length_append, List.length_map, List.length_cons, List.length_nil, Nat.zero_add] at g4
  have hle : i' ≤ kl.length := by omega
  have hle2 : (i' : Int) ≤ (kl.length : Int) + 1 := by omega
  have s0 : (0 : Int) ≤ (i' : Int) := by omega
  have s2 : (0 : Int) ≤ (i' : Int) + 1 := by omega
  have s3 : ((i' : Int) + 1).toNat = i' + 1 := by omega
  have hck2 : ¬ l7.ck = i' := by omega
  have hck3 : ¬ l7.ck = i' + 1 := by omega
  have s1 : IntKind.i64.wrap ((i' : Int) + 1) = (i' : Int) + 1 := IntWalk.i64_in _ (by omega)
  go_still_tail 17, (by kernel_rfl)
  refine wpList_shiftKids (p := parM k) (r := { r with kids := some (kl.map some ++ [none]) }) (by rfl) _ _ _ _ (by rfl) 63 (by kernel_rfl) infoNodeSize (r7.still ((Chg.refl _ _).drew)) (kl.map some) none rfl i' (l7.co + (i' + 1)) _ _ _ _ (by simp; omega) (fun _ => rfl) (.inr rfl) (by rfl) _ (by rfl) (by rfl) (by simp) (by simp) ?_
  intro w8 hc8 r8
  clear s1 hck2 hck3 g4 n3 q2
  obtain ⟨q2, -, -, -, -, -⟩ := (hKEEP _).1 (keepR _ _ _ r8)
  have n3 := r8.at_.c3s rfl
  have g4 := r8.at_.cc rfl
  have hl8 : ((kl.map some ++ [none]).take (i' + 1) ++ (kl.map some).drop i').length = kl.length + 1 := by rw [upList_len _ _ _ (by simp; omega)]; simp
  rw [hl8] at g4
  obtain ⟨o8, ho8⟩ : ∃ o, ((kl.map some ++ [none]).take (i' + 1) ++ (kl.map some).drop i')[i' + 1]? = some o := ⟨_, List.getElem?_eq_getElem (by rw [hl8]; omega)⟩
  have g5 := r8.at_.kidc rfl ho8
  have gz := r8.at_.kidz rfl (l7.co + (i' + 1))
  have j3 : (i' : Int) + 1 < (kl.length : Int) + 1 := by omega
  have s1 : IntKind.i64.wrap ((i' : Int) + 1) = (i' : Int) + 1 := IntWalk.i64_in _ (by omega)
  have r9 := r8.setKid rfl (i' + 1) (some m) (by show i' + 1 < _; rw [hl8]; omega)
  rw [upList_set2 _ _ _ _ (by simp; omega), show (kl.map some).take (i' + 1) ++ some m :: (kl.map some).drop (i' + 1) = (kl.take (i' + 1) ++ m :: kl.drop (i' + 1)).map some by simp] at r9
  go_wp2_with fail
  refine name_world (fun w9 => Run (parM k) w6 n r l6 w9 { r with kids := some ((kl.take (i' + 1) ++ m :: kl.drop (i' + 1)).map some) } l7) r9 ?_
  clear r9 r8 q2 n3 g4 g5 gz s1 hc8 ho8
  intro w9 r9
  have k9 := keepR _ _ _ r9
  obtain ⟨q2, q0, q1, mm0, mm1, ht9⟩ := (hKEEP _).1 k9
  have hna9 := r9.at_
  have n2 := hna9.c2
  have e4 := ht9.c4
  have e5 := ht9.c5
  have hlen9 : r.items.length ≤ l7.ic := hna9.len
  obtain ⟨i0, hi0, hz0, hz1, hz2⟩ := info_parts infoPair
  have fz2 := hna9.fz 2
  have nlt9 : n < w9.heap.size := hna9.lt (.inl rfl)
  have hsz9 := r9.chg.size
  have fz2a : ∀ o, (w9.alloc o).drew.frozen? ⟨n, 2, none⟩ = false := fun o => by rw [World.frozen?_drew, World.frozen?_alloc_past _ _ _ nlt9]; exact fz2
  have apart : ∀ b, b < w6.heap.size → ¬ F5 b → b ≠ l7.ib := by
    rintro b h1 h2 rfl
    rcases r9.blk l7.ib (.inr (.inl rfl)) with h | h
    · exact h2 (hb6 _ h)
    · omega
  have tlt5 : t < w6.heap.size := by omega
  have htib := apart t tlt5 (htF5 t MOwn.self)
  have bib := apart (w.heap.size + 1) (by omega) (nF5 _ (Nat.le_add_right _ _) hbs3)
  have hnib : n ≠ l7.ib := Ne.symm hna9.d1
  clear q0 q1 mm0 mm1
  refine wp_region_soft (fun w' => w'.cell? ⟨w.heap.size + 1, 0, none⟩ = some (.pointer (some ⟨n, 0, none⟩)) ∧ w'.cell? ⟨n, 2, none⟩ = some (.slice (some ⟨l7.ib, l7.io, none⟩) r.items.length l7.ic) ∧ w'.cell? ⟨t, 4, none⟩ = some (.int .i64 0) ∧ w'.cell? ⟨t, 5, none⟩ = some (.int .i64 0))
    11 [0, 1, 2, 3, 4, 5, 6, 7, 8] [9, 10] (by kernel_rfl) (by kernel_rfl) (fun _ _ _ _ _ h => h) rfl rfl ⟨q2, n2, e4, e5⟩ ?_
  simp only [pickOps, List.filterMap_cons, List.filterMap_nil, List.getElem?_cons_zero, List.getElem?_cons_succ]
  iterate 9
    refine wpSoft_step ?_ rfl ?_ ?_
    rotate_left
    · intro w' hS
      obtain ⟨s1, s2, s3, s4⟩ := hS
      go_simp
      try with_reducible rfl
    simp only [Act.put, List.setIfInBounds_toArray, List.set_cons_zero, List.set_cons_succ]
  refine wpSoft_nil ?_
  refine wpHards_step (fun K hK => ?_)
  go_simp
  refine hK _ _ ⟨?_, ?_, ?_, ?_⟩ ?_
  iterate 4 go_keep
  clear hK K
  refine wpHards_step (fun K hK => ?_)
  refine wp_append_row _ _ _ (by rfl) 65 i0 _ 2 16 Try.underlying77 hi0 hz0 hz1 hz2 rfl l7.ib l7.io r.items.length l7.ic (by rfl) (flat (parM k) r.items) ((hna9.row.alloc _).drew) (flat_len _ _) ⟨w9.heap.size, 0, none⟩ 1 _ (by rfl) [.int .i64 0, .int .i64 0] (by rfl) (World.news_of_block (cs := #[.int .i64 0, .int .i64 0]) (t := 65) (fr := (0, 0)) (heap_alloc_new w9 _)) (by simp [Value.oneCell']) (by unfold maxLen; omega) (by omega) ?_
  intro b' o1 cap' w4 happ
  refine hK _ _ ⟨happ.chg.cell (fun h => absurd h.1 bib) (by rw [World.cell?_drew, World.cell?_alloc_past _ _ _ (by omega)]; exact q2), happ.chg.cell (fun h => absurd h.1 hnib) (by rw [World.cell?_drew, World.cell?_alloc_past _ _ _ (by omega)]; exact n2), happ.chg.cell (fun h => absurd h.1 htib) (by rw [World.cell?_drew, World.cell?_alloc_past _ _ _ (by omega)]; exact e4), happ.chg.cell (fun h => absurd h.1 htib) (by rw [World.cell?_drew, World.cell?_alloc_past _ _ _ (by omega)]; exact e5)⟩ ?_
  clear hK K
  simp only [wpHards, List.drop_succ_cons, List.drop_zero, Act.put, List.setIfInBounds_toArray, List.set_cons_zero, List.set_cons_succ]
  have g2 : w4.cell? ⟨n, 2, none⟩ = some (.slice (some ⟨l7.ib, l7.io, none⟩) r.items.length l7.ic) := happ.chg.cell (fun h => absurd h.1 hnib) (by rw [World.cell?_drew, World.cell?_alloc_past _ _ _ (by omega)]; exact n2)
  have z2 : w4.frozen? ⟨n, 2, none⟩ = false := by rw [happ.chg.frozen (by simp; omega)]; exact fz2a _
  go_wp2_with fail
  have r3' := r9.still (((Chg.refl (fun _ _ => False) w9).alloc (.cells #[.int .i64 0, .int .i64 0] 65)).drew)
  have ra := r3'.append [((0, 0) : Int × Int)] happ (Chg.refl _ _)
  have hroom2 := happ.room
  clear happ g2 z2 q2 n2 e4 e5 fz2 fz2a r3' hz0 hz1 hz2 hi0 bib htib hnib apart
  refine name_world (fun wa => ∃ la, Run (parM k) w6 n r l6 wa { r with items := r.items ++ [((0, 0) : Int × Int)], kids := some ((kl.take (i' + 1) ++ m :: kl.drop (i' + 1)).map some) } la ∧ r.items.length + 1 ≤ la.ic) ⟨_, ra, hroom2⟩ ?_
  clear ra hroom2
  rintro wa ⟨la, ra, hrooma⟩
  obtain ⟨q2, -, -, -, -, -⟩ := (hKEEP _).1 (keepR _ _ _ ra)
  have n5 := ra.at_.c2
  simp only [List.length_append, List.length_cons, List.length_nil, Nat.zero_add] at n5
  have hlei := hy.le
  have s0 : (0 : Int) ≤ (i' : Int) := by omega
  have s2 : (0 : Int) ≤ (i' : Int) + 1 := by omega
  have s3 : ((i' : Int) + 1).toNat = i' + 1 := by omega
  have hck2 : ¬ la.ic = i' := by omega
  have hle3 : (i' : Int) ≤ (r.items.length : Int) + 1 := by omega
  obtain ⟨od, hif, hod, hod2⟩ : ∃ od, (if la.ic = i' + 1 then some (⟨la.ib, la.io, none⟩ : Addr) else some ⟨la.ib, la.io + (i' + 1) * 2, none⟩) = some ⟨la.ib, od, none⟩ ∧ (i' < r.items.length → od = la.io + (i' + 1) * 2) ∧ (od = la.io ∨ od = la.io + (i' + 1) * 2) := by
    by_cases h : la.ic = i' + 1
    · exact ⟨la.io, by rw [if_pos h], fun h2 => by omega, .inl rfl⟩
    · exact ⟨_, by rw [if_neg h], fun _ => rfl, .inr rfl⟩
  have s1 : IntKind.i64.wrap ((i' : Int) + 1) = (i' : Int) + 1 := IntWalk.i64_in _ (by omega)
  go_still_tail 13, (by kernel_rfl)
  refine wpList_shift (p := parM k) (r := { r with items := r.items ++ [((0, 0) : Int × Int)], kids := some ((kl.take (i' + 1) ++ m :: kl.drop (i' + 1)).map some) }) (by rfl) _ _ _ _ (by rfl) 65 (by kernel_rfl) infoPairSize (ra.still ((Chg.refl _ _).drew)) r.items (0, 0) rfl i' od _ _ _ _ hlei (by simpa [parM] using hod) (by simpa [parM] using hod2) (by rfl) _ (by rfl) (by first | rfl | simp [parM]) (by omega) (by omega) ?_
  intro wb hcb rb
  have hlb : ((r.items ++ [((0, 0) : Int × Int)]).take (i' + 1) ++ r.items.drop i').length = r.items.length + 1 := upList_len _ _ _ hlei
  clear s1 s2 s3 hif hod hod2 q2 n5 hcb hck2
  go_wp2_with fail
  refine name_world (fun wc => Run (parM k) w6 n r l6 wc { r with items := ((r.items ++ [((0, 0) : Int × Int)]).take (i' + 1) ++ r.items.drop i'), kids := some ((kl.take (i' + 1) ++ m :: kl.drop (i' + 1)).map some) } la) rb ?_
  clear rb
  intro wc rcc
  obtain ⟨q2, q0, q1, mm0, mm1, htc⟩ := (hKEEP _).1 (keepR _ _ _ rcc)
  have nc := rcc.at_.c2
  simp only [hlb] at nc
  have z0 := rcc.at_.ifz (la.io + i' * 2)
  have z1 := rcc.at_.ifz (la.io + i' * 2 + 1)
  have j4 : (i' : Int) < (r.items.length : Int) + 1 := by omega
  obtain ⟨y6, hy6⟩ : ∃ y, ((r.items ++ [((0, 0) : Int × Int)]).take (i' + 1) ++ r.items.drop i')[i']? = some y := ⟨_, List.getElem?_eq_getElem (by rw [hlb]; omega)⟩
  have iv := rcc.at_.mval hy6
  have ik := rcc.at_.mkey hy6
  go_still_tail 7, (by kernel_rfl)
  have rd := rcc.setItemM i' x2 (Nat.lt_of_lt_of_eq (show i' < r.items.length + 1 by omega) hlb.symm)
  have apart : ∀ b, b < w6.heap.size → ¬ F5 b → b ≠ la.ib := by
    rintro b h1 h2 rfl
    rcases rcc.blk la.ib (.inr (.inl rfl)) with h | h
    · exact h2 (hb6 _ h)
    · omega
  have p1 := apart w.heap.size (by omega) (nF5 _ (Nat.le_refl _) (by omega))
  have p1' := Ne.symm p1
  clear apart
  clear q2 nc
  go_wp2_with fail
  have re := rd.still ((Chg.refl _ _).drew)
  rw [upList_set _ _ _ _ hlei] at re
  have hKe := (hKEEP _).1 (keepR _ _ _ re)
  obtain ⟨hFe, hce⟩ := cl6 _ _ _ re
  rw [HH5.out] at hFe
  have hze := hce.size
  have hupF : ∀ b, F b → grow F5 w6 ((wc.setCell ⟨la.ib, la.io + i' * 2, none⟩ (.int .i64 x2.2)).setCell ⟨la.ib, la.io + i' * 2 + 1, none⟩ (.int .i64 x2.1)).drew b := fun b hb => .inl (up5 b hb)
  have hoF : ∀ b, b < w.heap.size → grow F5 w6 ((wc.setCell ⟨la.ib, la.io + i' * 2, none⟩ (.int .i64 x2.2)).setCell ⟨la.ib, la.io + i' * 2 + 1, none⟩ (.int .i64 x2.1)).drew b → F b := by
    rintro b hb (h | h)
    · exact old5 b hb h
    · have := h.1; omega
  refine (hcall2 _ _ _ m x2 (by omega) (by omega) hx2 hupF hoF hFe hKe.2.2.2.2.2 hKe.1).mono ?_
  have hwe : Chg (fun b _ => F b) w ((wc.setCell ⟨la.ib, la.io + i' * 2, none⟩ (.int .i64 x2.2)).setCell ⟨la.ib, la.io + i' * 2 + 1, none⟩ (.int .i64 x2.1)).drew :=
    (hw05.trans' hc6 (fun _ _ _ h => h) (fun _ _ _ h => h.elim)).trans' hce (fun _ _ _ h => h) (fun b o hb h => old5 b hb h)
  clear hKe hFe re rd
  revert hwe hoF hze hce hupF
  generalize ((wc.setCell ⟨la.ib, la.io + i' * 2, none⟩ (.int .i64 x2.2)).setCell ⟨la.ib, la.io + i' * 2 + 1, none⟩ (.int .i64 x2.1)).drew = we
  intro hce hze hupF hoF hwe
  rintro e wf ⟨H'', pr2, rp2, sp2, rfl, hFf, hcf, hzf⟩
  have hszf := hcf.size
  go_wp2_with fail
  go_ret3
  refine ⟨we, H'', pr2, rp2, sp2, by omega, hzf, rfl, ?_, ?_⟩
  · refine hFf.mono (fun b hb => ?_) (fun b hb => ?_)
    · rcases Nat.lt_or_ge b w.heap.size with h | h
      · rcases hb with hb | hb
        · exact .inl (hoF b h hb)
        · have := hb.1; omega
      · exact .inr ⟨h, hFf.lt hb⟩
    · rcases hb with hb | hb
      · exact hFf.lt (.inl (hupF b hb))
      · exact hb.2
  · exact hwe.trans' hcf (fun _ _ _ h => h) (fun b o hb h => hoF b hb h)
end Go.Proofs.Ytpgaedmhgchgeaa.M

namespace Go.Proofs.Ytpgaedmhgchgeaa.M
set_option linter.unusedSimpArgs false
set_option linter.unusedVariables false
open Go.RowKit

theorem inter_len {α : Type} : ∀ (xs : List α) (ts : List (List α)), ts.length = xs.length + 1 → (inter xs ts).length = xs.length + (ts.map (·.length)).sum
  | [], [t], _ => by simp [inter]
  | x :: xs, t :: ts, h => by
    simp only [inter, List.length_append, List.length_cons, List.map_cons, List.sum_cons]
    rw [inter_len xs ts (by simpa using h)]; omega

theorem ksum_rids {α : Type} {h : Nat} (cf : Nat → Int) : ∀ ks : List (BT α h), (∀ c ∈ ks, cf (rid c) = ((toL h c).length : Nat)) → ksum cf (ks.map rid) = (((ks.map (toL h)).map (·.length)).sum : Nat)
  | [], _ => rfl
  | c :: ks, h => by
    rw [List.map_cons, ksum_cons, h c List.mem_cons_self, ksum_rids cf ks (fun d hd => h d (List.mem_cons_of_mem _ hd))]
    simp

def kidIds {α : Type} : {h : Nat} → BT α h → List Nat
  | 0, _ => []
  | _ + 1, t => t.2.2.map rid

def cntOf {α : Type} (H : Nat → Option (NodeR α)) (a : Nat) : Int := ((H a).map (·.cnt)).getD 0

theorem cntOf_kid {α : Type} {H : Nat → Option (NodeR α)} {h : Nat} {t : BT α (h + 1)} (hT : IsT H (h + 1) t) {c : BT α h} (hc : c ∈ t.2.2) : cntOf H (rid c) = ((toL h c).length : Nat) := by
  unfold cntOf
  rw [(hT.2 c hc).root]
  simp [recOf_cnt]

theorem recOf_cut {α : Type} {H : Nat → Option (NodeR α)} {h : Nat} {t : BT α h} {mn mx i : Nat} (m : Nat) (hT : IsT H h t) (hs : Sh mn mx h t) (hi : i < (its t).length) :
    recOf h (cutL t i) = ⟨(i : Nat) + ksum (cntOf H) ((kidIds t).take (i + 1)), (its t).take i, (recOf h t).kids.map (·.take (i + 1))⟩ ∧
    recOf h (cutR t m i) = ⟨(((its t).length - (i + 1) : Nat) : Int) + ksum (cntOf H) ((kidIds t).drop (i + 1)), (its t).drop (i + 1), (recOf h t).kids.map (·.drop (i + 1))⟩ := by
  match h, t with
  | 0, t =>
    have hi' : i < t.2.length := hi
    refine ⟨?_, ?_⟩
    · show (⟨((t.2.take i).length : Nat), t.2.take i, none⟩ : NodeR α) = ⟨(i : Nat) + ksum (cntOf H) (([] : List Nat).take (i + 1)), t.2.take i, none⟩
      rw [List.take_nil, ksum_nil, List.length_take, Nat.min_eq_left (by omega)]; simp
    · show (⟨((t.2.drop (i + 1)).length : Nat), t.2.drop (i + 1), none⟩ : NodeR α) = ⟨((t.2.length - (i + 1) : Nat) : Int) + ksum (cntOf H) (([] : List Nat).drop (i + 1)), t.2.drop (i + 1), none⟩
      rw [List.drop_nil, ksum_nil, List.length_drop]; simp
  | h + 1, t =>
    have hi' : i < t.2.1.length := hi
    have hl : t.2.2.length = t.2.1.length + 1 := hs.2.1
    have hk1 := ksum_rids (cntOf H) (t.2.2.take (i + 1)) (fun c hc => cntOf_kid hT (List.mem_of_mem_take hc))
    have hk2 := ksum_rids (cntOf H) (t.2.2.drop (i + 1)) (fun c hc => cntOf_kid hT (List.mem_of_mem_drop hc))
    refine ⟨?_, ?_⟩
    · show (⟨((inter (t.2.1.take i) ((t.2.2.take (i + 1)).map (toL h))).length : Nat), t.2.1.take i, some ((t.2.2.take (i + 1)).map fun c => some (rid c))⟩ : NodeR α) =
        ⟨(i : Nat) + ksum (cntOf H) ((t.2.2.map rid).take (i + 1)), t.2.1.take i, some ((t.2.2.map fun c => some (rid c)).take (i + 1))⟩
      rw [← List.map_take, ← List.map_take, hk1, inter_len _ _ (by simp; omega), List.length_take, Nat.min_eq_left (by omega)]
      simp
    · show (⟨((inter (t.2.1.drop (i + 1)) ((t.2.2.drop (i + 1)).map (toL h))).length : Nat), t.2.1.drop (i + 1), some ((t.2.2.drop (i + 1)).map fun c => some (rid c))⟩ : NodeR α) =
        ⟨((t.2.1.length - (i + 1) : Nat) : Int) + ksum (cntOf H) ((t.2.2.map rid).drop (i + 1)), t.2.1.drop (i + 1), some ((t.2.2.map fun c => some (rid c)).drop (i + 1))⟩
      rw [← List.map_drop, ← List.map_drop, hk2, inter_len _ _ (by simp; omega), List.length_drop]
      simp

/-- The item finds room on its way, or its equal. -/
def Avail (mx : Nat) : (h : Nat) → BT (Int × Int) h → Int × Int → Prop
  | 0, t, x => t.2.length < mx ∨ ∃ i y, HitAt ltM t.2 x i y
  | h + 1, t, x => t.2.1.length < mx ∨ (∃ i y, HitAt ltM t.2.1 x i y) ∨ ∃ i c, PosAt ltM t.2.1 x i ∧ t.2.2[i]? = some c ∧ Avail mx h c x

theorem Avail.room {mx : Nat} : {h : Nat} → {t : BT (Int × Int) h} → {x : Int × Int} → (its t).length < mx → Avail mx h t x
  | 0, _, _, h => .inl h
  | _ + 1, _, _, h => .inl h
theorem Avail.hit {mx : Nat} : {h : Nat} → {t : BT (Int × Int) h} → {x y : Int × Int} → {i : Nat} → HitAt ltM (its t) x i y → Avail mx h t x
  | 0, _, _, _, _, h => .inr ⟨_, _, h⟩
  | _ + 1, _, _, _, _, h => .inr (.inl ⟨_, _, h⟩)

def Found (l : List (Int × Int)) (x : Int × Int) (pr : Int) (rp : Bool) : Prop := (∃ y, fndL ltM x l = some y ∧ pr = y.2 ∧ rp = true) ∨ (fndL ltM x l = none ∧ rp = false)

/-- The item lies in the tree T'. -/
structure SetIn (mn mx B : Nat) (H : Nat → Option (NodeR (Int × Int))) (h : Nat) (T : BT (Int × Int) h) (x : Int × Int) (H' : Nat → Option (NodeR (Int × Int))) (pr : Int) (rp : Bool) (T' : BT (Int × Int) h) : Prop where
  isT : IsT H' h T'
  rid' : rid T' = rid T
  nd : (ids h T').Nodup
  new : ∀ a ∈ ids h T', a ∈ ids h T ∨ B ≤ a
  sh : Sh mn mx h T'
  len : (its T).length ≤ (its T').length
  list : toL h T' = insL ltM x (toL h T)
  found : Found (toL h T) x pr rp
  rest : ∀ a, a < B → a ∉ ids h T → H' a = H a

def SetOut (mn mx B : Nat) (H : Nat → Option (NodeR (Int × Int))) (h : Nat) (T : BT (Int × Int) h) (x : Int × Int) (H' : Nat → Option (NodeR (Int × Int))) (pr : Int) (rp sp : Bool) : Prop :=
  (sp = true ∧ H' = H ∧ ¬ Avail mx h T x) ∨ (sp = false ∧ Avail mx h T x ∧ ∃ T', SetIn mn mx B H h T x H' pr rp T')

structure TreeIn (k : Int) (mn mx : Nat) (w : World) (F : Nat → Prop) (H : Nat → Option (NodeR (Int × Int))) (t : Nat) (h : Nat) (T : BT (Int × Int) h) : Prop where
  fam : Fam (parM k) w F H
  map : MapAt k mn mx w t
  out : ∀ b, MOwn k t b → ¬ F b
  isT : IsT H h T
  nd : (ids h T).Nodup
  sh : Sh mn mx h T
  srt : Srt ltM (toL h T)
  big : (toL h T).length ≤ 100000000000000
  m3 : 3 ≤ mx
  m1000 : mx ≤ 1000
  mh : mn ≤ mx / 2
  mh2 : mn ≤ mx - (mx / 2 + 1)

def SetSpec (h : Nat) : Prop := ∀ (k : Int) (mn mx t : Nat) (pa : Addr) (x : Int × Int) (w : World) (F : Nat → Prop) (H : Nat → Option (NodeR (Int × Int))) (T : BT (Int × Int) h), TreeIn k mn mx w F H t h T →
  w.cell? pa = some (.pointer (some ⟨rid T, 0, none⟩)) →
  Calls Try.prog 44 #[.pointer (some ⟨t, 0, none⟩), .pointer (some pa), aggM x] w (KidPost k F (fun w1 H' pr rp sp => SetOut mn mx w1.heap.size H h T x H' pr rp sp) w)

theorem updNe {α : Type} {H : Nat → Option (NodeR α)} {n a : Nat} {r : NodeR α} (h : a ≠ n) : upd H n r a = H a := if_neg h

theorem set_hit_any {h : Nat} {k : Int} {mn mx t : Nat} {pa : Addr} {x y : Int × Int} {i : Nat} {w : World} {F : Nat → Prop} {H : Nat → Option (NodeR (Int × Int))} {T : BT (Int × Int) h} (hI : TreeIn k mn mx w F H t h T)
    (hpa : w.cell? pa = some (.pointer (some ⟨rid T, 0, none⟩))) (hy : HitAt ltM (its T) x i y) :
    Calls Try.prog 44 #[.pointer (some ⟨t, 0, none⟩), .pointer (some pa), aggM x] w (KidPost k F (fun w1 H' pr rp sp => SetOut mn mx w1.heap.size H h T x H' pr rp sp) w) := by
  have hl := hI.sh.len
  have hs := its_srt hI.sh hI.srt
  have := hI.m1000
  refine (nodeSet_hit k mn mx t (rid T) pa x y i (recOf h T) w F H hI.fam hI.map hI.isT.root hpa (by rw [recOf_items]; exact hs) (by rw [recOf_items]; omega) (by rw [recOf_items]; exact hy)).mono ?_
  rintro e w' ⟨rfl, h1, h2⟩
  rw [recOf_items] at h1
  obtain ⟨e1, e2⟩ := toL_hit swoM hI.sh hI.srt hy
  refine ⟨_, y.2, true, false, rfl, h1, h2, .inr ⟨rfl, .hit hy, setIt T i x, ?_⟩⟩
  exact ⟨hI.isT.setIt hI.nd hI.sh hy.at_ x, rid_setIt T i x, by rw [ids_setIt]; exact hI.nd, fun a ha => .inl (by rw [ids_setIt] at ha; exact ha), sh_setIt i x hI.sh, by rw [its_setIt, List.length_set]; exact Nat.le_refl _, e1, .inl ⟨y, e2, rfl, rfl⟩,
    fun a ha hn => updNe (fun e => hn (e ▸ rid_mem T))⟩

theorem setSpec0 : SetSpec 0 := by
  intro k mn mx t pa x w F H T hI hpa
  rcases pos_or_hit swoM (x := x) (its_srt hI.sh hI.srt) with ⟨i, hp⟩ | ⟨i, y, hy⟩
  · have hl : T.2.length ≤ mx := hI.sh
    have hm := hI.m1000
    rcases Nat.lt_or_ge T.2.length mx with hlt | hge
    · refine (nodeSet_leaf_room k mn mx t (rid T) pa x i (recOf 0 T) w F H hI.fam hI.map hI.out hI.isT.root hpa hI.srt hlt hm hp rfl (by show (0 : Int) ≤ (T.2.length : Nat); omega) (by show ((T.2.length : Nat) : Int) ≤ _; omega)).mono ?_
      rintro e w' ⟨rfl, h1, h2⟩
      obtain ⟨e1, e2⟩ := pos_gap swoM hp
      refine ⟨_, 0, false, false, rfl, h1, h2, .inr ⟨rfl, .room hlt, (T.1, T.2.take i ++ x :: T.2.drop i), ?_⟩⟩
      have hle := hp.le
      have hl2 : (T.2.take i ++ x :: T.2.drop i).length = T.2.length + 1 := by
        have : i ≤ T.2.length := hle
        simp; omega
      refine ⟨?_, rfl, hI.nd, fun a ha => .inl ha, ?_, ?_, e1.symm, .inr ⟨e2, rfl⟩, fun a ha hn => updNe (fun e => hn (e ▸ rid_mem T))⟩
      · show upd H (rid T) _ (rid T) = some (recOf 0 ((T.1, T.2.take i ++ x :: T.2.drop i) : BT (Int × Int) 0))
        refine (if_pos rfl).trans ?_
        show some (⟨((T.2.length : Nat) : Int) + 1, T.2.take i ++ x :: T.2.drop i, none⟩ : NodeR (Int × Int)) = some ⟨((T.2.take i ++ x :: T.2.drop i).length : Nat), T.2.take i ++ x :: T.2.drop i, none⟩
        rw [hl2]; rfl
      · show (T.2.take i ++ x :: T.2.drop i).length ≤ mx
        omega
      · show T.2.length ≤ (T.2.take i ++ x :: T.2.drop i).length
        omega
    · refine (nodeSet_leaf_full k mn mx t (rid T) pa x i (recOf 0 T) w F H hI.fam hI.map hI.isT.root hpa hI.srt (by show T.2.length = mx; omega) hm hp rfl).mono ?_
      rintro e w' ⟨rfl, h1, h2⟩
      refine ⟨_, 0, false, true, rfl, h1, h2.mono (fun _ _ _ h => h.elim), .inl ⟨rfl, rfl, ?_⟩⟩
      rintro (h | ⟨j, y, h⟩)
      · omega
      · have := hp.right j y (hit_le hp h) h.at_
        rw [h.n2] at this; cases this
  · exact set_hit_any hI hpa hy
end Go.Proofs.Ytpgaedmhgchgeaa.M

namespace Go.Proofs.Ytpgaedmhgchgeaa.M
set_option linter.unusedSimpArgs false
set_option linter.unusedVariables false
open Go.RowKit

theorem set_same {α : Type} {l : List α} {i : Nat} {v : α} (h : l[i]? = some v) : l.set i v = l := by
  obtain ⟨hi, rfl⟩ := List.getElem?_eq_some_iff.1 h
  exact List.set_getElem_self hi

theorem mem_set_cases {α : Type} {l : List α} {i : Nat} {c c' d : α} (hc : l[i]? = some c) (hd : d ∈ l.set i c') : d = c' ∨ d ∈ l.take i ∨ d ∈ l.drop (i + 1) := by
  rw [set_at hc] at hd
  simp only [List.mem_append, List.mem_cons, List.not_mem_nil, or_false] at hd
  rcases hd with (hd | hd) | hd
  · exact .inr (.inl hd)
  · exact .inl hd
  · exact .inr (.inr hd)

/-- A child beside the i-th shares no node with it. -/
theorem kid_apart {α : Type} {h : Nat} {t : BT α (h + 1)} {i : Nat} {c d : BT α h} (hc : t.2.2[i]? = some c) (hn : (ids (h + 1) t).Nodup) (hd : d ∈ t.2.2.take i ∨ d ∈ t.2.2.drop (i + 1)) {a : Nat} (ha : a ∈ ids h d) : a ∉ ids h c := by
  obtain ⟨n, xs, ts⟩ := t
  intro hac
  have e : ids (h + 1) ((n, xs, ts) : BT α (h + 1)) = ids (h + 1) ((n, xs, ts.take i ++ c :: ts.drop (i + 1)) : BT α (h + 1)) := by rw [← split_at hc]
  rw [e] at hn
  obtain ⟨_, h1, h2⟩ := nodup_apart hn hac
  rcases hd with hd | hd
  · exact h1 (List.mem_flatMap.2 ⟨d, hd, ha⟩)
  · exact h2 (List.mem_flatMap.2 ⟨d, hd, ha⟩)

theorem kid_mem {α : Type} {h : Nat} {t : BT α (h + 1)} {i : Nat} {d : BT α h} (hd : d ∈ t.2.2.take i ∨ d ∈ t.2.2.drop (i + 1)) : d ∈ t.2.2 := by
  rcases hd with hd | hd
  · exact List.mem_of_mem_take hd
  · exact List.mem_of_mem_drop hd

/-- A child has taken the item: so has the tree. -/
theorem setKid_in {mn mx B B1 : Nat} {H H' : Nat → Option (NodeR (Int × Int))} {h : Nat} {T : BT (Int × Int) (h + 1)} {x : Int × Int} {pr : Int} {rp : Bool} {i : Nat} {c c' : BT (Int × Int) h} (hT : IsT H (h + 1) T) (hd : (ids (h + 1) T).Nodup) (hB : ∀ a ∈ ids (h + 1) T, a < B) (hBB : B ≤ B1)
    (hs : Sh mn mx (h + 1) T) (hsrt : Srt ltM (toL (h + 1) T)) (hp : PosAt ltM T.2.1 x i) (hc : T.2.2[i]? = some c) (hi : SetIn mn mx B1 H h c x H' pr rp c') :
    SetIn mn mx B H (h + 1) T x (if rp then H' else upd H' (rid T) { recOf (h + 1) T with cnt := (recOf (h + 1) T).cnt + 1 }) pr rp (setKid T i c') := by
  have hcm : c ∈ T.2.2 := List.mem_of_getElem? hc
  obtain ⟨hA, hC⟩ := around swoM hs hc hsrt hp
  have hlist : toL (h + 1) (setKid T i c') = insL ltM x (toL (h + 1) T) := by
    rw [toL_setKid hs hc, hi.list, toL_at hs hc, insL_mid swoM hA hC]
  have hfnd : fndL ltM x (toL (h + 1) T) = fndL ltM x (toL h c) := by rw [toL_at hs hc, fndL_mid swoM hA hC]
  have hfound : Found (toL (h + 1) T) x pr rp := by unfold Found; rw [hfnd]; exact hi.found
  have hlen := insL_len (lt := ltM) (x := x) (l := toL (h + 1) T)
  rw [← hlist] at hlen
  obtain ⟨n1, n2⟩ := ids_setKid (c' := c') hc hd hB (fun a ha => by rcases hi.new a ha with h | h; exact .inl h; exact .inr (by omega)) hi.nd
  have hroot : rid T ∉ ids h c := nodup_root hd hcm
  have hrB := hB _ (rid_mem T)
  have hHn : H' (rid T) = some (recOf (h + 1) T) := (hi.rest _ (by omega) hroot).trans hT.root
  have hoff : ∀ a, a ≠ rid T → (if rp then H' else upd H' (rid T) { recOf (h + 1) T with cnt := (recOf (h + 1) T).cnt + 1 }) a = H' a := by
    intro a ha
    cases rp
    · exact updNe ha
    · rfl
  have hkids : (setKid T i c').2.2.map (fun c => some (rid c)) = T.2.2.map fun c => some (rid c) := by
    show (T.2.2.set i c').map _ = _
    rw [List.map_set, hi.rid']
    exact set_same (by simp [hc])
  refine ⟨⟨?_, ?_⟩, rfl, n1, n2, ?_, Nat.le_refl _, hlist, hfound, ?_⟩
  · show (if rp then H' else upd H' (rid T) { recOf (h + 1) T with cnt := (recOf (h + 1) T).cnt + 1 }) (rid T) = some (⟨((toL (h + 1) (setKid T i c')).length : Nat), T.2.1, some ((setKid T i c').2.2.map fun c => some (rid c))⟩ : NodeR (Int × Int))
    rw [hkids, hlen]
    rcases hfound with ⟨y, f1, _, rfl⟩ | ⟨f1, rfl⟩
    · rw [f1]; exact hHn
    · rw [f1]; exact if_pos rfl
  · intro d hd2
    rcases mem_set_cases hc hd2 with rfl | hd2
    · refine hi.isT.congr fun a ha => hoff a fun e => ?_
      rcases hi.new a ha with h | h
      · exact hroot (e ▸ h)
      · omega
    · have hdm := kid_mem hd2
      refine (hT.2 d hdm).congr fun a ha => ?_
      rw [hoff a fun e => nodup_root hd hdm (e ▸ ha)]
      exact hi.rest a (by have := hB a (ids_kid hdm ha); omega) (kid_apart hc hd hd2 ha)
  · refine ⟨hs.1, ?_, fun d hd2 => ?_⟩
    · show (T.2.2.set i c').length = T.2.1.length + 1
      rw [List.length_set]; exact hs.2.1
    · rcases mem_set_cases hc hd2 with rfl | hd2
      · exact ⟨Nat.le_trans (hs.2.2 c hcm).1 hi.len, hi.sh⟩
      · exact hs.2.2 d (kid_mem hd2)
  · intro a ha hn
    rw [hoff a fun e => hn (e ▸ rid_mem T)]
    exact hi.rest a (by omega) fun hm => hn (ids_kid hcm hm)

theorem TreeIn.kid {k : Int} {mn mx : Nat} {w w1 : World} {F : Nat → Prop} {H : Nat → Option (NodeR (Int × Int))} {t h : Nat} {T : BT (Int × Int) (h + 1)} (hI : TreeIn k mn mx w F H t (h + 1) T) (hc1 : Chg (fun _ _ => False) w w1) (hf : Fam (parM k) w1 F H) (hm : MapAt k mn mx w1 t)
    {i : Nat} {c : BT (Int × Int) h} (hc : T.2.2[i]? = some c) : TreeIn k mn mx w1 F H t h c := by
  have hcm : c ∈ T.2.2 := List.mem_of_getElem? hc
  refine ⟨hf, hm, hI.out, hI.isT.kid hcm, nodup_kid hI.nd hcm, (hI.sh.2.2 c hcm).2, sub_srt hI.sh hc hI.srt, ?_, hI.m3, hI.m1000, hI.mh, hI.mh2⟩
  have := hI.big
  rw [toL_at hI.sh hc] at this
  simp only [List.length_append] at this
  omega

/-- The post of a call that lays the item in. -/
def SetYes (mn mx B : Nat) (H : Nat → Option (NodeR (Int × Int))) (h : Nat) (T : BT (Int × Int) h) (x : Int × Int) (H' : Nat → Option (NodeR (Int × Int))) (pr : Int) (rp sp : Bool) : Prop :=
  sp = false ∧ ∃ T', SetIn mn mx B H h T x H' pr rp T'

theorem set_step1 {h : Nat} (ih : SetSpec h) {k : Int} {mn mx t : Nat} {pa : Addr} {x : Int × Int} {w : World} {F : Nat → Prop} {H : Nat → Option (NodeR (Int × Int))} {T : BT (Int × Int) (h + 1)} (hI : TreeIn k mn mx w F H t (h + 1) T)
    (hpa : w.cell? pa = some (.pointer (some ⟨rid T, 0, none⟩))) {i : Nat} {c : BT (Int × Int) h} (hp : PosAt ltM T.2.1 x i) (hc : T.2.2[i]? = some c) (ha : Avail mx h c x) :
    Calls Try.prog 44 #[.pointer (some ⟨t, 0, none⟩), .pointer (some pa), aggM x] w (KidPost k F (fun w1 H' pr rp sp => SetYes mn mx w1.heap.size H (h + 1) T x H' pr rp sp) w) := by
  have hcm : c ∈ T.2.2 := List.mem_of_getElem? hc
  have hl : (its T).length ≤ mx := hI.sh.len
  have hm := hI.m1000
  have hlt : ∀ a ∈ ids (h + 1) T, a < w.heap.size := fun a ha => hI.isT.lt hI.fam ha
  have hbig := hI.big
  refine (nodeSet_kid_ok k mn mx t (rid T) pa x i (recOf (h + 1) T) w F H hI.fam hI.map hI.out hI.isT.root hpa (its_srt hI.sh hI.srt) hl hm hp (T.2.2.map rid) (by show some (T.2.2.map fun c => some (rid c)) = _; rw [List.map_map]; rfl) (rid c) (by rw [List.getElem?_map, hc]; rfl)
    (by rw [recOf_cnt]; omega) (by rw [recOf_cnt]; omega) (fun w1 H' pr rp sp => SetOut mn mx w1.heap.size H h c x H' pr rp sp) (fun w1 pa' hc1 hf1 hm1 hpa1 => ih k mn mx t pa' x w1 F H c (hI.kid hc1 hf1 hm1 hc) hpa1) ?_).mono ?_
  · rintro w1 H' pr rp sp (⟨_, _, hno⟩ | ⟨rfl, _, c', hi⟩) hw
    · exact absurd ha hno
    · exact ⟨rfl, (hi.rest _ (by have := hlt _ (rid_mem T); omega) (nodup_root hI.nd hcm)).trans hI.isT.root⟩
  · rintro e w' ⟨w1, H', pr, rp, hc1, hz, rfl, h1, h2⟩
    rcases hz with ⟨hno, _, _⟩ | ⟨_, _, c', hi⟩
    · cases hno
    · exact ⟨_, pr, rp, false, rfl, h1, h2, rfl, _, setKid_in hI.isT hI.nd hlt hc1.size hI.sh hI.srt hp hc hi⟩
end Go.Proofs.Ytpgaedmhgchgeaa.M

namespace Go.Proofs.Ytpgaedmhgchgeaa.M
set_option linter.unusedSimpArgs false
set_option linter.unusedVariables false
open Go.RowKit

theorem kidIds_facts {α : Type} {H : Nat → Option (NodeR α)} {mn mx : Nat} : {h : Nat} → {c : BT α h} → IsT H h c → (ids h c).Nodup → Sh mn mx h c →
    (((recOf h c).kids = none ∧ kidIds c = []) ∨ ((recOf h c).kids = some ((kidIds c).map some) ∧ (kidIds c).length = (its c).length + 1)) ∧
    (∀ a ∈ kidIds c, a ≠ rid c ∧ ∃ s, H a = some s ∧ s.cnt = cntOf H a ∧ 0 ≤ cntOf H a) ∧ ksum (cntOf H) (kidIds c) ≤ ((toL h c).length : Nat)
  | 0, c, _, _, _ => by
    refine ⟨.inl ⟨rfl, rfl⟩, ?_, ?_⟩
    · intro a ha
      exact absurd ha (List.not_mem_nil)
    · show ksum (cntOf H) [] ≤ _
      rw [ksum_nil]; omega
  | h + 1, c, hT, hd, hs => by
    refine ⟨.inr ⟨?_, ?_⟩, ?_, ?_⟩
    · show some (c.2.2.map fun c => some (rid c)) = some ((c.2.2.map rid).map some)
      rw [List.map_map]; rfl
    · show (c.2.2.map rid).length = c.2.1.length + 1
      rw [List.length_map]; exact hs.2.1
    · intro a ha
      obtain ⟨d, hd2, rfl⟩ := List.mem_map.1 ha
      refine ⟨fun e => nodup_root hd hd2 (e ▸ rid_mem d), recOf h d, (hT.2 d hd2).root, ?_, ?_⟩
      · rw [cntOf_kid hT hd2, recOf_cnt]
      · rw [cntOf_kid hT hd2]; omega
    · show ksum (cntOf H) (c.2.2.map rid) ≤ _
      rw [ksum_rids _ _ fun d hd2 => cntOf_kid hT hd2]
      have := inter_len c.2.1 (c.2.2.map (toL h)) (by simpa using hs.2.1)
      show _ ≤ (((inter c.2.1 (c.2.2.map (toL h))).length : Nat) : Int)
      omega

theorem isT_cut {α : Type} {H H5 : Nat → Option (NodeR α)} {m i : Nat} : {h : Nat} → {c : BT α h} → IsT H h c → (ids h c).Nodup → H5 (rid c) = some (recOf h (cutL c i)) → H5 m = some (recOf h (cutR c m i)) → (∀ a ∈ ids h c, a ≠ rid c → H5 a = H a) →
    IsT H5 h (cutL c i) ∧ IsT H5 h (cutR c m i)
  | 0, _, _, _, h1, h2, _ => ⟨h1, h2⟩
  | h + 1, c, hT, hd, h1, h2, h3 => by
    have key : ∀ d ∈ c.2.2, IsT H5 h d := fun d hd2 => (hT.2 d hd2).congr fun a ha => h3 a (ids_kid hd2 ha) fun e => nodup_root hd hd2 (e ▸ ha)
    exact ⟨⟨h1, fun d hd2 => key d (List.mem_of_mem_take hd2)⟩, ⟨h2, fun d hd2 => key d (List.mem_of_mem_drop hd2)⟩⟩

theorem avail_full {mx : Nat} {h : Nat} {T : BT (Int × Int) (h + 1)} {x : Int × Int} {i : Nat} {c : BT (Int × Int) h} (hp : PosAt ltM T.2.1 x i) (hc : T.2.2[i]? = some c) (hl : mx ≤ T.2.1.length) (hno : ¬ Avail mx h c x) : ¬ Avail mx (h + 1) T x := by
  rintro (h1 | ⟨j, y, h1⟩ | ⟨j, d, h1, h2, h3⟩)
  · omega
  · have := hp.right j y (hit_le hp h1) h1.at_
    rw [h1.n2] at this; cases this
  · obtain rfl := pos_same h1 hp swoM
    rw [hc] at h2
    obtain rfl := Option.some.inj h2
    exact hno h3

theorem pos_put {xs : List (Int × Int)} {x x2 : Int × Int} {i j : Nat} (h1 : PosAt ltM xs x i) (h2 : PosAt ltM (xs.take i ++ x2 :: xs.drop i) x j) : j = i ∨ j = i + 1 := by
  have hle := h1.le
  have hlen : (xs.take i).length = i := by simp; omega
  have a1 : ¬ j < i := fun c => by
    have e : (xs.take i ++ x2 :: xs.drop i)[j]? = xs[j]? := by
      rw [List.getElem?_append_left (by omega), List.getElem?_take_of_lt c]
    have hj : xs[j]? = some xs[j] := List.getElem?_eq_getElem (by omega)
    have g1 := h1.left j _ c hj
    have g2 := h2.right j _ (Nat.le_refl _) (e.trans hj)
    rw [swoM.asymm _ _ g1] at g2; cases g2
  have a2 : ¬ i + 1 < j := fun c => by
    have hjl := h2.le
    simp at hjl
    have hi : i < xs.length := by omega
    have hj : xs[i]? = some xs[i] := List.getElem?_eq_getElem hi
    have e : (xs.take i ++ x2 :: xs.drop i)[i + 1]? = xs[i]? := by
      rw [List.getElem?_append_right (by omega), hlen]
      simp [List.getElem?_drop]
    have g1 := h1.right i _ (Nat.le_refl _) hj
    have g2 := h2.left (i + 1) _ c (e.trans hj)
    rw [swoM.asymm _ _ g1] at g2; cases g2
  omega

theorem set_yes {h : Nat} (ih : SetSpec h) {k : Int} {mn mx t : Nat} {pa : Addr} {x : Int × Int} {w : World} {F : Nat → Prop} {H : Nat → Option (NodeR (Int × Int))} {T : BT (Int × Int) (h + 1)} (hI : TreeIn k mn mx w F H t (h + 1) T)
    (hpa : w.cell? pa = some (.pointer (some ⟨rid T, 0, none⟩))) (hgo : ∀ j d, PosAt ltM T.2.1 x j → T.2.2[j]? = some d → Avail mx h d x) :
    Calls Try.prog 44 #[.pointer (some ⟨t, 0, none⟩), .pointer (some pa), aggM x] w (KidPost k F (fun w1 H' pr rp sp => SetYes mn mx w1.heap.size H (h + 1) T x H' pr rp sp) w) := by
  rcases pos_or_hit swoM (x := x) (its_srt hI.sh hI.srt) with ⟨j, hp⟩ | ⟨j, y, hy⟩
  · have hj : j < T.2.2.length := by
      have h1 : j ≤ T.2.1.length := hp.le
      have := hI.sh.2.1; omega
    exact set_step1 ih hI hpa hp (List.getElem?_eq_getElem hj) (hgo j _ hp (List.getElem?_eq_getElem hj))
  · refine (set_hit_any hI hpa hy).mono ?_
    rintro e w' ⟨H', pr, rp, sp, he, h1, h2, h3⟩
    refine ⟨H', pr, rp, sp, he, h1, h2, ?_⟩
    rcases h3 with ⟨_, _, hno⟩ | ⟨h3, _, h4⟩
    · exact absurd (Avail.hit hy) hno
    · exact ⟨h3, h4⟩

theorem setSpecS {h : Nat} (ih : SetSpec h) : SetSpec (h + 1) := by
  intro k mn mx t pa x w F H T hI hpa
  rcases pos_or_hit swoM (x := x) (its_srt hI.sh hI.srt) with ⟨i, hp⟩ | ⟨i, y, hy⟩
  rotate_left
  · exact set_hit_any hI hpa hy
  have hj : i < T.2.2.length := by
    have h1 : i ≤ T.2.1.length := hp.le
    have := hI.sh.2.1; omega
  obtain ⟨c, hc⟩ : ∃ c, T.2.2[i]? = some c := ⟨_, List.getElem?_eq_getElem hj⟩
  have hcm : c ∈ T.2.2 := List.mem_of_getElem? hc
  have hl : T.2.1.length ≤ mx := hI.sh.len
  have hm := hI.m1000
  have hm3 := hI.m3
  have hlt : ∀ a ∈ ids (h + 1) T, a < w.heap.size := fun a ha => hI.isT.lt hI.fam ha
  have hbig := hI.big
  have hkr : (recOf (h + 1) T).kids = some ((T.2.2.map rid).map some) := by show some (T.2.2.map fun c => some (rid c)) = _; rw [List.map_map]; rfl
  have hcr : (T.2.2.map rid)[i]? = some (rid c) := by rw [List.getElem?_map, hc]; rfl
  by_cases ha : Avail mx h c x
  · refine (set_step1 ih hI hpa hp hc ha).mono ?_
    rintro e w' ⟨H', pr, rp, sp, he, h1, h2, h3, h4⟩
    exact ⟨H', pr, rp, sp, he, h1, h2, .inr ⟨h3, .inr (.inr ⟨i, c, hp, hc, ha⟩), h4⟩⟩
  have hcl : (its c).length = mx := by
    have h1 := (hI.sh.2.2 c hcm).2.len
    rcases Nat.lt_or_ge (its c).length mx with h2 | h2
    · exact absurd (Avail.room h2) ha
    · omega
  have hcT := hI.isT.kid hcm
  have hcd := nodup_kid hI.nd hcm
  have hcs := (hI.sh.2.2 c hcm).2
  have hcall : ∀ w1 pa, Chg (fun _ _ => False) w w1 → Fam (parM k) w1 F H → MapAt k mn mx w1 t → w1.cell? pa = some (.pointer (some ⟨rid c, 0, none⟩)) →
      Calls Try.prog 44 #[.pointer (some ⟨t, 0, none⟩), .pointer (some pa), aggM x] w1 (KidPost k F (fun w1 H' pr rp sp => SetOut mn mx w1.heap.size H h c x H' pr rp sp) w1) :=
    fun w1 pa' hc1 hf1 hm1 hpa1 => ih k mn mx t pa' x w1 F H c (hI.kid hc1 hf1 hm1 hc) hpa1
  have hZ : ∀ (w1 : World) H' pr rp sp, SetOut mn mx w1.heap.size H h c x H' pr rp sp → w.heap.size ≤ w1.heap.size → sp = true ∧ H' = H := by
    rintro w1 H' pr rp sp (⟨h1, h2, _⟩ | ⟨_, h2, _⟩) _
    · exact ⟨h1, h2⟩
    · exact absurd h2 ha
  rcases Nat.lt_or_ge T.2.1.length mx with hroom | hfull
  rotate_left
  · refine (nodeSet_kid_full k mn mx t (rid T) pa x i (recOf (h + 1) T) w F H hI.fam hI.map hI.out hI.isT.root hpa (its_srt hI.sh hI.srt) (by show T.2.1.length = mx; omega) hm hp (T.2.2.map rid) hkr (rid c) hcr _ hcall hZ).mono ?_
    rintro e w' ⟨rfl, h1, h2⟩
    exact ⟨_, 0, false, true, rfl, h1, h2, .inl ⟨rfl, rfl, avail_full hp hc hfull ha⟩⟩
  obtain ⟨kf1, kf2, kf3⟩ := kidIds_facts hcT hcd hcs
  have hclen : (toL h c).length ≤ (toL (h + 1) T).length := by rw [toL_at hI.sh hc]; simp only [List.length_append]; omega
  have hrcn : rid c ≠ rid T := fun e => nodup_root hI.nd hcm (e ▸ rid_mem c)
  have tlt : t < w.heap.size := World.block_lt_of_cell? w _ hI.map.c0
  have hrc := fun m => recOf_cut (i := mx / 2) m hcT hcs (by omega)
  refine (nodeSet_kid_split k mn mx t (rid T) pa x i (recOf (h + 1) T) w F H hI.fam hI.map hI.out hI.isT.root hpa (its_srt hI.sh hI.srt) hroom hm hm3 hp (T.2.2.map rid) hkr (by rw [List.length_map, hI.sh.2.1]; omega) (rid c) hcr _ hcall hZ
    (recOf h c) hcT.root hrcn (kidIds c) (by rw [hcl] at kf1; exact kf1) (by rw [recOf_items]; exact hcl) (cntOf H) kf2 (by omega)
    (fun w1 H' pr rp sp => ∃ T2 H5, rid T2 = rid T ∧ (∀ a ∈ ids (h + 1) T2, a ∈ ids (h + 1) T ∨ w.heap.size ≤ a) ∧ (its T).length ≤ (its T2).length ∧ toL (h + 1) T2 = toL (h + 1) T ∧ (∀ a, a < w.heap.size → a ∉ ids (h + 1) T → H5 a = H a) ∧ SetYes mn mx w1.heap.size H5 (h + 1) T2 x H' pr rp sp) ?_).mono ?_
  · intro w1 pa1 F1 m x2 hm1 hm2 hx2 hup hof hFam hMap hpa1
    obtain ⟨rc1, rc2⟩ := hrc m
    rw [hcl] at rc2
    rw [recOf_items] at hx2
    rw [recOf_items, ← rc1, ← rc2] at hFam
    obtain ⟨g1, g2, g3⟩ := ids_cut (t := c) (m := m) (i := mx / 2) hcd (fun a ha => hlt a (ids_kid hcm ha)) hm1
    have hids := ids_replace (n := T.1) (xs := T.2.1) (xs' := T.2.1.take i ++ x2 :: T.2.1.drop i) (L := T.2.2.take i) (R := T.2.2.drop (i + 1)) (cs := [cutL c (mx / 2), cutR c m (mx / 2)]) (c := c) (B := w.heap.size)
      (by rw [← split_at hc]; exact hI.nd) (by rw [← split_at hc]; exact hlt)
      (fun a ha => by
        simp only [List.flatMap_cons, List.flatMap_nil, List.append_nil, List.mem_append] at ha
        rcases ha with ha | ha
        · exact .inl (g2 a ha)
        · rcases g3 a ha with h | h
          · exact .inl h
          · exact .inr (by omega)) (by simpa using g1)
    rw [← split_at hc] at hids
    have hrT : rid T < w.heap.size := hlt _ (rid_mem T)
    have hrc' : rid c < w.heap.size := hlt _ (ids_kid hcm (rid_mem c))
    have htoL : toL (h + 1) (put2 T i x2 (cutL c (mx / 2)) (cutR c m (mx / 2))) = toL (h + 1) T := toL_put2 hI.sh hc (toL_cut m hcs hx2)
    have e5 : (⟨(recOf (h + 1) T).cnt, (recOf (h + 1) T).items.take i ++ x2 :: (recOf (h + 1) T).items.drop i, some (((T.2.2.map rid).take (i + 1) ++ m :: (T.2.2.map rid).drop (i + 1)).map some)⟩ : NodeR (Int × Int)) = recOf (h + 1) (put2 T i x2 (cutL c (mx / 2)) (cutR c m (mx / 2))) := by
      show _ = (⟨((toL (h + 1) (put2 T i x2 (cutL c (mx / 2)) (cutR c m (mx / 2)))).length : Nat), T.2.1.take i ++ x2 :: T.2.1.drop i, some ((T.2.2.take i ++ [cutL c (mx / 2), cutR c m (mx / 2)] ++ T.2.2.drop (i + 1)).map fun c => some (rid c))⟩ : NodeR (Int × Int))
      rw [htoL]
      congr 2
      rw [← List.map_take, ← List.map_drop]
      have ht : T.2.2.take (i + 1) = T.2.2.take i ++ [c] := by rw [List.take_add_one, hc]; rfl
      rw [ht]
      simp only [List.map_append, List.map_cons, List.map_nil, rid_cutL, rid_cutR, List.map_map, List.append_assoc, List.cons_append, List.nil_append]
      rfl
    rw [e5] at hFam
    obtain ⟨H5, hH5⟩ : ∃ H5, H5 = upd (upd (upd H (rid c) (recOf h (cutL c (mx / 2)))) m (recOf h (cutR c m (mx / 2)))) (rid T) (recOf (h + 1) (put2 T i x2 (cutL c (mx / 2)) (cutR c m (mx / 2)))) := ⟨_, rfl⟩
    rw [← hH5] at hFam
    have hat : ∀ a, a ≠ rid T → a ≠ m → a ≠ rid c → H5 a = H a := by
      intro a h1 h2 h3
      rw [hH5, updNe h1, updNe h2, updNe h3]
    obtain ⟨tc1, tc2⟩ := isT_cut (H5 := H5) (m := m) (i := mx / 2) hcT hcd
      (by rw [hH5, updNe hrcn, updNe (by omega)]; exact if_pos rfl) (by rw [hH5, updNe (by omega)]; exact if_pos rfl)
      (fun a ha hne => hat a (fun e => nodup_root hI.nd hcm (e ▸ ha)) (fun e => by have := hlt a (ids_kid hcm ha); omega) hne)
    have hT2 : IsT H5 (h + 1) (put2 T i x2 (cutL c (mx / 2)) (cutR c m (mx / 2))) := by
      refine ⟨by rw [hH5]; exact if_pos rfl, fun d hd => ?_⟩
      change d ∈ T.2.2.take i ++ [cutL c (mx / 2), cutR c m (mx / 2)] ++ T.2.2.drop (i + 1) at hd
      simp only [List.mem_append, List.mem_cons, List.not_mem_nil, or_false] at hd
      have other : (d ∈ T.2.2.take i ∨ d ∈ T.2.2.drop (i + 1)) → IsT H5 h d := fun hd2 => by
        have hdm := kid_mem hd2
        refine (hI.isT.2 d hdm).congr fun a ha => hat a (fun e => nodup_root hI.nd hdm (e ▸ ha)) (fun e => by have := hlt a (ids_kid hdm ha); omega) (fun e => kid_apart hc hI.nd hd2 ha (e ▸ rid_mem c))
      rcases hd with (hd | rfl | rfl) | hd
      · exact other (.inl hd)
      · exact tc1
      · exact tc2
      · exact other (.inr hd)
    obtain ⟨s1, s2⟩ := sh_cut (i := mx / 2) m hcs (by omega)
    have l1 : (its (cutL c (mx / 2))).length = mx / 2 := by rw [its_cutL, List.length_take]; omega
    have l2 : (its (cutR c m (mx / 2))).length = mx - (mx / 2 + 1) := by rw [its_cutR, List.length_drop]; omega
    have hI2 : TreeIn k mn mx w1 F1 H5 t (h + 1) (put2 T i x2 (cutL c (mx / 2)) (cutR c m (mx / 2))) :=
      ⟨hFam, hMap, fun b hm hF1 => hI.out b hm (hof b (hI.map.lt hm) hF1), hT2, hids.1, sh_put2 hI.sh hc hroom s1 s2 (by rw [l1]; exact hI.mh) (by rw [l2]; exact hI.mh2), by rw [htoL]; exact hI.srt, by rw [htoL]; exact hbig, hm3, hm, hI.mh, hI.mh2⟩
    refine (set_yes ih hI2 hpa1 ?_).mono ?_
    · intro j d hpj hdj
      change (T.2.2.take i ++ [cutL c (mx / 2), cutR c m (mx / 2)] ++ T.2.2.drop (i + 1))[j]? = some d at hdj
      have hti : (T.2.2.take i).length = i := by simp; omega
      rw [List.append_assoc, List.getElem?_append_right (by rcases pos_put hp hpj with h | h <;> omega), hti] at hdj
      rcases pos_put hp hpj with rfl | rfl
      · rw [Nat.sub_self] at hdj
        obtain rfl : cutL c (mx / 2) = d := by simpa using hdj
        exact .room (by omega)
      · rw [show i + 1 - i = 1 by omega] at hdj
        obtain rfl : cutR c m (mx / 2) = d := by simpa using hdj
        exact .room (by omega)
    · rintro e w' ⟨H', pr, rp, sp, he, h1, h2, h3⟩
      refine ⟨H', pr, rp, sp, he, h1, h2, put2 T i x2 (cutL c (mx / 2)) (cutR c m (mx / 2)), H5, rfl, hids.2, ?_, htoL, ?_, h3⟩
      · show T.2.1.length ≤ (T.2.1.take i ++ x2 :: T.2.1.drop i).length
        simp; omega
      · intro a ha hn
        exact hat a (fun e => hn (e ▸ rid_mem T)) (by omega) (fun e => hn (e ▸ ids_kid hcm (rid_mem c)))
  · rintro e w' ⟨w1, H', pr, rp, sp, hw1, ⟨T2, H5, q1, q2, q3, q4, q5, rfl, T', hi⟩, rfl, h1, h2⟩
    refine ⟨H', pr, rp, false, rfl, h1, h2, .inr ⟨rfl, .room hroom, T', ?_⟩⟩
    refine ⟨hi.isT, hi.rid'.trans q1, hi.nd, ?_, hi.sh, Nat.le_trans q3 hi.len, by rw [hi.list, q4], by rw [← q4]; exact hi.found, ?_⟩
    · intro a ha
      rcases hi.new a ha with h | h
      · exact q2 a h
      · exact .inr (by omega)
    · intro a ha hn
      rw [hi.rest a (by omega) fun hm => ?_]
      · exact q5 a ha hn
      · rcases q2 a hm with h | h
        · exact hn h
        · omega
theorem setSpec : ∀ h, SetSpec h
  | 0 => setSpec0
  | h + 1 => setSpecS (setSpec h)
end Go.Proofs.Ytpgaedmhgchgeaa.M

namespace Go.Proofs.Ytpgaedmhgchgeaa.M
set_option linter.unusedSimpArgs false
set_option linter.unusedVariables false
open Go.RowKit

/-- The map's own block. -/
def MapBlk (k : Int) (mn mx : Nat) (w : World) (t : Nat) (root : Option Nat) (cnt : Int) : Prop :=
  w.heap[t]? = some (.cells #[.int .u64 k, .pointer none, kidV root, .int .i64 cnt, .int .i64 0, .int .i64 0, .int .i64 mn, .int .i64 mx, .bool false, .bool false] 67 (0, 0))

theorem MapBlk.at_ {k : Int} {mn mx t : Nat} {w : World} {root : Option Nat} {cnt : Int} (h : MapBlk k mn mx w t root cnt) : MapAt k mn mx w t :=
  ⟨by rw [cell_of_block h]; rfl, by rw [cell_of_block h]; rfl, by rw [cell_of_block h]; rfl, by rw [cell_of_block h]; rfl, by rw [cell_of_block h]; rfl⟩
theorem MapBlk.c2 {k : Int} {mn mx t : Nat} {w : World} {root : Option Nat} {cnt : Int} (h : MapBlk k mn mx w t root cnt) : w.cell? ⟨t, 2, none⟩ = some (kidV root) := by rw [cell_of_block h]; rfl
theorem MapBlk.c3 {k : Int} {mn mx t : Nat} {w : World} {root : Option Nat} {cnt : Int} (h : MapBlk k mn mx w t root cnt) : w.cell? ⟨t, 3, none⟩ = some (.int .i64 cnt) := by rw [cell_of_block h]; rfl
theorem MapBlk.fz {k : Int} {mn mx t : Nat} {w : World} {root : Option Nat} {cnt : Int} (h : MapBlk k mn mx w t root cnt) (o : Nat) : w.frozen? ⟨t, o, none⟩ = false := frozen_of_block h o
theorem MapBlk.chg {A : Nat → Nat → Prop} {k : Int} {mn mx t : Nat} {w w' : World} {root : Option Nat} {cnt : Int} (h : MapBlk k mn mx w t root cnt) (c : Chg A w w') (hA : ∀ b o, MOwn k t b → ¬ A b o) : MapBlk k mn mx w' t root cnt := by
  unfold MapBlk; rw [c.block (heap_lt h) (fun o => hA t o MOwn.self)]; exact h
theorem MapBlk.lt {k : Int} {mn mx t : Nat} {w : World} {root : Option Nat} {cnt : Int} (h : MapBlk k mn mx w t root cnt) : t < w.heap.size := heap_lt h

theorem MapBlk.setCnt {k : Int} {mn mx t : Nat} {w : World} {root : Option Nat} {cnt : Int} (h : MapBlk k mn mx w t root cnt) (c : Int) : MapBlk k mn mx (w.setCell ⟨t, 3, none⟩ (.int .i64 c)) t root c := by
  unfold MapBlk; rw [hs_same h]; rfl
theorem MapBlk.setRoot {k : Int} {mn mx t : Nat} {w : World} {root : Option Nat} {cnt : Int} (h : MapBlk k mn mx w t root cnt) (n : Option Nat) : MapBlk k mn mx (w.setCell ⟨t, 2, none⟩ (kidV n)) t n cnt := by
  unfold MapBlk; rw [hs_same h]; rfl
end Go.Proofs.Ytpgaedmhgchgeaa.M
