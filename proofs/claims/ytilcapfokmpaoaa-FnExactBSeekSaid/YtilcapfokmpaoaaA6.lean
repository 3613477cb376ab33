/- The walk of nodeSet at a branch: the child is full. -/
import Derived.Test.YtilcapfokmpaoaaA2
import Derived.Test.YtilcapfokmpaoaaA5
namespace Go.Proofs.Ytilcapfokmpaoaa
set_option linter.unusedSimpArgs false
set_option linter.unusedVariables false
open Go.RowKit
variable {ord : List Int} {k : Kc ord}

/-- What the call for the child leaves. -/
def KidPost (k : Kc ord) (F : Nat → Prop) (Z : World → (Nat → Option (NodeR (It ord))) → Option (It ord) → Bool → Bool → Prop) (w1 : World) (e : Ending) (w' : World) : Prop :=
  ∃ H' pr rp sp, e = .returned (.tuple #[optV pr, .bool rp, .bool sp]) ∧ Fam (parM k) w' (grow F w1 w') H' ∧ Chg (fun b _ => F b) w1 w' ∧ Z w1 H' pr rp sp

theorem Fam.grow1 {p : Par (It ord)} {w0 w1 w2 : World} {F : Nat → Prop} {H : Nat → Option (NodeR (It ord))} (h : Fam p w2 (grow F w1 w2) H) (h1 : w0.heap.size ≤ w1.heap.size) : Fam p w2 (grow F w0 w2) H := by
  refine h.mono (fun b hb => ?_) (fun b hb => ?_)
  · rcases hb with hb | hb
    · exact .inl hb
    · exact .inr ⟨by omega, hb.2⟩
  · rcases hb with hb | hb
    · exact h.lt (.inl hb)
    · exact hb.2

theorem Fam.grow2 {p : Par (It ord)} {w0 w1 w2 w3 : World} {F : Nat → Prop} {H : Nat → Option (NodeR (It ord))} (h : Fam p w3 (grow (grow F w1 w2) w2 w3) H) (h1 : w0.heap.size ≤ w1.heap.size) (h2 : w1.heap.size ≤ w2.heap.size) (h3 : w2.heap.size ≤ w3.heap.size) : Fam p w3 (grow F w0 w3) H := by
  refine h.mono (fun b hb => ?_) (fun b hb => ?_)
  · rcases hb with (hb | hb) | hb
    · exact .inl hb
    · exact .inr ⟨by omega, by omega⟩
    · exact .inr ⟨by omega, hb.2⟩
  · rcases hb with hb | hb
    · exact h.lt (.inl (.inl hb))
    · exact hb.2

def KidOk (k : Kc ord) (w : World) (F : Nat → Prop) (n : Nat) (r : NodeR (It ord)) (Z : World → (Nat → Option (NodeR (It ord))) → Option (It ord) → Bool → Bool → Prop) (e : Ending) (w' : World) : Prop :=
  ∃ w1 H' pr rp, Chg (fun _ _ => False) w w1 ∧ Z w1 H' pr rp false ∧ e = .returned (.tuple #[optV pr, .bool rp, .bool false]) ∧
    Fam (parM k) w' (grow F w w') (if rp then H' else upd H' n { r with cnt := r.cnt + 1 }) ∧ Chg (fun b _ => F b) w w'


set_option maxRecDepth 100000 in
set_option maxHeartbeats 4000000 in
theorem nodeSet_kid_ok (k : Kc ord) (mn mx t n : Nat) (pa : Addr) (dp : Int) (x : It ord) (i : Nat) (r : NodeR (It ord)) (w : World) (F : Nat → Prop) (H : Nat → Option (NodeR (It ord))) (hF : Fam (parM k) w F H) (ht : MapAt k mn mx w t) (htF : ∀ b, MOwn k t b → ¬ F b) (hn : H n = some r)
    (hpa : w.cell? pa = some (.pointer (some ⟨n, 0, none⟩))) (hs : Srt ltM r.items) (hlen : r.items.length ≤ mx) (hmx : mx ≤ 1000) (hy : PosAt ltM r.items x i) (kl : List Nat) (hk : r.kids = some (kl.map some)) (c : Nat) (hc : kl[i]? = some c) (hcnt : 0 ≤ r.cnt) (hcnt2 : r.cnt ≤ 100000000000000)
    (Z : World → (Nat → Option (NodeR (It ord))) → Option (It ord) → Bool → Bool → Prop)
    (hcall : ∀ w1 pa dp, Chg (fun _ _ => False) w w1 → Fam (parM k) w1 F H → MapAt k mn mx w1 t → w1.cell? pa = some (.pointer (some ⟨c, 0, none⟩)) → Calls Try.prog 57 #[.pointer (some ⟨t, 0, none⟩), .pointer (some pa), aggM x, .pointer none, .int .i64 dp] w1 (KidPost k F Z w1))
    (hZ : ∀ w1 H' pr rp sp, Z w1 H' pr rp sp → w.heap.size ≤ w1.heap.size → sp = false ∧ H' n = some r) :
    Calls Try.prog 57 #[.pointer (some ⟨t, 0, none⟩), .pointer (some pa), aggM x, .pointer none, .int .i64 dp] w (KidOk k w F n r Z) := by
  obtain ⟨l, hna, hb, ho, cl⟩ := hF.work hn
  have t0 := ht.c0
  have n0 := hna.c0
  have hpk : (parM k).k = k.iso := rfl
  rw [hpk] at n0
  have nlt : n < w.heap.size := World.block_lt_of_cell? w _ n0
  have tlt : t < w.heap.size := World.block_lt_of_cell? w _ t0
  have plt := World.block_lt_of_cell? w _ hpa
  unfold aggM
  go_enter Try.func57, Try.ntmps57
  go_wp2_with fail
  go_quiet (fail)
  refine name_prop (fun w0 => Chg (fun _ _ => False) w w0 ∧ w0.heap.size = w.heap.size) ⟨(Chg.refl _ _).drewN _, rfl⟩ ?_
  rintro wq ⟨hcq, hzq⟩
  have hpq := hcq.cell (fun h => h) hpa
  have HZQ := Lib.hid hzq
  clear hzq
  go_wp2_with fail
  refine name_calls (fun w1 => Chg (fun _ _ => False) w w1 ∧ w1.heap[wq.heap.size]? = some (.cells #[.pointer (some ⟨n, 0, none⟩)] 56 (0, 0))) ⟨?_, ?_⟩ ?_
  · exact hcq.trans ((Chg.refl _ _).alloc _)
  · exact ha_at _ _ rfl
  rw [HZQ.out]
  rintro w1 ⟨hc1, hb2⟩
  clear hpq hcq
  have hn1 := hna.chg hc1 (fun _ _ _ h => h)
  have ht1 := ht.chg hc1 (by simp)
  refine (search_node t x ht1 hn1 hs (by omega)).mono ?_
  rintro e w2 ⟨i', f, rfl, hw2, hf⟩
  have hfi : f = false ∧ i' = i := by
    rcases hf with ⟨h1, y', h2⟩ | ⟨h1, h2⟩
    · exact absurd h2.n2 (by rw [hy.right i' y' (hit_le hy h2) h2.at_]; simp)
    · exact ⟨h1, pos_same h2 hy swoM⟩
  obtain ⟨rfl, rfl⟩ := hfi
  have hc2 : Chg (fun _ _ => False) w1 w2 := hw2
  have hn2 := hn1.chg hc2 (fun _ _ _ h => h)
  have ht2 := ht1.chg hc2 (by simp)
  have hb2' : w2.heap[w.heap.size]? = some (.cells #[.pointer (some ⟨n, 0, none⟩)] 56 (0, 0)) := by rw [hw2.block (heap_lt hb2) (fun _ h => h)]; exact hb2
  have HB2 := Lib.hid hb2'
  have q2 := cell_of_block hb2' 0
  simp only [List.getElem?_toArray, List.getElem?_cons_zero, List.getElem?_cons_succ] at q2
  have n3 := hn2.c3s hk
  have hcc := hc1.trans hc2
  have hkl := (List.getElem?_eq_some_iff.1 hc).1
  have g1 := hn2.cc hk
  rw [List.length_map] at g1
  have g2 := hn2.kidc hk (j := i') (o := some c) (by simp [hc])
  clear hw2 hb2 hb2' t0 n0 hpa
  go_wp2_with (go_at_call 54; refine (leaf_any _ (some ⟨l.cc, 0, none⟩) _ ?_).mono ?_; (focus go_simp); rintro e w' ⟨rfl, rfl⟩)
  refine name_calls (fun w3 => Chg (fun _ _ => False) w2 w3) (Chg.refl _ _) ?_
  rintro w3 hc3
  replace q2 := hc3.cell (fun h => h) q2
  replace n3 := hc3.cell (fun h => h) n3
  replace g1 := hc3.cell (fun h => h) g1
  replace g2 := hc3.cell (fun h => h) g2
  have hcc3 := hcc.trans hc3
  have j0 : (0 : Int) ≤ (i' : Int) := by omega
  have j1 : (i' : Int) < (kl.length : Int) := by omega
  have HB2' : Hid (w3.heap[w.heap.size]? = some (.cells #[.pointer (some ⟨n, 0, none⟩)] 56 (0, 0))) := Lib.hid (by rw [hc3.block (heap_lt HB2.out) (fun _ h => h)]; exact HB2.out)
  have hc13 : Chg (fun _ _ => False) w w3 := hcc3
  refine (hcall _ _ _ hc13 (hF.chg hc13 (fun _ _ _ h => h)) (ht.chg hc13 (by simp)) g2).mono ?_
  rintro e w4 ⟨H', pr, rp, sp, rfl, hF4, hc4, hz4⟩
  obtain ⟨rfl, hn4⟩ := hZ _ _ _ _ _ hz4 hc13.size
  have nF : ∀ b, w.heap.size ≤ b → ¬ F b := fun b hb h => Nat.lt_irrefl _ (Nat.lt_of_lt_of_le (hF.lt h) hb)
  have q5 := hc4.cell (fun h => nF _ (Nat.le_refl _) h) q2
  obtain ⟨l4, hna4, hb4, ho4, cl4⟩ := hF4.work hn4
  have c4 := hna4.c1
  have fz4 := hna4.fz 1
  have hsz3 := hc13.size
  have hsz4 := hc4.size
  have hw04 : Chg (fun b _ => F b) w w4 := (hcc3.mono (B := fun b _ => F b) (fun _ _ _ h => h.elim)).trans hc4
  have s1 : IntKind.i64.wrap (r.cnt + 1) = r.cnt + 1 := IntWalk.i64_in _ (by omega)
  have hgr : ∀ b, grow F w3 w4 b → grow F w w4 b := fun b h => by
    rcases h with h | h
    · exact .inl h
    · exact .inr ⟨by have := h.1; omega, h.2⟩
  clear q2 n3 g1 g2
  obtain ⟨pv, hpv⟩ : ∃ pv, optV pr = pv := ⟨_, rfl⟩
  rw [hpv]
  have HPV := Lib.hid hpv
  clear hpv
  cases rp
  · go_wp2_with fail
    refine bodyPost_ret (v := .tuple #[pv, .bool false, .bool false]) (by simp [results, Try.results57, go_sem]) rfl ?_
    obtain ⟨f5, g5⟩ := cl4 _ _ _ ((Run.start hna4).setCnt (r.cnt + 1))
    have hs5 : (w4.setCell ⟨n, 1, none⟩ (.int .i64 (r.cnt + 1))).heap.size = w4.heap.size := by simp
    refine ⟨_, H', pr, false, hc13, hz4, by rw [HPV.out], f5.mono (fun b hb => ?_) (fun b hb => ?_), hw04.trans' g5 (fun _ _ _ h => h) (fun b o hb h => ?_)⟩
    · rcases hb with hb | hb
      · have := hgr b hb
        rcases this with h | h
        · exact .inl h
        · exact .inr ⟨h.1, by rw [hs5]; exact h.2⟩
      · have h1 := hb.1; have h2 := hb.2; exact .inr ⟨by omega, h2⟩
    · rcases hb with hb | hb
      · exact f5.lt (.inl (.inl hb))
      · exact hb.2
    · rcases h with h | h
      · exact h
      · have := h.1; omega
  · go_wp2_with fail
    refine bodyPost_ret (v := .tuple #[pv, .bool true, .bool false]) (by simp [results, Try.results57, go_sem]) rfl ?_
    refine ⟨_, H', pr, true, hc13, hz4, by rw [HPV.out], hF4.mono hgr (fun b hb => ?_), hw04⟩
    rcases hb with hb | hb
    · exact hF4.lt (.inl hb)
    · exact hb.2
end Go.Proofs.Ytilcapfokmpaoaa

namespace Go.Proofs.Ytilcapfokmpaoaa
set_option linter.unusedSimpArgs false
set_option linter.unusedVariables false
open Go.RowKit
variable {ord : List Int} {k : Kc ord}

/-- Nothing is done: the way is full. -/
def SetNo (k : Kc ord) (w : World) (F : Nat → Prop) (H : Nat → Option (NodeR (It ord))) (e : Ending) (w' : World) : Prop :=
  e = .returned (.tuple #[.nilIface, .bool false, .bool true]) ∧ Fam (parM k) w' (grow F w w') H ∧ Chg (fun b _ => F b) w w'

set_option maxRecDepth 100000 in
set_option maxHeartbeats 4000000 in
theorem nodeSet_kid_full (k : Kc ord) (mn mx t n : Nat) (pa : Addr) (dp : Int) (x : It ord) (i : Nat) (r : NodeR (It ord)) (w : World) (F : Nat → Prop) (H : Nat → Option (NodeR (It ord))) (hF : Fam (parM k) w F H) (ht : MapAt k mn mx w t) (htF : ∀ b, MOwn k t b → ¬ F b) (hn : H n = some r)
    (hpa : w.cell? pa = some (.pointer (some ⟨n, 0, none⟩))) (hs : Srt ltM r.items) (hlen : r.items.length = mx) (hmx : mx ≤ 1000) (hy : PosAt ltM r.items x i) (kl : List Nat) (hk : r.kids = some (kl.map some)) (c : Nat) (hc : kl[i]? = some c)
    (Z : World → (Nat → Option (NodeR (It ord))) → Option (It ord) → Bool → Bool → Prop)
    (hcall : ∀ w1 pa dp, Chg (fun _ _ => False) w w1 → Fam (parM k) w1 F H → MapAt k mn mx w1 t → w1.cell? pa = some (.pointer (some ⟨c, 0, none⟩)) → Calls Try.prog 57 #[.pointer (some ⟨t, 0, none⟩), .pointer (some pa), aggM x, .pointer none, .int .i64 dp] w1 (KidPost k F Z w1))
    (hZ : ∀ w1 H' pr rp sp, Z w1 H' pr rp sp → w.heap.size ≤ w1.heap.size → sp = true ∧ H' = H) :
    Calls Try.prog 57 #[.pointer (some ⟨t, 0, none⟩), .pointer (some pa), aggM x, .pointer none, .int .i64 dp] w (SetNo k w F H) := by
  obtain ⟨l, hna, hb, ho, cl⟩ := hF.work hn
  have t0 := ht.c0
  have n0 := hna.c0
  have hpk : (parM k).k = k.iso := rfl
  rw [hpk] at n0
  have nlt : n < w.heap.size := World.block_lt_of_cell? w _ n0
  have tlt : t < w.heap.size := World.block_lt_of_cell? w _ t0
  have plt := World.block_lt_of_cell? w _ hpa
  unfold aggM
  go_enter Try.func57, Try.ntmps57
  go_wp2_with fail
  go_quiet (fail)
  refine name_prop (fun w0 => Chg (fun _ _ => False) w w0 ∧ w0.heap.size = w.heap.size) ⟨(Chg.refl _ _).drewN _, rfl⟩ ?_
  rintro wq ⟨hcq, hzq⟩
  have hpq := hcq.cell (fun h => h) hpa
  have HZQ := Lib.hid hzq
  clear hzq
  go_wp2_with fail
  refine name_calls (fun w1 => Chg (fun _ _ => False) w w1 ∧ w1.heap[wq.heap.size]? = some (.cells #[.pointer (some ⟨n, 0, none⟩)] 56 (0, 0))) ⟨?_, ?_⟩ ?_
  · exact hcq.trans ((Chg.refl _ _).alloc _)
  · exact ha_at _ _ rfl
  rw [HZQ.out]
  rintro w1 ⟨hc1, hb2⟩
  clear hpq hcq
  have hn1 := hna.chg hc1 (fun _ _ _ h => h)
  have ht1 := ht.chg hc1 (by simp)
  refine (search_node t x ht1 hn1 hs (by omega)).mono ?_
  rintro e w2 ⟨i', f, rfl, hw2, hf⟩
  have hfi : f = false ∧ i' = i := by
    rcases hf with ⟨h1, y', h2⟩ | ⟨h1, h2⟩
    · exact absurd h2.n2 (by rw [hy.right i' y' (hit_le hy h2) h2.at_]; simp)
    · exact ⟨h1, pos_same h2 hy swoM⟩
  obtain ⟨rfl, rfl⟩ := hfi
  have hc2 : Chg (fun _ _ => False) w1 w2 := hw2
  have hn2 := hn1.chg hc2 (fun _ _ _ h => h)
  have ht2 := ht1.chg hc2 (by simp)
  have hb2' : w2.heap[w.heap.size]? = some (.cells #[.pointer (some ⟨n, 0, none⟩)] 56 (0, 0)) := by rw [hw2.block (heap_lt hb2) (fun _ h => h)]; exact hb2
  have HB2 := Lib.hid hb2'
  have q2 := cell_of_block hb2' 0
  simp only [List.getElem?_toArray, List.getElem?_cons_zero, List.getElem?_cons_succ] at q2
  have n3 := hn2.c3s hk
  have hcc := hc1.trans hc2
  have hkl := (List.getElem?_eq_some_iff.1 hc).1
  have g1 := hn2.cc hk
  rw [List.length_map] at g1
  have g2 := hn2.kidc hk (j := i') (o := some c) (by simp [hc])
  clear hw2 hb2 hb2' t0 n0 hpa
  go_wp2_with (go_at_call 54; refine (leaf_any _ (some ⟨l.cc, 0, none⟩) _ ?_).mono ?_; (focus go_simp); rintro e w' ⟨rfl, rfl⟩)
  refine name_calls (fun w3 => Chg (fun _ _ => False) w2 w3) (Chg.refl _ _) ?_
  rintro w3 hc3
  replace q2 := hc3.cell (fun h => h) q2
  replace n3 := hc3.cell (fun h => h) n3
  replace g1 := hc3.cell (fun h => h) g1
  replace g2 := hc3.cell (fun h => h) g2
  have hcc3 := hcc.trans hc3
  have j0 : (0 : Int) ≤ (i' : Int) := by omega
  have j1 : (i' : Int) < (kl.length : Int) := by omega
  have HB2' : Hid (w3.heap[w.heap.size]? = some (.cells #[.pointer (some ⟨n, 0, none⟩)] 56 (0, 0))) := Lib.hid (by rw [hc3.block (heap_lt HB2.out) (fun _ h => h)]; exact HB2.out)
  have hc13 : Chg (fun _ _ => False) w w3 := hcc3
  refine (hcall _ _ _ hc13 (hF.chg hc13 (fun _ _ _ h => h)) (ht.chg hc13 (by simp)) g2).mono ?_
  rintro e w4 ⟨H', pr, rp, sp, rfl, hF4, hc4, hz4⟩
  obtain ⟨rfl, rfl⟩ := hZ _ _ _ _ _ hz4 hc13.size
  have nF : ∀ b, w.heap.size ≤ b → ¬ F b := fun b hb h => Nat.lt_irrefl _ (Nat.lt_of_lt_of_le (hF.lt h) hb)
  have hsz3 := hc13.size
  have hsz4 := hc4.size
  have hw04 : Chg (fun b _ => F b) w w4 := (hcc3.mono (B := fun b _ => F b) (fun _ _ _ h => h.elim)).trans hc4
  have ht4 := ht.chg hw04 (fun b _ hm h => htF b hm h)
  have HQ2 := Lib.hid q2
  clear q2 n3 g1 g2
  obtain ⟨pv, hpv⟩ : ∃ pv, optV pr = pv := ⟨_, rfl⟩
  rw [hpv]
  clear hpv
  have q2 := hc4.cell (nF w.heap.size (Nat.le_refl _)) HQ2.out
  obtain ⟨l4, hna4, hb4, ho4, cl4⟩ := hF4.work hn
  have c4 := hna4.c2
  have e4 := ht4.c4
  have e7 := ht4.c7
  have htest : ((r.items.length : Int) == (mx : Int)) = true := by simp; omega
  clear hlen
  go_wp2_with fail
  go_quiet (fail)
  go_wp2_with fail
  refine bodyPost_ret (v := .tuple #[.nilIface, .bool false, .bool true]) (by simp [results, Try.results57, go_sem]) rfl ?_
  have hpf : ∀ w', Chg (fun _ _ => False) w4 w' → SetNo k w F H' (.returned (.tuple #[.nilIface, .bool false, .bool true])) w' := by
    intro w' c
    have hsw := c.size
    have f6 := hF4.chg c (fun _ _ _ h => h)
    refine ⟨rfl, f6.mono (fun b hb => ?_) (fun b hb => ?_), hw04.trans (c.mono (fun _ _ _ h => h.elim))⟩
    · rcases hb with hb | hb
      · exact .inl hb
      · have h1 := hb.1; have h4 := hcc3.size; exact .inr ⟨by omega, by omega⟩
    · rcases hb with hb | hb
      · exact f6.lt (.inl hb)
      · exact hb.2
  refine hpf _ ?_
  repeat (first | refine Chg.drew ?_ | refine Chg.drewN ?_ _ | exact Chg.refl _ _)
end Go.Proofs.Ytilcapfokmpaoaa
