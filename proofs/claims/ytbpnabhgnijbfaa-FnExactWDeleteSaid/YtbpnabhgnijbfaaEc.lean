/- delete of sets at a branch: the item is looked for in a child. -/
import Derived.Test.YtbpnabhgnijbfaaEb
namespace Go.Proofs.Ytbpnabhgnijbfaa
set_option linter.unusedSimpArgs false
set_option linter.unusedVariables false
open Go.RowKit

theorem Fam.mono' {p : Par (ByteArray × Int)} {w w0 : World} {F F' : Nat → Prop} {H H0 : Nat → Option (NodeR (ByteArray × Int))} (h : Fam p w F H) (h1 : ∀ b, F b → F' b) (h2 : Fam p w0 F' H0) (h3 : w0.heap.size ≤ w.heap.size) : Fam p w F' H :=
  h.mono h1 (fun b hb => Nat.lt_of_lt_of_le (h2.lt hb) h3)

/-- What nodeRebalance leaves. -/
def RebPost' (k : Int) (F : Nat → Prop) (Z : (Nat → Option (NodeR (ByteArray × Int))) → Prop) (w : World) (e : Ending) (w' : World) : Prop :=
  e = .returned (.tuple #[]) ∧ ∃ H', Fam (parM k) w' (grow F w w') H' ∧ Chg (fun b _ => F b) w w' ∧ Z H'

set_option maxRecDepth 100000 in
set_option maxHeartbeats 4000000 in
theorem delete_kid {k : Int} {mn mx t n c : Nat} {pa : Addr} {x : ByteArray × Int} {i : Nat} {r : NodeR (ByteArray × Int)} {w : World} {F : Nat → Prop} {H : Nat → Option (NodeR (ByteArray × Int))} {kl : List Nat} (hF : Fam (parM k) w F H) (ht : MapAt k mn mx w t) (htF : ∀ b, MOwn k t b → ¬ F b) (hn : H n = some r)
    (hpa : w.cell? pa = some (.pointer (some ⟨n, 0, none⟩))) (hs : Srt ltM r.items) (hlen : r.items.length ≤ 1000) (hpos : 1 ≤ r.items.length) (hk : r.kids = some (kl.map some)) (hc : kl[i]? = some c) (hcn : c ≠ n) (hy : PosAt ltM r.items x i) (hc0 : 0 ≤ r.cnt ∧ r.cnt ≤ 100000000000000)
    (Z Z2 : (Nat → Option (NodeR (ByteArray × Int))) → Option (ByteArray × Int) → Prop)
    (hcall : ∀ w1 pa1, Chg (fun _ _ => False) w w1 → Fam (parM k) w1 F H → MapAt k mn mx w1 t → w1.cell? pa1 = some (.pointer (some ⟨c, 0, none⟩)) → Calls Try.prog 52 #[.pointer (some ⟨t, 0, none⟩), .pointer (some pa1), .bool false, .string x.1] w1 (DelPost k F Z w1))
    (hZ : ∀ H' o, Z H' o → H' n = some r ∧ ∃ rc, H' c = some rc ∧ rc.items.length ≤ 1000)
    (hno : ∀ H', Z H' none → Z2 H' none)
    (hok : ∀ H' y rc, Z H' (some y) → H' c = some rc → mn ≤ rc.items.length → Z2 (upd H' n ⟨r.cnt - 1, r.items, r.kids⟩) (some y))
    (hreb : ∀ H' y rc w1 F1, Z H' (some y) → H' c = some rc → rc.items.length < mn → Fam (parM k) w1 F1 (upd H' n ⟨r.cnt - 1, r.items, r.kids⟩) → MapAt k mn mx w1 t → (∀ b, MOwn k t b → ¬ F1 b) → Calls Try.prog 65 #[.pointer (some ⟨t, 0, none⟩), .pointer (some ⟨n, 0, none⟩), .int .i64 i] w1 (RebPost' k F1 (fun H'' => Z2 H'' (some y)) w1)) :
    Calls Try.prog 52 #[.pointer (some ⟨t, 0, none⟩), .pointer (some pa), .bool false, .string x.1] w (DelPost k F Z2 w) := by
  obtain ⟨l0, hn0⟩ := hF.node hn
  have hpa2 : ∀ o, (w.alloc o).cell? pa = some (.pointer (some ⟨n, 0, none⟩)) := fun o => ((Chg.refl (fun _ _ => False) w).alloc o).cell (fun h => h) hpa
  go_enter Try.func52, Try.ntmps52
  go_upto_region 1 with fail
  refine name_world (fun w1 => Chg (fun _ _ => False) w w1 ∧ w1.heap[w.heap.size]? = some (.cells #[.int .i64 0, .string ⟨#[]⟩] 77 (0, 0))) ⟨(Chg.refl _ _).alloc _, ha_at _ _ rfl⟩ ?_
  rintro w0 ⟨hc00, hb00⟩
  have t0 := (ht.chg hc00 (fun _ _ _ h => h)).c0
  have n0 := (hn0.chg hc00 (fun _ _ _ h => h)).c0
  have pa0 := hc00.cell (fun h => h) hpa
  clear hpa2
  go_wp2_with fail
  refine (isoLoad_any t n k pa true _ pa0 n0 t0).mono ?_
  rintro e w1 ⟨rfl, m, hw1⟩
  have hc01 : Chg (fun _ _ => False) w0 w1 := by rw [hw1]; exact (Chg.refl _ _).drewN _
  have hc1 := hc00.trans hc01
  clear hw1
  have hb1 : w1.heap[w.heap.size]? = some (.cells #[.int .i64 0, .string ⟨#[]⟩] 77 (0, 0)) := by rw [hc01.block (heap_lt hb00) (fun _ h => h)]; exact hb00
  have hna1 := hn0.chg hc1 (fun _ _ _ h => h)
  have ht1' := ht.chg hc1 (fun _ _ _ h => h)
  have HB1 := Lib.hid hb1
  have hlb1 := heap_lt hb1
  clear t0 n0 hn0 pa0 hb00 hc01 hc00 hb1
  go_wp2_with fail
  refine (search_node t x ht1' hna1 hs (by omega)).mono ?_
  rintro e w2 ⟨i', f, rfl, hw2, hf⟩
  have hcw2 := hc1.trans hw2
  have hF2 := hF.chg hcw2 (fun _ _ _ h => h)
  have htt2 := ht.chg hcw2 (fun _ _ _ h => h)
  have HB2 := Lib.hid (show w2.heap[w.heap.size]? = some (.cells #[.int .i64 0, .string ⟨#[]⟩] 77 (0, 0)) by rw [hw2.block hlb1 (fun _ h => h)]; exact HB1.out)
  have hlw2 : w.heap.size < w2.heap.size := Nat.lt_of_lt_of_le hlb1 hw2.size
  clear hw2 hc1 ht1' hna1 HB1 hlb1
  have hfi : f = false ∧ i = i' := by
    rcases hf with ⟨h1, y', h2⟩ | ⟨h1, h2⟩
    · exact absurd h2.n2 (by rw [hy.right i' y' (hit_le hy h2) h2.at_]; simp)
    · exact ⟨h1, (pos_same h2 hy swoM).symm⟩
  obtain ⟨rfl, rfl⟩ := hfi
  have hil := hy.le
  clear hf hy
  obtain ⟨l, hna⟩ := hF2.node hn
  have n3 := hna.c3s hk
  have hkl := (List.getElem?_eq_some_iff.1 hc).1
  have g1 := hna.cc hk
  rw [List.length_map] at g1
  have g2 := hna.kidc hk (j := i) (o := some c) (by simp [hc])
  have j0 : (0 : Int) ≤ (i : Int) := by omega
  have j1 : (i : Int) < (kl.length : Int) := by omega
  clear hna
  go_wp2_with fail
  refine (leaf_any _ (some ⟨l.cc, 0, none⟩) _ n3).mono ?_
  rintro e w' ⟨rfl, rfl⟩
  go_upto_region 17 with fail
  refine name_world (fun w3 => Chg (fun _ _ => False) w2 w3 ∧ w3.heap[w2.heap.size]? = some (.cells #[.int .i64 0, .string ⟨#[]⟩] 77 (0, 0))) ⟨(Chg.refl _ _).alloc _, ha_at _ _ rfl⟩ ?_
  rintro w3 ⟨hc3, hb18⟩
  replace n3 := hc3.cell (fun h => h) n3
  replace g1 := hc3.cell (fun h => h) g1
  replace g2 := hc3.cell (fun h => h) g2
  have hcw3 := hcw2.trans hc3
  have HB18 := Lib.hid hb18
  have hl18 := heap_lt hb18
  clear hb18
  go_wp2_with fail
  refine (hcall _ _ hcw3 (hF.chg hcw3 (fun _ _ _ h => h)) (ht.chg hcw3 (fun _ _ _ h => h)) g2).mono ?_
  rintro e w4 ⟨H', o, rfl, hF4, hc4, hz4⟩
  clear n3 g1 g2 j0 j1
  have nF : ∀ b, w.heap.size ≤ b → ¬ F b := fun b hb h => Nat.lt_irrefl _ (Nat.lt_of_lt_of_le (hF.lt h) hb)
  have hsz2 := hcw2.size
  have hsz3 := hc3.size
  have hsz4 := hc4.size
  have hb18 : w4.heap[w2.heap.size]? = some (.cells #[.int .i64 0, .string ⟨#[]⟩] 77 (0, 0)) := by
    rw [hc4.block hl18 (fun _ h => nF _ hsz2 h)]
    exact HB18.out
  have y0 := frozen_of_block hb18 0
  have y1 := frozen_of_block hb18 1
  have p0 := cell_of_block hb18 0
  have p1 := cell_of_block hb18 1
  simp only [List.getElem?_toArray, List.getElem?_cons_zero, List.getElem?_cons_succ] at p0 p1
  have HB18' := Lib.hid hb18
  have HF4 := Lib.hid hF4
  have HC4 := Lib.hid hc4
  clear hb18 HB18 hF4 hc4
  rcases o with _ | y
  · unfold pairV
    go_upto_region 27 with fail
    refine name_world (fun w5 => Chg (fun b _ => b = w2.heap.size) w4 w5 ∧ w5.heap[w2.heap.size]? = some (.cells #[.int .i64 0, .string ⟨#[]⟩] 77 (0, 0))) ⟨?_, blk2 HB18'.out _ _⟩ ?_
    · repeat (first | refine Chg.drew ?_ | refine Chg.drewN ?_ _ | refine Chg.setCell ?_ (.inl rfl) _ | exact Chg.refl _ _)
    clear p0 p1 y0 y1 HB18'
    rintro w5 ⟨hc5, hb18⟩
    have hc05 : Chg (fun b _ => F b) w w5 := ((hcw3.mono (fun _ _ _ h => h.elim)).trans HC4.out).trans' hc5 (fun _ _ _ h => h) (fun b o hb e => by omega)
    have hF5 := HF4.out.chg hc5 (fun b o hb e => by
      rcases hb with hb | hb
      · exact nF b (by omega) hb
      · have h1 := hb.1; omega)
    have ht5 := ht.chg hc05 (fun b _ hm e => htF b hm e)
    have hb12 : w5.heap[w.heap.size]? = some (.cells #[.int .i64 0, .string ⟨#[]⟩] 77 (0, 0)) := by
      rw [hc5.block (by omega) (fun _ e => by omega), HC4.out.block (by omega) (fun _ h => nF _ (Nat.le_refl _) h), hc3.block hlw2 (fun _ h => h)]
      exact HB2.out
    have e4 := ht5.c4
    have e5 := ht5.c5
    have HB12 := Lib.hid hb12
    have HF5 := Lib.hid hF5
    have HC05 := Lib.hid hc05
    have y0 := frozen_of_block hb12 0
    have y1 := frozen_of_block hb12 1
    have p0 := cell_of_block hb12 0
    have p1 := cell_of_block hb12 1
    simp only [List.getElem?_toArray, List.getElem?_cons_zero, List.getElem?_cons_succ] at p0 p1
    clear hb12 hb18 hF5 hc05 ht5
    go_wp2_with fail
    refine name_prop (fun wl => Chg (fun b _ => b = w.heap.size) w5 wl ∧ wl.heap[w.heap.size]? = some (.cells #[.int .i64 0, .string ⟨#[]⟩] 77 (0, 0))) ⟨?_, blk2 HB12.out _ _⟩ ?_
    · repeat (first | refine Chg.drew ?_ | refine Chg.drewN ?_ _ | refine Chg.setCell ?_ (.inl rfl) _ | exact Chg.refl _ _)
    clear p0 p1
    rintro wl ⟨hcl, hbl⟩
    have p0 := cell_of_block hbl 0
    have p1 := cell_of_block hbl 1
    simp only [List.getElem?_toArray, List.getElem?_cons_zero, List.getElem?_cons_succ] at p0 p1
    refine bodyPost_ret (v := .tuple #[.agg #[.int .i64 0, .string ⟨#[]⟩], .bool false]) (by simp [results, Try.results52, go_sem, p0, p1]) rfl ?_
    have f9 := HF5.out.chg hcl (fun b o hb e => by
      rcases hb with hb | hb
      · exact nF b (by omega) hb
      · have h1 := hb.1; omega)
    refine ⟨H', none, rfl, f9.mono (fun b hb => ?_) (fun b hb => ?_), HC05.out.trans' hcl (fun _ _ _ h => h) (fun b o hb e => by omega), hno H' hz4⟩
    · have hbl := f9.lt hb
      rcases hb with hb | hb
      · exact .inl hb
      · exact .inr ⟨by have := hb.1; omega, hbl⟩
    · rcases hb with hb | hb
      · exact Nat.lt_of_lt_of_le (hF.lt hb) (HC05.out.trans' hcl (B := fun _ _ => True) (fun _ _ _ _ => trivial) (fun _ _ _ _ => trivial)).size
      · exact hb.2
  · unfold pairV
    go_upto_region 27 with fail
    refine name_world (fun w5 => Chg (fun b _ => b = w2.heap.size) w4 w5 ∧ w5.heap[w2.heap.size]? = some (.cells #[.int .i64 y.2, .string y.1] 77 (0, 0))) ⟨?_, blk2 HB18'.out _ _⟩ ?_
    · repeat (first | refine Chg.drew ?_ | refine Chg.drewN ?_ _ | refine Chg.setCell ?_ (.inl rfl) _ | exact Chg.refl _ _)
    clear p0 p1 y0 y1 HB18'
    rintro w5 ⟨hc5, hb18⟩
    have hc05 : Chg (fun b _ => F b) w w5 := ((hcw3.mono (fun _ _ _ h => h.elim)).trans HC4.out).trans' hc5 (fun _ _ _ h => h) (fun b o hb e => by omega)
    have hF5 := HF4.out.chg hc5 (fun b o hb e => by
      rcases hb with hb | hb
      · exact nF b (by omega) hb
      · have h1 := hb.1; omega)
    have ht5 := ht.chg hc05 (fun b _ hm e => htF b hm e)
    have hb12 : w5.heap[w.heap.size]? = some (.cells #[.int .i64 0, .string ⟨#[]⟩] 77 (0, 0)) := by
      rw [hc5.block (by omega) (fun _ e => by omega), HC4.out.block (by omega) (fun _ h => nF _ (Nat.le_refl _) h), hc3.block hlw2 (fun _ h => h)]
      exact HB2.out
    have hGo : ∀ b, b < w3.heap.size → w.heap.size ≤ b → ¬ (grow F w3 w4) b := fun b h1 h2 h => by
      rcases h with h | h
      · exact nF b h2 h
      · have h3 := h.1; omega
    have hG0 : ∀ b, (grow F w3 w4) b → F b ∨ w.heap.size ≤ b := fun b h => by
      rcases h with h | h
      · exact .inl h
      · exact .inr (by have h3 := h.1; omega)
    obtain ⟨hn4, rc, hrc, hrl⟩ := hZ _ _ hz4
    obtain ⟨l4, hna4, hb4, ho4, cl4⟩ := hF5.work hn4
    have C1 := hna4.c1
    have z1 := hna4.fz 1
    have s1 : IntKind.i64.wrap (r.cnt - 1) = r.cnt - 1 := IntWalk.i64_in _ (by omega)
    have r8 := (Run.start hna4).setCnt (r.cnt - 1)
    have HB12 := Lib.hid hb12
    have HB18 := Lib.hid hb18
    have HC05 := Lib.hid hc05
    have HT5 := Lib.hid ht5
    have hl12 := heap_lt hb12
    have hl5 := heap_lt hb18
    clear hb12 hb18 hc05 ht5 hna4
    go_upto_region 30 with fail
    refine name_world (fun w6 => w6.heap.size = w5.heap.size ∧ Fam (parM k) w6 (grow (grow F w3 w4) w5 w6) (upd H' n ⟨r.cnt - 1, r.items, r.kids⟩) ∧ Chg (fun b _ => (grow F w3 w4) b) w5 w6) ⟨by simp, (cl4 _ _ _ r8).1, (cl4 _ _ _ r8).2⟩ ?_
    clear C1 z1 s1 r8 cl4 ho4 hb4
    rintro w6 ⟨hz6, hF6, hc6⟩
    have hb12 : w6.heap[w.heap.size]? = some (.cells #[.int .i64 0, .string ⟨#[]⟩] 77 (0, 0)) := by rw [hc6.block hl12 (fun _ h => hGo _ (by omega) (Nat.le_refl _) h)]; exact HB12.out
    have hb18 : w6.heap[w2.heap.size]? = some (.cells #[.int .i64 y.2, .string y.1] 77 (0, 0)) := by rw [hc6.block hl5 (fun _ h => hGo _ hl18 hsz2 h)]; exact HB18.out
    have hc06 : Chg (fun b _ => F b) w w6 := HC05.out.trans' hc6 (fun _ _ _ h => h) (fun b o hb h => (hG0 b h).elim id (fun h => by omega))
    have ht6 := ht.chg hc06 (fun b _ hm e => htF b hm e)
    have hF7 : Fam (parM k) w6 (grow F w3 w4) (upd H' n ⟨r.cnt - 1, r.items, r.kids⟩) := hF6.mono' (fun b h => by rcases h with h | h; exact h; have h1 := h.1; have h2 := h.2; omega) hF5 (by omega)
    obtain ⟨ln, hn6⟩ := hF7.node (upd_same _ _ _)
    obtain ⟨lc, hc6'⟩ := hF7.node ((upd_ne _ _ hcn).trans hrc)
    have n3 := hn6.c3s hk
    have g1 := hn6.cc hk
    rw [List.length_map] at g1
    have g2 := hn6.kidc hk (j := i) (o := some c) (by simp [hc])
    have d2 := hc6'.c2
    have e9 := ht6.c6
    have j0 : (0 : Int) ≤ (i : Int) := by omega
    have j1 : (i : Int) < (kl.length : Int) := by omega
    have HB12' := Lib.hid hb12
    have HB18' := Lib.hid hb18
    have HC06 := Lib.hid hc06
    have HT6 := Lib.hid ht6
    have HF7 := Lib.hid hF7
    clear hb12 hb18 hc06 ht6 hF7 hF6 hn6 hc6' hF5 HB12 HB18 HC05 HT5 hc6
    refine wp_region_scr (fun w' => w'.cell? ⟨n, 3, none⟩ = some (.pointer (some ⟨ln.cc, 0, none⟩)) ∧ w'.cell? ⟨ln.cc, 0, none⟩ = some (.slice (some ⟨ln.cb, ln.co, none⟩) kl.length ln.ck) ∧ w'.cell? ⟨ln.cb, ln.co + i, none⟩ = some (.pointer (some ⟨c, 0, none⟩)) ∧ w'.cell? ⟨c, 2, none⟩ = some (.slice (some ⟨lc.ib, lc.io, none⟩) rc.items.length lc.ic) ∧ w'.cell? ⟨t, 6, none⟩ = some (.int .i64 mn)) (.soft 0 (.soft 1 (.soft 2 (.soft 3 (.soft 4 (.soft 5 (.soft 6 (.soft 7 (.soft 8 (.soft 9 (.soft 10 (.soft 11 (.soft 12 (.soft 13 (.soft 14 (.soft 15 (.soft 16 (.soft 17 .nil)))))))))))))))))) (by kernel_rfl) (by kernel_rfl) (fun _ _ _ _ _ h => h) ⟨n3, g1, g2, d2, e9⟩ ?_
    repeat
      first
      | (refine scr_soft (by rfl) ?_ ?_ ?_ ?_
         rotate_left
         · simp [Region.wanted, yielded]; done
         · intro w' hS
           try obtain ⟨a1, a2, a3, a4, a5⟩ := hS
           go_simp
           try with_reducible rfl
         simp only [Act.put, List.setIfInBounds_toArray, List.set_cons_zero, List.set_cons_succ])
      | (refine scr_skip (by rfl) ?_ ?_
         · simp [Region.wanted, yielded]; done
         simp only [Act.put, List.setIfInBounds_toArray, List.set_cons_zero, List.set_cons_succ])
    refine scr_nil ?_
    clear n3 g1 g2 d2 e9
    by_cases hlt : rc.items.length < mn
    · have hlt' : (rc.items.length : Int) < (mn : Int) := by omega
      have hGM : ∀ b, MOwn k t b → ¬ (grow F w3 w4) b := fun b hm h => (hG0 b h).elim (htF b hm) (fun h => by have := ht.lt hm; omega)
      have HRB := Lib.hid (hreb _ _ _ _ _ hz4 hrc hlt (HF7.out.chg ((Chg.refl (fun _ _ => False) w6).drew) (fun _ _ _ h => h)) (HT6.out.chg ((Chg.refl (fun _ _ => False) w6).drew) (fun _ _ _ h => h)) hGM)
      go_wp2_with fail
      refine HRB.out.mono ?_
      rintro e w8 ⟨rfl, H'', f8, g8, z8⟩
      have hszd6 : w6.drew.heap.size = w6.heap.size := rfl
      have hsz8 := g8.size
      have hb12 : w8.heap[w.heap.size]? = some (.cells #[.int .i64 0, .string ⟨#[]⟩] 77 (0, 0)) := by rw [g8.block (by omega) (fun _ h => hGo _ (by omega) (Nat.le_refl _) h), hd_drew]; exact HB12'.out
      have hb18 : w8.heap[w2.heap.size]? = some (.cells #[.int .i64 y.2, .string y.1] 77 (0, 0)) := by rw [g8.block (by omega) (fun _ h => hGo _ hl18 hsz2 h), hd_drew]; exact HB18'.out
      have y0 := frozen_of_block hb12 0
      have y1 := frozen_of_block hb12 1
      have p0 := cell_of_block hb12 0
      have p1 := cell_of_block hb12 1
      simp only [List.getElem?_toArray, List.getElem?_cons_zero, List.getElem?_cons_succ] at p0 p1
      have x0 := frozen_of_block hb18 0
      have x1 := frozen_of_block hb18 1
      have r0 := cell_of_block hb18 0
      have r1 := cell_of_block hb18 1
      simp only [List.getElem?_toArray, List.getElem?_cons_zero, List.getElem?_cons_succ] at r0 r1
      have hc08 : Chg (fun b _ => F b) w w8 := HC06.out.drew.trans' g8 (fun _ _ _ h => h) (fun b o hb h => (hG0 b h).elim id (fun h => by omega))
      have HF8 := Lib.hid f8
      have HC08 := Lib.hid hc08
      have HZ8 := Lib.hid z8
      have HBB := Lib.hid hb12
      clear f8 g8 hc08 z8 hb12 hb18 HRB
      go_wp2_with fail
      refine name_prop (fun wl => Chg (fun b _ => b = w.heap.size) w8 wl ∧ wl.heap[w.heap.size]? = some (.cells #[.int .i64 y.2, .string y.1] 77 (0, 0))) ⟨?_, blk2 HBB.out _ _⟩ ?_
      · repeat (first | refine Chg.drew ?_ | refine Chg.drewN ?_ _ | refine Chg.setCell ?_ (.inl rfl) _ | exact Chg.refl _ _)
      clear p0 p1 r0 r1
      rintro wl ⟨hcl, hbl⟩
      have p0 := cell_of_block hbl 0
      have p1 := cell_of_block hbl 1
      simp only [List.getElem?_toArray, List.getElem?_cons_zero, List.getElem?_cons_succ] at p0 p1
      refine bodyPost_ret (v := .tuple #[.agg #[.int .i64 y.2, .string y.1], .bool true]) (by simp [results, Try.results52, go_sem, p0, p1]) rfl ?_
      have f9 := HF8.out.chg hcl (fun b o hb e => by
        rcases hb with hb | hb
        · exact hGo b (by omega) (by omega) hb
        · have h1 := hb.1; omega)
      refine ⟨H'', some y, rfl, f9.mono (fun b hb => ?_) (fun b hb => ?_), HC08.out.trans' hcl (fun _ _ _ h => h) (fun b o hb e => by omega), HZ8.out⟩
      · have hbl := Nat.lt_of_lt_of_le (HF8.out.lt hb) hcl.size
        rcases hb with hb | hb
        · exact (hG0 b hb).elim .inl (fun h => .inr ⟨h, hbl⟩)
        · exact .inr ⟨by have := hb.1; omega, hbl⟩
      · rcases hb with hb | hb
        · exact Nat.lt_of_lt_of_le (hF.lt hb) (HC08.out.trans' hcl (B := fun _ _ => True) (fun _ _ _ _ => trivial) (fun _ _ _ _ => trivial)).size
        · exact hb.2
    · have hlt' : ¬ (rc.items.length : Int) < (mn : Int) := by omega
      have HOK := Lib.hid (hok _ _ _ hz4 hrc (by omega))
      have y0 := frozen_of_block HB12'.out 0
      have y1 := frozen_of_block HB12'.out 1
      have p0 := cell_of_block HB12'.out 0
      have p1 := cell_of_block HB12'.out 1
      simp only [List.getElem?_toArray, List.getElem?_cons_zero, List.getElem?_cons_succ] at p0 p1
      have x0 := frozen_of_block HB18'.out 0
      have x1 := frozen_of_block HB18'.out 1
      have r0 := cell_of_block HB18'.out 0
      have r1 := cell_of_block HB18'.out 1
      simp only [List.getElem?_toArray, List.getElem?_cons_zero, List.getElem?_cons_succ] at r0 r1
      go_wp2_with fail
      refine name_prop (fun wl => Chg (fun b _ => b = w.heap.size) w6 wl ∧ wl.heap[w.heap.size]? = some (.cells #[.int .i64 y.2, .string y.1] 77 (0, 0))) ⟨?_, blk2 HB12'.out _ _⟩ ?_
      · repeat (first | refine Chg.drew ?_ | refine Chg.drewN ?_ _ | refine Chg.setCell ?_ (.inl rfl) _ | exact Chg.refl _ _)
      clear p0 p1 r0 r1
      rintro wl ⟨hcl, hbl⟩
      have p0 := cell_of_block hbl 0
      have p1 := cell_of_block hbl 1
      simp only [List.getElem?_toArray, List.getElem?_cons_zero, List.getElem?_cons_succ] at p0 p1
      refine bodyPost_ret (v := .tuple #[.agg #[.int .i64 y.2, .string y.1], .bool true]) (by simp [results, Try.results52, go_sem, p0, p1]) rfl ?_
      have f9 := HF7.out.chg hcl (fun b o hb e => hGo b (by omega) (by omega) hb)
      refine ⟨_, some y, rfl, f9.mono (fun b hb => ?_) (fun b hb => ?_), HC06.out.trans' hcl (fun _ _ _ h => h) (fun b o hb e => by omega), HOK.out⟩
      · have hbl := f9.lt hb
        exact (hG0 b hb).elim .inl (fun h => .inr ⟨h, hbl⟩)
      · rcases hb with hb | hb
        · exact Nat.lt_of_lt_of_le (hF.lt hb) (HC06.out.trans' hcl (B := fun _ _ => True) (fun _ _ _ _ => trivial) (fun _ _ _ _ => trivial)).size
        · exact hb.2
end Go.Proofs.Ytbpnabhgnijbfaa
