/- delete at a branch: the item stands there. -/
import Derived.Test.YtcabnhpnkaielaaA6
import Derived.Test.YtcabnhpnkaielaaD3
namespace Go.Proofs.Ytcabnhpnkaielaa
set_option linter.unusedSimpArgs false
set_option linter.unusedVariables false
open Go.RowKit

variable {ord : List Int}

theorem Fam.mono' {p : Par (It ord)} {w w0 : World} {F F' : Nat → Prop} {H H0 : Nat → Option (NodeR (It ord))} (h : Fam p w F H) (h1 : ∀ b, F b → F' b) (h2 : Fam p w0 F' H0) (h3 : w0.heap.size ≤ w.heap.size) : Fam p w F' H :=
  h.mono h1 (fun b hb => Nat.lt_of_lt_of_le (h2.lt hb) h3)

/-- What nodeRebalance leaves. -/
def RebPost' (k : Kc ord) (F : Nat → Prop) (Z : (Nat → Option (NodeR (It ord))) → Prop) (w : World) (e : Ending) (w' : World) : Prop :=
  e = .returned (.tuple #[]) ∧ ∃ H', Fam (parM k) w' (grow F w w') H' ∧ Chg (fun b _ => F b) w w' ∧ Z H'

set_option maxRecDepth 100000 in
set_option maxHeartbeats 4000000 in
theorem delete_kid {k : Kc ord} {mn mx t n d c : Nat} {pa : Addr} {x : It ord} {i : Nat} {r : NodeR (It ord)} {w : World} {F : Nat → Prop} {H : Nat → Option (NodeR (It ord))} {hv : Option Nat} {kl : List Nat} (hF : Fam (parM k) w F H) (ht : MapAt k mn mx w t) (htF : ∀ b, MOwn k t b → ¬ F b) (hn : H n = some r)
    (hpa : w.cell? pa = some (.pointer (some ⟨n, 0, none⟩))) (hs : Srt ltM r.items) (hlen : r.items.length ≤ 1000) (hpos : 1 ≤ r.items.length) (hk : r.kids = some (kl.map some)) (hc : kl[i]? = some c) (hcn : c ≠ n) (hy : PosAt ltM r.items x i) (hc0 : 0 ≤ r.cnt ∧ r.cnt ≤ 100000000000000)
    (hh : HintO hv w) (hvF : ∀ b, hv = some b → ¬ F b) (hvt : ∀ b, hv = some b → ¬ MOwn k t b) (hd : d ≤ 1000000000000)
    (Z Z2 : (Nat → Option (NodeR (It ord))) → Option (It ord) → Prop)
    (hcall : ∀ w1 pa1, Chg (fun b _ => hv = some b) w w1 → Fam (parM k) w1 F H → MapAt k mn mx w1 t → HintO hv w1 → w1.cell? pa1 = some (.pointer (some ⟨c, 0, none⟩)) → Calls Try.prog 127 #[.pointer (some ⟨t, 0, none⟩), .pointer (some pa1), .bool false, aggM x, hintV hv, .int .i64 ((d : Int) + 1)] w1 (DelPost k F hv Z w1))
    (hZ : ∀ H' o, Z H' o → H' n = some r ∧ ∃ rc, H' c = some rc ∧ rc.items.length ≤ 1000)
    (hno : ∀ H', Z H' none → Z2 H' none)
    (hok : ∀ H' y rc, Z H' (some y) → H' c = some rc → mn ≤ rc.items.length → Z2 (upd H' n ⟨r.cnt - 1, r.items, r.kids⟩) (some y))
    (hreb : ∀ H' y rc w1 F1, Z H' (some y) → H' c = some rc → rc.items.length < mn → Fam (parM k) w1 F1 (upd H' n ⟨r.cnt - 1, r.items, r.kids⟩) → MapAt k mn mx w1 t → (∀ b, MOwn k t b → ¬ F1 b) → Calls Try.prog 135 #[.pointer (some ⟨t, 0, none⟩), .pointer (some ⟨n, 0, none⟩), .int .i64 i] w1 (RebPost' k F1 (fun H'' => Z2 H'' (some y)) w1)) :
    Calls Try.prog 127 #[.pointer (some ⟨t, 0, none⟩), .pointer (some pa), .bool false, aggM x, hintV hv, .int .i64 d] w (DelPost k F hv Z2 w) := by
  obtain ⟨l0, hn0⟩ := hF.node hn
  have t0 := ht.c0
  have n0 := hn0.c0
  have hpk : (parM k).k = k.iso := rfl
  rw [hpk] at n0
  unfold aggM hintV
  go_enter Try.func127, Try.ntmps127
  go_wp2_with fail
  refine (isoLoad_any t n k pa true _ hpa n0 t0).mono ?_
  rintro e w1 ⟨rfl, m, hw1⟩
  have hc1 : Chg (fun _ _ => False) w w1 := by rw [hw1]; exact (Chg.refl _ _).drewN _
  clear hw1
  have hna1 := hn0.chg hc1 (fun _ _ _ h => h)
  have ht1' := ht.chg hc1 (by simp)
  skip
  clear t0 n0 hn0 hpa
  go_wp2_with fail
  skip
  refine (find_o hv t d x ht1' hna1 hs (by omega) hpos (hh.keep hc1) hd).mono ?_
  rintro e w3 ⟨i', f, rfl, hw3, hh3, hf⟩
  have hnv : ∀ b, w.heap.size ≤ b → ¬ hv = some b := fun b hb e => by have := hh.lt e; omega
  have hcw3 : Chg (fun b _ => hv = some b) w w3 := (hc1.mono (fun _ _ _ h => h.elim)).trans hw3
  have hF3 := hF.chg hcw3 (fun b _ hb e => hvF b e hb)
  have htt3 := ht.chg hcw3 (fun b _ hb e => hvt b e hb)
  clear hw3 hc1 ht1' hna1
  have hfi : f = false ∧ i = i' := by
    rcases hf with ⟨h1, y', h2⟩ | ⟨h1, h2⟩
    · exact absurd h2.n2 (by rw [hy.right i' y' (hit_le hy h2) h2.at_]; simp)
    · exact ⟨h1, (pos_same h2 hy swoM).symm⟩
  obtain ⟨rfl, rfl⟩ := hfi
  have hil := hy.le
  clear hf hy
  have d0 : (0 : Int) ≤ (d : Int) := by omega
  have d1 : (d : Int) ≤ 1000000000000 := by omega
  have HCA := Lib.hid (fun (w1 : World) pa1 (c1 : Chg (fun b _ => hv = some b) w w1) h2 h3 h4 h5 => hcall w1 pa1 c1 h2 h3 h4 h5)
  have HH3 := Lib.hid hh3
  unfold aggM hintV at HCA
  clear hcall
  obtain ⟨l, hna, hbl, ho, cl⟩ := hF3.work hn
  have n3 := hna.c3s hk
  have hkl := (List.getElem?_eq_some_iff.1 hc).1
  have g1 := hna.cc hk
  rw [List.length_map] at g1
  have g2 := hna.kidc hk (j := i) (o := some c) (by simp [hc])
  have j0 : (0 : Int) ≤ (i : Int) := by omega
  have j1 : (i : Int) < (kl.length : Int) := by omega
  clear hna
  go_wp2_with (go_at_call 93; refine (leaf_any _ (some ⟨l.cc, 0, none⟩) _ n3).mono ?_; rintro e w' ⟨rfl, rfl⟩)
  refine (HCA.out w3 _ hcw3 hF3 htt3 HH3.out g2).mono ?_
  rintro e w4 ⟨H', o, rfl, hF4, hc4, hh4, hz4⟩
  clear n3 g1 g2 j0 j1 d0 d1 HCA
  rcases o with _ | y
  · unfold endV
    have nF : ∀ b, w.heap.size ≤ b → ¬ F b := fun b hb h => Nat.lt_irrefl _ (Nat.lt_of_lt_of_le (hF.lt h) hb)
    have hsz3 := hcw3.size
    have hG0 : ∀ b, (grow F w3 w4) b → F b ∨ w.heap.size ≤ b := fun b h => by
      rcases h with h | h
      · exact .inl h
      · exact .inr (Nat.le_trans hsz3 h.1)
    have hc04 : Chg (fun b _ => F b ∨ hv = some b) w w4 := (hcw3.mono (fun _ _ _ h => .inr h)).trans (hc4)
    have ht4 := ht.chg hc04 (fun b _ hm e => by
      rcases e with e | e
      · exact htF b hm e
      · exact hvt b e hm)
    have e4 := ht4.c4
    have HF4 := Lib.hid hF4
    have HH4 := Lib.hid hh4
    have HC04 := Lib.hid hc04
    clear hF4 hh4 hc04 ht4
    go_wp2_with fail
    refine bodyPost_ret (v := .tuple #[.nilIface, .bool false]) (by simp [results, Try.results127, go_sem]) rfl ?_
    refine ⟨H', none, rfl, HF4.out.mono (fun b hb => ?_) (fun b hb => ?_), HC04.out, HH4.out, hno H' hz4⟩
    · have hbl := HF4.out.lt hb
      exact (hG0 b hb).elim .inl (fun h => .inr ⟨h, hbl⟩)
    · rcases hb with hb | hb
      · exact Nat.lt_of_lt_of_le (hF.lt hb) HC04.out.size
      · exact hb.2
  · unfold endV
    have nF : ∀ b, w.heap.size ≤ b → ¬ F b := fun b hb h => Nat.lt_irrefl _ (Nat.lt_of_lt_of_le (hF.lt h) hb)
    have hsz3 := hcw3.size
    have hG0 : ∀ b, (grow F w3 w4) b → F b ∨ w.heap.size ≤ b := fun b h => by
      rcases h with h | h
      · exact .inl h
      · exact .inr (Nat.le_trans hsz3 h.1)
    have hc04 : Chg (fun b _ => F b ∨ hv = some b) w w4 := (hcw3.mono (fun _ _ _ h => .inr h)).trans (hc4)
    have ht4 := ht.chg hc04 (fun b _ hm e => by
      rcases e with e | e
      · exact htF b hm e
      · exact hvt b e hm)
    obtain ⟨hn4, rc, hrc, hrl⟩ := hZ _ _ hz4
    obtain ⟨l4, hna4, hb4, ho4, cl4⟩ := hF4.work hn4
    have C1 := hna4.c1
    have z1 := hna4.fz 1
    have s1 : IntKind.i64.wrap (r.cnt - 1) = r.cnt - 1 := IntWalk.i64_in _ (by omega)
    have r8 := (Run.start hna4).setCnt (r.cnt - 1)
    have HC04 := Lib.hid hc04
    have HH4 := Lib.hid hh4
    have HF4 := Lib.hid hF4
    clear hc04 hh4 ht4 hna4 hF4
    go_upto_region 30 with fail
    refine name_world (fun w6 => w6.heap.size = w4.heap.size ∧ Fam (parM k) w6 (grow (grow F w3 w4) w4 w6) (upd H' n ⟨r.cnt - 1, r.items, r.kids⟩) ∧ Chg (fun b _ => (grow F w3 w4) b) w4 w6) ⟨by simp, (cl4 _ _ _ r8).1, (cl4 _ _ _ r8).2⟩ ?_
    clear C1 z1 s1 r8 cl4 ho4 hb4
    rintro w6 ⟨hz6, hF6, hc6⟩
    have hc06 : Chg (fun b _ => F b ∨ hv = some b) w w6 := HC04.out.trans' hc6 (fun _ _ _ h => h) (fun b o hb h => (hG0 b h).elim .inl (fun h => by omega))
    have hh6 : HintO hv w6 := HH4.out.chg hc6 (fun b _ e h => (hG0 b h).elim (hvF b e) (fun h => by have := hh.lt e; omega))
    have ht6 := ht.chg hc06 (fun b _ hm e => by
      rcases e with e | e
      · exact htF b hm e
      · exact hvt b e hm)
    have hF7 : Fam (parM k) w6 (grow F w3 w4) (upd H' n ⟨r.cnt - 1, r.items, r.kids⟩) := hF6.mono' (fun b h => by rcases h with h | h; exact h; have h1 := h.1; have h2 := h.2; omega) HF4.out (by omega)
    obtain ⟨ln, hn6⟩ := hF7.node (upd_same _ _ _)
    obtain ⟨lc, hc6'⟩ := hF7.node ((upd_ne _ _ hcn).trans hrc)
    have n3 := hn6.c3s hk
    have g1 := hn6.cc hk
    rw [List.length_map] at g1
    have g2 := hn6.kidc hk (j := i) (o := some c) (by simp [hc])
    have d2 := hc6'.c2
    have e9 := ht6.c6
    have j0 : (0 : Int) ≤ (i : Int) := by omega
    have j1 : (i : Int) < (kl.length : Int) := by omega
    have HH6 := Lib.hid hh6
    have HC06 := Lib.hid hc06
    have HT6 := Lib.hid ht6
    have HF7 := Lib.hid hF7
    clear hh6 hc06 ht6 hF7 hF6 hn6 hc6' HF4 HC04 HH4 hc6
    refine wp_region_scr (fun w' => w'.cell? ⟨n, 3, none⟩ = some (.pointer (some ⟨ln.cc, 0, none⟩)) ∧ w'.cell? ⟨ln.cc, 0, none⟩ = some (.slice (some ⟨ln.cb, ln.co, none⟩) kl.length ln.ck) ∧ w'.cell? ⟨ln.cb, ln.co + i, none⟩ = some (.pointer (some ⟨c, 0, none⟩)) ∧ w'.cell? ⟨c, 2, none⟩ = some (.slice (some ⟨lc.ib, lc.io, none⟩) rc.items.length lc.ic) ∧ w'.cell? ⟨t, 9, none⟩ = some (.int .i64 mn)) (.soft 0 (.soft 1 (.soft 2 (.soft 3 (.soft 4 (.soft 5 (.soft 6 (.soft 7 (.soft 8 (.soft 9 (.soft 10 (.soft 11 (.soft 12 (.soft 13 (.soft 14 (.soft 15 (.soft 16 (.soft 17 .nil)))))))))))))))))) (by kernel_rfl) (by kernel_rfl) (fun _ _ _ _ _ h => h) ⟨n3, g1, g2, d2, e9⟩ ?_
    repeat
      first
      | (refine scr_soft (by rfl) ?_ ?_ ?_ ?_
         rotate_left
         · simp [Region.wanted, yielded]; done
         · intro w' hS
           try obtain ⟨a1, a2, a3, a4, a5⟩ := hS
           go_simp
           try with_reducible rfl
         simp only [Act.put, List.setIfInBounds_toArray, List.set_cons_zero, List.set_cons_succ])
      | (refine scr_skip (by rfl) ?_ ?_
         · simp [Region.wanted, yielded]; done
         simp only [Act.put, List.setIfInBounds_toArray, List.set_cons_zero, List.set_cons_succ])
    refine scr_nil ?_
    clear n3 g1 g2 d2 e9
    by_cases hlt : rc.items.length < mn
    · have hlt' : (rc.items.length : Int) < (mn : Int) := by omega
      have hGM : ∀ b, MOwn k t b → ¬ (grow F w3 w4) b := fun b hm h => (hG0 b h).elim (htF b hm) (fun h => by have := ht.lt hm; omega)
      have HRB := Lib.hid (hreb _ _ _ _ _ hz4 hrc hlt (HF7.out.chg ((Chg.refl (fun _ _ => False) w6).drew) (fun _ _ _ h => h)) (HT6.out.chg ((Chg.refl (fun _ _ => False) w6).drew) (fun _ _ _ h => h)) hGM)
      go_wp2_with fail
      refine HRB.out.mono ?_
      rintro e w8 ⟨rfl, H'', f8, g8, z8⟩
      have hszd6 : w6.drew.heap.size = w6.heap.size := rfl
      have hsz8 := g8.size
      have hsz6 := HC06.out.size
      have hc08 : Chg (fun b _ => F b ∨ hv = some b) w w8 := HC06.out.drew.trans' g8 (fun _ _ _ h => h) (fun b o hb h => (hG0 b h).elim .inl (fun h => by omega))
      have hh8 : HintO hv w8 := (HH6.out.keep ((Chg.refl (fun _ _ => False) w6).drew)).chg g8 (fun b _ e h => (hG0 b h).elim (hvF b e) (fun h => by have := hh.lt e; omega))
      have HF8 := Lib.hid f8
      have HC08 := Lib.hid hc08
      have HH8 := Lib.hid hh8
      have HZ8 := Lib.hid z8
      clear f8 g8 hc08 hh8 z8 HRB
      go_wp2_with fail
      refine bodyPost_ret (v := .tuple #[.iface 26 (.agg #[.int .i64 y.1, .int .i64 y.2]), .bool true]) (by simp [results, Try.results127, go_sem]) rfl ?_
      refine ⟨H'', some y, rfl, HF8.out.mono (fun b hb => ?_) (fun b hb => ?_), HC08.out, HH8.out, HZ8.out⟩
      · have hbl := HF8.out.lt hb
        rcases hb with hb | hb
        · exact (hG0 b hb).elim .inl (fun h => .inr ⟨h, hbl⟩)
        · exact .inr ⟨by have := hb.1; omega, hbl⟩
      · rcases hb with hb | hb
        · exact Nat.lt_of_lt_of_le (hF.lt hb) HC08.out.size
        · exact hb.2
    · have hlt' : ¬ (rc.items.length : Int) < (mn : Int) := by omega
      have HOK := Lib.hid (hok _ _ _ hz4 hrc (by omega))
      go_wp2_with fail
      refine bodyPost_ret (v := .tuple #[.iface 26 (.agg #[.int .i64 y.1, .int .i64 y.2]), .bool true]) (by simp [results, Try.results127, go_sem]) rfl ?_
      have hcd := (Chg.refl (fun _ _ => False) w6).drew
      have f9 := HF7.out.chg hcd (fun _ _ _ h => h)
      refine ⟨_, some y, rfl, f9.mono (fun b hb => ?_) (fun b hb => ?_), HC06.out.drew, HH6.out.keep hcd, HOK.out⟩
      · have hbl := f9.lt hb
        exact (hG0 b hb).elim .inl (fun h => .inr ⟨h, hbl⟩)
      · rcases hb with hb | hb
        · exact Nat.lt_of_lt_of_le (hF.lt hb) HC06.out.drew.size
        · exact hb.2
end Go.Proofs.Ytcabnhpnkaielaa

namespace Go.Proofs.Ytcabnhpnkaielaa
set_option linter.unusedSimpArgs false
set_option linter.unusedVariables false
open Go.RowKit

variable {ord : List Int}

set_option maxRecDepth 100000 in
set_option maxHeartbeats 4000000 in
theorem delete_kid_max {k : Kc ord} {mn mx t n c : Nat} {pa : Addr} {j i : Nat} {r : NodeR (It ord)} {w : World} {F : Nat → Prop} {H : Nat → Option (NodeR (It ord))} {kl : List Nat} (hF : Fam (parM k) w F H) (ht : MapAt k mn mx w t) (htF : ∀ b, MOwn k t b → ¬ F b) (hn : H n = some r)
    (hpa : w.cell? pa = some (.pointer (some ⟨n, 0, none⟩))) (hlen : r.items.length ≤ 1000) (hil : r.items.length = j + 1) (hij : i = j + 1) (hk : r.kids = some (kl.map some)) (hc : kl[i]? = some c) (hcn : c ≠ n) (hc0 : 0 ≤ r.cnt ∧ r.cnt ≤ 100000000000000)
    (Z Z2 : (Nat → Option (NodeR (It ord))) → Option (It ord) → Prop)
    (hcall : ∀ w1 pa1, Chg (fun _ _ => False) w w1 → Fam (parM k) w1 F H → MapAt k mn mx w1 t → w1.cell? pa1 = some (.pointer (some ⟨c, 0, none⟩)) → Calls Try.prog 127 #[.pointer (some ⟨t, 0, none⟩), .pointer (some pa1), .bool true, .nilIface, .pointer none, .int .i64 0] w1 (DelPost k F none Z w1))
    (hZ : ∀ H' o, Z H' o → H' n = some r ∧ ∃ rc, H' c = some rc ∧ rc.items.length ≤ 1000)
    (hZ0 : ∀ H', ¬ Z H' none)
    (hok : ∀ H' y rc, Z H' (some y) → H' c = some rc → mn ≤ rc.items.length → Z2 (upd H' n ⟨r.cnt - 1, r.items, r.kids⟩) (some y))
    (hreb : ∀ H' y rc w1 F1, Z H' (some y) → H' c = some rc → rc.items.length < mn → Fam (parM k) w1 F1 (upd H' n ⟨r.cnt - 1, r.items, r.kids⟩) → MapAt k mn mx w1 t → (∀ b, MOwn k t b → ¬ F1 b) → Calls Try.prog 135 #[.pointer (some ⟨t, 0, none⟩), .pointer (some ⟨n, 0, none⟩), .int .i64 i] w1 (RebPost' k F1 (fun H'' => Z2 H'' (some y)) w1)) :
    Calls Try.prog 127 #[.pointer (some ⟨t, 0, none⟩), .pointer (some pa), .bool true, .nilIface, .pointer none, .int .i64 0] w (DelPost k F none Z2 w) := by
  obtain ⟨hv, hvn⟩ : ∃ hv : Option Nat, hv = none := ⟨_, rfl⟩
  have e : DelPost k F none Z2 w = DelPost k F hv Z2 w := by rw [hvn]
  rw [e]
  clear e
  have hh : HintO hv w := by rw [hvn]; exact HintO.none w
  have hvF : ∀ b, hv = some b → ¬ F b := fun b e => by rw [hvn] at e; cases e
  have hvt : ∀ b, hv = some b → ¬ MOwn k t b := fun b e => by rw [hvn] at e; cases e
  replace hvn := Lib.hid hvn
  have s2 : IntKind.i64.wrap ((j : Int) + 1) = (i : Int) := (by rw [IntWalk.i64_in _ (by omega)]; omega)
  have hkl0 := (List.getElem?_eq_some_iff.1 hc).1
  replace hij := Lib.hid hij
  obtain ⟨l0, hn0⟩ := hF.node hn
  have t0 := ht.c0
  have n0 := hn0.c0
  have hpk : (parM k).k = k.iso := rfl
  rw [hpk] at n0
  skip
  go_enter Try.func127, Try.ntmps127
  go_wp2_with fail
  refine (isoLoad_any t n k pa true _ hpa n0 t0).mono ?_
  rintro e w3 ⟨rfl, m, hw1⟩
  have hc1 : Chg (fun _ _ => False) w w3 := by rw [hw1]; exact (Chg.refl _ _).drewN _
  clear hw1
  have hna1 := hn0.chg hc1 (fun _ _ _ h => h)
  have ht1' := ht.chg hc1 (by simp)
  (have n2 := hna1.c2; have s1 : IntKind.i64.wrap ((r.items.length : Int) - 1) = (j : Int) := (by rw [IntWalk.i64_in _ (by omega)]; omega); replace hil := Lib.hid hil)
  clear t0 n0 hn0 hpa
  go_wp2_with fail
  clear n2 s1
  have hcw3 : Chg (fun b _ => hv = some b) w w3 := hc1.mono (fun _ _ _ h => h.elim)
  have hF3 := hF.chg hc1 (fun _ _ _ h => h)
  have htt3 := ht.chg hc1 (fun _ _ _ h => h)
  have hcn3 := hc1
  have e4 := htt3.c4
  clear ht1' hna1 hc1
  obtain ⟨l, hna, hbl, ho, cl⟩ := hF3.work hn
  have n3 := hna.c3s hk
  have hkl := (List.getElem?_eq_some_iff.1 hc).1
  have g1 := hna.cc hk
  rw [List.length_map] at g1
  have g2 := hna.kidc hk (j := i) (o := some c) (by simp [hc])
  have j0 : (0 : Int) ≤ (i : Int) := by omega
  have j1 : (i : Int) < (kl.length : Int) := by omega
  clear hna
  go_wp2_with (go_at_call 93; refine (leaf_any _ (some ⟨l.cc, 0, none⟩) _ n3).mono ?_; rintro e w' ⟨rfl, rfl⟩)
  refine wp_region_call (fun w' => w'.cell? ⟨t, 7, none⟩ = some .nilIface ∧ w'.cell? ⟨n, 3, none⟩ = some (.pointer (some ⟨l.cc, 0, none⟩)) ∧ w'.cell? ⟨l.cc, 0, none⟩ = some (.slice (some ⟨l.cb, l.co, none⟩) kl.length l.ck))
    13 [0, 1, 2, 3, 4, 5, 6, 7, 8, 9, 10, 11, 12] _ [14, 15, 16, 17, 18] (by kernel_rfl) (by kernel_rfl) (fun _ _ _ _ _ h => h) rfl rfl rfl ⟨e4, n3, g1⟩ ?_
  simp only [pickOps, List.filterMap_cons, List.filterMap_nil, List.getElem?_cons_zero, List.getElem?_cons_succ]
  refine wpSoft_step ?_ rfl ?_ ?_
  rotate_left
  · intro w' hS
    try obtain ⟨a1, a2, a3⟩ := hS
    go_simp
    try with_reducible rfl
  simp only [Act.put, List.setIfInBounds_toArray, List.set_cons_zero, List.set_cons_succ]
  refine wpSoft_step ?_ rfl ?_ ?_
  rotate_left
  · intro w' hS
    try obtain ⟨a1, a2, a3⟩ := hS
    go_simp
    try with_reducible rfl
  simp only [Act.put, List.setIfInBounds_toArray, List.set_cons_zero, List.set_cons_succ]
  refine wpSoft_step ?_ rfl ?_ ?_
  rotate_left
  · intro w' hS
    try obtain ⟨a1, a2, a3⟩ := hS
    go_simp
    try with_reducible rfl
  simp only [Act.put, List.setIfInBounds_toArray, List.set_cons_zero, List.set_cons_succ]
  refine wpSoft_step ?_ rfl ?_ ?_
  rotate_left
  · intro w' hS
    try obtain ⟨a1, a2, a3⟩ := hS
    go_simp
    try with_reducible rfl
  simp only [Act.put, List.setIfInBounds_toArray, List.set_cons_zero, List.set_cons_succ]
  refine wpSoft_step ?_ rfl ?_ ?_
  rotate_left
  · intro w' hS
    try obtain ⟨a1, a2, a3⟩ := hS
    go_simp
    try with_reducible rfl
  simp only [Act.put, List.setIfInBounds_toArray, List.set_cons_zero, List.set_cons_succ]
  refine wpSoft_step ?_ rfl ?_ ?_
  rotate_left
  · intro w' hS
    try obtain ⟨a1, a2, a3⟩ := hS
    go_simp
    try with_reducible rfl
  simp only [Act.put, List.setIfInBounds_toArray, List.set_cons_zero, List.set_cons_succ]
  refine wpSoft_step ?_ rfl ?_ ?_
  rotate_left
  · intro w' hS
    try obtain ⟨a1, a2, a3⟩ := hS
    go_simp
    try with_reducible rfl
  simp only [Act.put, List.setIfInBounds_toArray, List.set_cons_zero, List.set_cons_succ]
  refine wpSoft_step ?_ rfl ?_ ?_
  rotate_left
  · intro w' hS
    try obtain ⟨a1, a2, a3⟩ := hS
    go_simp
    try with_reducible rfl
  simp only [Act.put, List.setIfInBounds_toArray, List.set_cons_zero, List.set_cons_succ]
  refine wpSoft_step ?_ rfl ?_ ?_
  rotate_left
  · intro w' hS
    try obtain ⟨a1, a2, a3⟩ := hS
    go_simp
    try with_reducible rfl
  simp only [Act.put, List.setIfInBounds_toArray, List.set_cons_zero, List.set_cons_succ]
  refine wpSoft_step ?_ rfl ?_ ?_
  rotate_left
  · intro w' hS
    try obtain ⟨a1, a2, a3⟩ := hS
    go_simp
    try with_reducible rfl
  simp only [Act.put, List.setIfInBounds_toArray, List.set_cons_zero, List.set_cons_succ]
  refine wpSoft_step ?_ rfl ?_ ?_
  rotate_left
  · intro w' hS
    try obtain ⟨a1, a2, a3⟩ := hS
    go_simp
    try with_reducible rfl
  simp only [Act.put, List.setIfInBounds_toArray, List.set_cons_zero, List.set_cons_succ]
  refine wpSoft_step ?_ rfl ?_ ?_
  rotate_left
  · intro w' hS
    try obtain ⟨a1, a2, a3⟩ := hS
    go_simp
    try with_reducible rfl
  simp only [Act.put, List.setIfInBounds_toArray, List.set_cons_zero, List.set_cons_succ]
  refine wpSoft_step ?_ rfl ?_ ?_
  rotate_left
  · intro w' hS
    try obtain ⟨a1, a2, a3⟩ := hS
    go_simp
    try with_reducible rfl
  simp only [Act.put, List.setIfInBounds_toArray, List.set_cons_zero, List.set_cons_succ]
  refine wpSoft_nil ?_
  refine wp_hide (fun K hK => ?_)
  go_simp
  go_at_call 127
  refine (hcall _ _ hcn3.drew (hF3.chg (Chg.refl (fun _ _ => False) w3).drew (fun _ _ _ h => h)) (htt3.chg (Chg.refl (fun _ _ => False) w3).drew (fun _ _ _ h => h)) g2).mono ?_
  rintro e w4 ⟨H', o, rfl, hF4, hc4', _, hz4⟩
  have hc4 : Chg (fun b _ => F b ∨ hv = some b) w3 w4 := ((Chg.refl _ _).drew).trans (hc4'.mono (fun _ _ _ h => h.elim .inl (fun e => by cases e)))
  have hh4 : HintO hv w4 := by rw [hvn.out]; exact HintO.none w4
  clear hc4' n3 g1 g2 j0 j1 e4
  rcases o with _ | y
  · exact absurd hz4 (hZ0 H')
  unfold endV
  refine hK _ _ ?_
  clear hK K
  refine wpSoft_step ?_ rfl ?_ ?_
  rotate_left
  · intro w' hS
    try obtain ⟨a1⟩ := hS
    go_simp
    try with_reducible rfl
  simp only [Act.put, List.setIfInBounds_toArray, List.set_cons_zero, List.set_cons_succ]
  refine wpSoft_step ?_ rfl ?_ ?_
  rotate_left
  · intro w' hS
    try obtain ⟨a1⟩ := hS
    go_simp
    try with_reducible rfl
  simp only [Act.put, List.setIfInBounds_toArray, List.set_cons_zero, List.set_cons_succ]
  refine wpSoft_step ?_ rfl ?_ ?_
  rotate_left
  · intro w' hS
    try obtain ⟨a1⟩ := hS
    go_simp
    try with_reducible rfl
  simp only [Act.put, List.setIfInBounds_toArray, List.set_cons_zero, List.set_cons_succ]
  refine wpSoft_step ?_ rfl ?_ ?_
  rotate_left
  · intro w' hS
    try obtain ⟨a1⟩ := hS
    go_simp
    try with_reducible rfl
  simp only [Act.put, List.setIfInBounds_toArray, List.set_cons_zero, List.set_cons_succ]
  refine wpSoft_step ?_ rfl ?_ ?_
  rotate_left
  · intro w' hS
    try obtain ⟨a1⟩ := hS
    go_simp
    try with_reducible rfl
  simp only [Act.put, List.setIfInBounds_toArray, List.set_cons_zero, List.set_cons_succ]
  refine wpSoft_nil ?_
  have nF : ∀ b, w.heap.size ≤ b → ¬ F b := fun b hb h => Nat.lt_irrefl _ (Nat.lt_of_lt_of_le (hF.lt h) hb)
  have hsz3 := hcw3.size
  have hG0 : ∀ b, (grow F w3.drew w4) b → F b ∨ w.heap.size ≤ b := fun b h => by
    rcases h with h | h
    · exact .inl h
    · exact .inr (Nat.le_trans hsz3 h.1)
  have hc04 : Chg (fun b _ => F b ∨ hv = some b) w w4 := (hcw3.mono (fun _ _ _ h => .inr h)).trans (hc4)
  have ht4 := ht.chg hc04 (fun b _ hm e => by
    rcases e with e | e
    · exact htF b hm e
    · exact hvt b e hm)
  obtain ⟨hn4, rc, hrc, hrl⟩ := hZ _ _ hz4
  obtain ⟨l4, hna4, hb4, ho4, cl4⟩ := hF4.work hn4
  have C1 := hna4.c1
  have z1 := hna4.fz 1
  have s1 : IntKind.i64.wrap (r.cnt - 1) = r.cnt - 1 := IntWalk.i64_in _ (by omega)
  have r8 := (Run.start hna4).setCnt (r.cnt - 1)
  have HC04 := Lib.hid hc04
  have HH4 := Lib.hid hh4
  have HF4 := Lib.hid hF4
  clear hc04 hh4 ht4 hna4 hF4
  go_upto_region 30 with fail
  refine name_world (fun w6 => w6.heap.size = w4.heap.size ∧ Fam (parM k) w6 (grow (grow F w3.drew w4) w4 w6) (upd H' n ⟨r.cnt - 1, r.items, r.kids⟩) ∧ Chg (fun b _ => (grow F w3.drew w4) b) w4 w6) ⟨by simp, (cl4 _ _ _ r8).1, (cl4 _ _ _ r8).2⟩ ?_
  clear C1 z1 s1 r8 cl4 ho4 hb4
  rintro w6 ⟨hz6, hF6, hc6⟩
  have hc06 : Chg (fun b _ => F b ∨ hv = some b) w w6 := HC04.out.trans' hc6 (fun _ _ _ h => h) (fun b o hb h => (hG0 b h).elim .inl (fun h => by omega))
  have hh6 : HintO hv w6 := HH4.out.chg hc6 (fun b _ e h => (hG0 b h).elim (hvF b e) (fun h => by have := hh.lt e; omega))
  have ht6 := ht.chg hc06 (fun b _ hm e => by
    rcases e with e | e
    · exact htF b hm e
    · exact hvt b e hm)
  have hF7 : Fam (parM k) w6 (grow F w3.drew w4) (upd H' n ⟨r.cnt - 1, r.items, r.kids⟩) := hF6.mono' (fun b h => by rcases h with h | h; exact h; have h1 := h.1; have h2 := h.2; omega) HF4.out (by omega)
  obtain ⟨ln, hn6⟩ := hF7.node (upd_same _ _ _)
  obtain ⟨lc, hc6'⟩ := hF7.node ((upd_ne _ _ hcn).trans hrc)
  have n3 := hn6.c3s hk
  have g1 := hn6.cc hk
  rw [List.length_map] at g1
  have g2 := hn6.kidc hk (j := i) (o := some c) (by simp [hc])
  have d2 := hc6'.c2
  have e9 := ht6.c6
  have j0 : (0 : Int) ≤ (i : Int) := by omega
  have j1 : (i : Int) < (kl.length : Int) := by omega
  have HH6 := Lib.hid hh6
  have HC06 := Lib.hid hc06
  have HT6 := Lib.hid ht6
  have HF7 := Lib.hid hF7
  clear hh6 hc06 ht6 hF7 hF6 hn6 hc6' HF4 HC04 HH4 hc6
  refine wp_region_scr (fun w' => w'.cell? ⟨n, 3, none⟩ = some (.pointer (some ⟨ln.cc, 0, none⟩)) ∧ w'.cell? ⟨ln.cc, 0, none⟩ = some (.slice (some ⟨ln.cb, ln.co, none⟩) kl.length ln.ck) ∧ w'.cell? ⟨ln.cb, ln.co + i, none⟩ = some (.pointer (some ⟨c, 0, none⟩)) ∧ w'.cell? ⟨c, 2, none⟩ = some (.slice (some ⟨lc.ib, lc.io, none⟩) rc.items.length lc.ic) ∧ w'.cell? ⟨t, 9, none⟩ = some (.int .i64 mn)) (.soft 0 (.soft 1 (.soft 2 (.soft 3 (.soft 4 (.soft 5 (.soft 6 (.soft 7 (.soft 8 (.soft 9 (.soft 10 (.soft 11 (.soft 12 (.soft 13 (.soft 14 (.soft 15 (.soft 16 (.soft 17 .nil)))))))))))))))))) (by kernel_rfl) (by kernel_rfl) (fun _ _ _ _ _ h => h) ⟨n3, g1, g2, d2, e9⟩ ?_
  repeat
    first
    | (refine scr_soft (by rfl) ?_ ?_ ?_ ?_
       rotate_left
       · simp [Region.wanted, yielded]; done
       · intro w' hS
         try obtain ⟨a1, a2, a3, a4, a5⟩ := hS
         go_simp
         try with_reducible rfl
       simp only [Act.put, List.setIfInBounds_toArray, List.set_cons_zero, List.set_cons_succ])
    | (refine scr_skip (by rfl) ?_ ?_
       · simp [Region.wanted, yielded]; done
       simp only [Act.put, List.setIfInBounds_toArray, List.set_cons_zero, List.set_cons_succ])
  refine scr_nil ?_
  clear n3 g1 g2 d2 e9
  by_cases hlt : rc.items.length < mn
  · have hlt' : (rc.items.length : Int) < (mn : Int) := by omega
    have hGM : ∀ b, MOwn k t b → ¬ (grow F w3.drew w4) b := fun b hm h => (hG0 b h).elim (htF b hm) (fun h => by have := ht.lt hm; omega)
    have HRB := Lib.hid (hreb _ _ _ _ _ hz4 hrc hlt (HF7.out.chg ((Chg.refl (fun _ _ => False) w6).drew) (fun _ _ _ h => h)) (HT6.out.chg ((Chg.refl (fun _ _ => False) w6).drew) (fun _ _ _ h => h)) hGM)
    go_wp2_with fail
    refine HRB.out.mono ?_
    rintro e w8 ⟨rfl, H'', f8, g8, z8⟩
    have hszd6 : w6.drew.heap.size = w6.heap.size := rfl
    have hsz8 := g8.size
    have hsz6 := HC06.out.size
    have hc08 : Chg (fun b _ => F b ∨ hv = some b) w w8 := HC06.out.drew.trans' g8 (fun _ _ _ h => h) (fun b o hb h => (hG0 b h).elim .inl (fun h => by omega))
    have hh8 : HintO hv w8 := (HH6.out.keep ((Chg.refl (fun _ _ => False) w6).drew)).chg g8 (fun b _ e h => (hG0 b h).elim (hvF b e) (fun h => by have := hh.lt e; omega))
    have HF8 := Lib.hid f8
    have HC08 := Lib.hid hc08
    have HH8 := Lib.hid hh8
    have HZ8 := Lib.hid z8
    clear f8 g8 hc08 hh8 z8 HRB
    go_wp2_with fail
    refine bodyPost_ret (v := .tuple #[.iface 26 (.agg #[.int .i64 y.1, .int .i64 y.2]), .bool true]) (by simp [results, Try.results127, go_sem]) rfl ?_
    refine ⟨H'', some y, rfl, HF8.out.mono (fun b hb => ?_) (fun b hb => ?_), HC08.out, HH8.out, HZ8.out⟩
    · have hbl := HF8.out.lt hb
      rcases hb with hb | hb
      · exact (hG0 b hb).elim .inl (fun h => .inr ⟨h, hbl⟩)
      · exact .inr ⟨by have := hb.1; omega, hbl⟩
    · rcases hb with hb | hb
      · exact Nat.lt_of_lt_of_le (hF.lt hb) HC08.out.size
      · exact hb.2
  · have hlt' : ¬ (rc.items.length : Int) < (mn : Int) := by omega
    have HOK := Lib.hid (hok _ _ _ hz4 hrc (by omega))
    go_wp2_with fail
    refine bodyPost_ret (v := .tuple #[.iface 26 (.agg #[.int .i64 y.1, .int .i64 y.2]), .bool true]) (by simp [results, Try.results127, go_sem]) rfl ?_
    have hcd := (Chg.refl (fun _ _ => False) w6).drew
    have f9 := HF7.out.chg hcd (fun _ _ _ h => h)
    refine ⟨_, some y, rfl, f9.mono (fun b hb => ?_) (fun b hb => ?_), HC06.out.drew, HH6.out.keep hcd, HOK.out⟩
    · have hbl := f9.lt hb
      exact (hG0 b hb).elim .inl (fun h => .inr ⟨h, hbl⟩)
    · rcases hb with hb | hb
      · exact Nat.lt_of_lt_of_le (hF.lt hb) HC06.out.drew.size
      · exact hb.2
end Go.Proofs.Ytcabnhpnkaielaa

namespace Go.Proofs.Ytcabnhpnkaielaa
set_option linter.unusedSimpArgs false
set_option linter.unusedVariables false
open Go.RowKit

variable {ord : List Int}

set_option maxRecDepth 100000 in
set_option maxHeartbeats 8000000 in
theorem delete_kid_hit {k : Kc ord} {mn mx t n d c : Nat} {pa : Addr} {x y : It ord} {i : Nat} {r : NodeR (It ord)} {w : World} {F : Nat → Prop} {H : Nat → Option (NodeR (It ord))} {hv : Option Nat} {kl : List Nat} (hF : Fam (parM k) w F H) (ht : MapAt k mn mx w t) (htF : ∀ b, MOwn k t b → ¬ F b) (hn : H n = some r)
    (hpa : w.cell? pa = some (.pointer (some ⟨n, 0, none⟩))) (hs : Srt ltM r.items) (hlen : r.items.length ≤ 1000) (hk : r.kids = some (kl.map some)) (hc : kl[i]? = some c) (hcn : c ≠ n) (hy : HitAt ltM r.items x i y) (hc0 : 0 ≤ r.cnt ∧ r.cnt ≤ 100000000000000)
    (hh : HintO hv w) (hvF : ∀ b, hv = some b → ¬ F b) (hvt : ∀ b, hv = some b → ¬ MOwn k t b) (hd : d ≤ 1000000000000)
    (Z Z2 : (Nat → Option (NodeR (It ord))) → Option (It ord) → Prop)
    (hcall : ∀ w1 pa1, Chg (fun b _ => hv = some b) w w1 → Fam (parM k) w1 F H → MapAt k mn mx w1 t → w1.cell? pa1 = some (.pointer (some ⟨c, 0, none⟩)) → Calls Try.prog 127 #[.pointer (some ⟨t, 0, none⟩), .pointer (some pa1), .bool true, .nilIface, .pointer none, .int .i64 0] w1 (DelPost k F none Z w1))
    (hZ : ∀ H' o, Z H' o → H' n = some r ∧ ∃ rc, H' c = some rc ∧ rc.items.length ≤ 1000)
    (hZ0 : ∀ H', ¬ Z H' none)
    (hok : ∀ H' z rc, Z H' (some z) → H' c = some rc → mn ≤ rc.items.length → Z2 (upd (upd H' n ⟨r.cnt, r.items.set i z, r.kids⟩) n ⟨r.cnt - 1, r.items.set i z, r.kids⟩) (some y))
    (hreb : ∀ H' z rc w1 F1, Z H' (some z) → H' c = some rc → rc.items.length < mn → Fam (parM k) w1 F1 (upd (upd H' n ⟨r.cnt, r.items.set i z, r.kids⟩) n ⟨r.cnt - 1, r.items.set i z, r.kids⟩) → MapAt k mn mx w1 t → (∀ b, MOwn k t b → ¬ F1 b) → Calls Try.prog 135 #[.pointer (some ⟨t, 0, none⟩), .pointer (some ⟨n, 0, none⟩), .int .i64 i] w1 (RebPost' k F1 (fun H'' => Z2 H'' (some y)) w1)) :
    Calls Try.prog 127 #[.pointer (some ⟨t, 0, none⟩), .pointer (some pa), .bool false, aggM x, hintV hv, .int .i64 d] w (DelPost k F hv Z2 w) := by
  have hpos : 1 ≤ r.items.length := by have := (List.getElem?_eq_some_iff.1 hy.at_).1; omega
  obtain ⟨l0, hn0⟩ := hF.node hn
  have t0 := ht.c0
  have n0 := hn0.c0
  have hpk : (parM k).k = k.iso := rfl
  rw [hpk] at n0
  unfold aggM hintV
  go_enter Try.func127, Try.ntmps127
  go_wp2_with fail
  refine (isoLoad_any t n k pa true _ hpa n0 t0).mono ?_
  rintro e w1 ⟨rfl, m, hw1⟩
  have hc1 : Chg (fun _ _ => False) w w1 := by rw [hw1]; exact (Chg.refl _ _).drewN _
  clear hw1
  have hna1 := hn0.chg hc1 (fun _ _ _ h => h)
  have ht1' := ht.chg hc1 (by simp)
  skip
  clear t0 n0 hn0 hpa
  go_wp2_with fail
  skip
  refine (find_o hv t d x ht1' hna1 hs (by omega) hpos (hh.keep hc1) hd).mono ?_
  rintro e w3 ⟨i', f, rfl, hw3, hh3, hf⟩
  have hnv : ∀ b, w.heap.size ≤ b → ¬ hv = some b := fun b hb e => by have := hh.lt e; omega
  have hcw3 : Chg (fun b _ => hv = some b) w w3 := (hc1.mono (fun _ _ _ h => h.elim)).trans hw3
  have hF3 := hF.chg hcw3 (fun b _ hb e => hvF b e hb)
  have htt3 := ht.chg hcw3 (fun b _ hb e => hvt b e hb)
  clear hw3 hc1 ht1' hna1
  have hfi : f = true ∧ i = i' := by
    rcases hf with ⟨h1, y', h2⟩ | ⟨h1, h2⟩
    · exact ⟨h1, (hit_same h2 hy).symm⟩
    · exact absurd hy.n2 (by rw [h2.right i y (hit_le h2 hy) hy.at_]; simp)
  obtain ⟨rfl, rfl⟩ := hfi
  have hi := (List.getElem?_eq_some_iff.1 hy.at_).1
  have HI := Lib.hid hi
  have hyi := hy.at_
  have HYI := Lib.hid hyi
  obtain ⟨l0, hna0⟩ := hF3.node hn
  have n2 := hna0.c2
  have iv : w3.cell? ⟨l0.ib, l0.io + i, none⟩ = some (.iface 26 (.agg #[.int .i64 y.1, .int .i64 y.2])) := hna0.mval (j := i) hyi
  have i0 : (0 : Int) ≤ (i : Int) := by omega
  have i1 : (i : Int) < (r.items.length : Int) := by omega
  have e4 := htt3.c4
  clear hf hy hyi hna0
  obtain ⟨l, hna, hbl, ho, cl⟩ := hF3.work hn
  have n3 := hna.c3s hk
  have hkl := (List.getElem?_eq_some_iff.1 hc).1
  have g1 := hna.cc hk
  rw [List.length_map] at g1
  have g2 := hna.kidc hk (j := i) (o := some c) (by simp [hc])
  have j0 : (0 : Int) ≤ (i : Int) := by omega
  have j1 : (i : Int) < (kl.length : Int) := by omega
  clear hna
  go_wp2_with (go_at_call 93; refine (leaf_any _ (some ⟨l.cc, 0, none⟩) _ n3).mono ?_; rintro e w' ⟨rfl, rfl⟩)
  clear n2 iv i0 i1
  refine wp_region_call (fun w' => w'.cell? ⟨t, 7, none⟩ = some .nilIface ∧ w'.cell? ⟨n, 3, none⟩ = some (.pointer (some ⟨l.cc, 0, none⟩)) ∧ w'.cell? ⟨l.cc, 0, none⟩ = some (.slice (some ⟨l.cb, l.co, none⟩) kl.length l.ck))
    13 [0, 1, 2, 3, 4, 5, 6, 7, 8, 9, 10, 11, 12] _ [14, 15, 16, 17, 18] (by kernel_rfl) (by kernel_rfl) (fun _ _ _ _ _ h => h) rfl rfl rfl ⟨e4, n3, g1⟩ ?_
  simp only [pickOps, List.filterMap_cons, List.filterMap_nil, List.getElem?_cons_zero, List.getElem?_cons_succ]
  refine wpSoft_step ?_ rfl ?_ ?_
  rotate_left
  · intro w' hS
    try obtain ⟨a1, a2, a3⟩ := hS
    go_simp
    try with_reducible rfl
  simp only [Act.put, List.setIfInBounds_toArray, List.set_cons_zero, List.set_cons_succ]
  refine wpSoft_step ?_ rfl ?_ ?_
  rotate_left
  · intro w' hS
    try obtain ⟨a1, a2, a3⟩ := hS
    go_simp
    try with_reducible rfl
  simp only [Act.put, List.setIfInBounds_toArray, List.set_cons_zero, List.set_cons_succ]
  refine wpSoft_step ?_ rfl ?_ ?_
  rotate_left
  · intro w' hS
    try obtain ⟨a1, a2, a3⟩ := hS
    go_simp
    try with_reducible rfl
  simp only [Act.put, List.setIfInBounds_toArray, List.set_cons_zero, List.set_cons_succ]
  refine wpSoft_step ?_ rfl ?_ ?_
  rotate_left
  · intro w' hS
    try obtain ⟨a1, a2, a3⟩ := hS
    go_simp
    try with_reducible rfl
  simp only [Act.put, List.setIfInBounds_toArray, List.set_cons_zero, List.set_cons_succ]
  refine wpSoft_step ?_ rfl ?_ ?_
  rotate_left
  · intro w' hS
    try obtain ⟨a1, a2, a3⟩ := hS
    go_simp
    try with_reducible rfl
  simp only [Act.put, List.setIfInBounds_toArray, List.set_cons_zero, List.set_cons_succ]
  refine wpSoft_step ?_ rfl ?_ ?_
  rotate_left
  · intro w' hS
    try obtain ⟨a1, a2, a3⟩ := hS
    go_simp
    try with_reducible rfl
  simp only [Act.put, List.setIfInBounds_toArray, List.set_cons_zero, List.set_cons_succ]
  refine wpSoft_step ?_ rfl ?_ ?_
  rotate_left
  · intro w' hS
    try obtain ⟨a1, a2, a3⟩ := hS
    go_simp
    try with_reducible rfl
  simp only [Act.put, List.setIfInBounds_toArray, List.set_cons_zero, List.set_cons_succ]
  refine wpSoft_step ?_ rfl ?_ ?_
  rotate_left
  · intro w' hS
    try obtain ⟨a1, a2, a3⟩ := hS
    go_simp
    try with_reducible rfl
  simp only [Act.put, List.setIfInBounds_toArray, List.set_cons_zero, List.set_cons_succ]
  refine wpSoft_step ?_ rfl ?_ ?_
  rotate_left
  · intro w' hS
    try obtain ⟨a1, a2, a3⟩ := hS
    go_simp
    try with_reducible rfl
  simp only [Act.put, List.setIfInBounds_toArray, List.set_cons_zero, List.set_cons_succ]
  refine wpSoft_step ?_ rfl ?_ ?_
  rotate_left
  · intro w' hS
    try obtain ⟨a1, a2, a3⟩ := hS
    go_simp
    try with_reducible rfl
  simp only [Act.put, List.setIfInBounds_toArray, List.set_cons_zero, List.set_cons_succ]
  refine wpSoft_step ?_ rfl ?_ ?_
  rotate_left
  · intro w' hS
    try obtain ⟨a1, a2, a3⟩ := hS
    go_simp
    try with_reducible rfl
  simp only [Act.put, List.setIfInBounds_toArray, List.set_cons_zero, List.set_cons_succ]
  refine wpSoft_step ?_ rfl ?_ ?_
  rotate_left
  · intro w' hS
    try obtain ⟨a1, a2, a3⟩ := hS
    go_simp
    try with_reducible rfl
  simp only [Act.put, List.setIfInBounds_toArray, List.set_cons_zero, List.set_cons_succ]
  refine wpSoft_step ?_ rfl ?_ ?_
  rotate_left
  · intro w' hS
    try obtain ⟨a1, a2, a3⟩ := hS
    go_simp
    try with_reducible rfl
  simp only [Act.put, List.setIfInBounds_toArray, List.set_cons_zero, List.set_cons_succ]
  refine wpSoft_nil ?_
  refine wp_hide (fun K hK => ?_)
  go_simp
  go_at_call 127
  refine (hcall _ _ hcw3.drew (hF3.chg (Chg.refl (fun _ _ => False) w3).drew (fun _ _ _ h => h)) (htt3.chg (Chg.refl (fun _ _ => False) w3).drew (fun _ _ _ h => h)) g2).mono ?_
  rintro e w4 ⟨H', o, rfl, hF4, hc4', _, hz4⟩
  have hc4 : Chg (fun b _ => F b ∨ hv = some b) w3 w4 := ((Chg.refl _ _).drew).trans (hc4'.mono (fun _ _ _ h => h.elim .inl (fun e => by cases e)))
  have hh4 : HintO hv w4 := hh3.chg (((Chg.refl (fun _ _ => False) w3).drew.mono (B := fun b _ => F b ∨ (none : Option Nat) = some b) (fun _ _ _ h => h.elim)).trans hc4') (fun b _ e h => h.elim (hvF b e) (fun e => by cases e))
  clear hc4' n3 g1 g2 j0 j1 e4
  rcases o with _ | z
  · exact absurd hz4 (hZ0 H')
  unfold endV
  refine hK _ _ ?_
  clear hK K
  refine wpSoft_step ?_ rfl ?_ ?_
  rotate_left
  · intro w' hS
    try obtain ⟨a1⟩ := hS
    go_simp
    try with_reducible rfl
  simp only [Act.put, List.setIfInBounds_toArray, List.set_cons_zero, List.set_cons_succ]
  refine wpSoft_step ?_ rfl ?_ ?_
  rotate_left
  · intro w' hS
    try obtain ⟨a1⟩ := hS
    go_simp
    try with_reducible rfl
  simp only [Act.put, List.setIfInBounds_toArray, List.set_cons_zero, List.set_cons_succ]
  refine wpSoft_step ?_ rfl ?_ ?_
  rotate_left
  · intro w' hS
    try obtain ⟨a1⟩ := hS
    go_simp
    try with_reducible rfl
  simp only [Act.put, List.setIfInBounds_toArray, List.set_cons_zero, List.set_cons_succ]
  refine wpSoft_step ?_ rfl ?_ ?_
  rotate_left
  · intro w' hS
    try obtain ⟨a1⟩ := hS
    go_simp
    try with_reducible rfl
  simp only [Act.put, List.setIfInBounds_toArray, List.set_cons_zero, List.set_cons_succ]
  refine wpSoft_step ?_ rfl ?_ ?_
  rotate_left
  · intro w' hS
    try obtain ⟨a1⟩ := hS
    go_simp
    try with_reducible rfl
  simp only [Act.put, List.setIfInBounds_toArray, List.set_cons_zero, List.set_cons_succ]
  refine wpSoft_nil ?_
  have nF : ∀ b, w.heap.size ≤ b → ¬ F b := fun b hb h => Nat.lt_irrefl _ (Nat.lt_of_lt_of_le (hF.lt h) hb)
  have hsz3 := hcw3.size
  have hG0 : ∀ b, (grow F w3.drew w4) b → F b ∨ w.heap.size ≤ b := fun b h => by
    rcases h with h | h
    · exact .inl h
    · exact .inr (Nat.le_trans hsz3 h.1)
  have hc04 : Chg (fun b _ => F b ∨ hv = some b) w w4 := (hcw3.mono (fun _ _ _ h => .inr h)).trans (hc4)
  have ht4 := ht.chg hc04 (fun b _ hm e => by
    rcases e with e | e
    · exact htF b hm e
    · exact hvt b e hm)
  obtain ⟨hn0, rc0, hrc0, hrl0⟩ := hZ _ _ hz4
  obtain ⟨l5, hna5, hbk5, ho5, cl5⟩ := hF4.work hn0
  have n2 := hna5.c2
  have z0 := hna5.ifz (l5.io + i)
  have iv : w4.cell? ⟨l5.ib, l5.io + i, none⟩ = some (.iface 26 (.agg #[.int .i64 y.1, .int .i64 y.2])) := hna5.mval (j := i) HYI.out
  have hit : i < r.items.length := HI.out
  have k0 : (0 : Int) ≤ (i : Int) := by omega
  have k1 : (i : Int) < (r.items.length : Int) := by omega
  have r8 := (Run.start hna5).setItemM i z hit
  have HR8 := Lib.hid r8
  have HCL5 := Lib.hid cl5
  have HC4 := Lib.hid hc04
  have HH4 := Lib.hid hh4
  have HF4 := Lib.hid hF4
  clear hna5 r8 cl5 ho5 hbk5 hc04 hh4 hF4 ht4 hc4
  go_upto_region 29 with fail
  refine name_world (fun w5 => w5.heap.size = w4.heap.size ∧ Fam (parM k) w5 (grow (grow F w3.drew w4) w4 w5) (upd H' n ⟨r.cnt, r.items.set i z, r.kids⟩) ∧ Chg (fun b _ => grow F w3.drew w4 b) w4 w5) ⟨by simp, (HCL5.out _ _ _ HR8.out).1, (HCL5.out _ _ _ HR8.out).2⟩ ?_
  clear n2 z0 k0 k1 iv HR8 HCL5
  rintro w5 ⟨hz5, hF5', hc5⟩
  have hF4 : Fam (parM k) w5 (grow F w3.drew w4) (upd H' n ⟨r.cnt, r.items.set i z, r.kids⟩) := hF5'.mono' (fun b h => by rcases h with h | h; exact h; have h1 := h.1; have h2 := h.2; omega) HF4.out (by omega)
  have hc04 : Chg (fun b _ => F b ∨ hv = some b) w w5 := HC4.out.trans' hc5 (fun _ _ _ h => h) (fun b o hb h => (hG0 b h).elim .inl (fun h => by omega))
  have hh4 : HintO hv w5 := HH4.out.chg hc5 (fun b _ e h => (hG0 b h).elim (hvF b e) (fun h => by have := hh.lt e; omega))
  have ht4 := ht.chg hc04 (fun b _ hm e => by
    rcases e with e | e
    · exact htF b hm e
    · exact hvt b e hm)
  clear hc5 hF5' HC4 HH4 HF4
  obtain ⟨hn4, rc, hrc, hrl⟩ := (show (upd H' n ⟨r.cnt, r.items.set i z, r.kids⟩) n = some ⟨r.cnt, r.items.set i z, r.kids⟩ ∧ ∃ rc, (upd H' n ⟨r.cnt, r.items.set i z, r.kids⟩) c = some rc ∧ rc.items.length ≤ 1000 from ⟨upd_same _ _ _, rc0, (upd_ne _ _ hcn).trans hrc0, hrl0⟩)
  obtain ⟨l4, hna4, hb4, ho4, cl4⟩ := hF4.work hn4
  have C1 := hna4.c1
  have z1 := hna4.fz 1
  have s1 : IntKind.i64.wrap (r.cnt - 1) = r.cnt - 1 := IntWalk.i64_in _ (by omega)
  have r8 := (Run.start hna4).setCnt (r.cnt - 1)
  have HC04 := Lib.hid hc04
  have HH4 := Lib.hid hh4
  have HF4 := Lib.hid hF4
  clear hc04 hh4 ht4 hna4 hF4
  go_upto_region 30 with fail
  refine name_world (fun w6 => w6.heap.size = w5.heap.size ∧ Fam (parM k) w6 (grow (grow F w3.drew w4) w5 w6) (upd (upd H' n ⟨r.cnt, r.items.set i z, r.kids⟩) n ⟨r.cnt - 1, r.items.set i z, r.kids⟩) ∧ Chg (fun b _ => (grow F w3.drew w4) b) w5 w6) ⟨by simp, (cl4 _ _ _ r8).1, (cl4 _ _ _ r8).2⟩ ?_
  clear C1 z1 s1 r8 cl4 ho4 hb4
  rintro w6 ⟨hz6, hF6, hc6⟩
  have hc06 : Chg (fun b _ => F b ∨ hv = some b) w w6 := HC04.out.trans' hc6 (fun _ _ _ h => h) (fun b o hb h => (hG0 b h).elim .inl (fun h => by omega))
  have hh6 : HintO hv w6 := HH4.out.chg hc6 (fun b _ e h => (hG0 b h).elim (hvF b e) (fun h => by have := hh.lt e; omega))
  have ht6 := ht.chg hc06 (fun b _ hm e => by
    rcases e with e | e
    · exact htF b hm e
    · exact hvt b e hm)
  have hF7 : Fam (parM k) w6 (grow F w3.drew w4) (upd (upd H' n ⟨r.cnt, r.items.set i z, r.kids⟩) n ⟨r.cnt - 1, r.items.set i z, r.kids⟩) := hF6.mono' (fun b h => by rcases h with h | h; exact h; have h1 := h.1; have h2 := h.2; omega) HF4.out (by omega)
  obtain ⟨ln, hn6⟩ := hF7.node (upd_same _ _ _)
  obtain ⟨lc, hc6'⟩ := hF7.node ((upd_ne _ _ hcn).trans hrc)
  have n3 := hn6.c3s hk
  have g1 := hn6.cc hk
  rw [List.length_map] at g1
  have g2 := hn6.kidc hk (j := i) (o := some c) (by simp [hc])
  have d2 := hc6'.c2
  have e9 := ht6.c6
  have j0 : (0 : Int) ≤ (i : Int) := by omega
  have j1 : (i : Int) < (kl.length : Int) := by omega
  have HH6 := Lib.hid hh6
  have HC06 := Lib.hid hc06
  have HT6 := Lib.hid ht6
  have HF7 := Lib.hid hF7
  clear hh6 hc06 ht6 hF7 hF6 hn6 hc6' HF4 HC04 HH4 hc6
  refine wp_region_scr (fun w' => w'.cell? ⟨n, 3, none⟩ = some (.pointer (some ⟨ln.cc, 0, none⟩)) ∧ w'.cell? ⟨ln.cc, 0, none⟩ = some (.slice (some ⟨ln.cb, ln.co, none⟩) kl.length ln.ck) ∧ w'.cell? ⟨ln.cb, ln.co + i, none⟩ = some (.pointer (some ⟨c, 0, none⟩)) ∧ w'.cell? ⟨c, 2, none⟩ = some (.slice (some ⟨lc.ib, lc.io, none⟩) rc.items.length lc.ic) ∧ w'.cell? ⟨t, 9, none⟩ = some (.int .i64 mn)) (.soft 0 (.soft 1 (.soft 2 (.soft 3 (.soft 4 (.soft 5 (.soft 6 (.soft 7 (.soft 8 (.soft 9 (.soft 10 (.soft 11 (.soft 12 (.soft 13 (.soft 14 (.soft 15 (.soft 16 (.soft 17 .nil)))))))))))))))))) (by kernel_rfl) (by kernel_rfl) (fun _ _ _ _ _ h => h) ⟨n3, g1, g2, d2, e9⟩ ?_
  repeat
    first
    | (refine scr_soft (by rfl) ?_ ?_ ?_ ?_
       rotate_left
       · simp [Region.wanted, yielded]; done
       · intro w' hS
         try obtain ⟨a1, a2, a3, a4, a5⟩ := hS
         go_simp
         try with_reducible rfl
       simp only [Act.put, List.setIfInBounds_toArray, List.set_cons_zero, List.set_cons_succ])
    | (refine scr_skip (by rfl) ?_ ?_
       · simp [Region.wanted, yielded]; done
       simp only [Act.put, List.setIfInBounds_toArray, List.set_cons_zero, List.set_cons_succ])
  refine scr_nil ?_
  clear n3 g1 g2 d2 e9
  by_cases hlt : rc.items.length < mn
  · have hlt' : (rc.items.length : Int) < (mn : Int) := by omega
    have hGM : ∀ b, MOwn k t b → ¬ (grow F w3.drew w4) b := fun b hm h => (hG0 b h).elim (htF b hm) (fun h => by have := ht.lt hm; omega)
    have HRB := Lib.hid (hreb _ _ _ _ _ hz4 ((upd_ne _ _ hcn).symm.trans hrc) hlt (HF7.out.chg ((Chg.refl (fun _ _ => False) w6).drew) (fun _ _ _ h => h)) (HT6.out.chg ((Chg.refl (fun _ _ => False) w6).drew) (fun _ _ _ h => h)) hGM)
    go_wp2_with fail
    refine HRB.out.mono ?_
    rintro e w8 ⟨rfl, H'', f8, g8, z8⟩
    have hszd6 : w6.drew.heap.size = w6.heap.size := rfl
    have hsz8 := g8.size
    have hsz6 := HC06.out.size
    have hc08 : Chg (fun b _ => F b ∨ hv = some b) w w8 := HC06.out.drew.trans' g8 (fun _ _ _ h => h) (fun b o hb h => (hG0 b h).elim .inl (fun h => by omega))
    have hh8 : HintO hv w8 := (HH6.out.keep ((Chg.refl (fun _ _ => False) w6).drew)).chg g8 (fun b _ e h => (hG0 b h).elim (hvF b e) (fun h => by have := hh.lt e; omega))
    have HF8 := Lib.hid f8
    have HC08 := Lib.hid hc08
    have HH8 := Lib.hid hh8
    have HZ8 := Lib.hid z8
    clear f8 g8 hc08 hh8 z8 HRB
    go_wp2_with fail
    refine bodyPost_ret (v := .tuple #[.iface 26 (.agg #[.int .i64 y.1, .int .i64 y.2]), .bool true]) (by simp [results, Try.results127, go_sem]) rfl ?_
    refine ⟨H'', some y, rfl, HF8.out.mono (fun b hb => ?_) (fun b hb => ?_), HC08.out, HH8.out, HZ8.out⟩
    · have hbl := HF8.out.lt hb
      rcases hb with hb | hb
      · exact (hG0 b hb).elim .inl (fun h => .inr ⟨h, hbl⟩)
      · exact .inr ⟨by have := hb.1; omega, hbl⟩
    · rcases hb with hb | hb
      · exact Nat.lt_of_lt_of_le (hF.lt hb) HC08.out.size
      · exact hb.2
  · have hlt' : ¬ (rc.items.length : Int) < (mn : Int) := by omega
    have HOK := Lib.hid (hok _ _ _ hz4 ((upd_ne _ _ hcn).symm.trans hrc) (by omega))
    go_wp2_with fail
    refine bodyPost_ret (v := .tuple #[.iface 26 (.agg #[.int .i64 y.1, .int .i64 y.2]), .bool true]) (by simp [results, Try.results127, go_sem]) rfl ?_
    have hcd := (Chg.refl (fun _ _ => False) w6).drew
    have f9 := HF7.out.chg hcd (fun _ _ _ h => h)
    refine ⟨_, some y, rfl, f9.mono (fun b hb => ?_) (fun b hb => ?_), HC06.out.drew, HH6.out.keep hcd, HOK.out⟩
    · have hbl := f9.lt hb
      exact (hG0 b hb).elim .inl (fun h => .inr ⟨h, hbl⟩)
    · rcases hb with hb | hb
      · exact Nat.lt_of_lt_of_le (hF.lt hb) HC06.out.drew.size
      · exact hb.2
end Go.Proofs.Ytcabnhpnkaielaa
