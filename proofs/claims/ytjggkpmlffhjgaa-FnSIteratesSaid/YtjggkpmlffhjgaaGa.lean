/- getAt of sets. -/
import Derived.Deep.Cut
import Derived.Deep.CutRange
import Derived.Test.YtjggkpmlffhjgaaA2
import Derived.Test.YtjggkpmlffhjgaaSu
import Derived.Test.YtjggkpmlffhjgaaA10
import Derived.Test.YtjggkpmlffhjgaaKn
namespace Go.Proofs.Ytjggkpmlffhjgaa
set_option linter.unusedSimpArgs false
set_option linter.unusedVariables false
open Go.RowKit

theorem kid_lt {α : Type} {h : Nat} {T : BT α (h + 1)} {mn mx : Nat} {c : BT α h} (hs : Sh mn mx (h + 1) T) (hc : c ∈ T.2.2) (h1 : 1 ≤ T.2.1.length) : (toL h c).length < (toL (h + 1) T).length := by
  have e := inter_len T.2.1 (T.2.2.map (toL h)) (by simpa using hs.2.1)
  obtain ⟨A, B, hAB⟩ := List.append_of_mem hc
  have e2 : (toL (h + 1) T).length = T.2.1.length + ((T.2.2.map (toL h)).map (·.length)).sum := e
  rw [e2, hAB]
  simp only [List.map_append, List.map_cons, List.sum_append, List.sum_cons]
  omega

def headS (o : Option (Int × Int)) : Value := match o with
  | some x => .tuple #[.int .i64 x.1, .agg #[], .bool true]
  | none => .tuple #[.int .i64 0, .agg #[], .bool false]

theorem pre_step_len {α : Type} {xs : List α} {ts : List (List α)} {i : Nat} {x : α} {t : List α} (hx : xs[i]? = some x) (ht : ts[i]? = some t) : (pre (xs.take (i + 1)) (ts.take (i + 1))).length = (pre (xs.take i) (ts.take i)).length + (t.length + 1) := by
  rw [pre_step hx ht]; simp

/-- At an index: in the child, .. -/
theorem at_kid {α : Type} {xs : List α} {ts : List (List α)} {j q : Nat} {t : List α} (h : ts.length = xs.length + 1) (ht : ts[j]? = some t) (hq : q < t.length) : (inter xs ts)[(pre (xs.take j) (ts.take j)).length + q]? = t[q]? := by
  rw [inter_split j xs ts t h ht, List.append_assoc, List.getElem?_append_right (by omega), List.getElem?_append_left (by omega)]
  rw [Nat.add_sub_cancel_left]

/-- .. or the item behind it. -/
theorem at_item {α : Type} {xs : List α} {ts : List (List α)} {j : Nat} {x : α} {t : List α} (h : ts.length = xs.length + 1) (hx : xs[j]? = some x) (ht : ts[j]? = some t) : (inter xs ts)[(pre (xs.take j) (ts.take j)).length + t.length]? = some x := by
  have hj := (List.getElem?_eq_some_iff.1 hx).1
  have e : inter xs ts = (pre (xs.take (j + 1)) (ts.take (j + 1))) ++ (inter (xs.drop (j + 1)) (ts.drop (j + 1))) := by
    have hp : ∀ (xs : List α) (ts : List (List α)) (n : Nat), ts.length = xs.length + 1 → n ≤ xs.length → inter xs ts = pre (xs.take n) (ts.take n) ++ inter (xs.drop n) (ts.drop n) := by
      intro xs ts n
      induction n generalizing xs ts with
      | zero => intro _ _; simp [pre]
      | succ n ih =>
        intro h1 h2
        match xs, ts, h1, h2 with
        | x :: xs, t :: ts, h1, h2 =>
          simp only [List.take_succ_cons, List.drop_succ_cons, pre, inter, List.append_assoc, List.cons_append]
          rw [ih xs ts (by simpa using h1) (by simpa using h2)]
    exact hp xs ts (j + 1) h (by omega)
  rw [e, pre_step hx ht, List.getElem?_append_left (by simp), List.getElem?_append_right (by omega)]
  simp

set_option maxRecDepth 100000 in
set_option maxHeartbeats 2000000 in
theorem getAt_in {mn mx : Nat} {w : World} {F : Nat → Prop} {t : Nat} {l : List (Int × Int)} (mt : Bool) (i : Nat) (y : Int × Int) (hM : MapIn mn mx w F t l) (hmn : 1 ≤ mn) (hi : l[i]? = some y) (hlen : l.length ≤ 1000000000000) :
    Calls Try.prog 168 #[.pointer (some ⟨t, 0, none⟩), .int .i64 i, .bool mt] w fun e w' => e = .returned (headS (some y)) ∧ Chg (fun _ _ => False) w w' := by
  go_enter Try.func168, Try.ntmps168
  go_upto_region 1 with fail
  refine name_world (fun w0 => Chg (fun _ _ => False) w w0) ((Chg.refl _ _).alloc _) ?_
  intro w0 hc0
  replace hM := hM.chg hc0
  rcases hM with ⟨rfl, _, hB⟩ | ⟨H, h, T, hI, hB, rfl, h1⟩
  · simp at hi
  · have c2 : w0.cell? ⟨t, 2, none⟩ = some (.pointer (some ⟨rid T, 0, none⟩)) := hB.c2
    have c0 := hB.at_.c0
    have c3 := hB.c3
    obtain ⟨l0, hn0⟩ := hI.fam.node hI.isT.root
    have n0 := hn0.c0
    have hil := (List.getElem?_eq_some_iff.1 hi).1
    have i0 : ¬ (i : Int) < 0 := by omega
    have i1 : ¬ ((toL h T).length : Int) ≤ (i : Int) := by omega
    have HIY := Lib.hid hi
    clear hi
    go_wp2_with fail
    refine (isoLoad_any t (rid T) 0 _ _ _ c2 n0 c0).mono ?_
    rintro e w1 ⟨rfl, m, hw1⟩
    have hc1 : Chg (fun _ _ => False) w0 w1 := by rw [hw1]; exact (Chg.refl _ _).drewN _
    clear hw1 i0 i1
    go_wp2_with fail
    go_loopw [1, 9, 10] (fun iv nv _ wr => ∃ (h' : Nat) (T' : BT (Int × Int) h') (q : Nat), iv = .int .i64 q ∧ nv = .pointer (some ⟨rid T', 0, none⟩) ∧ IsT H h' T' ∧ Sh mn mx h' T' ∧ 1 ≤ (its T').length ∧ (toL h' T').length ≤ 1000000000000 ∧ (toL h' T')[q]? = some y ∧ Chg (fun _ _ => False) w0 wr) (fun _ nv _ _ => mOf H nv)
    case atStart => exact ⟨h, T, i, rfl, rfl, hI.isT, hI.sh, h1, hlen, HIY.out, hc1⟩
    case round =>
      obtain ⟨h', T', q, rfl, rfl, hT, hs, hit, hll, hq, hc⟩ := hrel
      obtain ⟨l2, hn2⟩ := (hI.fam.chg hc (fun _ _ _ h => h)).node hT.root
      have hql := (List.getElem?_eq_some_iff.1 hq).1
      have HQ := Lib.hid hq
      have cw0 := hc.cell (fun h => h) c0
      have q0 : (0 : Int) ≤ (q : Int) := by omega
      clear hq
      rcases h' with _ | h'
      · have n3 := hn2.c3n rfl
        have n2 : wr.cell? ⟨rid T', 2, none⟩ = some (.slice (some ⟨l2.ib, l2.io, none⟩) T'.2.length l2.ic) := hn2.c2
        have hq2 : T'.2[q]? = some y := HQ.out
        have iv := hn2.mval (j := q) hq2
        have ik := hn2.mkey (j := q) hq2
        have q1 : (q : Int) < (T'.2.length : Int) := by have := (List.getElem?_eq_some_iff.1 hq2).1; omega
        clear hq2
        go_wp2_with (go_at_call 162; refine (leaf_any _ none _ ?_).mono ?_; (focus go_simp); rintro e w' ⟨rfl, rfl⟩)
        have hnd := hn2.chg (Chg.refl (fun _ _ => False) wr).drew (fun _ _ _ h => h)
        refine wp_region_scr (fun w' => w'.cell? ⟨rid T', 2, none⟩ = some (.slice (some ⟨l2.ib, l2.io, none⟩) T'.2.length l2.ic) ∧ w'.cell? ⟨l2.ib, l2.io + q, none⟩ = some (.int .i64 y.1) ∧ (partAt ⟨l2.ib, l2.io + q, none⟩ 0 0).run Try.prog w' = .ok ⟨l2.ib, l2.io + q, none⟩ w') (.soft 0 (.soft 1 (.soft 2 (.soft 3 (.soft 4 (.soft 5 (.soft 6 (.soft 7 (.soft 8 (.soft 9 (.soft 10 (.soft 11 (.soft 12 (.soft 13 (.soft 14 (.soft 15 (.soft 16 (.hard 17 (.soft 18 .nil))))))))))))))))))) (by kernel_rfl) (by kernel_rfl) (fun _ _ _ _ _ h => h) ⟨n2, ik, hnd.pz _⟩ ?_
        repeat
          first
          | (refine scr_soft (by rfl) ?_ ?_ ?_ ?_
             rotate_left
             · simp [Region.wanted, yielded]; done
             · intro w' hS
               try obtain ⟨a1, a2, a3⟩ := hS
               go_simp
               try with_reducible rfl
             simp only [Act.put, List.setIfInBounds_toArray, List.set_cons_zero, List.set_cons_succ])
          | (refine scr_skip (by rfl) ?_ ?_
             · simp [Region.wanted, yielded]; done
             simp only [Act.put, List.setIfInBounds_toArray, List.set_cons_zero, List.set_cons_succ])
        refine scr_hard (by rfl) (by simp [Region.wanted, yielded]) (fun K hK => ?_)
        go_simp
        refine hK _ _ ⟨n2, ik, hnd.pz _⟩ ?_
        clear hK K
        repeat
          first
          | (refine scr_soft (by rfl) ?_ ?_ ?_ ?_
             rotate_left
             · simp [Region.wanted, yielded]; done
             · intro w' hS
               try obtain ⟨a1, a2, a3⟩ := hS
               go_simp
               try with_reducible rfl
             simp only [Act.put, List.setIfInBounds_toArray, List.set_cons_zero, List.set_cons_succ])
          | (refine scr_skip (by rfl) ?_ ?_
             · simp [Region.wanted, yielded]; done
             simp only [Act.put, List.setIfInBounds_toArray, List.set_cons_zero, List.set_cons_succ])
        refine scr_nil ?_
        go_wp2_with fail
        refine bodyPost_ret (v := .tuple #[.int .i64 y.1, .agg #[], .bool true]) (by simp [results, Try.results168, go_sem]) rfl ?_
        exact ⟨rfl, hc0.trans hc.drew⟩
      · have hk : (recOf (h' + 1) T').kids = some (T'.2.2.map fun c => some (rid c)) := rfl
        have n3 := hn2.c3s hk
        have nc := hn2.cc hk
        rw [List.length_map] at nc
        have n2 : wr.cell? ⟨rid T', 2, none⟩ = some (.slice (some ⟨l2.ib, l2.io, none⟩) T'.2.1.length l2.ic) := hn2.c2
        have hkl : T'.2.2.length = T'.2.1.length + 1 := hs.2.1
        have hml : (T'.2.2.map (toL h')).length = T'.2.1.length + 1 := by simpa using hkl
        have hql' : q < (inter T'.2.1 (T'.2.2.map (toL h'))).length := hql
        have hq2 : (inter T'.2.1 (T'.2.2.map (toL h')))[q]? = some y := HQ.out
        have hll2 : (inter T'.2.1 (T'.2.2.map (toL h'))).length ≤ 1000000000000 := hll
        have HKL := Lib.hid hkl
        have HML := Lib.hid hml
        have HQ2 := Lib.hid hq2
        have hits : T'.2.1.length ≤ 1000000000000 := Nat.le_trans (its_sub hs).length_le hll
        clear hkl hml hq2 hql
        go_wp2_with (go_at_call 162; refine (leaf_any _ (some ⟨l2.cc, 0, none⟩) _ ?_).mono ?_; (focus go_simp); rintro e w' ⟨rfl, rfl⟩)
        go_loop [1, 10] (fun iv jv => ∃ (j p : Nat), jv = .int .i64 j ∧ iv = .int .i64 p ∧ j ≤ T'.2.1.length ∧ (pre (T'.2.1.take j) ((T'.2.2.map (toL h')).take j)).length + p = q) (fun _ jv => T'.2.1.length - (intOf jv).toNat)
        case atStart => exact ⟨0, q, rfl, rfl, Nat.zero_le _, by simp [pre]⟩
        case round =>
          obtain ⟨j, p, rfl, rfl, hj, hp⟩ := hrel
          obtain ⟨c, hcj⟩ : ∃ c, T'.2.2[j]? = some c := ⟨_, List.getElem?_eq_getElem (by have := HKL.out; omega)⟩
          have hcm : c ∈ T'.2.2 := List.mem_of_getElem? hcj
          have hkc := (List.getElem?_eq_some_iff.1 hcj).1
          have htj : (T'.2.2.map (toL h'))[j]? = some (toL h' c) := by simp [hcj]
          have kc : wr.cell? ⟨l2.cb, l2.co + j, none⟩ = some (.pointer (some ⟨rid c, 0, none⟩)) := hn2.kidc hk (j := j) (o := some (rid c)) (by simp [hcj])
          obtain ⟨lc, hnc⟩ := (hI.fam.chg hc (fun _ _ _ h => h)).node (hT.kid hcm).root
          have nc0 := hnc.c0
          have nc1 := hnc.c1
          rw [recOf_cnt] at nc1
          have hpl := pre_len HML.out htj
          have hgt := kid_lt hs hcm hit
          have m1 := mOf_root hT
          have m2 := mOf_root (hT.kid hcm)
          have j0 : (0 : Int) ≤ (j : Int) := by omega
          have j1 : (j : Int) < (T'.2.2.length : Int) := by omega
          have p0 : (0 : Int) ≤ (p : Int) := by omega
          have hll3 : (toL h' c).length ≤ 1000000000000 := by omega
          have p1 : (p : Int) ≤ 1000000000000 := by omega
          have c1 : (0 : Int) ≤ ((toL h' c).length : Int) := by omega
          have c2' : ((toL h' c).length : Int) ≤ 1000000000000 := by omega
          have HP := Lib.hid hp
          by_cases hlt : j < T'.2.1.length
          · obtain ⟨x, hx⟩ : ∃ x, T'.2.1[j]? = some x := ⟨_, List.getElem?_eq_getElem hlt⟩
            have jl : (j : Int) < (T'.2.1.length : Int) := by omega
            rcases Nat.lt_trichotomy p (toL h' c).length with hpm | hpm | hpm
            · have hat := at_kid HML.out htj hpm
              rw [hp, HQ2.out] at hat
              have HAT := Lib.hid hat.symm
              have t1 : (p : Int) < ((toL h' c).length : Int) := by omega
              clear hp htj hx hcj hat hpl
              go_wp2_with fail
              refine (isoLoad_any t (rid c) 0 _ _ _ kc nc0 cw0).mono ?_
              rintro e w4 ⟨rfl, m4, hw4⟩
              have hc4 : Chg (fun _ _ => False) wr w4 := by rw [hw4]; exact (Chg.refl _ _).drewN _
              clear hw4
              go_wp2_with fail
              go_roundw
              case rel => exact ⟨h', c, p, rfl, rfl, hT.kid hcm, (hs.2.2 c hcm).2, Nat.le_trans hmn (hs.2.2 c hcm).1, hll3, HAT.out, hc.trans hc4⟩
              case measure => rw [m1, m2]; exact hgt
            · have hat := at_item HML.out hx htj
              rw [← hpm, hp, HQ2.out] at hat
              obtain rfl : y = x := Option.some.inj hat
              have t1 : ¬ (p : Int) < ((toL h' c).length : Int) := by omega
              have t2 : ((p : Int) == ((toL h' c).length : Int)) = true := by simp; omega
              have iv := hn2.mval (j := j) hx
              have ik := hn2.mkey (j := j) hx
              clear hp htj hx hcj hat hpl hpm
              go_wp2_with fail
              have hnd := hn2.chg (Chg.refl (fun _ _ => False) wr).drew (fun _ _ _ h => h)
              refine wp_region_scr (fun w' => w'.cell? ⟨rid T', 2, none⟩ = some (.slice (some ⟨l2.ib, l2.io, none⟩) T'.2.1.length l2.ic) ∧ w'.cell? ⟨l2.ib, l2.io + j, none⟩ = some (.int .i64 y.1) ∧ (partAt ⟨l2.ib, l2.io + j, none⟩ 0 0).run Try.prog w' = .ok ⟨l2.ib, l2.io + j, none⟩ w') (.soft 0 (.soft 1 (.soft 2 (.soft 3 (.soft 4 (.soft 5 (.soft 6 (.soft 7 (.soft 8 (.soft 9 (.soft 10 (.soft 11 (.soft 12 (.soft 13 (.soft 14 (.soft 15 (.soft 16 (.hard 17 (.soft 18 .nil))))))))))))))))))) (by kernel_rfl) (by kernel_rfl) (fun _ _ _ _ _ h => h) ⟨n2, ik, hnd.pz _⟩ ?_
              repeat
                first
                | (refine scr_soft (by rfl) ?_ ?_ ?_ ?_
                   rotate_left
                   · simp [Region.wanted, yielded]; done
                   · intro w' hS
                     try obtain ⟨a1, a2, a3⟩ := hS
                     go_simp
                     try with_reducible rfl
                   simp only [Act.put, List.setIfInBounds_toArray, List.set_cons_zero, List.set_cons_succ])
                | (refine scr_skip (by rfl) ?_ ?_
                   · simp [Region.wanted, yielded]; done
                   simp only [Act.put, List.setIfInBounds_toArray, List.set_cons_zero, List.set_cons_succ])
              refine scr_hard (by rfl) (by simp [Region.wanted, yielded]) (fun K hK => ?_)
              go_simp
              refine hK _ _ ⟨n2, ik, hnd.pz _⟩ ?_
              clear hK K
              repeat
                first
                | (refine scr_soft (by rfl) ?_ ?_ ?_ ?_
                   rotate_left
                   · simp [Region.wanted, yielded]; done
                   · intro w' hS
                     try obtain ⟨a1, a2, a3⟩ := hS
                     go_simp
                     try with_reducible rfl
                   simp only [Act.put, List.setIfInBounds_toArray, List.set_cons_zero, List.set_cons_succ])
                | (refine scr_skip (by rfl) ?_ ?_
                   · simp [Region.wanted, yielded]; done
                   simp only [Act.put, List.setIfInBounds_toArray, List.set_cons_zero, List.set_cons_succ])
              refine scr_nil ?_
              go_wp2_with fail
              refine bodyPost_ret (v := .tuple #[.int .i64 y.1, .agg #[], .bool true]) (by simp [results, Try.results168, go_sem]) rfl ?_
              exact ⟨rfl, hc0.trans hc.drew⟩
            · have hst := pre_step_len hx htj
              have t1 : ¬ (p : Int) < ((toL h' c).length : Int) := by omega
              have t2 : ((p : Int) == ((toL h' c).length : Int)) = false := by simp; omega
              obtain ⟨p', hp'⟩ : ∃ p', p = p' + ((toL h' c).length + 1) := ⟨p - ((toL h' c).length + 1), by omega⟩
              have HP' := Lib.hid hp'
              have HST := Lib.hid hst
              clear hp'
              clear hp htj hx hcj hpl hst
              go_wp2_with fail
              go_round
              case rel => exact ⟨j + 1, p', by go_num, by have := HP'.out; congr 1; omega, by omega, by have := HP'.out; rw [HST.out, ← HP.out]; omega⟩
              case measure => simp [intOf]; omega
          · obtain rfl : j = T'.2.1.length := by omega
            have jl : ¬ ((T'.2.1.length : Nat) : Int) < (T'.2.1.length : Int) := by omega
            have hend := inter_end HML.out htj
            have hlen2 : (inter T'.2.1 (T'.2.2.map (toL h'))).length = (pre (T'.2.1.take T'.2.1.length) ((T'.2.2.map (toL h')).take T'.2.1.length)).length + (toL h' c).length := by rw [hend]; simp
            have hpm : p < (toL h' c).length := by omega
            have hat := at_kid HML.out htj hpm
            rw [hp, HQ2.out] at hat
            have HAT := Lib.hid hat.symm
            clear hp htj hcj hat hpl hend hlen2 jl
            go_wp2_with fail
            refine (isoLoad_any t (rid c) 0 _ _ _ kc nc0 cw0).mono ?_
            rintro e w4 ⟨rfl, m4, hw4⟩
            have hc4 : Chg (fun _ _ => False) wr w4 := by rw [hw4]; exact (Chg.refl _ _).drewN _
            clear hw4
            go_wp2_with fail
            go_roundw
            case rel => exact ⟨h', c, p, rfl, rfl, hT.kid hcm, (hs.2.2 c hcm).2, Nat.le_trans hmn (hs.2.2 c hcm).1, hll3, HAT.out, hc.trans hc4⟩
            case measure => rw [m1, m2]; exact hgt

set_option maxRecDepth 100000 in
theorem getAt_out {mn mx : Nat} {w : World} {F : Nat → Prop} {t : Nat} {l : List (Int × Int)} (mt : Bool) (i : Int) (hM : MapIn mn mx w F t l) (hi : i < 0 ∨ (l.length : Int) ≤ i) :
    Calls Try.prog 168 #[.pointer (some ⟨t, 0, none⟩), .int .i64 i, .bool mt] w fun e w' => e = .returned (headS none) ∧ Chg (fun _ _ => False) w w' := by
  go_enter Try.func168, Try.ntmps168
  go_upto_region 1 with fail
  refine name_world (fun w0 => Chg (fun _ _ => False) w w0) ((Chg.refl _ _).alloc _) ?_
  intro w0 hc0
  replace hM := hM.chg hc0
  rcases hM with ⟨rfl, _, hB⟩ | ⟨H, h, T, hI, hB, rfl, h1⟩
  · have c2 : w0.cell? ⟨t, 2, none⟩ = some (.pointer none) := hB.c2
    have c4 := hB.at_.c4
    have pz := (hB.chg (Chg.refl (fun _ _ => False) w0).drew (fun _ _ _ h => h)).at_.pz
    clear hi
    go_wp2_with fail
    refine wp_region_scr (fun w' => w'.cell? ⟨t, 4, none⟩ = some (.int .i64 0) ∧ (partAt ⟨t, 4, none⟩ 0 0).run Try.prog w' = .ok ⟨t, 4, none⟩ w') (.soft 0 (.soft 1 (.soft 2 (.soft 3 (.soft 4 (.soft 5 (.soft 6 (.soft 7 (.soft 8 (.soft 9 (.soft 10 (.hard 11 (.soft 12 .nil))))))))))))) (by kernel_rfl) (by kernel_rfl) (fun _ _ _ _ _ h => h) ⟨c4, pz⟩ ?_
    repeat
      first
      | (refine scr_soft (by rfl) ?_ ?_ ?_ ?_
         rotate_left
         · simp [Region.wanted, yielded]; done
         · intro w' hS
           try obtain ⟨a1, a2⟩ := hS
           go_simp
           try with_reducible rfl
         simp only [Act.put, List.setIfInBounds_toArray, List.set_cons_zero, List.set_cons_succ])
      | (refine scr_skip (by rfl) ?_ ?_
         · simp [Region.wanted, yielded]; done
         simp only [Act.put, List.setIfInBounds_toArray, List.set_cons_zero, List.set_cons_succ])
    refine scr_hard (by rfl) (by simp [Region.wanted, yielded]) (fun K hK => ?_)
    go_simp
    refine hK _ _ ⟨c4, pz⟩ ?_
    clear hK K
    repeat
      first
      | (refine scr_soft (by rfl) ?_ ?_ ?_ ?_
         rotate_left
         · simp [Region.wanted, yielded]; done
         · intro w' hS
           try obtain ⟨a1, a2⟩ := hS
           go_simp
           try with_reducible rfl
         simp only [Act.put, List.setIfInBounds_toArray, List.set_cons_zero, List.set_cons_succ])
      | (refine scr_skip (by rfl) ?_ ?_
         · simp [Region.wanted, yielded]; done
         simp only [Act.put, List.setIfInBounds_toArray, List.set_cons_zero, List.set_cons_succ])
    refine scr_nil ?_
    go_wp2_with fail
    refine bodyPost_ret (v := .tuple #[.int .i64 0, .agg #[], .bool false]) (by simp [results, Try.results168, go_sem]) rfl ?_
    exact ⟨rfl, hc0.drew⟩
  · have c2 : w0.cell? ⟨t, 2, none⟩ = some (.pointer (some ⟨rid T, 0, none⟩)) := hB.c2
    have c3 := hB.c3
    have c4 := hB.at_.c4
    have pz := (hB.chg (Chg.refl (fun _ _ => False) w0).drew (fun _ _ _ h => h)).at_.pz
    by_cases h0 : i < 0
    · clear hi
      go_wp2_with fail
      refine wp_region_scr (fun w' => w'.cell? ⟨t, 4, none⟩ = some (.int .i64 0) ∧ (partAt ⟨t, 4, none⟩ 0 0).run Try.prog w' = .ok ⟨t, 4, none⟩ w') (.soft 0 (.soft 1 (.soft 2 (.soft 3 (.soft 4 (.soft 5 (.soft 6 (.soft 7 (.soft 8 (.soft 9 (.soft 10 (.hard 11 (.soft 12 .nil))))))))))))) (by kernel_rfl) (by kernel_rfl) (fun _ _ _ _ _ h => h) ⟨c4, pz⟩ ?_
      repeat
        first
        | (refine scr_soft (by rfl) ?_ ?_ ?_ ?_
           rotate_left
           · simp [Region.wanted, yielded]; done
           · intro w' hS
             try obtain ⟨a1, a2⟩ := hS
             go_simp
             try with_reducible rfl
           simp only [Act.put, List.setIfInBounds_toArray, List.set_cons_zero, List.set_cons_succ])
        | (refine scr_skip (by rfl) ?_ ?_
           · simp [Region.wanted, yielded]; done
           simp only [Act.put, List.setIfInBounds_toArray, List.set_cons_zero, List.set_cons_succ])
      refine scr_hard (by rfl) (by simp [Region.wanted, yielded]) (fun K hK => ?_)
      go_simp
      refine hK _ _ ⟨c4, pz⟩ ?_
      clear hK K
      repeat
        first
        | (refine scr_soft (by rfl) ?_ ?_ ?_ ?_
           rotate_left
           · simp [Region.wanted, yielded]; done
           · intro w' hS
             try obtain ⟨a1, a2⟩ := hS
             go_simp
             try with_reducible rfl
           simp only [Act.put, List.setIfInBounds_toArray, List.set_cons_zero, List.set_cons_succ])
        | (refine scr_skip (by rfl) ?_ ?_
           · simp [Region.wanted, yielded]; done
           simp only [Act.put, List.setIfInBounds_toArray, List.set_cons_zero, List.set_cons_succ])
      refine scr_nil ?_
      go_wp2_with fail
      refine bodyPost_ret (v := .tuple #[.int .i64 0, .agg #[], .bool false]) (by simp [results, Try.results168, go_sem]) rfl ?_
      exact ⟨rfl, hc0.drew⟩
    · have h2 : ((toL h T).length : Int) ≤ i := by omega
      clear hi
      go_wp2_with fail
      refine wp_region_scr (fun w' => w'.cell? ⟨t, 4, none⟩ = some (.int .i64 0) ∧ (partAt ⟨t, 4, none⟩ 0 0).run Try.prog w' = .ok ⟨t, 4, none⟩ w') (.soft 0 (.soft 1 (.soft 2 (.soft 3 (.soft 4 (.soft 5 (.soft 6 (.soft 7 (.soft 8 (.soft 9 (.soft 10 (.hard 11 (.soft 12 .nil))))))))))))) (by kernel_rfl) (by kernel_rfl) (fun _ _ _ _ _ h => h) ⟨c4, pz⟩ ?_
      repeat
        first
        | (refine scr_soft (by rfl) ?_ ?_ ?_ ?_
           rotate_left
           · simp [Region.wanted, yielded]; done
           · intro w' hS
             try obtain ⟨a1, a2⟩ := hS
             go_simp
             try with_reducible rfl
           simp only [Act.put, List.setIfInBounds_toArray, List.set_cons_zero, List.set_cons_succ])
        | (refine scr_skip (by rfl) ?_ ?_
           · simp [Region.wanted, yielded]; done
           simp only [Act.put, List.setIfInBounds_toArray, List.set_cons_zero, List.set_cons_succ])
      refine scr_hard (by rfl) (by simp [Region.wanted, yielded]) (fun K hK => ?_)
      go_simp
      refine hK _ _ ⟨c4, pz⟩ ?_
      clear hK K
      repeat
        first
        | (refine scr_soft (by rfl) ?_ ?_ ?_ ?_
           rotate_left
           · simp [Region.wanted, yielded]; done
           · intro w' hS
             try obtain ⟨a1, a2⟩ := hS
             go_simp
             try with_reducible rfl
           simp only [Act.put, List.setIfInBounds_toArray, List.set_cons_zero, List.set_cons_succ])
        | (refine scr_skip (by rfl) ?_ ?_
           · simp [Region.wanted, yielded]; done
           simp only [Act.put, List.setIfInBounds_toArray, List.set_cons_zero, List.set_cons_succ])
      refine scr_nil ?_
      go_wp2_with fail
      refine bodyPost_ret (v := .tuple #[.int .i64 0, .agg #[], .bool false]) (by simp [results, Try.results168, go_sem]) rfl ?_
      exact ⟨rfl, hc0.drew⟩

theorem getAt_any {mn mx : Nat} {w : World} {F : Nat → Prop} {t : Nat} {l : List (Int × Int)} (mt : Bool) (i : Int) (hM : MapIn mn mx w F t l) (hmn : 1 ≤ mn) (hlen : l.length ≤ 1000000000000) :
    Calls Try.prog 168 #[.pointer (some ⟨t, 0, none⟩), .int .i64 i, .bool mt] w fun e w' => e = .returned (headS (atL l i)) ∧ Chg (fun _ _ => False) w w' := by
  by_cases h : i < 0 ∨ (l.length : Int) ≤ i
  · have e : atL l i = none := by
      unfold atL
      split
      · rw [List.getElem?_eq_none (by omega)]
      · rfl
    rw [e]
    exact getAt_out mt i hM h
  · obtain ⟨j, rfl⟩ : ∃ j : Nat, i = (j : Int) := ⟨i.toNat, by omega⟩
    obtain ⟨y, hy⟩ : ∃ y, l[j]? = some y := ⟨_, List.getElem?_eq_getElem (by omega)⟩
    have e : atL l (j : Int) = some y := by unfold atL; rw [if_pos (by omega)]; simpa using hy
    rw [e]
    exact getAt_in mt j y hM hmn hy hlen

end Go.Proofs.Ytjggkpmlffhjgaa
