/- For every order, every degree, every list of items and every item the law FnGThere returns true and leaves its arguments as they were. -/
import Derived.Carry
import Derived.Test.YtgdchpinlboejaaRows
import Derived.Test.YtgdchpinlboejaaA11
import Derived.Test.YtgdchpinlboejaaT1
namespace Go.Proofs.Ytgdchpinlboejaa
set_option linter.unusedSimpArgs false
set_option linter.unusedVariables false
open Go.RowKit

set_option maxRecDepth 100000 in
set_option maxHeartbeats 1000000 in
theorem law_GThere (sv : Value) (os : List Int) (d : Int) (nl : Bool) (p : Option Addr) (cap : Nat) (l : List (Int × Int)) (x : Int × Int) (HCL : l.length ≤ cap) (w : World) (hs : SlE intE w sv os) (hl : ItemsAt w p l) :
    Calls Try.prog 4 #[.agg #[sv, .int .i64 d, .bool nl], .slice p l.length cap, .agg #[.int .i64 x.1, .int .i64 x.2]] w fun e w' => e = .returned (.bool true) ∧ Chg (fun _ _ => False) w w' := by
  obtain ⟨sa, sc, rfl⟩ : ∃ a c, sv = .slice a os.length c := hs.form
  have hz := fun w1 => zzFits1_any sa os.length sc d nl w1
  by_cases hol : os.length ≤ 2147483647
  rotate_left
  · rw [decide_eq_false hol] at hz
    go_enter Try.func4, Try.ntmps4
    go_wp2_with fail
    refine name_calls (fun w1 => Chg (fun _ _ => False) w w1) ((((Chg.refl _ _).alloc _).alloc _)) ?_
    intro w1 hc1
    refine (hz w1).mono ?_
    rintro e w2 ⟨rfl, hc2⟩
    go_wp2_with fail
    go_ret
    exact ⟨rfl, hc1.trans hc2⟩
  rw [decide_eq_true hol] at hz
  by_cases hlen : l.length ≤ 2147483647
  rotate_left
  · have hlen' : 2147483647 < l.length := by omega
    go_enter Try.func4, Try.ntmps4
    go_wp2_with fail
    refine name_calls (fun w1 => Chg (fun _ _ => False) w w1) ((((Chg.refl _ _).alloc _).alloc _)) ?_
    intro w1 hc1
    refine (hz w1).mono ?_
    rintro e w2 ⟨rfl, hc2⟩
    go_wp2_with fail
    go_ret
    exact ⟨rfl, hc1.trans hc2⟩
  have hn : ¬ 2147483647 < l.length := by omega
  have HS := Lib.hid hs
  have HL := Lib.hid hl
  have HOL := Lib.hid hol
  have HLN := Lib.hid hlen
  clear hs hl
  go_enter Try.func4, Try.ntmps4
  go_wp2_with fail
  refine name_calls (fun w1 => Chg (fun _ _ => False) w w1 ∧ w1.heap[w.heap.size]? = some (.cells #[.slice sa os.length sc, .int .i64 d, .bool nl] 24 (0, 0)) ∧ w1.heap[w.heap.size + 1]? = some (.cells #[.int .i64 x.1, .int .i64 x.2] 30 (0, 0))) ⟨(((Chg.refl _ _).alloc _).alloc _), ?_, ?_⟩ ?_
  · rw [ha_lt _ _ (by simp; try omega)]; exact ha_at _ _ rfl
  · exact ha_at _ _ (by simp)
  rintro w1 ⟨hc1, hb0, hb1⟩
  have q0 := cell_of_block hb1 0
  have q1 := cell_of_block hb1 1
  have m0 := cell_of_block hb0 0
  have m1 := cell_of_block hb0 1
  have m2 := cell_of_block hb0 2
  simp only [List.getElem?_toArray, List.getElem?_cons_zero, List.getElem?_cons_succ] at m0 m1 m2 q0 q1
  clear hb0 hb1
  refine (hz w1).mono ?_
  rintro e w2 ⟨rfl, hc2⟩
  replace m0 := hc2.cell (fun h => h) m0
  replace m1 := hc2.cell (fun h => h) m1
  replace m2 := hc2.cell (fun h => h) m2
  replace q0 := hc2.cell (fun h => h) q0
  replace q1 := hc2.cell (fun h => h) q1
  go_wp2_with fail
  by_cases hd : FitD d
  rotate_left
  · refine (lawFits_no sa _ sc d nl _ hd).mono ?_
    rintro e w3 ⟨rfl, hc3⟩
    go_wp2_with fail
    refine (alive_any _).mono ?_
    rintro e w4 ⟨rfl, hc4⟩
    go_wp2_with fail
    go_ret
    exact ⟨rfl, ((hc1.trans hc2).trans hc3).trans hc4⟩
  refine (lawFits_yes sa _ sc d nl _ hd).mono ?_
  rintro e w3 ⟨rfl, hc3⟩
  replace m0 := hc3.cell (fun h => h) m0
  replace m1 := hc3.cell (fun h => h) m1
  replace m2 := hc3.cell (fun h => h) m2
  replace q0 := hc3.cell (fun h => h) q0
  replace q1 := hc3.cell (fun h => h) q1
  have hc03 := (hc1.trans hc2).trans hc3
  clear hz hc1 hc2 hc3
  have hgl := growL_take_len (ord := os) l l.length
  rw [List.take_length] at hgl
  have hsr := growL_srt (ord := os) l
  have hpt := fun hn => there_dels (ord := os) (l := l) (x := x) hn
  have G3 := fun w1 (c : Chg (fun _ _ => False) w w1) b (hb : w1.heap[b]? = some (.cells #[.int .i64 x.1, .int .i64 x.2] 30 (0, 0))) => GGet_any (ord := os) (.slice sa os.length sc) d nl p cap l (.slice (some ⟨b, 0, none⟩) 1 1) [x] w1 (HS.out.chg c) HOL.out hd (HL.out.chg c) HLN.out (slOne hb) (by simp)
  have GC := fun w1 (c : Chg (fun _ _ => False) w w1) => cloneI_any (.slice p l.length cap) l w1 ((HL.out.chg c).sl HCL) (by have := HLN.out; omega)
  have G4 := fun w1 (c : Chg (fun _ _ => False) w w1) => GItems_any (ord := os) (.slice sa os.length sc) d nl p cap l w1 (HS.out.chg c) HOL.out hd (HL.out.chg c) HLN.out
  have G5 := fun w1 (c : Chg (fun _ _ => False) w w1) v vk (hv : SlE itemE w1 v (l ++ [x])) (hk : SlE itemE w1 vk [x]) => GDelete_sl (ord := os) (.slice sa os.length sc) d nl v (l ++ [x]) vk [x] w1 (HS.out.chg c) HOL.out hd hv (by simp; have := HLN.out; omega) hk (by simp)
  simp only [List.map_cons, List.map_nil] at G3
  unfold OwnPostI at G4
  unfold OwnOutI at GC
  unfold OwnPostF at G3
  generalize delsF ltM (growL (ord := os) (l ++ [x])) [x] = DF at *
  generalize delsL ltM (growL (ord := os) (l ++ [x])) [x] = DL at *
  generalize growL (ord := os) l = L at *
  generalize fndL (ltM (ord := os)) x L = O at *
  have HP := Lib.hid hpt
  replace G3 := Lib.hid G3
  replace G4 := Lib.hid G4
  replace GC := Lib.hid GC
  replace G5 := Lib.hid G5
  have HLL2 := Lib.hid hgl
  clear hgl hsr hpt
  go_wp2_with fail
  have hca := (Chg.refl (fun _ _ => False) w3).alloc (.cells #[.int .i64 x.1, .int .i64 x.2] 30)
  refine (G3.out _ (hc03.trans hca) w3.heap.size (ha_at _ _ rfl)).mono ?_
  rintro e w8 ⟨v8, rfl, how8, hc8'⟩
  have hc8 := hca.trans hc8'
  replace m0 := hc8.cell (fun h => h) m0
  replace m1 := hc8.cell (fun h => h) m1
  replace m2 := hc8.cell (fun h => h) m2
  replace q0 := hc8.cell (fun h => h) q0
  replace q1 := hc8.cell (fun h => h) q1
  obtain ⟨a8, c8, rfl⟩ := how8.sl.form
  obtain ⟨b8, o8, fk, fv, fq, rfl, f0, f1, f2, hfl⟩ := how8.sl.found (j := 0) (x := O) rfl
  simp only [Nat.zero_mul, Nat.add_zero] at f0 f1 f2
  have hc08 := hc03.trans hc8
  have hsz08 := hc08.size
  clear how8 hc8' hca
  cases O with
  | some y =>
    obtain ⟨rfl, rfl, rfl⟩ : fk = y.1 ∧ fv = y.2 ∧ fq = true := by
      have e : ([.int .i64 y.1, .int .i64 y.2, .bool true] : List Value) = [.int .i64 fk, .int .i64 fv, .bool fq] := hfl
      simp at e
      exact ⟨e.1.symm, e.2.1.symm, e.2.2⟩
    clear hfl
    go_wp2_with fail
    refine (alive_any _).mono ?_
    rintro e w9 ⟨rfl, hc9⟩
    go_wp2_with fail
    go_ret
    exact ⟨rfl, hc08.trans hc9⟩
  | none =>
    obtain ⟨rfl, rfl, rfl⟩ : fk = 0 ∧ fv = 0 ∧ fq = false := by
      have e : ([.int .i64 0, .int .i64 0, .bool false] : List Value) = [.int .i64 fk, .int .i64 fv, .bool fq] := hfl
      simp at e
      exact ⟨e.1.symm, e.2.1.symm, e.2.2⟩
    obtain ⟨hp1, hp2⟩ := HP.out rfl
    subst hp1
    subst hp2
    clear hfl
    have HCL' := HCL
    go_wp2_with fail
    refine wp_region_scr (fun w' => w'.cell? ⟨w.heap.size, 0, none⟩ = some (.slice sa os.length sc) ∧ w'.cell? ⟨w.heap.size, 1, none⟩ = some (.int .i64 d) ∧ w'.cell? ⟨w.heap.size, 2, none⟩ = some (.bool nl) ∧ w'.cell? ⟨w.heap.size + 1, 0, none⟩ = some (.int .i64 x.1) ∧ w'.cell? ⟨w.heap.size + 1, 1, none⟩ = some (.int .i64 x.2)) (.soft 0 (.soft 1 (.soft 3 (.soft 6 (.fork3 2 4 7 (.fork 4 7 (.fork 5 7 (.hard 7 (.hard 8 (.soft 9 (.soft 10 (.soft 11 (.soft 12 (.soft 13 .nil))))))) (.hard 5 (.hard 8 (.soft 9 (.soft 10 (.soft 11 (.soft 12 (.soft 13 .nil)))))))) (.hard 4 (.hard 5 (.hard 8 (.soft 9 (.soft 10 (.soft 11 (.soft 12 (.soft 13 .nil))))))))) (.fork 2 7 (.fork 5 7 (.hard 7 (.hard 8 (.soft 9 (.soft 10 (.soft 11 (.soft 12 (.soft 13 .nil))))))) (.hard 5 (.hard 8 (.soft 9 (.soft 10 (.soft 11 (.soft 12 (.soft 13 .nil)))))))) (.hard 2 (.hard 5 (.hard 8 (.soft 9 (.soft 10 (.soft 11 (.soft 12 (.soft 13 .nil))))))))) (.fork 2 4 (.hard 4 (.hard 5 (.hard 8 (.soft 9 (.soft 10 (.soft 11 (.soft 12 (.soft 13 .nil)))))))) (.hard 2 (.hard 5 (.hard 8 (.soft 9 (.soft 10 (.soft 11 (.soft 12 (.soft 13 .nil)))))))))))))) (by kernel_rfl) (by kernel_rfl) (fun _ _ _ _ _ h => h) ⟨m0, m1, m2, q0, q1⟩ ?_
    repeat
      first
      | (refine scr_soft (by rfl) ?_ ?_ ?_ ?_
         rotate_left
         · simp [Region.wanted, yielded]; done
         · intro w' hS
           try obtain ⟨a1, a2, a3, a4, a5⟩ := hS
           go_simp
           try with_reducible rfl
         simp only [Act.put, List.setIfInBounds_toArray, List.set_cons_zero, List.set_cons_succ])
      | (refine scr_skip (by rfl) ?_ ?_
         · simp [Region.wanted, yielded]; done
         simp only [Act.put, List.setIfInBounds_toArray, List.set_cons_zero, List.set_cons_succ])
    have hcu := hc08.drew
    have hs0 := hcu.size
    have hs1 : w.heap.size + 1 < w8.drew.heap.size := World.block_lt_of_cell? w8.drew _ q1
    refine scr_fork3 (by rfl) (by rfl) (by rfl) rfl rfl rfl (fun K hK => ?_) (fun K hK => ?_) (fun K hK => ?_)
    · skip
      go_simp
      refine (GC.out _ hcu).mono ?_
      rintro e wc ⟨vC, rfl, hOut, hst⟩
      replace m0 := hst.cell (fun h => h) m0
      replace m1 := hst.cell (fun h => h) m1
      replace m2 := hst.cell (fun h => h) m2
      replace q0 := hst.cell (fun h => h) q0
      replace q1 := hst.cell (fun h => h) q1
      replace hcu := hcu.trans hst
      have hszC := hst.size
      have hlo : ∀ b, vC.ownBlock = some b → w8.drew.heap.size ≤ b := fun b hb => (hOut.own b hb).1
      have hhi : ∀ b, vC.ownBlock = some b → b < wc.heap.size := fun b hb => (hOut.own b hb).2
      have HOW := Lib.hid hOut.ownE
      clear hOut
      refine hK _ _ ⟨m0, m1, m2, q0, q1⟩ ?_
      clear hK K
      clear hst
      repeat
        first
        | (refine scr_soft (by rfl) ?_ ?_ ?_ ?_
           rotate_left
           · simp [Region.wanted, yielded]; done
           · intro w' hS
             try obtain ⟨a1, a2, a3, a4, a5⟩ := hS
             go_simp
             try with_reducible rfl
           simp only [Act.put, List.setIfInBounds_toArray, List.set_cons_zero, List.set_cons_succ])
        | (refine scr_skip (by rfl) ?_ ?_
           · simp [Region.wanted, yielded]; done
           simp only [Act.put, List.setIfInBounds_toArray, List.set_cons_zero, List.set_cons_succ])
      refine scr_fork (by rfl) (by rfl) rfl rfl (fun K hK => ?_) (fun K hK => ?_)
      · skip
        go_simp
        have hcb := (Chg.refl (fun _ _ => False) wc).alloc (.cells #[.int .i64 x.1, .int .i64 x.2] 30)
        refine hK _ _ ⟨hcb.cell (fun h => h) m0, hcb.cell (fun h => h) m1, hcb.cell (fun h => h) m2, hcb.cell (fun h => h) q0, hcb.cell (fun h => h) q1⟩ ?_
        clear hK K
        refine name_scr (fun wn => Chg (fun _ _ => False) wc wn ∧ wc.heap.size + 1 ≤ wn.heap.size ∧ wn.heap[wc.heap.size]? = some (.cells #[.int .i64 x.1, .int .i64 x.2] 30 (0, 0))) ⟨hcb, by simp, ha_at _ _ rfl⟩ ?_
        clear hcb
        rintro wb1 ⟨hst, sz1, hb⟩
        replace m0 := hst.cell (fun h => h) m0
        replace m1 := hst.cell (fun h => h) m1
        replace m2 := hst.cell (fun h => h) m2
        replace q0 := hst.cell (fun h => h) q0
        replace q1 := hst.cell (fun h => h) q1
        replace hcu := hcu.trans hst
        have HB1 := Lib.hid hb
        clear hb
        replace HOW := Lib.hid (HOW.out.keep hst)
        clear hst
        repeat
          first
          | (refine scr_soft (by rfl) ?_ ?_ ?_ ?_
             rotate_left
             · simp [Region.wanted, yielded]; done
             · intro w' hS
               try obtain ⟨a1, a2, a3, a4, a5⟩ := hS
               go_simp
               try with_reducible rfl
             simp only [Act.put, List.setIfInBounds_toArray, List.set_cons_zero, List.set_cons_succ])
          | (refine scr_skip (by rfl) ?_ ?_
             · simp [Region.wanted, yielded]; done
             simp only [Act.put, List.setIfInBounds_toArray, List.set_cons_zero, List.set_cons_succ])
        refine scr_fork (by rfl) (by rfl) rfl rfl (fun K hK => ?_) (fun K hK => ?_)
        · skip
          have hbz := hcu.size
          obtain ⟨vA, wA, hrA, hA, hcA⟩ := own_append wb1 vC l w8.drew.heap.size HOW.out (by omega) (.slice (some ⟨wc.heap.size, 0, none⟩) 1 1) [x] (slOne HB1.out) (by have := HLN.out; simp; omega) 25
          refine wp_append_run _ _ _ _ (by rfl) vC (.slice (some ⟨wc.heap.size, 0, none⟩) 1 1) (by rfl) (by rfl) _ _ hrA ?_
          have hne : ∀ b, b ≤ w.heap.size + 1 → ¬ vC.ownBlock = some b := fun b hb h => by have := hlo _ h; omega
          replace m0 := hcA.cell (hne _ (by simp)) m0
          replace m1 := hcA.cell (hne _ (by simp)) m1
          replace m2 := hcA.cell (hne _ (by simp)) m2
          replace q0 := hcA.cell (hne _ (by simp)) q0
          replace q1 := hcA.cell (hne _ (by simp)) q1
          have hszA := hcA.size
          replace hcu := hcu.trans' hcA (fun _ _ _ h => h) (fun b o hb h => by have := hlo _ h; omega)
          have HA := Lib.hid hA.sl
          refine hK _ _ ⟨m0, m1, m2, q0, q1⟩ ?_
          clear hK K hA hrA
          have hst := True.intro
          clear hst
          repeat
            first
            | (refine scr_soft (by rfl) ?_ ?_ ?_ ?_
               rotate_left
               · simp [Region.wanted, yielded]; done
               · intro w' hS
                 try obtain ⟨a1, a2, a3, a4, a5⟩ := hS
                 go_simp
                 try with_reducible rfl
               simp only [Act.put, List.setIfInBounds_toArray, List.set_cons_zero, List.set_cons_succ])
            | (refine scr_skip (by rfl) ?_ ?_
               · simp [Region.wanted, yielded]; done
               simp only [Act.put, List.setIfInBounds_toArray, List.set_cons_zero, List.set_cons_succ])
          refine scr_hard (by rfl) (by simp [Region.wanted, yielded]) (fun K hK => ?_)
          go_simp
          have hcb := (Chg.refl (fun _ _ => False) wA).alloc (.cells #[.int .i64 x.1, .int .i64 x.2] 30)
          refine hK _ _ ⟨hcb.cell (fun h => h) m0, hcb.cell (fun h => h) m1, hcb.cell (fun h => h) m2, hcb.cell (fun h => h) q0, hcb.cell (fun h => h) q1⟩ ?_
          clear hK K
          refine name_scr (fun wn => Chg (fun _ _ => False) wA wn ∧ wA.heap.size + 1 ≤ wn.heap.size ∧ wn.heap[wA.heap.size]? = some (.cells #[.int .i64 x.1, .int .i64 x.2] 30 (0, 0))) ⟨hcb, by simp, ha_at _ _ rfl⟩ ?_
          clear hcb
          rintro wb2 ⟨hst, sz2, hb⟩
          replace m0 := hst.cell (fun h => h) m0
          replace m1 := hst.cell (fun h => h) m1
          replace m2 := hst.cell (fun h => h) m2
          replace q0 := hst.cell (fun h => h) q0
          replace q1 := hst.cell (fun h => h) q1
          replace hcu := hcu.trans hst
          have HB2 := Lib.hid hb
          clear hb
          replace HA := Lib.hid (HA.out.chg hst)
          have HB9 := HB2
          clear hst
          repeat
            first
            | (refine scr_soft (by rfl) ?_ ?_ ?_ ?_
               rotate_left
               · simp [Region.wanted, yielded]; done
               · intro w' hS
                 try obtain ⟨a1, a2, a3, a4, a5⟩ := hS
                 go_simp
                 try with_reducible rfl
               simp only [Act.put, List.setIfInBounds_toArray, List.set_cons_zero, List.set_cons_succ])
            | (refine scr_skip (by rfl) ?_ ?_
               · simp [Region.wanted, yielded]; done
               simp only [Act.put, List.setIfInBounds_toArray, List.set_cons_zero, List.set_cons_succ])
          refine scr_hard (by rfl) (by simp [Region.wanted, yielded]) (fun K hK => ?_)
          go_simp
          refine (G5.out _ hcu vA _ HA.out (slOne HB9.out)).mono ?_
          rintro e w9 ⟨v9, u9, rfl, how9, hou9, hst⟩
          replace m0 := hst.cell (fun h => h) m0
          replace m1 := hst.cell (fun h => h) m1
          replace m2 := hst.cell (fun h => h) m2
          replace q0 := hst.cell (fun h => h) q0
          replace q1 := hst.cell (fun h => h) q1
          replace hcu := hcu.trans hst
          refine hK _ _ ⟨m0, m1, m2, q0, q1⟩ ?_
          clear hK K
          clear hst
          repeat
            first
            | (refine scr_soft (by rfl) ?_ ?_ ?_ ?_
               rotate_left
               · simp [Region.wanted, yielded]; done
               · intro w' hS
                 try obtain ⟨a1, a2, a3, a4, a5⟩ := hS
                 go_simp
                 try with_reducible rfl
               simp only [Act.put, List.setIfInBounds_toArray, List.set_cons_zero, List.set_cons_succ])
            | (refine scr_skip (by rfl) ?_ ?_
               · simp [Region.wanted, yielded]; done
               simp only [Act.put, List.setIfInBounds_toArray, List.set_cons_zero, List.set_cons_succ])
          refine scr_nil ?_
          obtain ⟨a9, c9, rfl⟩ := how9.form
          obtain ⟨b9, o9, gk, gv, gq, rfl, g0, g1, g2, gfl⟩ := how9.found (j := 0) (x := some x) rfl
          simp only [Nat.zero_mul, Nat.add_zero] at g0 g1 g2
          obtain ⟨rfl, rfl, rfl⟩ : gk = x.1 ∧ gv = x.2 ∧ gq = true := by
            have e : ([.int .i64 x.1, .int .i64 x.2, .bool true] : List Value) = [.int .i64 gk, .int .i64 gv, .bool gq] := gfl
            simp at e
            exact ⟨e.1.symm, e.2.1.symm, e.2.2⟩
          have HU := Lib.hid hou9
          obtain ⟨au, cu, rfl⟩ := hou9.form
          clear gfl how9 hou9
          go_wp2_with fail
          refine wp_region_scr (fun w' => w'.cell? ⟨w.heap.size, 0, none⟩ = some (.slice sa os.length sc) ∧ w'.cell? ⟨w.heap.size, 1, none⟩ = some (.int .i64 d) ∧ w'.cell? ⟨w.heap.size, 2, none⟩ = some (.bool nl) ∧ w'.cell? ⟨w.heap.size + 1, 0, none⟩ = some (.int .i64 x.1) ∧ w'.cell? ⟨w.heap.size + 1, 1, none⟩ = some (.int .i64 x.2) ∧ w'.cell? ⟨b9, o9, none⟩ = some (.int .i64 x.1) ∧ w'.cell? ⟨b9, o9 + 1, none⟩ = some (.int .i64 x.2) ∧ w'.cell? ⟨b9, o9 + 2, none⟩ = some (.bool true)) (.soft 0 (.soft 1 (.soft 2 (.soft 3 (.soft 4 (.soft 5 (.soft 6 (.soft 7 (.soft 8 (.soft 9 (.soft 10 (.soft 11 (.soft 12 (.soft 13 (.soft 14 (.hard 15 (.hard 16 (.soft 17 (.soft 18 (.hard 19 (.soft 20 (.soft 21 .nil)))))))))))))))))))))) (by kernel_rfl) (by kernel_rfl) (fun _ _ _ _ _ h => h) ⟨m0, m1, m2, q0, q1, g0, g1, g2⟩ ?_
          repeat
            first
            | (refine scr_soft (by rfl) ?_ ?_ ?_ ?_
               rotate_left
               · simp [Region.wanted, yielded]; done
               · intro w' hS
                 try obtain ⟨a1, a2, a3, a4, a5, a6, a7, a8⟩ := hS
                 go_simp
                 try with_reducible rfl
               simp only [Act.put, List.setIfInBounds_toArray, List.set_cons_zero, List.set_cons_succ])
            | (refine scr_skip (by rfl) ?_ ?_
               · simp [Region.wanted, yielded]; done
               simp only [Act.put, List.setIfInBounds_toArray, List.set_cons_zero, List.set_cons_succ])
          refine scr_hard (by rfl) (by simp [Region.wanted, yielded]) (fun K hK => ?_)
          go_simp
          replace hcu := hcu.drew
          refine (G4.out _ hcu).mono ?_
          rintro e w10 ⟨v10, rfl, how10, hst⟩
          have hst10 := hst
          replace m0 := hst.cell (fun h => h) m0
          replace m1 := hst.cell (fun h => h) m1
          replace m2 := hst.cell (fun h => h) m2
          replace q0 := hst.cell (fun h => h) q0
          replace q1 := hst.cell (fun h => h) q1
          replace hcu := hcu.trans hst
          refine hK _ _ ⟨m0, m1, m2, q0, q1, hst.cell (fun h => h) g0, hst.cell (fun h => h) g1, hst.cell (fun h => h) g2⟩ ?_
          clear hK K
          repeat
            first
            | (refine scr_soft (by rfl) ?_ ?_ ?_ ?_
               rotate_left
               · simp [Region.wanted, yielded]; done
               · intro w' hS
                 try obtain ⟨a1, a2, a3, a4, a5, a6, a7, a8⟩ := hS
                 go_simp
                 try with_reducible rfl
               simp only [Act.put, List.setIfInBounds_toArray, List.set_cons_zero, List.set_cons_succ])
            | (refine scr_skip (by rfl) ?_ ?_
               · simp [Region.wanted, yielded]; done
               simp only [Act.put, List.setIfInBounds_toArray, List.set_cons_zero, List.set_cons_succ])
          refine scr_hard (by rfl) (by simp [Region.wanted, yielded]) (fun K hK => ?_)
          go_simp
          refine (equal_item _ _ _ _ (HU.out.chg ((Chg.refl _ _).drew.trans hst10)) how10.sl (by have := HLL2.out; have := HLN.out; omega)).mono ?_
          rintro e w11 ⟨rfl, hst11⟩
          refine hK _ _ ⟨hst11.cell (fun h => h) m0, hst11.cell (fun h => h) m1, hst11.cell (fun h => h) m2, hst11.cell (fun h => h) q0, hst11.cell (fun h => h) q1, (hst10.trans hst11).cell (fun h => h) g0, (hst10.trans hst11).cell (fun h => h) g1, (hst10.trans hst11).cell (fun h => h) g2⟩ ?_
          clear hK K
          repeat
            first
            | (refine scr_soft (by rfl) ?_ ?_ ?_ ?_
               rotate_left
               · simp [Region.wanted, yielded]; done
               · intro w' hS
                 try obtain ⟨a1, a2, a3, a4, a5, a6, a7, a8⟩ := hS
                 go_simp
                 try with_reducible rfl
               simp only [Act.put, List.setIfInBounds_toArray, List.set_cons_zero, List.set_cons_succ])
            | (refine scr_skip (by rfl) ?_ ?_
               · simp [Region.wanted, yielded]; done
               simp only [Act.put, List.setIfInBounds_toArray, List.set_cons_zero, List.set_cons_succ])
          refine scr_hard (by rfl) (by simp [Region.wanted, yielded]) (fun K hK => ?_)
          go_simp
          refine (alive_any _).mono ?_
          rintro e w12 ⟨rfl, hst12⟩
          have hst13 := hst11.trans hst12
          refine hK _ _ ⟨hst13.cell (fun h => h) m0, hst13.cell (fun h => h) m1, hst13.cell (fun h => h) m2, hst13.cell (fun h => h) q0, hst13.cell (fun h => h) q1, (hst10.trans hst13).cell (fun h => h) g0, (hst10.trans hst13).cell (fun h => h) g1, (hst10.trans hst13).cell (fun h => h) g2⟩ ?_
          clear hK K
          repeat
            first
            | (refine scr_soft (by rfl) ?_ ?_ ?_ ?_
               rotate_left
               · simp [Region.wanted, yielded]; done
               · intro w' hS
                 try obtain ⟨a1, a2, a3, a4, a5, a6, a7, a8⟩ := hS
                 go_simp
                 try with_reducible rfl
               simp only [Act.put, List.setIfInBounds_toArray, List.set_cons_zero, List.set_cons_succ])
            | (refine scr_skip (by rfl) ?_ ?_
               · simp [Region.wanted, yielded]; done
               simp only [Act.put, List.setIfInBounds_toArray, List.set_cons_zero, List.set_cons_succ])
          refine scr_nil ?_
          go_wp2_with fail
          go_ret
          exact ⟨rfl, (hcu.trans hst11).trans hst12⟩
        · skip
          go_simp
          have hcb := (Chg.refl (fun _ _ => False) wb1).alloc (.cells #[.int .i64 x.1, .int .i64 x.2] 30)
          refine hK _ _ ⟨hcb.cell (fun h => h) m0, hcb.cell (fun h => h) m1, hcb.cell (fun h => h) m2, hcb.cell (fun h => h) q0, hcb.cell (fun h => h) q1⟩ ?_
          clear hK K
          refine name_scr (fun wn => Chg (fun _ _ => False) wb1 wn ∧ wb1.heap.size + 1 ≤ wn.heap.size ∧ wn.heap[wb1.heap.size]? = some (.cells #[.int .i64 x.1, .int .i64 x.2] 30 (0, 0))) ⟨hcb, by simp, ha_at _ _ rfl⟩ ?_
          clear hcb
          rintro wb2 ⟨hst, sz2, hb⟩
          replace m0 := hst.cell (fun h => h) m0
          replace m1 := hst.cell (fun h => h) m1
          replace m2 := hst.cell (fun h => h) m2
          replace q0 := hst.cell (fun h => h) q0
          replace q1 := hst.cell (fun h => h) q1
          replace hcu := hcu.trans hst
          have HB2 := Lib.hid hb
          clear hb
          replace HB1 := Lib.hid (show wb2.heap[wc.heap.size]? = some (.cells #[.int .i64 x.1, .int .i64 x.2] 30 (0, 0)) from by rw [hst.block (heap_lt HB1.out) (fun _ h => h)]; exact HB1.out)
          replace HOW := Lib.hid (HOW.out.keep hst)
          clear hst
          repeat
            first
            | (refine scr_soft (by rfl) ?_ ?_ ?_ ?_
               rotate_left
               · simp [Region.wanted, yielded]; done
               · intro w' hS
                 try obtain ⟨a1, a2, a3, a4, a5⟩ := hS
                 go_simp
                 try with_reducible rfl
               simp only [Act.put, List.setIfInBounds_toArray, List.set_cons_zero, List.set_cons_succ])
            | (refine scr_skip (by rfl) ?_ ?_
               · simp [Region.wanted, yielded]; done
               simp only [Act.put, List.setIfInBounds_toArray, List.set_cons_zero, List.set_cons_succ])
          refine scr_hard (by rfl) (by simp [Region.wanted, yielded]) (fun K hK => ?_)
          have hbz := hcu.size
          obtain ⟨vA, wA, hrA, hA, hcA⟩ := own_append wb2 vC l w8.drew.heap.size HOW.out (by omega) (.slice (some ⟨wc.heap.size, 0, none⟩) 1 1) [x] (slOne HB1.out) (by have := HLN.out; simp; omega) 25
          refine wp_append_run _ _ _ _ (by rfl) vC (.slice (some ⟨wc.heap.size, 0, none⟩) 1 1) (by rfl) (by rfl) _ _ hrA ?_
          have hne : ∀ b, b ≤ w.heap.size + 1 → ¬ vC.ownBlock = some b := fun b hb h => by have := hlo _ h; omega
          replace m0 := hcA.cell (hne _ (by simp)) m0
          replace m1 := hcA.cell (hne _ (by simp)) m1
          replace m2 := hcA.cell (hne _ (by simp)) m2
          replace q0 := hcA.cell (hne _ (by simp)) q0
          replace q1 := hcA.cell (hne _ (by simp)) q1
          have hszA := hcA.size
          replace hcu := hcu.trans' hcA (fun _ _ _ h => h) (fun b o hb h => by have := hlo _ h; omega)
          have HA := Lib.hid hA.sl
          refine hK _ _ ⟨m0, m1, m2, q0, q1⟩ ?_
          clear hK K hA hrA
          have HB9 := Lib.hid (show wA.heap[wb1.heap.size]? = some (.cells #[.int .i64 x.1, .int .i64 x.2] 30 (0, 0)) from by rw [hcA.block (heap_lt HB2.out) (fun _ h => by have := hlo _ h; have := hhi _ h; omega)]; exact HB2.out)
          have hst := True.intro
          clear hst
          repeat
            first
            | (refine scr_soft (by rfl) ?_ ?_ ?_ ?_
               rotate_left
               · simp [Region.wanted, yielded]; done
               · intro w' hS
                 try obtain ⟨a1, a2, a3, a4, a5⟩ := hS
                 go_simp
                 try with_reducible rfl
               simp only [Act.put, List.setIfInBounds_toArray, List.set_cons_zero, List.set_cons_succ])
            | (refine scr_skip (by rfl) ?_ ?_
               · simp [Region.wanted, yielded]; done
               simp only [Act.put, List.setIfInBounds_toArray, List.set_cons_zero, List.set_cons_succ])
          refine scr_hard (by rfl) (by simp [Region.wanted, yielded]) (fun K hK => ?_)
          go_simp
          refine (G5.out _ hcu vA _ HA.out (slOne HB9.out)).mono ?_
          rintro e w9 ⟨v9, u9, rfl, how9, hou9, hst⟩
          replace m0 := hst.cell (fun h => h) m0
          replace m1 := hst.cell (fun h => h) m1
          replace m2 := hst.cell (fun h => h) m2
          replace q0 := hst.cell (fun h => h) q0
          replace q1 := hst.cell (fun h => h) q1
          replace hcu := hcu.trans hst
          refine hK _ _ ⟨m0, m1, m2, q0, q1⟩ ?_
          clear hK K
          clear hst
          repeat
            first
            | (refine scr_soft (by rfl) ?_ ?_ ?_ ?_
               rotate_left
               · simp [Region.wanted, yielded]; done
               · intro w' hS
                 try obtain ⟨a1, a2, a3, a4, a5⟩ := hS
                 go_simp
                 try with_reducible rfl
               simp only [Act.put, List.setIfInBounds_toArray, List.set_cons_zero, List.set_cons_succ])
            | (refine scr_skip (by rfl) ?_ ?_
               · simp [Region.wanted, yielded]; done
               simp only [Act.put, List.setIfInBounds_toArray, List.set_cons_zero, List.set_cons_succ])
          refine scr_nil ?_
          obtain ⟨a9, c9, rfl⟩ := how9.form
          obtain ⟨b9, o9, gk, gv, gq, rfl, g0, g1, g2, gfl⟩ := how9.found (j := 0) (x := some x) rfl
          simp only [Nat.zero_mul, Nat.add_zero] at g0 g1 g2
          obtain ⟨rfl, rfl, rfl⟩ : gk = x.1 ∧ gv = x.2 ∧ gq = true := by
            have e : ([.int .i64 x.1, .int .i64 x.2, .bool true] : List Value) = [.int .i64 gk, .int .i64 gv, .bool gq] := gfl
            simp at e
            exact ⟨e.1.symm, e.2.1.symm, e.2.2⟩
          have HU := Lib.hid hou9
          obtain ⟨au, cu, rfl⟩ := hou9.form
          clear gfl how9 hou9
          go_wp2_with fail
          refine wp_region_scr (fun w' => w'.cell? ⟨w.heap.size, 0, none⟩ = some (.slice sa os.length sc) ∧ w'.cell? ⟨w.heap.size, 1, none⟩ = some (.int .i64 d) ∧ w'.cell? ⟨w.heap.size, 2, none⟩ = some (.bool nl) ∧ w'.cell? ⟨w.heap.size + 1, 0, none⟩ = some (.int .i64 x.1) ∧ w'.cell? ⟨w.heap.size + 1, 1, none⟩ = some (.int .i64 x.2) ∧ w'.cell? ⟨b9, o9, none⟩ = some (.int .i64 x.1) ∧ w'.cell? ⟨b9, o9 + 1, none⟩ = some (.int .i64 x.2) ∧ w'.cell? ⟨b9, o9 + 2, none⟩ = some (.bool true)) (.soft 0 (.soft 1 (.soft 2 (.soft 3 (.soft 4 (.soft 5 (.soft 6 (.soft 7 (.soft 8 (.soft 9 (.soft 10 (.soft 11 (.soft 12 (.soft 13 (.soft 14 (.hard 15 (.hard 16 (.soft 17 (.soft 18 (.hard 19 (.soft 20 (.soft 21 .nil)))))))))))))))))))))) (by kernel_rfl) (by kernel_rfl) (fun _ _ _ _ _ h => h) ⟨m0, m1, m2, q0, q1, g0, g1, g2⟩ ?_
          repeat
            first
            | (refine scr_soft (by rfl) ?_ ?_ ?_ ?_
               rotate_left
               · simp [Region.wanted, yielded]; done
               · intro w' hS
                 try obtain ⟨a1, a2, a3, a4, a5, a6, a7, a8⟩ := hS
                 go_simp
                 try with_reducible rfl
               simp only [Act.put, List.setIfInBounds_toArray, List.set_cons_zero, List.set_cons_succ])
            | (refine scr_skip (by rfl) ?_ ?_
               · simp [Region.wanted, yielded]; done
               simp only [Act.put, List.setIfInBounds_toArray, List.set_cons_zero, List.set_cons_succ])
          refine scr_hard (by rfl) (by simp [Region.wanted, yielded]) (fun K hK => ?_)
          go_simp
          replace hcu := hcu.drew
          refine (G4.out _ hcu).mono ?_
          rintro e w10 ⟨v10, rfl, how10, hst⟩
          have hst10 := hst
          replace m0 := hst.cell (fun h => h) m0
          replace m1 := hst.cell (fun h => h) m1
          replace m2 := hst.cell (fun h => h) m2
          replace q0 := hst.cell (fun h => h) q0
          replace q1 := hst.cell (fun h => h) q1
          replace hcu := hcu.trans hst
          refine hK _ _ ⟨m0, m1, m2, q0, q1, hst.cell (fun h => h) g0, hst.cell (fun h => h) g1, hst.cell (fun h => h) g2⟩ ?_
          clear hK K
          repeat
            first
            | (refine scr_soft (by rfl) ?_ ?_ ?_ ?_
               rotate_left
               · simp [Region.wanted, yielded]; done
               · intro w' hS
                 try obtain ⟨a1, a2, a3, a4, a5, a6, a7, a8⟩ := hS
                 go_simp
                 try with_reducible rfl
               simp only [Act.put, List.setIfInBounds_toArray, List.set_cons_zero, List.set_cons_succ])
            | (refine scr_skip (by rfl) ?_ ?_
               · simp [Region.wanted, yielded]; done
               simp only [Act.put, List.setIfInBounds_toArray, List.set_cons_zero, List.set_cons_succ])
          refine scr_hard (by rfl) (by simp [Region.wanted, yielded]) (fun K hK => ?_)
          go_simp
          refine (equal_item _ _ _ _ (HU.out.chg ((Chg.refl _ _).drew.trans hst10)) how10.sl (by have := HLL2.out; have := HLN.out; omega)).mono ?_
          rintro e w11 ⟨rfl, hst11⟩
          refine hK _ _ ⟨hst11.cell (fun h => h) m0, hst11.cell (fun h => h) m1, hst11.cell (fun h => h) m2, hst11.cell (fun h => h) q0, hst11.cell (fun h => h) q1, (hst10.trans hst11).cell (fun h => h) g0, (hst10.trans hst11).cell (fun h => h) g1, (hst10.trans hst11).cell (fun h => h) g2⟩ ?_
          clear hK K
          repeat
            first
            | (refine scr_soft (by rfl) ?_ ?_ ?_ ?_
               rotate_left
               · simp [Region.wanted, yielded]; done
               · intro w' hS
                 try obtain ⟨a1, a2, a3, a4, a5, a6, a7, a8⟩ := hS
                 go_simp
                 try with_reducible rfl
               simp only [Act.put, List.setIfInBounds_toArray, List.set_cons_zero, List.set_cons_succ])
            | (refine scr_skip (by rfl) ?_ ?_
               · simp [Region.wanted, yielded]; done
               simp only [Act.put, List.setIfInBounds_toArray, List.set_cons_zero, List.set_cons_succ])
          refine scr_hard (by rfl) (by simp [Region.wanted, yielded]) (fun K hK => ?_)
          go_simp
          refine (alive_any _).mono ?_
          rintro e w12 ⟨rfl, hst12⟩
          have hst13 := hst11.trans hst12
          refine hK _ _ ⟨hst13.cell (fun h => h) m0, hst13.cell (fun h => h) m1, hst13.cell (fun h => h) m2, hst13.cell (fun h => h) q0, hst13.cell (fun h => h) q1, (hst10.trans hst13).cell (fun h => h) g0, (hst10.trans hst13).cell (fun h => h) g1, (hst10.trans hst13).cell (fun h => h) g2⟩ ?_
          clear hK K
          repeat
            first
            | (refine scr_soft (by rfl) ?_ ?_ ?_ ?_
               rotate_left
               · simp [Region.wanted, yielded]; done
               · intro w' hS
                 try obtain ⟨a1, a2, a3, a4, a5, a6, a7, a8⟩ := hS
                 go_simp
                 try with_reducible rfl
               simp only [Act.put, List.setIfInBounds_toArray, List.set_cons_zero, List.set_cons_succ])
            | (refine scr_skip (by rfl) ?_ ?_
               · simp [Region.wanted, yielded]; done
               simp only [Act.put, List.setIfInBounds_toArray, List.set_cons_zero, List.set_cons_succ])
          refine scr_nil ?_
          go_wp2_with fail
          go_ret
          exact ⟨rfl, (hcu.trans hst11).trans hst12⟩
      · skip
        go_simp
        have hcb := (Chg.refl (fun _ _ => False) wc).alloc (.cells #[.int .i64 x.1, .int .i64 x.2] 30)
        refine hK _ _ ⟨hcb.cell (fun h => h) m0, hcb.cell (fun h => h) m1, hcb.cell (fun h => h) m2, hcb.cell (fun h => h) q0, hcb.cell (fun h => h) q1⟩ ?_
        clear hK K
        refine name_scr (fun wn => Chg (fun _ _ => False) wc wn ∧ wc.heap.size + 1 ≤ wn.heap.size ∧ wn.heap[wc.heap.size]? = some (.cells #[.int .i64 x.1, .int .i64 x.2] 30 (0, 0))) ⟨hcb, by simp, ha_at _ _ rfl⟩ ?_
        clear hcb
        rintro wb2 ⟨hst, sz2, hb⟩
        replace m0 := hst.cell (fun h => h) m0
        replace m1 := hst.cell (fun h => h) m1
        replace m2 := hst.cell (fun h => h) m2
        replace q0 := hst.cell (fun h => h) q0
        replace q1 := hst.cell (fun h => h) q1
        replace hcu := hcu.trans hst
        have HB2 := Lib.hid hb
        clear hb
        replace HOW := Lib.hid (HOW.out.keep hst)
        clear hst
        repeat
          first
          | (refine scr_soft (by rfl) ?_ ?_ ?_ ?_
             rotate_left
             · simp [Region.wanted, yielded]; done
             · intro w' hS
               try obtain ⟨a1, a2, a3, a4, a5⟩ := hS
               go_simp
               try with_reducible rfl
             simp only [Act.put, List.setIfInBounds_toArray, List.set_cons_zero, List.set_cons_succ])
          | (refine scr_skip (by rfl) ?_ ?_
             · simp [Region.wanted, yielded]; done
             simp only [Act.put, List.setIfInBounds_toArray, List.set_cons_zero, List.set_cons_succ])
        refine scr_hard (by rfl) (by simp [Region.wanted, yielded]) (fun K hK => ?_)
        go_simp
        have hcb := (Chg.refl (fun _ _ => False) wb2).alloc (.cells #[.int .i64 x.1, .int .i64 x.2] 30)
        refine hK _ _ ⟨hcb.cell (fun h => h) m0, hcb.cell (fun h => h) m1, hcb.cell (fun h => h) m2, hcb.cell (fun h => h) q0, hcb.cell (fun h => h) q1⟩ ?_
        clear hK K
        refine name_scr (fun wn => Chg (fun _ _ => False) wb2 wn ∧ wb2.heap.size + 1 ≤ wn.heap.size ∧ wn.heap[wb2.heap.size]? = some (.cells #[.int .i64 x.1, .int .i64 x.2] 30 (0, 0))) ⟨hcb, by simp, ha_at _ _ rfl⟩ ?_
        clear hcb
        rintro wb1 ⟨hst, sz1, hb⟩
        replace m0 := hst.cell (fun h => h) m0
        replace m1 := hst.cell (fun h => h) m1
        replace m2 := hst.cell (fun h => h) m2
        replace q0 := hst.cell (fun h => h) q0
        replace q1 := hst.cell (fun h => h) q1
        replace hcu := hcu.trans hst
        have HB1 := Lib.hid hb
        clear hb
        replace HB2 := Lib.hid (show wb1.heap[wc.heap.size]? = some (.cells #[.int .i64 x.1, .int .i64 x.2] 30 (0, 0)) from by rw [hst.block (heap_lt HB2.out) (fun _ h => h)]; exact HB2.out)
        replace HOW := Lib.hid (HOW.out.keep hst)
        clear hst
        repeat
          first
          | (refine scr_soft (by rfl) ?_ ?_ ?_ ?_
             rotate_left
             · simp [Region.wanted, yielded]; done
             · intro w' hS
               try obtain ⟨a1, a2, a3, a4, a5⟩ := hS
               go_simp
               try with_reducible rfl
             simp only [Act.put, List.setIfInBounds_toArray, List.set_cons_zero, List.set_cons_succ])
          | (refine scr_skip (by rfl) ?_ ?_
             · simp [Region.wanted, yielded]; done
             simp only [Act.put, List.setIfInBounds_toArray, List.set_cons_zero, List.set_cons_succ])
        refine scr_hard (by rfl) (by simp [Region.wanted, yielded]) (fun K hK => ?_)
        have hbz := hcu.size
        obtain ⟨vA, wA, hrA, hA, hcA⟩ := own_append wb1 vC l w8.drew.heap.size HOW.out (by omega) (.slice (some ⟨wb2.heap.size, 0, none⟩) 1 1) [x] (slOne HB1.out) (by have := HLN.out; simp; omega) 25
        refine wp_append_run _ _ _ _ (by rfl) vC (.slice (some ⟨wb2.heap.size, 0, none⟩) 1 1) (by rfl) (by rfl) _ _ hrA ?_
        have hne : ∀ b, b ≤ w.heap.size + 1 → ¬ vC.ownBlock = some b := fun b hb h => by have := hlo _ h; omega
        replace m0 := hcA.cell (hne _ (by simp)) m0
        replace m1 := hcA.cell (hne _ (by simp)) m1
        replace m2 := hcA.cell (hne _ (by simp)) m2
        replace q0 := hcA.cell (hne _ (by simp)) q0
        replace q1 := hcA.cell (hne _ (by simp)) q1
        have hszA := hcA.size
        replace hcu := hcu.trans' hcA (fun _ _ _ h => h) (fun b o hb h => by have := hlo _ h; omega)
        have HA := Lib.hid hA.sl
        refine hK _ _ ⟨m0, m1, m2, q0, q1⟩ ?_
        clear hK K hA hrA
        have HB9 := Lib.hid (show wA.heap[wc.heap.size]? = some (.cells #[.int .i64 x.1, .int .i64 x.2] 30 (0, 0)) from by rw [hcA.block (heap_lt HB2.out) (fun _ h => by have := hlo _ h; have := hhi _ h; omega)]; exact HB2.out)
        have hst := True.intro
        clear hst
        repeat
          first
          | (refine scr_soft (by rfl) ?_ ?_ ?_ ?_
             rotate_left
             · simp [Region.wanted, yielded]; done
             · intro w' hS
               try obtain ⟨a1, a2, a3, a4, a5⟩ := hS
               go_simp
               try with_reducible rfl
             simp only [Act.put, List.setIfInBounds_toArray, List.set_cons_zero, List.set_cons_succ])
          | (refine scr_skip (by rfl) ?_ ?_
             · simp [Region.wanted, yielded]; done
             simp only [Act.put, List.setIfInBounds_toArray, List.set_cons_zero, List.set_cons_succ])
        refine scr_hard (by rfl) (by simp [Region.wanted, yielded]) (fun K hK => ?_)
        go_simp
        refine (G5.out _ hcu vA _ HA.out (slOne HB9.out)).mono ?_
        rintro e w9 ⟨v9, u9, rfl, how9, hou9, hst⟩
        replace m0 := hst.cell (fun h => h) m0
        replace m1 := hst.cell (fun h => h) m1
        replace m2 := hst.cell (fun h => h) m2
        replace q0 := hst.cell (fun h => h) q0
        replace q1 := hst.cell (fun h => h) q1
        replace hcu := hcu.trans hst
        refine hK _ _ ⟨m0, m1, m2, q0, q1⟩ ?_
        clear hK K
        clear hst
        repeat
          first
          | (refine scr_soft (by rfl) ?_ ?_ ?_ ?_
             rotate_left
             · simp [Region.wanted, yielded]; done
             · intro w' hS
               try obtain ⟨a1, a2, a3, a4, a5⟩ := hS
               go_simp
               try with_reducible rfl
             simp only [Act.put, List.setIfInBounds_toArray, List.set_cons_zero, List.set_cons_succ])
          | (refine scr_skip (by rfl) ?_ ?_
             · simp [Region.wanted, yielded]; done
             simp only [Act.put, List.setIfInBounds_toArray, List.set_cons_zero, List.set_cons_succ])
        refine scr_nil ?_
        obtain ⟨a9, c9, rfl⟩ := how9.form
        obtain ⟨b9, o9, gk, gv, gq, rfl, g0, g1, g2, gfl⟩ := how9.found (j := 0) (x := some x) rfl
        simp only [Nat.zero_mul, Nat.add_zero] at g0 g1 g2
        obtain ⟨rfl, rfl, rfl⟩ : gk = x.1 ∧ gv = x.2 ∧ gq = true := by
          have e : ([.int .i64 x.1, .int .i64 x.2, .bool true] : List Value) = [.int .i64 gk, .int .i64 gv, .bool gq] := gfl
          simp at e
          exact ⟨e.1.symm, e.2.1.symm, e.2.2⟩
        have HU := Lib.hid hou9
        obtain ⟨au, cu, rfl⟩ := hou9.form
        clear gfl how9 hou9
        go_wp2_with fail
        refine wp_region_scr (fun w' => w'.cell? ⟨w.heap.size, 0, none⟩ = some (.slice sa os.length sc) ∧ w'.cell? ⟨w.heap.size, 1, none⟩ = some (.int .i64 d) ∧ w'.cell? ⟨w.heap.size, 2, none⟩ = some (.bool nl) ∧ w'.cell? ⟨w.heap.size + 1, 0, none⟩ = some (.int .i64 x.1) ∧ w'.cell? ⟨w.heap.size + 1, 1, none⟩ = some (.int .i64 x.2) ∧ w'.cell? ⟨b9, o9, none⟩ = some (.int .i64 x.1) ∧ w'.cell? ⟨b9, o9 + 1, none⟩ = some (.int .i64 x.2) ∧ w'.cell? ⟨b9, o9 + 2, none⟩ = some (.bool true)) (.soft 0 (.soft 1 (.soft 2 (.soft 3 (.soft 4 (.soft 5 (.soft 6 (.soft 7 (.soft 8 (.soft 9 (.soft 10 (.soft 11 (.soft 12 (.soft 13 (.soft 14 (.hard 15 (.hard 16 (.soft 17 (.soft 18 (.hard 19 (.soft 20 (.soft 21 .nil)))))))))))))))))))))) (by kernel_rfl) (by kernel_rfl) (fun _ _ _ _ _ h => h) ⟨m0, m1, m2, q0, q1, g0, g1, g2⟩ ?_
        repeat
          first
          | (refine scr_soft (by rfl) ?_ ?_ ?_ ?_
             rotate_left
             · simp [Region.wanted, yielded]; done
             · intro w' hS
               try obtain ⟨a1, a2, a3, a4, a5, a6, a7, a8⟩ := hS
               go_simp
               try with_reducible rfl
             simp only [Act.put, List.setIfInBounds_toArray, List.set_cons_zero, List.set_cons_succ])
          | (refine scr_skip (by rfl) ?_ ?_
             · simp [Region.wanted, yielded]; done
             simp only [Act.put, List.setIfInBounds_toArray, List.set_cons_zero, List.set_cons_succ])
        refine scr_hard (by rfl) (by simp [Region.wanted, yielded]) (fun K hK => ?_)
        go_simp
        replace hcu := hcu.drew
        refine (G4.out _ hcu).mono ?_
        rintro e w10 ⟨v10, rfl, how10, hst⟩
        have hst10 := hst
        replace m0 := hst.cell (fun h => h) m0
        replace m1 := hst.cell (fun h => h) m1
        replace m2 := hst.cell (fun h => h) m2
        replace q0 := hst.cell (fun h => h) q0
        replace q1 := hst.cell (fun h => h) q1
        replace hcu := hcu.trans hst
        refine hK _ _ ⟨m0, m1, m2, q0, q1, hst.cell (fun h => h) g0, hst.cell (fun h => h) g1, hst.cell (fun h => h) g2⟩ ?_
        clear hK K
        repeat
          first
          | (refine scr_soft (by rfl) ?_ ?_ ?_ ?_
             rotate_left
             · simp [Region.wanted, yielded]; done
             · intro w' hS
               try obtain ⟨a1, a2, a3, a4, a5, a6, a7, a8⟩ := hS
               go_simp
               try with_reducible rfl
             simp only [Act.put, List.setIfInBounds_toArray, List.set_cons_zero, List.set_cons_succ])
          | (refine scr_skip (by rfl) ?_ ?_
             · simp [Region.wanted, yielded]; done
             simp only [Act.put, List.setIfInBounds_toArray, List.set_cons_zero, List.set_cons_succ])
        refine scr_hard (by rfl) (by simp [Region.wanted, yielded]) (fun K hK => ?_)
        go_simp
        refine (equal_item _ _ _ _ (HU.out.chg ((Chg.refl _ _).drew.trans hst10)) how10.sl (by have := HLL2.out; have := HLN.out; omega)).mono ?_
        rintro e w11 ⟨rfl, hst11⟩
        refine hK _ _ ⟨hst11.cell (fun h => h) m0, hst11.cell (fun h => h) m1, hst11.cell (fun h => h) m2, hst11.cell (fun h => h) q0, hst11.cell (fun h => h) q1, (hst10.trans hst11).cell (fun h => h) g0, (hst10.trans hst11).cell (fun h => h) g1, (hst10.trans hst11).cell (fun h => h) g2⟩ ?_
        clear hK K
        repeat
          first
          | (refine scr_soft (by rfl) ?_ ?_ ?_ ?_
             rotate_left
             · simp [Region.wanted, yielded]; done
             · intro w' hS
               try obtain ⟨a1, a2, a3, a4, a5, a6, a7, a8⟩ := hS
               go_simp
               try with_reducible rfl
             simp only [Act.put, List.setIfInBounds_toArray, List.set_cons_zero, List.set_cons_succ])
          | (refine scr_skip (by rfl) ?_ ?_
             · simp [Region.wanted, yielded]; done
             simp only [Act.put, List.setIfInBounds_toArray, List.set_cons_zero, List.set_cons_succ])
        refine scr_hard (by rfl) (by simp [Region.wanted, yielded]) (fun K hK => ?_)
        go_simp
        refine (alive_any _).mono ?_
        rintro e w12 ⟨rfl, hst12⟩
        have hst13 := hst11.trans hst12
        refine hK _ _ ⟨hst13.cell (fun h => h) m0, hst13.cell (fun h => h) m1, hst13.cell (fun h => h) m2, hst13.cell (fun h => h) q0, hst13.cell (fun h => h) q1, (hst10.trans hst13).cell (fun h => h) g0, (hst10.trans hst13).cell (fun h => h) g1, (hst10.trans hst13).cell (fun h => h) g2⟩ ?_
        clear hK K
        repeat
          first
          | (refine scr_soft (by rfl) ?_ ?_ ?_ ?_
             rotate_left
             · simp [Region.wanted, yielded]; done
             · intro w' hS
               try obtain ⟨a1, a2, a3, a4, a5, a6, a7, a8⟩ := hS
               go_simp
               try with_reducible rfl
             simp only [Act.put, List.setIfInBounds_toArray, List.set_cons_zero, List.set_cons_succ])
          | (refine scr_skip (by rfl) ?_ ?_
             · simp [Region.wanted, yielded]; done
             simp only [Act.put, List.setIfInBounds_toArray, List.set_cons_zero, List.set_cons_succ])
        refine scr_nil ?_
        go_wp2_with fail
        go_ret
        exact ⟨rfl, (hcu.trans hst11).trans hst12⟩
    · skip
      go_simp
      have hcb := (Chg.refl (fun _ _ => False) w8.drew).alloc (.cells #[.int .i64 x.1, .int .i64 x.2] 30)
      refine hK _ _ ⟨hcb.cell (fun h => h) m0, hcb.cell (fun h => h) m1, hcb.cell (fun h => h) m2, hcb.cell (fun h => h) q0, hcb.cell (fun h => h) q1⟩ ?_
      clear hK K
      refine name_scr (fun wn => Chg (fun _ _ => False) w8.drew wn ∧ w8.drew.heap.size + 1 ≤ wn.heap.size ∧ wn.heap[w8.drew.heap.size]? = some (.cells #[.int .i64 x.1, .int .i64 x.2] 30 (0, 0))) ⟨hcb, by simp, ha_at _ _ rfl⟩ ?_
      clear hcb
      rintro wb1 ⟨hst, sz1, hb⟩
      replace m0 := hst.cell (fun h => h) m0
      replace m1 := hst.cell (fun h => h) m1
      replace m2 := hst.cell (fun h => h) m2
      replace q0 := hst.cell (fun h => h) q0
      replace q1 := hst.cell (fun h => h) q1
      replace hcu := hcu.trans hst
      have HB1 := Lib.hid hb
      clear hb
      clear hst
      repeat
        first
        | (refine scr_soft (by rfl) ?_ ?_ ?_ ?_
           rotate_left
           · simp [Region.wanted, yielded]; done
           · intro w' hS
             try obtain ⟨a1, a2, a3, a4, a5⟩ := hS
             go_simp
             try with_reducible rfl
           simp only [Act.put, List.setIfInBounds_toArray, List.set_cons_zero, List.set_cons_succ])
        | (refine scr_skip (by rfl) ?_ ?_
           · simp [Region.wanted, yielded]; done
           simp only [Act.put, List.setIfInBounds_toArray, List.set_cons_zero, List.set_cons_succ])
      refine scr_fork (by rfl) (by rfl) rfl rfl (fun K hK => ?_) (fun K hK => ?_)
      · skip
        go_simp
        refine (GC.out _ hcu).mono ?_
        rintro e wc ⟨vC, rfl, hOut, hst⟩
        replace m0 := hst.cell (fun h => h) m0
        replace m1 := hst.cell (fun h => h) m1
        replace m2 := hst.cell (fun h => h) m2
        replace q0 := hst.cell (fun h => h) q0
        replace q1 := hst.cell (fun h => h) q1
        replace hcu := hcu.trans hst
        have hszC := hst.size
        have hlo : ∀ b, vC.ownBlock = some b → wb1.heap.size ≤ b := fun b hb => (hOut.own b hb).1
        have hhi : ∀ b, vC.ownBlock = some b → b < wc.heap.size := fun b hb => (hOut.own b hb).2
        have HOW := Lib.hid hOut.ownE
        clear hOut
        refine hK _ _ ⟨m0, m1, m2, q0, q1⟩ ?_
        clear hK K
        replace HB1 := Lib.hid (show wc.heap[w8.drew.heap.size]? = some (.cells #[.int .i64 x.1, .int .i64 x.2] 30 (0, 0)) from by rw [hst.block (heap_lt HB1.out) (fun _ h => h)]; exact HB1.out)
        clear hst
        repeat
          first
          | (refine scr_soft (by rfl) ?_ ?_ ?_ ?_
             rotate_left
             · simp [Region.wanted, yielded]; done
             · intro w' hS
               try obtain ⟨a1, a2, a3, a4, a5⟩ := hS
               go_simp
               try with_reducible rfl
             simp only [Act.put, List.setIfInBounds_toArray, List.set_cons_zero, List.set_cons_succ])
          | (refine scr_skip (by rfl) ?_ ?_
             · simp [Region.wanted, yielded]; done
             simp only [Act.put, List.setIfInBounds_toArray, List.set_cons_zero, List.set_cons_succ])
        refine scr_fork (by rfl) (by rfl) rfl rfl (fun K hK => ?_) (fun K hK => ?_)
        · skip
          have hbz := hcu.size
          obtain ⟨vA, wA, hrA, hA, hcA⟩ := own_append wc vC l wb1.heap.size HOW.out (by omega) (.slice (some ⟨w8.drew.heap.size, 0, none⟩) 1 1) [x] (slOne HB1.out) (by have := HLN.out; simp; omega) 25
          refine wp_append_run _ _ _ _ (by rfl) vC (.slice (some ⟨w8.drew.heap.size, 0, none⟩) 1 1) (by rfl) (by rfl) _ _ hrA ?_
          have hne : ∀ b, b ≤ w.heap.size + 1 → ¬ vC.ownBlock = some b := fun b hb h => by have := hlo _ h; omega
          replace m0 := hcA.cell (hne _ (by simp)) m0
          replace m1 := hcA.cell (hne _ (by simp)) m1
          replace m2 := hcA.cell (hne _ (by simp)) m2
          replace q0 := hcA.cell (hne _ (by simp)) q0
          replace q1 := hcA.cell (hne _ (by simp)) q1
          have hszA := hcA.size
          replace hcu := hcu.trans' hcA (fun _ _ _ h => h) (fun b o hb h => by have := hlo _ h; omega)
          have HA := Lib.hid hA.sl
          refine hK _ _ ⟨m0, m1, m2, q0, q1⟩ ?_
          clear hK K hA hrA
          have hst := True.intro
          clear hst
          repeat
            first
            | (refine scr_soft (by rfl) ?_ ?_ ?_ ?_
               rotate_left
               · simp [Region.wanted, yielded]; done
               · intro w' hS
                 try obtain ⟨a1, a2, a3, a4, a5⟩ := hS
                 go_simp
                 try with_reducible rfl
               simp only [Act.put, List.setIfInBounds_toArray, List.set_cons_zero, List.set_cons_succ])
            | (refine scr_skip (by rfl) ?_ ?_
               · simp [Region.wanted, yielded]; done
               simp only [Act.put, List.setIfInBounds_toArray, List.set_cons_zero, List.set_cons_succ])
          refine scr_hard (by rfl) (by simp [Region.wanted, yielded]) (fun K hK => ?_)
          go_simp
          have hcb := (Chg.refl (fun _ _ => False) wA).alloc (.cells #[.int .i64 x.1, .int .i64 x.2] 30)
          refine hK _ _ ⟨hcb.cell (fun h => h) m0, hcb.cell (fun h => h) m1, hcb.cell (fun h => h) m2, hcb.cell (fun h => h) q0, hcb.cell (fun h => h) q1⟩ ?_
          clear hK K
          refine name_scr (fun wn => Chg (fun _ _ => False) wA wn ∧ wA.heap.size + 1 ≤ wn.heap.size ∧ wn.heap[wA.heap.size]? = some (.cells #[.int .i64 x.1, .int .i64 x.2] 30 (0, 0))) ⟨hcb, by simp, ha_at _ _ rfl⟩ ?_
          clear hcb
          rintro wb2 ⟨hst, sz2, hb⟩
          replace m0 := hst.cell (fun h => h) m0
          replace m1 := hst.cell (fun h => h) m1
          replace m2 := hst.cell (fun h => h) m2
          replace q0 := hst.cell (fun h => h) q0
          replace q1 := hst.cell (fun h => h) q1
          replace hcu := hcu.trans hst
          have HB2 := Lib.hid hb
          clear hb
          replace HA := Lib.hid (HA.out.chg hst)
          have HB9 := HB2
          clear hst
          repeat
            first
            | (refine scr_soft (by rfl) ?_ ?_ ?_ ?_
               rotate_left
               · simp [Region.wanted, yielded]; done
               · intro w' hS
                 try obtain ⟨a1, a2, a3, a4, a5⟩ := hS
                 go_simp
                 try with_reducible rfl
               simp only [Act.put, List.setIfInBounds_toArray, List.set_cons_zero, List.set_cons_succ])
            | (refine scr_skip (by rfl) ?_ ?_
               · simp [Region.wanted, yielded]; done
               simp only [Act.put, List.setIfInBounds_toArray, List.set_cons_zero, List.set_cons_succ])
          refine scr_hard (by rfl) (by simp [Region.wanted, yielded]) (fun K hK => ?_)
          go_simp
          refine (G5.out _ hcu vA _ HA.out (slOne HB9.out)).mono ?_
          rintro e w9 ⟨v9, u9, rfl, how9, hou9, hst⟩
          replace m0 := hst.cell (fun h => h) m0
          replace m1 := hst.cell (fun h => h) m1
          replace m2 := hst.cell (fun h => h) m2
          replace q0 := hst.cell (fun h => h) q0
          replace q1 := hst.cell (fun h => h) q1
          replace hcu := hcu.trans hst
          refine hK _ _ ⟨m0, m1, m2, q0, q1⟩ ?_
          clear hK K
          clear hst
          repeat
            first
            | (refine scr_soft (by rfl) ?_ ?_ ?_ ?_
               rotate_left
               · simp [Region.wanted, yielded]; done
               · intro w' hS
                 try obtain ⟨a1, a2, a3, a4, a5⟩ := hS
                 go_simp
                 try with_reducible rfl
               simp only [Act.put, List.setIfInBounds_toArray, List.set_cons_zero, List.set_cons_succ])
            | (refine scr_skip (by rfl) ?_ ?_
               · simp [Region.wanted, yielded]; done
               simp only [Act.put, List.setIfInBounds_toArray, List.set_cons_zero, List.set_cons_succ])
          refine scr_nil ?_
          obtain ⟨a9, c9, rfl⟩ := how9.form
          obtain ⟨b9, o9, gk, gv, gq, rfl, g0, g1, g2, gfl⟩ := how9.found (j := 0) (x := some x) rfl
          simp only [Nat.zero_mul, Nat.add_zero] at g0 g1 g2
          obtain ⟨rfl, rfl, rfl⟩ : gk = x.1 ∧ gv = x.2 ∧ gq = true := by
            have e : ([.int .i64 x.1, .int .i64 x.2, .bool true] : List Value) = [.int .i64 gk, .int .i64 gv, .bool gq] := gfl
            simp at e
            exact ⟨e.1.symm, e.2.1.symm, e.2.2⟩
          have HU := Lib.hid hou9
          obtain ⟨au, cu, rfl⟩ := hou9.form
          clear gfl how9 hou9
          go_wp2_with fail
          refine wp_region_scr (fun w' => w'.cell? ⟨w.heap.size, 0, none⟩ = some (.slice sa os.length sc) ∧ w'.cell? ⟨w.heap.size, 1, none⟩ = some (.int .i64 d) ∧ w'.cell? ⟨w.heap.size, 2, none⟩ = some (.bool nl) ∧ w'.cell? ⟨w.heap.size + 1, 0, none⟩ = some (.int .i64 x.1) ∧ w'.cell? ⟨w.heap.size + 1, 1, none⟩ = some (.int .i64 x.2) ∧ w'.cell? ⟨b9, o9, none⟩ = some (.int .i64 x.1) ∧ w'.cell? ⟨b9, o9 + 1, none⟩ = some (.int .i64 x.2) ∧ w'.cell? ⟨b9, o9 + 2, none⟩ = some (.bool true)) (.soft 0 (.soft 1 (.soft 2 (.soft 3 (.soft 4 (.soft 5 (.soft 6 (.soft 7 (.soft 8 (.soft 9 (.soft 10 (.soft 11 (.soft 12 (.soft 13 (.soft 14 (.hard 15 (.hard 16 (.soft 17 (.soft 18 (.hard 19 (.soft 20 (.soft 21 .nil)))))))))))))))))))))) (by kernel_rfl) (by kernel_rfl) (fun _ _ _ _ _ h => h) ⟨m0, m1, m2, q0, q1, g0, g1, g2⟩ ?_
          repeat
            first
            | (refine scr_soft (by rfl) ?_ ?_ ?_ ?_
               rotate_left
               · simp [Region.wanted, yielded]; done
               · intro w' hS
                 try obtain ⟨a1, a2, a3, a4, a5, a6, a7, a8⟩ := hS
                 go_simp
                 try with_reducible rfl
               simp only [Act.put, List.setIfInBounds_toArray, List.set_cons_zero, List.set_cons_succ])
            | (refine scr_skip (by rfl) ?_ ?_
               · simp [Region.wanted, yielded]; done
               simp only [Act.put, List.setIfInBounds_toArray, List.set_cons_zero, List.set_cons_succ])
          refine scr_hard (by rfl) (by simp [Region.wanted, yielded]) (fun K hK => ?_)
          go_simp
          replace hcu := hcu.drew
          refine (G4.out _ hcu).mono ?_
          rintro e w10 ⟨v10, rfl, how10, hst⟩
          have hst10 := hst
          replace m0 := hst.cell (fun h => h) m0
          replace m1 := hst.cell (fun h => h) m1
          replace m2 := hst.cell (fun h => h) m2
          replace q0 := hst.cell (fun h => h) q0
          replace q1 := hst.cell (fun h => h) q1
          replace hcu := hcu.trans hst
          refine hK _ _ ⟨m0, m1, m2, q0, q1, hst.cell (fun h => h) g0, hst.cell (fun h => h) g1, hst.cell (fun h => h) g2⟩ ?_
          clear hK K
          repeat
            first
            | (refine scr_soft (by rfl) ?_ ?_ ?_ ?_
               rotate_left
               · simp [Region.wanted, yielded]; done
               · intro w' hS
                 try obtain ⟨a1, a2, a3, a4, a5, a6, a7, a8⟩ := hS
                 go_simp
                 try with_reducible rfl
               simp only [Act.put, List.setIfInBounds_toArray, List.set_cons_zero, List.set_cons_succ])
            | (refine scr_skip (by rfl) ?_ ?_
               · simp [Region.wanted, yielded]; done
               simp only [Act.put, List.setIfInBounds_toArray, List.set_cons_zero, List.set_cons_succ])
          refine scr_hard (by rfl) (by simp [Region.wanted, yielded]) (fun K hK => ?_)
          go_simp
          refine (equal_item _ _ _ _ (HU.out.chg ((Chg.refl _ _).drew.trans hst10)) how10.sl (by have := HLL2.out; have := HLN.out; omega)).mono ?_
          rintro e w11 ⟨rfl, hst11⟩
          refine hK _ _ ⟨hst11.cell (fun h => h) m0, hst11.cell (fun h => h) m1, hst11.cell (fun h => h) m2, hst11.cell (fun h => h) q0, hst11.cell (fun h => h) q1, (hst10.trans hst11).cell (fun h => h) g0, (hst10.trans hst11).cell (fun h => h) g1, (hst10.trans hst11).cell (fun h => h) g2⟩ ?_
          clear hK K
          repeat
            first
            | (refine scr_soft (by rfl) ?_ ?_ ?_ ?_
               rotate_left
               · simp [Region.wanted, yielded]; done
               · intro w' hS
                 try obtain ⟨a1, a2, a3, a4, a5, a6, a7, a8⟩ := hS
                 go_simp
                 try with_reducible rfl
               simp only [Act.put, List.setIfInBounds_toArray, List.set_cons_zero, List.set_cons_succ])
            | (refine scr_skip (by rfl) ?_ ?_
               · simp [Region.wanted, yielded]; done
               simp only [Act.put, List.setIfInBounds_toArray, List.set_cons_zero, List.set_cons_succ])
          refine scr_hard (by rfl) (by simp [Region.wanted, yielded]) (fun K hK => ?_)
          go_simp
          refine (alive_any _).mono ?_
          rintro e w12 ⟨rfl, hst12⟩
          have hst13 := hst11.trans hst12
          refine hK _ _ ⟨hst13.cell (fun h => h) m0, hst13.cell (fun h => h) m1, hst13.cell (fun h => h) m2, hst13.cell (fun h => h) q0, hst13.cell (fun h => h) q1, (hst10.trans hst13).cell (fun h => h) g0, (hst10.trans hst13).cell (fun h => h) g1, (hst10.trans hst13).cell (fun h => h) g2⟩ ?_
          clear hK K
          repeat
            first
            | (refine scr_soft (by rfl) ?_ ?_ ?_ ?_
               rotate_left
               · simp [Region.wanted, yielded]; done
               · intro w' hS
                 try obtain ⟨a1, a2, a3, a4, a5, a6, a7, a8⟩ := hS
                 go_simp
                 try with_reducible rfl
               simp only [Act.put, List.setIfInBounds_toArray, List.set_cons_zero, List.set_cons_succ])
            | (refine scr_skip (by rfl) ?_ ?_
               · simp [Region.wanted, yielded]; done
               simp only [Act.put, List.setIfInBounds_toArray, List.set_cons_zero, List.set_cons_succ])
          refine scr_nil ?_
          go_wp2_with fail
          go_ret
          exact ⟨rfl, (hcu.trans hst11).trans hst12⟩
        · skip
          go_simp
          have hcb := (Chg.refl (fun _ _ => False) wc).alloc (.cells #[.int .i64 x.1, .int .i64 x.2] 30)
          refine hK _ _ ⟨hcb.cell (fun h => h) m0, hcb.cell (fun h => h) m1, hcb.cell (fun h => h) m2, hcb.cell (fun h => h) q0, hcb.cell (fun h => h) q1⟩ ?_
          clear hK K
          refine name_scr (fun wn => Chg (fun _ _ => False) wc wn ∧ wc.heap.size + 1 ≤ wn.heap.size ∧ wn.heap[wc.heap.size]? = some (.cells #[.int .i64 x.1, .int .i64 x.2] 30 (0, 0))) ⟨hcb, by simp, ha_at _ _ rfl⟩ ?_
          clear hcb
          rintro wb2 ⟨hst, sz2, hb⟩
          replace m0 := hst.cell (fun h => h) m0
          replace m1 := hst.cell (fun h => h) m1
          replace m2 := hst.cell (fun h => h) m2
          replace q0 := hst.cell (fun h => h) q0
          replace q1 := hst.cell (fun h => h) q1
          replace hcu := hcu.trans hst
          have HB2 := Lib.hid hb
          clear hb
          replace HB1 := Lib.hid (show wb2.heap[w8.drew.heap.size]? = some (.cells #[.int .i64 x.1, .int .i64 x.2] 30 (0, 0)) from by rw [hst.block (heap_lt HB1.out) (fun _ h => h)]; exact HB1.out)
          replace HOW := Lib.hid (HOW.out.keep hst)
          clear hst
          repeat
            first
            | (refine scr_soft (by rfl) ?_ ?_ ?_ ?_
               rotate_left
               · simp [Region.wanted, yielded]; done
               · intro w' hS
                 try obtain ⟨a1, a2, a3, a4, a5⟩ := hS
                 go_simp
                 try with_reducible rfl
               simp only [Act.put, List.setIfInBounds_toArray, List.set_cons_zero, List.set_cons_succ])
            | (refine scr_skip (by rfl) ?_ ?_
               · simp [Region.wanted, yielded]; done
               simp only [Act.put, List.setIfInBounds_toArray, List.set_cons_zero, List.set_cons_succ])
          refine scr_hard (by rfl) (by simp [Region.wanted, yielded]) (fun K hK => ?_)
          have hbz := hcu.size
          obtain ⟨vA, wA, hrA, hA, hcA⟩ := own_append wb2 vC l wb1.heap.size HOW.out (by omega) (.slice (some ⟨w8.drew.heap.size, 0, none⟩) 1 1) [x] (slOne HB1.out) (by have := HLN.out; simp; omega) 25
          refine wp_append_run _ _ _ _ (by rfl) vC (.slice (some ⟨w8.drew.heap.size, 0, none⟩) 1 1) (by rfl) (by rfl) _ _ hrA ?_
          have hne : ∀ b, b ≤ w.heap.size + 1 → ¬ vC.ownBlock = some b := fun b hb h => by have := hlo _ h; omega
          replace m0 := hcA.cell (hne _ (by simp)) m0
          replace m1 := hcA.cell (hne _ (by simp)) m1
          replace m2 := hcA.cell (hne _ (by simp)) m2
          replace q0 := hcA.cell (hne _ (by simp)) q0
          replace q1 := hcA.cell (hne _ (by simp)) q1
          have hszA := hcA.size
          replace hcu := hcu.trans' hcA (fun _ _ _ h => h) (fun b o hb h => by have := hlo _ h; omega)
          have HA := Lib.hid hA.sl
          refine hK _ _ ⟨m0, m1, m2, q0, q1⟩ ?_
          clear hK K hA hrA
          have HB9 := Lib.hid (show wA.heap[wc.heap.size]? = some (.cells #[.int .i64 x.1, .int .i64 x.2] 30 (0, 0)) from by rw [hcA.block (heap_lt HB2.out) (fun _ h => by have := hlo _ h; have := hhi _ h; omega)]; exact HB2.out)
          have hst := True.intro
          clear hst
          repeat
            first
            | (refine scr_soft (by rfl) ?_ ?_ ?_ ?_
               rotate_left
               · simp [Region.wanted, yielded]; done
               · intro w' hS
                 try obtain ⟨a1, a2, a3, a4, a5⟩ := hS
                 go_simp
                 try with_reducible rfl
               simp only [Act.put, List.setIfInBounds_toArray, List.set_cons_zero, List.set_cons_succ])
            | (refine scr_skip (by rfl) ?_ ?_
               · simp [Region.wanted, yielded]; done
               simp only [Act.put, List.setIfInBounds_toArray, List.set_cons_zero, List.set_cons_succ])
          refine scr_hard (by rfl) (by simp [Region.wanted, yielded]) (fun K hK => ?_)
          go_simp
          refine (G5.out _ hcu vA _ HA.out (slOne HB9.out)).mono ?_
          rintro e w9 ⟨v9, u9, rfl, how9, hou9, hst⟩
          replace m0 := hst.cell (fun h => h) m0
          replace m1 := hst.cell (fun h => h) m1
          replace m2 := hst.cell (fun h => h) m2
          replace q0 := hst.cell (fun h => h) q0
          replace q1 := hst.cell (fun h => h) q1
          replace hcu := hcu.trans hst
          refine hK _ _ ⟨m0, m1, m2, q0, q1⟩ ?_
          clear hK K
          clear hst
          repeat
            first
            | (refine scr_soft (by rfl) ?_ ?_ ?_ ?_
               rotate_left
               · simp [Region.wanted, yielded]; done
               · intro w' hS
                 try obtain ⟨a1, a2, a3, a4, a5⟩ := hS
                 go_simp
                 try with_reducible rfl
               simp only [Act.put, List.setIfInBounds_toArray, List.set_cons_zero, List.set_cons_succ])
            | (refine scr_skip (by rfl) ?_ ?_
               · simp [Region.wanted, yielded]; done
               simp only [Act.put, List.setIfInBounds_toArray, List.set_cons_zero, List.set_cons_succ])
          refine scr_nil ?_
          obtain ⟨a9, c9, rfl⟩ := how9.form
          obtain ⟨b9, o9, gk, gv, gq, rfl, g0, g1, g2, gfl⟩ := how9.found (j := 0) (x := some x) rfl
          simp only [Nat.zero_mul, Nat.add_zero] at g0 g1 g2
          obtain ⟨rfl, rfl, rfl⟩ : gk = x.1 ∧ gv = x.2 ∧ gq = true := by
            have e : ([.int .i64 x.1, .int .i64 x.2, .bool true] : List Value) = [.int .i64 gk, .int .i64 gv, .bool gq] := gfl
            simp at e
            exact ⟨e.1.symm, e.2.1.symm, e.2.2⟩
          have HU := Lib.hid hou9
          obtain ⟨au, cu, rfl⟩ := hou9.form
          clear gfl how9 hou9
          go_wp2_with fail
          refine wp_region_scr (fun w' => w'.cell? ⟨w.heap.size, 0, none⟩ = some (.slice sa os.length sc) ∧ w'.cell? ⟨w.heap.size, 1, none⟩ = some (.int .i64 d) ∧ w'.cell? ⟨w.heap.size, 2, none⟩ = some (.bool nl) ∧ w'.cell? ⟨w.heap.size + 1, 0, none⟩ = some (.int .i64 x.1) ∧ w'.cell? ⟨w.heap.size + 1, 1, none⟩ = some (.int .i64 x.2) ∧ w'.cell? ⟨b9, o9, none⟩ = some (.int .i64 x.1) ∧ w'.cell? ⟨b9, o9 + 1, none⟩ = some (.int .i64 x.2) ∧ w'.cell? ⟨b9, o9 + 2, none⟩ = some (.bool true)) (.soft 0 (.soft 1 (.soft 2 (.soft 3 (.soft 4 (.soft 5 (.soft 6 (.soft 7 (.soft 8 (.soft 9 (.soft 10 (.soft 11 (.soft 12 (.soft 13 (.soft 14 (.hard 15 (.hard 16 (.soft 17 (.soft 18 (.hard 19 (.soft 20 (.soft 21 .nil)))))))))))))))))))))) (by kernel_rfl) (by kernel_rfl) (fun _ _ _ _ _ h => h) ⟨m0, m1, m2, q0, q1, g0, g1, g2⟩ ?_
          repeat
            first
            | (refine scr_soft (by rfl) ?_ ?_ ?_ ?_
               rotate_left
               · simp [Region.wanted, yielded]; done
               · intro w' hS
                 try obtain ⟨a1, a2, a3, a4, a5, a6, a7, a8⟩ := hS
                 go_simp
                 try with_reducible rfl
               simp only [Act.put, List.setIfInBounds_toArray, List.set_cons_zero, List.set_cons_succ])
            | (refine scr_skip (by rfl) ?_ ?_
               · simp [Region.wanted, yielded]; done
               simp only [Act.put, List.setIfInBounds_toArray, List.set_cons_zero, List.set_cons_succ])
          refine scr_hard (by rfl) (by simp [Region.wanted, yielded]) (fun K hK => ?_)
          go_simp
          replace hcu := hcu.drew
          refine (G4.out _ hcu).mono ?_
          rintro e w10 ⟨v10, rfl, how10, hst⟩
          have hst10 := hst
          replace m0 := hst.cell (fun h => h) m0
          replace m1 := hst.cell (fun h => h) m1
          replace m2 := hst.cell (fun h => h) m2
          replace q0 := hst.cell (fun h => h) q0
          replace q1 := hst.cell (fun h => h) q1
          replace hcu := hcu.trans hst
          refine hK _ _ ⟨m0, m1, m2, q0, q1, hst.cell (fun h => h) g0, hst.cell (fun h => h) g1, hst.cell (fun h => h) g2⟩ ?_
          clear hK K
          repeat
            first
            | (refine scr_soft (by rfl) ?_ ?_ ?_ ?_
               rotate_left
               · simp [Region.wanted, yielded]; done
               · intro w' hS
                 try obtain ⟨a1, a2, a3, a4, a5, a6, a7, a8⟩ := hS
                 go_simp
                 try with_reducible rfl
               simp only [Act.put, List.setIfInBounds_toArray, List.set_cons_zero, List.set_cons_succ])
            | (refine scr_skip (by rfl) ?_ ?_
               · simp [Region.wanted, yielded]; done
               simp only [Act.put, List.setIfInBounds_toArray, List.set_cons_zero, List.set_cons_succ])
          refine scr_hard (by rfl) (by simp [Region.wanted, yielded]) (fun K hK => ?_)
          go_simp
          refine (equal_item _ _ _ _ (HU.out.chg ((Chg.refl _ _).drew.trans hst10)) how10.sl (by have := HLL2.out; have := HLN.out; omega)).mono ?_
          rintro e w11 ⟨rfl, hst11⟩
          refine hK _ _ ⟨hst11.cell (fun h => h) m0, hst11.cell (fun h => h) m1, hst11.cell (fun h => h) m2, hst11.cell (fun h => h) q0, hst11.cell (fun h => h) q1, (hst10.trans hst11).cell (fun h => h) g0, (hst10.trans hst11).cell (fun h => h) g1, (hst10.trans hst11).cell (fun h => h) g2⟩ ?_
          clear hK K
          repeat
            first
            | (refine scr_soft (by rfl) ?_ ?_ ?_ ?_
               rotate_left
               · simp [Region.wanted, yielded]; done
               · intro w' hS
                 try obtain ⟨a1, a2, a3, a4, a5, a6, a7, a8⟩ := hS
                 go_simp
                 try with_reducible rfl
               simp only [Act.put, List.setIfInBounds_toArray, List.set_cons_zero, List.set_cons_succ])
            | (refine scr_skip (by rfl) ?_ ?_
               · simp [Region.wanted, yielded]; done
               simp only [Act.put, List.setIfInBounds_toArray, List.set_cons_zero, List.set_cons_succ])
          refine scr_hard (by rfl) (by simp [Region.wanted, yielded]) (fun K hK => ?_)
          go_simp
          refine (alive_any _).mono ?_
          rintro e w12 ⟨rfl, hst12⟩
          have hst13 := hst11.trans hst12
          refine hK _ _ ⟨hst13.cell (fun h => h) m0, hst13.cell (fun h => h) m1, hst13.cell (fun h => h) m2, hst13.cell (fun h => h) q0, hst13.cell (fun h => h) q1, (hst10.trans hst13).cell (fun h => h) g0, (hst10.trans hst13).cell (fun h => h) g1, (hst10.trans hst13).cell (fun h => h) g2⟩ ?_
          clear hK K
          repeat
            first
            | (refine scr_soft (by rfl) ?_ ?_ ?_ ?_
               rotate_left
               · simp [Region.wanted, yielded]; done
               · intro w' hS
                 try obtain ⟨a1, a2, a3, a4, a5, a6, a7, a8⟩ := hS
                 go_simp
                 try with_reducible rfl
               simp only [Act.put, List.setIfInBounds_toArray, List.set_cons_zero, List.set_cons_succ])
            | (refine scr_skip (by rfl) ?_ ?_
               · simp [Region.wanted, yielded]; done
               simp only [Act.put, List.setIfInBounds_toArray, List.set_cons_zero, List.set_cons_succ])
          refine scr_nil ?_
          go_wp2_with fail
          go_ret
          exact ⟨rfl, (hcu.trans hst11).trans hst12⟩
      · skip
        go_simp
        have hcb := (Chg.refl (fun _ _ => False) wb1).alloc (.cells #[.int .i64 x.1, .int .i64 x.2] 30)
        refine hK _ _ ⟨hcb.cell (fun h => h) m0, hcb.cell (fun h => h) m1, hcb.cell (fun h => h) m2, hcb.cell (fun h => h) q0, hcb.cell (fun h => h) q1⟩ ?_
        clear hK K
        refine name_scr (fun wn => Chg (fun _ _ => False) wb1 wn ∧ wb1.heap.size + 1 ≤ wn.heap.size ∧ wn.heap[wb1.heap.size]? = some (.cells #[.int .i64 x.1, .int .i64 x.2] 30 (0, 0))) ⟨hcb, by simp, ha_at _ _ rfl⟩ ?_
        clear hcb
        rintro wb2 ⟨hst, sz2, hb⟩
        replace m0 := hst.cell (fun h => h) m0
        replace m1 := hst.cell (fun h => h) m1
        replace m2 := hst.cell (fun h => h) m2
        replace q0 := hst.cell (fun h => h) q0
        replace q1 := hst.cell (fun h => h) q1
        replace hcu := hcu.trans hst
        have HB2 := Lib.hid hb
        clear hb
        replace HB1 := Lib.hid (show wb2.heap[w8.drew.heap.size]? = some (.cells #[.int .i64 x.1, .int .i64 x.2] 30 (0, 0)) from by rw [hst.block (heap_lt HB1.out) (fun _ h => h)]; exact HB1.out)
        clear hst
        repeat
          first
          | (refine scr_soft (by rfl) ?_ ?_ ?_ ?_
             rotate_left
             · simp [Region.wanted, yielded]; done
             · intro w' hS
               try obtain ⟨a1, a2, a3, a4, a5⟩ := hS
               go_simp
               try with_reducible rfl
             simp only [Act.put, List.setIfInBounds_toArray, List.set_cons_zero, List.set_cons_succ])
          | (refine scr_skip (by rfl) ?_ ?_
             · simp [Region.wanted, yielded]; done
             simp only [Act.put, List.setIfInBounds_toArray, List.set_cons_zero, List.set_cons_succ])
        refine scr_hard (by rfl) (by simp [Region.wanted, yielded]) (fun K hK => ?_)
        go_simp
        refine (GC.out _ hcu).mono ?_
        rintro e wc ⟨vC, rfl, hOut, hst⟩
        replace m0 := hst.cell (fun h => h) m0
        replace m1 := hst.cell (fun h => h) m1
        replace m2 := hst.cell (fun h => h) m2
        replace q0 := hst.cell (fun h => h) q0
        replace q1 := hst.cell (fun h => h) q1
        replace hcu := hcu.trans hst
        have hszC := hst.size
        have hlo : ∀ b, vC.ownBlock = some b → wb2.heap.size ≤ b := fun b hb => (hOut.own b hb).1
        have hhi : ∀ b, vC.ownBlock = some b → b < wc.heap.size := fun b hb => (hOut.own b hb).2
        have HOW := Lib.hid hOut.ownE
        clear hOut
        refine hK _ _ ⟨m0, m1, m2, q0, q1⟩ ?_
        clear hK K
        replace HB1 := Lib.hid (show wc.heap[w8.drew.heap.size]? = some (.cells #[.int .i64 x.1, .int .i64 x.2] 30 (0, 0)) from by rw [hst.block (heap_lt HB1.out) (fun _ h => h)]; exact HB1.out)
        replace HB2 := Lib.hid (show wc.heap[wb1.heap.size]? = some (.cells #[.int .i64 x.1, .int .i64 x.2] 30 (0, 0)) from by rw [hst.block (heap_lt HB2.out) (fun _ h => h)]; exact HB2.out)
        clear hst
        repeat
          first
          | (refine scr_soft (by rfl) ?_ ?_ ?_ ?_
             rotate_left
             · simp [Region.wanted, yielded]; done
             · intro w' hS
               try obtain ⟨a1, a2, a3, a4, a5⟩ := hS
               go_simp
               try with_reducible rfl
             simp only [Act.put, List.setIfInBounds_toArray, List.set_cons_zero, List.set_cons_succ])
          | (refine scr_skip (by rfl) ?_ ?_
             · simp [Region.wanted, yielded]; done
             simp only [Act.put, List.setIfInBounds_toArray, List.set_cons_zero, List.set_cons_succ])
        refine scr_hard (by rfl) (by simp [Region.wanted, yielded]) (fun K hK => ?_)
        have hbz := hcu.size
        obtain ⟨vA, wA, hrA, hA, hcA⟩ := own_append wc vC l wb2.heap.size HOW.out (by omega) (.slice (some ⟨w8.drew.heap.size, 0, none⟩) 1 1) [x] (slOne HB1.out) (by have := HLN.out; simp; omega) 25
        refine wp_append_run _ _ _ _ (by rfl) vC (.slice (some ⟨w8.drew.heap.size, 0, none⟩) 1 1) (by rfl) (by rfl) _ _ hrA ?_
        have hne : ∀ b, b ≤ w.heap.size + 1 → ¬ vC.ownBlock = some b := fun b hb h => by have := hlo _ h; omega
        replace m0 := hcA.cell (hne _ (by simp)) m0
        replace m1 := hcA.cell (hne _ (by simp)) m1
        replace m2 := hcA.cell (hne _ (by simp)) m2
        replace q0 := hcA.cell (hne _ (by simp)) q0
        replace q1 := hcA.cell (hne _ (by simp)) q1
        have hszA := hcA.size
        replace hcu := hcu.trans' hcA (fun _ _ _ h => h) (fun b o hb h => by have := hlo _ h; omega)
        have HA := Lib.hid hA.sl
        refine hK _ _ ⟨m0, m1, m2, q0, q1⟩ ?_
        clear hK K hA hrA
        have HB9 := Lib.hid (show wA.heap[wb1.heap.size]? = some (.cells #[.int .i64 x.1, .int .i64 x.2] 30 (0, 0)) from by rw [hcA.block (heap_lt HB2.out) (fun _ h => by have := hlo _ h; have := hhi _ h; omega)]; exact HB2.out)
        have hst := True.intro
        clear hst
        repeat
          first
          | (refine scr_soft (by rfl) ?_ ?_ ?_ ?_
             rotate_left
             · simp [Region.wanted, yielded]; done
             · intro w' hS
               try obtain ⟨a1, a2, a3, a4, a5⟩ := hS
               go_simp
               try with_reducible rfl
             simp only [Act.put, List.setIfInBounds_toArray, List.set_cons_zero, List.set_cons_succ])
          | (refine scr_skip (by rfl) ?_ ?_
             · simp [Region.wanted, yielded]; done
             simp only [Act.put, List.setIfInBounds_toArray, List.set_cons_zero, List.set_cons_succ])
        refine scr_hard (by rfl) (by simp [Region.wanted, yielded]) (fun K hK => ?_)
        go_simp
        refine (G5.out _ hcu vA _ HA.out (slOne HB9.out)).mono ?_
        rintro e w9 ⟨v9, u9, rfl, how9, hou9, hst⟩
        replace m0 := hst.cell (fun h => h) m0
        replace m1 := hst.cell (fun h => h) m1
        replace m2 := hst.cell (fun h => h) m2
        replace q0 := hst.cell (fun h => h) q0
        replace q1 := hst.cell (fun h => h) q1
        replace hcu := hcu.trans hst
        refine hK _ _ ⟨m0, m1, m2, q0, q1⟩ ?_
        clear hK K
        clear hst
        repeat
          first
          | (refine scr_soft (by rfl) ?_ ?_ ?_ ?_
             rotate_left
             · simp [Region.wanted, yielded]; done
             · intro w' hS
               try obtain ⟨a1, a2, a3, a4, a5⟩ := hS
               go_simp
               try with_reducible rfl
             simp only [Act.put, List.setIfInBounds_toArray, List.set_cons_zero, List.set_cons_succ])
          | (refine scr_skip (by rfl) ?_ ?_
             · simp [Region.wanted, yielded]; done
             simp only [Act.put, List.setIfInBounds_toArray, List.set_cons_zero, List.set_cons_succ])
        refine scr_nil ?_
        obtain ⟨a9, c9, rfl⟩ := how9.form
        obtain ⟨b9, o9, gk, gv, gq, rfl, g0, g1, g2, gfl⟩ := how9.found (j := 0) (x := some x) rfl
        simp only [Nat.zero_mul, Nat.add_zero] at g0 g1 g2
        obtain ⟨rfl, rfl, rfl⟩ : gk = x.1 ∧ gv = x.2 ∧ gq = true := by
          have e : ([.int .i64 x.1, .int .i64 x.2, .bool true] : List Value) = [.int .i64 gk, .int .i64 gv, .bool gq] := gfl
          simp at e
          exact ⟨e.1.symm, e.2.1.symm, e.2.2⟩
        have HU := Lib.hid hou9
        obtain ⟨au, cu, rfl⟩ := hou9.form
        clear gfl how9 hou9
        go_wp2_with fail
        refine wp_region_scr (fun w' => w'.cell? ⟨w.heap.size, 0, none⟩ = some (.slice sa os.length sc) ∧ w'.cell? ⟨w.heap.size, 1, none⟩ = some (.int .i64 d) ∧ w'.cell? ⟨w.heap.size, 2, none⟩ = some (.bool nl) ∧ w'.cell? ⟨w.heap.size + 1, 0, none⟩ = some (.int .i64 x.1) ∧ w'.cell? ⟨w.heap.size + 1, 1, none⟩ = some (.int .i64 x.2) ∧ w'.cell? ⟨b9, o9, none⟩ = some (.int .i64 x.1) ∧ w'.cell? ⟨b9, o9 + 1, none⟩ = some (.int .i64 x.2) ∧ w'.cell? ⟨b9, o9 + 2, none⟩ = some (.bool true)) (.soft 0 (.soft 1 (.soft 2 (.soft 3 (.soft 4 (.soft 5 (.soft 6 (.soft 7 (.soft 8 (.soft 9 (.soft 10 (.soft 11 (.soft 12 (.soft 13 (.soft 14 (.hard 15 (.hard 16 (.soft 17 (.soft 18 (.hard 19 (.soft 20 (.soft 21 .nil)))))))))))))))))))))) (by kernel_rfl) (by kernel_rfl) (fun _ _ _ _ _ h => h) ⟨m0, m1, m2, q0, q1, g0, g1, g2⟩ ?_
        repeat
          first
          | (refine scr_soft (by rfl) ?_ ?_ ?_ ?_
             rotate_left
             · simp [Region.wanted, yielded]; done
             · intro w' hS
               try obtain ⟨a1, a2, a3, a4, a5, a6, a7, a8⟩ := hS
               go_simp
               try with_reducible rfl
             simp only [Act.put, List.setIfInBounds_toArray, List.set_cons_zero, List.set_cons_succ])
          | (refine scr_skip (by rfl) ?_ ?_
             · simp [Region.wanted, yielded]; done
             simp only [Act.put, List.setIfInBounds_toArray, List.set_cons_zero, List.set_cons_succ])
        refine scr_hard (by rfl) (by simp [Region.wanted, yielded]) (fun K hK => ?_)
        go_simp
        replace hcu := hcu.drew
        refine (G4.out _ hcu).mono ?_
        rintro e w10 ⟨v10, rfl, how10, hst⟩
        have hst10 := hst
        replace m0 := hst.cell (fun h => h) m0
        replace m1 := hst.cell (fun h => h) m1
        replace m2 := hst.cell (fun h => h) m2
        replace q0 := hst.cell (fun h => h) q0
        replace q1 := hst.cell (fun h => h) q1
        replace hcu := hcu.trans hst
        refine hK _ _ ⟨m0, m1, m2, q0, q1, hst.cell (fun h => h) g0, hst.cell (fun h => h) g1, hst.cell (fun h => h) g2⟩ ?_
        clear hK K
        repeat
          first
          | (refine scr_soft (by rfl) ?_ ?_ ?_ ?_
             rotate_left
             · simp [Region.wanted, yielded]; done
             · intro w' hS
               try obtain ⟨a1, a2, a3, a4, a5, a6, a7, a8⟩ := hS
               go_simp
               try with_reducible rfl
             simp only [Act.put, List.setIfInBounds_toArray, List.set_cons_zero, List.set_cons_succ])
          | (refine scr_skip (by rfl) ?_ ?_
             · simp [Region.wanted, yielded]; done
             simp only [Act.put, List.setIfInBounds_toArray, List.set_cons_zero, List.set_cons_succ])
        refine scr_hard (by rfl) (by simp [Region.wanted, yielded]) (fun K hK => ?_)
        go_simp
        refine (equal_item _ _ _ _ (HU.out.chg ((Chg.refl _ _).drew.trans hst10)) how10.sl (by have := HLL2.out; have := HLN.out; omega)).mono ?_
        rintro e w11 ⟨rfl, hst11⟩
        refine hK _ _ ⟨hst11.cell (fun h => h) m0, hst11.cell (fun h => h) m1, hst11.cell (fun h => h) m2, hst11.cell (fun h => h) q0, hst11.cell (fun h => h) q1, (hst10.trans hst11).cell (fun h => h) g0, (hst10.trans hst11).cell (fun h => h) g1, (hst10.trans hst11).cell (fun h => h) g2⟩ ?_
        clear hK K
        repeat
          first
          | (refine scr_soft (by rfl) ?_ ?_ ?_ ?_
             rotate_left
             · simp [Region.wanted, yielded]; done
             · intro w' hS
               try obtain ⟨a1, a2, a3, a4, a5, a6, a7, a8⟩ := hS
               go_simp
               try with_reducible rfl
             simp only [Act.put, List.setIfInBounds_toArray, List.set_cons_zero, List.set_cons_succ])
          | (refine scr_skip (by rfl) ?_ ?_
             · simp [Region.wanted, yielded]; done
             simp only [Act.put, List.setIfInBounds_toArray, List.set_cons_zero, List.set_cons_succ])
        refine scr_hard (by rfl) (by simp [Region.wanted, yielded]) (fun K hK => ?_)
        go_simp
        refine (alive_any _).mono ?_
        rintro e w12 ⟨rfl, hst12⟩
        have hst13 := hst11.trans hst12
        refine hK _ _ ⟨hst13.cell (fun h => h) m0, hst13.cell (fun h => h) m1, hst13.cell (fun h => h) m2, hst13.cell (fun h => h) q0, hst13.cell (fun h => h) q1, (hst10.trans hst13).cell (fun h => h) g0, (hst10.trans hst13).cell (fun h => h) g1, (hst10.trans hst13).cell (fun h => h) g2⟩ ?_
        clear hK K
        repeat
          first
          | (refine scr_soft (by rfl) ?_ ?_ ?_ ?_
             rotate_left
             · simp [Region.wanted, yielded]; done
             · intro w' hS
               try obtain ⟨a1, a2, a3, a4, a5, a6, a7, a8⟩ := hS
               go_simp
               try with_reducible rfl
             simp only [Act.put, List.setIfInBounds_toArray, List.set_cons_zero, List.set_cons_succ])
          | (refine scr_skip (by rfl) ?_ ?_
             · simp [Region.wanted, yielded]; done
             simp only [Act.put, List.setIfInBounds_toArray, List.set_cons_zero, List.set_cons_succ])
        refine scr_nil ?_
        go_wp2_with fail
        go_ret
        exact ⟨rfl, (hcu.trans hst11).trans hst12⟩
    · skip
      go_simp
      have hcb := (Chg.refl (fun _ _ => False) w8.drew).alloc (.cells #[.int .i64 x.1, .int .i64 x.2] 30)
      refine hK _ _ ⟨hcb.cell (fun h => h) m0, hcb.cell (fun h => h) m1, hcb.cell (fun h => h) m2, hcb.cell (fun h => h) q0, hcb.cell (fun h => h) q1⟩ ?_
      clear hK K
      refine name_scr (fun wn => Chg (fun _ _ => False) w8.drew wn ∧ w8.drew.heap.size + 1 ≤ wn.heap.size ∧ wn.heap[w8.drew.heap.size]? = some (.cells #[.int .i64 x.1, .int .i64 x.2] 30 (0, 0))) ⟨hcb, by simp, ha_at _ _ rfl⟩ ?_
      clear hcb
      rintro wb2 ⟨hst, sz2, hb⟩
      replace m0 := hst.cell (fun h => h) m0
      replace m1 := hst.cell (fun h => h) m1
      replace m2 := hst.cell (fun h => h) m2
      replace q0 := hst.cell (fun h => h) q0
      replace q1 := hst.cell (fun h => h) q1
      replace hcu := hcu.trans hst
      have HB2 := Lib.hid hb
      clear hb
      clear hst
      repeat
        first
        | (refine scr_soft (by rfl) ?_ ?_ ?_ ?_
           rotate_left
           · simp [Region.wanted, yielded]; done
           · intro w' hS
             try obtain ⟨a1, a2, a3, a4, a5⟩ := hS
             go_simp
             try with_reducible rfl
           simp only [Act.put, List.setIfInBounds_toArray, List.set_cons_zero, List.set_cons_succ])
        | (refine scr_skip (by rfl) ?_ ?_
           · simp [Region.wanted, yielded]; done
           simp only [Act.put, List.setIfInBounds_toArray, List.set_cons_zero, List.set_cons_succ])
      refine scr_fork (by rfl) (by rfl) rfl rfl (fun K hK => ?_) (fun K hK => ?_)
      · skip
        go_simp
        refine (GC.out _ hcu).mono ?_
        rintro e wc ⟨vC, rfl, hOut, hst⟩
        replace m0 := hst.cell (fun h => h) m0
        replace m1 := hst.cell (fun h => h) m1
        replace m2 := hst.cell (fun h => h) m2
        replace q0 := hst.cell (fun h => h) q0
        replace q1 := hst.cell (fun h => h) q1
        replace hcu := hcu.trans hst
        have hszC := hst.size
        have hlo : ∀ b, vC.ownBlock = some b → wb2.heap.size ≤ b := fun b hb => (hOut.own b hb).1
        have hhi : ∀ b, vC.ownBlock = some b → b < wc.heap.size := fun b hb => (hOut.own b hb).2
        have HOW := Lib.hid hOut.ownE
        clear hOut
        refine hK _ _ ⟨m0, m1, m2, q0, q1⟩ ?_
        clear hK K
        replace HB2 := Lib.hid (show wc.heap[w8.drew.heap.size]? = some (.cells #[.int .i64 x.1, .int .i64 x.2] 30 (0, 0)) from by rw [hst.block (heap_lt HB2.out) (fun _ h => h)]; exact HB2.out)
        clear hst
        repeat
          first
          | (refine scr_soft (by rfl) ?_ ?_ ?_ ?_
             rotate_left
             · simp [Region.wanted, yielded]; done
             · intro w' hS
               try obtain ⟨a1, a2, a3, a4, a5⟩ := hS
               go_simp
               try with_reducible rfl
             simp only [Act.put, List.setIfInBounds_toArray, List.set_cons_zero, List.set_cons_succ])
          | (refine scr_skip (by rfl) ?_ ?_
             · simp [Region.wanted, yielded]; done
             simp only [Act.put, List.setIfInBounds_toArray, List.set_cons_zero, List.set_cons_succ])
        refine scr_hard (by rfl) (by simp [Region.wanted, yielded]) (fun K hK => ?_)
        go_simp
        have hcb := (Chg.refl (fun _ _ => False) wc).alloc (.cells #[.int .i64 x.1, .int .i64 x.2] 30)
        refine hK _ _ ⟨hcb.cell (fun h => h) m0, hcb.cell (fun h => h) m1, hcb.cell (fun h => h) m2, hcb.cell (fun h => h) q0, hcb.cell (fun h => h) q1⟩ ?_
        clear hK K
        refine name_scr (fun wn => Chg (fun _ _ => False) wc wn ∧ wc.heap.size + 1 ≤ wn.heap.size ∧ wn.heap[wc.heap.size]? = some (.cells #[.int .i64 x.1, .int .i64 x.2] 30 (0, 0))) ⟨hcb, by simp, ha_at _ _ rfl⟩ ?_
        clear hcb
        rintro wb1 ⟨hst, sz1, hb⟩
        replace m0 := hst.cell (fun h => h) m0
        replace m1 := hst.cell (fun h => h) m1
        replace m2 := hst.cell (fun h => h) m2
        replace q0 := hst.cell (fun h => h) q0
        replace q1 := hst.cell (fun h => h) q1
        replace hcu := hcu.trans hst
        have HB1 := Lib.hid hb
        clear hb
        replace HB2 := Lib.hid (show wb1.heap[w8.drew.heap.size]? = some (.cells #[.int .i64 x.1, .int .i64 x.2] 30 (0, 0)) from by rw [hst.block (heap_lt HB2.out) (fun _ h => h)]; exact HB2.out)
        replace HOW := Lib.hid (HOW.out.keep hst)
        clear hst
        repeat
          first
          | (refine scr_soft (by rfl) ?_ ?_ ?_ ?_
             rotate_left
             · simp [Region.wanted, yielded]; done
             · intro w' hS
               try obtain ⟨a1, a2, a3, a4, a5⟩ := hS
               go_simp
               try with_reducible rfl
             simp only [Act.put, List.setIfInBounds_toArray, List.set_cons_zero, List.set_cons_succ])
          | (refine scr_skip (by rfl) ?_ ?_
             · simp [Region.wanted, yielded]; done
             simp only [Act.put, List.setIfInBounds_toArray, List.set_cons_zero, List.set_cons_succ])
        refine scr_hard (by rfl) (by simp [Region.wanted, yielded]) (fun K hK => ?_)
        have hbz := hcu.size
        obtain ⟨vA, wA, hrA, hA, hcA⟩ := own_append wb1 vC l wb2.heap.size HOW.out (by omega) (.slice (some ⟨wc.heap.size, 0, none⟩) 1 1) [x] (slOne HB1.out) (by have := HLN.out; simp; omega) 25
        refine wp_append_run _ _ _ _ (by rfl) vC (.slice (some ⟨wc.heap.size, 0, none⟩) 1 1) (by rfl) (by rfl) _ _ hrA ?_
        have hne : ∀ b, b ≤ w.heap.size + 1 → ¬ vC.ownBlock = some b := fun b hb h => by have := hlo _ h; omega
        replace m0 := hcA.cell (hne _ (by simp)) m0
        replace m1 := hcA.cell (hne _ (by simp)) m1
        replace m2 := hcA.cell (hne _ (by simp)) m2
        replace q0 := hcA.cell (hne _ (by simp)) q0
        replace q1 := hcA.cell (hne _ (by simp)) q1
        have hszA := hcA.size
        replace hcu := hcu.trans' hcA (fun _ _ _ h => h) (fun b o hb h => by have := hlo _ h; omega)
        have HA := Lib.hid hA.sl
        refine hK _ _ ⟨m0, m1, m2, q0, q1⟩ ?_
        clear hK K hA hrA
        have HB9 := Lib.hid (show wA.heap[w8.drew.heap.size]? = some (.cells #[.int .i64 x.1, .int .i64 x.2] 30 (0, 0)) from by rw [hcA.block (heap_lt HB2.out) (fun _ h => by have := hlo _ h; have := hhi _ h; omega)]; exact HB2.out)
        have hst := True.intro
        clear hst
        repeat
          first
          | (refine scr_soft (by rfl) ?_ ?_ ?_ ?_
             rotate_left
             · simp [Region.wanted, yielded]; done
             · intro w' hS
               try obtain ⟨a1, a2, a3, a4, a5⟩ := hS
               go_simp
               try with_reducible rfl
             simp only [Act.put, List.setIfInBounds_toArray, List.set_cons_zero, List.set_cons_succ])
          | (refine scr_skip (by rfl) ?_ ?_
             · simp [Region.wanted, yielded]; done
             simp only [Act.put, List.setIfInBounds_toArray, List.set_cons_zero, List.set_cons_succ])
        refine scr_hard (by rfl) (by simp [Region.wanted, yielded]) (fun K hK => ?_)
        go_simp
        refine (G5.out _ hcu vA _ HA.out (slOne HB9.out)).mono ?_
        rintro e w9 ⟨v9, u9, rfl, how9, hou9, hst⟩
        replace m0 := hst.cell (fun h => h) m0
        replace m1 := hst.cell (fun h => h) m1
        replace m2 := hst.cell (fun h => h) m2
        replace q0 := hst.cell (fun h => h) q0
        replace q1 := hst.cell (fun h => h) q1
        replace hcu := hcu.trans hst
        refine hK _ _ ⟨m0, m1, m2, q0, q1⟩ ?_
        clear hK K
        clear hst
        repeat
          first
          | (refine scr_soft (by rfl) ?_ ?_ ?_ ?_
             rotate_left
             · simp [Region.wanted, yielded]; done
             · intro w' hS
               try obtain ⟨a1, a2, a3, a4, a5⟩ := hS
               go_simp
               try with_reducible rfl
             simp only [Act.put, List.setIfInBounds_toArray, List.set_cons_zero, List.set_cons_succ])
          | (refine scr_skip (by rfl) ?_ ?_
             · simp [Region.wanted, yielded]; done
             simp only [Act.put, List.setIfInBounds_toArray, List.set_cons_zero, List.set_cons_succ])
        refine scr_nil ?_
        obtain ⟨a9, c9, rfl⟩ := how9.form
        obtain ⟨b9, o9, gk, gv, gq, rfl, g0, g1, g2, gfl⟩ := how9.found (j := 0) (x := some x) rfl
        simp only [Nat.zero_mul, Nat.add_zero] at g0 g1 g2
        obtain ⟨rfl, rfl, rfl⟩ : gk = x.1 ∧ gv = x.2 ∧ gq = true := by
          have e : ([.int .i64 x.1, .int .i64 x.2, .bool true] : List Value) = [.int .i64 gk, .int .i64 gv, .bool gq] := gfl
          simp at e
          exact ⟨e.1.symm, e.2.1.symm, e.2.2⟩
        have HU := Lib.hid hou9
        obtain ⟨au, cu, rfl⟩ := hou9.form
        clear gfl how9 hou9
        go_wp2_with fail
        refine wp_region_scr (fun w' => w'.cell? ⟨w.heap.size, 0, none⟩ = some (.slice sa os.length sc) ∧ w'.cell? ⟨w.heap.size, 1, none⟩ = some (.int .i64 d) ∧ w'.cell? ⟨w.heap.size, 2, none⟩ = some (.bool nl) ∧ w'.cell? ⟨w.heap.size + 1, 0, none⟩ = some (.int .i64 x.1) ∧ w'.cell? ⟨w.heap.size + 1, 1, none⟩ = some (.int .i64 x.2) ∧ w'.cell? ⟨b9, o9, none⟩ = some (.int .i64 x.1) ∧ w'.cell? ⟨b9, o9 + 1, none⟩ = some (.int .i64 x.2) ∧ w'.cell? ⟨b9, o9 + 2, none⟩ = some (.bool true)) (.soft 0 (.soft 1 (.soft 2 (.soft 3 (.soft 4 (.soft 5 (.soft 6 (.soft 7 (.soft 8 (.soft 9 (.soft 10 (.soft 11 (.soft 12 (.soft 13 (.soft 14 (.hard 15 (.hard 16 (.soft 17 (.soft 18 (.hard 19 (.soft 20 (.soft 21 .nil)))))))))))))))))))))) (by kernel_rfl) (by kernel_rfl) (fun _ _ _ _ _ h => h) ⟨m0, m1, m2, q0, q1, g0, g1, g2⟩ ?_
        repeat
          first
          | (refine scr_soft (by rfl) ?_ ?_ ?_ ?_
             rotate_left
             · simp [Region.wanted, yielded]; done
             · intro w' hS
               try obtain ⟨a1, a2, a3, a4, a5, a6, a7, a8⟩ := hS
               go_simp
               try with_reducible rfl
             simp only [Act.put, List.setIfInBounds_toArray, List.set_cons_zero, List.set_cons_succ])
          | (refine scr_skip (by rfl) ?_ ?_
             · simp [Region.wanted, yielded]; done
             simp only [Act.put, List.setIfInBounds_toArray, List.set_cons_zero, List.set_cons_succ])
        refine scr_hard (by rfl) (by simp [Region.wanted, yielded]) (fun K hK => ?_)
        go_simp
        replace hcu := hcu.drew
        refine (G4.out _ hcu).mono ?_
        rintro e w10 ⟨v10, rfl, how10, hst⟩
        have hst10 := hst
        replace m0 := hst.cell (fun h => h) m0
        replace m1 := hst.cell (fun h => h) m1
        replace m2 := hst.cell (fun h => h) m2
        replace q0 := hst.cell (fun h => h) q0
        replace q1 := hst.cell (fun h => h) q1
        replace hcu := hcu.trans hst
        refine hK _ _ ⟨m0, m1, m2, q0, q1, hst.cell (fun h => h) g0, hst.cell (fun h => h) g1, hst.cell (fun h => h) g2⟩ ?_
        clear hK K
        repeat
          first
          | (refine scr_soft (by rfl) ?_ ?_ ?_ ?_
             rotate_left
             · simp [Region.wanted, yielded]; done
             · intro w' hS
               try obtain ⟨a1, a2, a3, a4, a5, a6, a7, a8⟩ := hS
               go_simp
               try with_reducible rfl
             simp only [Act.put, List.setIfInBounds_toArray, List.set_cons_zero, List.set_cons_succ])
          | (refine scr_skip (by rfl) ?_ ?_
             · simp [Region.wanted, yielded]; done
             simp only [Act.put, List.setIfInBounds_toArray, List.set_cons_zero, List.set_cons_succ])
        refine scr_hard (by rfl) (by simp [Region.wanted, yielded]) (fun K hK => ?_)
        go_simp
        refine (equal_item _ _ _ _ (HU.out.chg ((Chg.refl _ _).drew.trans hst10)) how10.sl (by have := HLL2.out; have := HLN.out; omega)).mono ?_
        rintro e w11 ⟨rfl, hst11⟩
        refine hK _ _ ⟨hst11.cell (fun h => h) m0, hst11.cell (fun h => h) m1, hst11.cell (fun h => h) m2, hst11.cell (fun h => h) q0, hst11.cell (fun h => h) q1, (hst10.trans hst11).cell (fun h => h) g0, (hst10.trans hst11).cell (fun h => h) g1, (hst10.trans hst11).cell (fun h => h) g2⟩ ?_
        clear hK K
        repeat
          first
          | (refine scr_soft (by rfl) ?_ ?_ ?_ ?_
             rotate_left
             · simp [Region.wanted, yielded]; done
             · intro w' hS
               try obtain ⟨a1, a2, a3, a4, a5, a6, a7, a8⟩ := hS
               go_simp
               try with_reducible rfl
             simp only [Act.put, List.setIfInBounds_toArray, List.set_cons_zero, List.set_cons_succ])
          | (refine scr_skip (by rfl) ?_ ?_
             · simp [Region.wanted, yielded]; done
             simp only [Act.put, List.setIfInBounds_toArray, List.set_cons_zero, List.set_cons_succ])
        refine scr_hard (by rfl) (by simp [Region.wanted, yielded]) (fun K hK => ?_)
        go_simp
        refine (alive_any _).mono ?_
        rintro e w12 ⟨rfl, hst12⟩
        have hst13 := hst11.trans hst12
        refine hK _ _ ⟨hst13.cell (fun h => h) m0, hst13.cell (fun h => h) m1, hst13.cell (fun h => h) m2, hst13.cell (fun h => h) q0, hst13.cell (fun h => h) q1, (hst10.trans hst13).cell (fun h => h) g0, (hst10.trans hst13).cell (fun h => h) g1, (hst10.trans hst13).cell (fun h => h) g2⟩ ?_
        clear hK K
        repeat
          first
          | (refine scr_soft (by rfl) ?_ ?_ ?_ ?_
             rotate_left
             · simp [Region.wanted, yielded]; done
             · intro w' hS
               try obtain ⟨a1, a2, a3, a4, a5, a6, a7, a8⟩ := hS
               go_simp
               try with_reducible rfl
             simp only [Act.put, List.setIfInBounds_toArray, List.set_cons_zero, List.set_cons_succ])
          | (refine scr_skip (by rfl) ?_ ?_
             · simp [Region.wanted, yielded]; done
             simp only [Act.put, List.setIfInBounds_toArray, List.set_cons_zero, List.set_cons_succ])
        refine scr_nil ?_
        go_wp2_with fail
        go_ret
        exact ⟨rfl, (hcu.trans hst11).trans hst12⟩
      · skip
        go_simp
        have hcb := (Chg.refl (fun _ _ => False) wb2).alloc (.cells #[.int .i64 x.1, .int .i64 x.2] 30)
        refine hK _ _ ⟨hcb.cell (fun h => h) m0, hcb.cell (fun h => h) m1, hcb.cell (fun h => h) m2, hcb.cell (fun h => h) q0, hcb.cell (fun h => h) q1⟩ ?_
        clear hK K
        refine name_scr (fun wn => Chg (fun _ _ => False) wb2 wn ∧ wb2.heap.size + 1 ≤ wn.heap.size ∧ wn.heap[wb2.heap.size]? = some (.cells #[.int .i64 x.1, .int .i64 x.2] 30 (0, 0))) ⟨hcb, by simp, ha_at _ _ rfl⟩ ?_
        clear hcb
        rintro wb1 ⟨hst, sz1, hb⟩
        replace m0 := hst.cell (fun h => h) m0
        replace m1 := hst.cell (fun h => h) m1
        replace m2 := hst.cell (fun h => h) m2
        replace q0 := hst.cell (fun h => h) q0
        replace q1 := hst.cell (fun h => h) q1
        replace hcu := hcu.trans hst
        have HB1 := Lib.hid hb
        clear hb
        replace HB2 := Lib.hid (show wb1.heap[w8.drew.heap.size]? = some (.cells #[.int .i64 x.1, .int .i64 x.2] 30 (0, 0)) from by rw [hst.block (heap_lt HB2.out) (fun _ h => h)]; exact HB2.out)
        clear hst
        repeat
          first
          | (refine scr_soft (by rfl) ?_ ?_ ?_ ?_
             rotate_left
             · simp [Region.wanted, yielded]; done
             · intro w' hS
               try obtain ⟨a1, a2, a3, a4, a5⟩ := hS
               go_simp
               try with_reducible rfl
             simp only [Act.put, List.setIfInBounds_toArray, List.set_cons_zero, List.set_cons_succ])
          | (refine scr_skip (by rfl) ?_ ?_
             · simp [Region.wanted, yielded]; done
             simp only [Act.put, List.setIfInBounds_toArray, List.set_cons_zero, List.set_cons_succ])
        refine scr_hard (by rfl) (by simp [Region.wanted, yielded]) (fun K hK => ?_)
        go_simp
        refine (GC.out _ hcu).mono ?_
        rintro e wc ⟨vC, rfl, hOut, hst⟩
        replace m0 := hst.cell (fun h => h) m0
        replace m1 := hst.cell (fun h => h) m1
        replace m2 := hst.cell (fun h => h) m2
        replace q0 := hst.cell (fun h => h) q0
        replace q1 := hst.cell (fun h => h) q1
        replace hcu := hcu.trans hst
        have hszC := hst.size
        have hlo : ∀ b, vC.ownBlock = some b → wb1.heap.size ≤ b := fun b hb => (hOut.own b hb).1
        have hhi : ∀ b, vC.ownBlock = some b → b < wc.heap.size := fun b hb => (hOut.own b hb).2
        have HOW := Lib.hid hOut.ownE
        clear hOut
        refine hK _ _ ⟨m0, m1, m2, q0, q1⟩ ?_
        clear hK K
        replace HB1 := Lib.hid (show wc.heap[wb2.heap.size]? = some (.cells #[.int .i64 x.1, .int .i64 x.2] 30 (0, 0)) from by rw [hst.block (heap_lt HB1.out) (fun _ h => h)]; exact HB1.out)
        replace HB2 := Lib.hid (show wc.heap[w8.drew.heap.size]? = some (.cells #[.int .i64 x.1, .int .i64 x.2] 30 (0, 0)) from by rw [hst.block (heap_lt HB2.out) (fun _ h => h)]; exact HB2.out)
        clear hst
        repeat
          first
          | (refine scr_soft (by rfl) ?_ ?_ ?_ ?_
             rotate_left
             · simp [Region.wanted, yielded]; done
             · intro w' hS
               try obtain ⟨a1, a2, a3, a4, a5⟩ := hS
               go_simp
               try with_reducible rfl
             simp only [Act.put, List.setIfInBounds_toArray, List.set_cons_zero, List.set_cons_succ])
          | (refine scr_skip (by rfl) ?_ ?_
             · simp [Region.wanted, yielded]; done
             simp only [Act.put, List.setIfInBounds_toArray, List.set_cons_zero, List.set_cons_succ])
        refine scr_hard (by rfl) (by simp [Region.wanted, yielded]) (fun K hK => ?_)
        have hbz := hcu.size
        obtain ⟨vA, wA, hrA, hA, hcA⟩ := own_append wc vC l wb1.heap.size HOW.out (by omega) (.slice (some ⟨wb2.heap.size, 0, none⟩) 1 1) [x] (slOne HB1.out) (by have := HLN.out; simp; omega) 25
        refine wp_append_run _ _ _ _ (by rfl) vC (.slice (some ⟨wb2.heap.size, 0, none⟩) 1 1) (by rfl) (by rfl) _ _ hrA ?_
        have hne : ∀ b, b ≤ w.heap.size + 1 → ¬ vC.ownBlock = some b := fun b hb h => by have := hlo _ h; omega
        replace m0 := hcA.cell (hne _ (by simp)) m0
        replace m1 := hcA.cell (hne _ (by simp)) m1
        replace m2 := hcA.cell (hne _ (by simp)) m2
        replace q0 := hcA.cell (hne _ (by simp)) q0
        replace q1 := hcA.cell (hne _ (by simp)) q1
        have hszA := hcA.size
        replace hcu := hcu.trans' hcA (fun _ _ _ h => h) (fun b o hb h => by have := hlo _ h; omega)
        have HA := Lib.hid hA.sl
        refine hK _ _ ⟨m0, m1, m2, q0, q1⟩ ?_
        clear hK K hA hrA
        have HB9 := Lib.hid (show wA.heap[w8.drew.heap.size]? = some (.cells #[.int .i64 x.1, .int .i64 x.2] 30 (0, 0)) from by rw [hcA.block (heap_lt HB2.out) (fun _ h => by have := hlo _ h; have := hhi _ h; omega)]; exact HB2.out)
        have hst := True.intro
        clear hst
        repeat
          first
          | (refine scr_soft (by rfl) ?_ ?_ ?_ ?_
             rotate_left
             · simp [Region.wanted, yielded]; done
             · intro w' hS
               try obtain ⟨a1, a2, a3, a4, a5⟩ := hS
               go_simp
               try with_reducible rfl
             simp only [Act.put, List.setIfInBounds_toArray, List.set_cons_zero, List.set_cons_succ])
          | (refine scr_skip (by rfl) ?_ ?_
             · simp [Region.wanted, yielded]; done
             simp only [Act.put, List.setIfInBounds_toArray, List.set_cons_zero, List.set_cons_succ])
        refine scr_hard (by rfl) (by simp [Region.wanted, yielded]) (fun K hK => ?_)
        go_simp
        refine (G5.out _ hcu vA _ HA.out (slOne HB9.out)).mono ?_
        rintro e w9 ⟨v9, u9, rfl, how9, hou9, hst⟩
        replace m0 := hst.cell (fun h => h) m0
        replace m1 := hst.cell (fun h => h) m1
        replace m2 := hst.cell (fun h => h) m2
        replace q0 := hst.cell (fun h => h) q0
        replace q1 := hst.cell (fun h => h) q1
        replace hcu := hcu.trans hst
        refine hK _ _ ⟨m0, m1, m2, q0, q1⟩ ?_
        clear hK K
        clear hst
        repeat
          first
          | (refine scr_soft (by rfl) ?_ ?_ ?_ ?_
             rotate_left
             · simp [Region.wanted, yielded]; done
             · intro w' hS
               try obtain ⟨a1, a2, a3, a4, a5⟩ := hS
               go_simp
               try with_reducible rfl
             simp only [Act.put, List.setIfInBounds_toArray, List.set_cons_zero, List.set_cons_succ])
          | (refine scr_skip (by rfl) ?_ ?_
             · simp [Region.wanted, yielded]; done
             simp only [Act.put, List.setIfInBounds_toArray, List.set_cons_zero, List.set_cons_succ])
        refine scr_nil ?_
        obtain ⟨a9, c9, rfl⟩ := how9.form
        obtain ⟨b9, o9, gk, gv, gq, rfl, g0, g1, g2, gfl⟩ := how9.found (j := 0) (x := some x) rfl
        simp only [Nat.zero_mul, Nat.add_zero] at g0 g1 g2
        obtain ⟨rfl, rfl, rfl⟩ : gk = x.1 ∧ gv = x.2 ∧ gq = true := by
          have e : ([.int .i64 x.1, .int .i64 x.2, .bool true] : List Value) = [.int .i64 gk, .int .i64 gv, .bool gq] := gfl
          simp at e
          exact ⟨e.1.symm, e.2.1.symm, e.2.2⟩
        have HU := Lib.hid hou9
        obtain ⟨au, cu, rfl⟩ := hou9.form
        clear gfl how9 hou9
        go_wp2_with fail
        refine wp_region_scr (fun w' => w'.cell? ⟨w.heap.size, 0, none⟩ = some (.slice sa os.length sc) ∧ w'.cell? ⟨w.heap.size, 1, none⟩ = some (.int .i64 d) ∧ w'.cell? ⟨w.heap.size, 2, none⟩ = some (.bool nl) ∧ w'.cell? ⟨w.heap.size + 1, 0, none⟩ = some (.int .i64 x.1) ∧ w'.cell? ⟨w.heap.size + 1, 1, none⟩ = some (.int .i64 x.2) ∧ w'.cell? ⟨b9, o9, none⟩ = some (.int .i64 x.1) ∧ w'.cell? ⟨b9, o9 + 1, none⟩ = some (.int .i64 x.2) ∧ w'.cell? ⟨b9, o9 + 2, none⟩ = some (.bool true)) (.soft 0 (.soft 1 (.soft 2 (.soft 3 (.soft 4 (.soft 5 (.soft 6 (.soft 7 (.soft 8 (.soft 9 (.soft 10 (.soft 11 (.soft 12 (.soft 13 (.soft 14 (.hard 15 (.hard 16 (.soft 17 (.soft 18 (.hard 19 (.soft 20 (.soft 21 .nil)))))))))))))))))))))) (by kernel_rfl) (by kernel_rfl) (fun _ _ _ _ _ h => h) ⟨m0, m1, m2, q0, q1, g0, g1, g2⟩ ?_
        repeat
          first
          | (refine scr_soft (by rfl) ?_ ?_ ?_ ?_
             rotate_left
             · simp [Region.wanted, yielded]; done
             · intro w' hS
               try obtain ⟨a1, a2, a3, a4, a5, a6, a7, a8⟩ := hS
               go_simp
               try with_reducible rfl
             simp only [Act.put, List.setIfInBounds_toArray, List.set_cons_zero, List.set_cons_succ])
          | (refine scr_skip (by rfl) ?_ ?_
             · simp [Region.wanted, yielded]; done
             simp only [Act.put, List.setIfInBounds_toArray, List.set_cons_zero, List.set_cons_succ])
        refine scr_hard (by rfl) (by simp [Region.wanted, yielded]) (fun K hK => ?_)
        go_simp
        replace hcu := hcu.drew
        refine (G4.out _ hcu).mono ?_
        rintro e w10 ⟨v10, rfl, how10, hst⟩
        have hst10 := hst
        replace m0 := hst.cell (fun h => h) m0
        replace m1 := hst.cell (fun h => h) m1
        replace m2 := hst.cell (fun h => h) m2
        replace q0 := hst.cell (fun h => h) q0
        replace q1 := hst.cell (fun h => h) q1
        replace hcu := hcu.trans hst
        refine hK _ _ ⟨m0, m1, m2, q0, q1, hst.cell (fun h => h) g0, hst.cell (fun h => h) g1, hst.cell (fun h => h) g2⟩ ?_
        clear hK K
        repeat
          first
          | (refine scr_soft (by rfl) ?_ ?_ ?_ ?_
             rotate_left
             · simp [Region.wanted, yielded]; done
             · intro w' hS
               try obtain ⟨a1, a2, a3, a4, a5, a6, a7, a8⟩ := hS
               go_simp
               try with_reducible rfl
             simp only [Act.put, List.setIfInBounds_toArray, List.set_cons_zero, List.set_cons_succ])
          | (refine scr_skip (by rfl) ?_ ?_
             · simp [Region.wanted, yielded]; done
             simp only [Act.put, List.setIfInBounds_toArray, List.set_cons_zero, List.set_cons_succ])
        refine scr_hard (by rfl) (by simp [Region.wanted, yielded]) (fun K hK => ?_)
        go_simp
        refine (equal_item _ _ _ _ (HU.out.chg ((Chg.refl _ _).drew.trans hst10)) how10.sl (by have := HLL2.out; have := HLN.out; omega)).mono ?_
        rintro e w11 ⟨rfl, hst11⟩
        refine hK _ _ ⟨hst11.cell (fun h => h) m0, hst11.cell (fun h => h) m1, hst11.cell (fun h => h) m2, hst11.cell (fun h => h) q0, hst11.cell (fun h => h) q1, (hst10.trans hst11).cell (fun h => h) g0, (hst10.trans hst11).cell (fun h => h) g1, (hst10.trans hst11).cell (fun h => h) g2⟩ ?_
        clear hK K
        repeat
          first
          | (refine scr_soft (by rfl) ?_ ?_ ?_ ?_
             rotate_left
             · simp [Region.wanted, yielded]; done
             · intro w' hS
               try obtain ⟨a1, a2, a3, a4, a5, a6, a7, a8⟩ := hS
               go_simp
               try with_reducible rfl
             simp only [Act.put, List.setIfInBounds_toArray, List.set_cons_zero, List.set_cons_succ])
          | (refine scr_skip (by rfl) ?_ ?_
             · simp [Region.wanted, yielded]; done
             simp only [Act.put, List.setIfInBounds_toArray, List.set_cons_zero, List.set_cons_succ])
        refine scr_hard (by rfl) (by simp [Region.wanted, yielded]) (fun K hK => ?_)
        go_simp
        refine (alive_any _).mono ?_
        rintro e w12 ⟨rfl, hst12⟩
        have hst13 := hst11.trans hst12
        refine hK _ _ ⟨hst13.cell (fun h => h) m0, hst13.cell (fun h => h) m1, hst13.cell (fun h => h) m2, hst13.cell (fun h => h) q0, hst13.cell (fun h => h) q1, (hst10.trans hst13).cell (fun h => h) g0, (hst10.trans hst13).cell (fun h => h) g1, (hst10.trans hst13).cell (fun h => h) g2⟩ ?_
        clear hK K
        repeat
          first
          | (refine scr_soft (by rfl) ?_ ?_ ?_ ?_
             rotate_left
             · simp [Region.wanted, yielded]; done
             · intro w' hS
               try obtain ⟨a1, a2, a3, a4, a5, a6, a7, a8⟩ := hS
               go_simp
               try with_reducible rfl
             simp only [Act.put, List.setIfInBounds_toArray, List.set_cons_zero, List.set_cons_succ])
          | (refine scr_skip (by rfl) ?_ ?_
             · simp [Region.wanted, yielded]; done
             simp only [Act.put, List.setIfInBounds_toArray, List.set_cons_zero, List.set_cons_succ])
        refine scr_nil ?_
        go_wp2_with fail
        go_ret
        exact ⟨rfl, (hcu.trans hst11).trans hst12⟩
end Go.Proofs.Ytgdchpinlboejaa

namespace Go.Proofs.Ytgdchpinlboejaa
set_option linter.unusedSimpArgs false
set_option linter.unusedVariables false
open Go.ChangeShapes Go.WideShapes Go.ChangeAt Go.RowKit

namespace fnGThere
theorem own : ownKnob Try.prog.godebug = none := by kernel_rfl
theorem laid : laidOutB Try.prog = true := by kernel_rfl

set_option maxRecDepth 100000 in
theorem lifted (os : Os) (started : os.Started) (H : Type) (enc : TypeId × Value → H) :
    ReturnsInHanded {} Try.checked os 4 .any (Rows.fnGThereSpec.pre6 enc Try.prog Try.f4 Rows.fnGThereRow.domain false) (Rows.fnGThereSpec.post enc Try.prog Try.f4 false true false false) := by
  refine returnsInHanded_of_change (C := Try.checked) own started (by kernel_rfl) Try.func4
    (ChangeSpec.witness6 (enc := enc) (C := Try.checked) false ⟨#[], #[.agg #[.slice none 0 0, .int .i64 0, .bool false], .slice none 0 0, .agg #[.int .i64 0, .int .i64 0]], []⟩ 8 (by kernel_rfl) (by kernel_rfl) (by kernel_rfl) (by kernel_rfl)) ?_
  intro W base args ds gs before hval0 hW hcnd _
  have hval : ∀ (j : Nat) t v, Try.f4.params[j]? = some t → args[j]? = some v → Value.okWide Try.prog W .any base t v := hval0
  have hW' := hW
  obtain ⟨p, q, hA0, hV, rfl, hfz, hnd⟩ := hW
  have hA : DataW.TrodAll enc Try.prog W 0 (fun _ => true) true Try.f4.params.toList args.toList ds p := hA0
  rw [Try.params4] at hA hval
  obtain ⟨v0, v1, v2, d0, d1, d2, p0, p1, p2, rfl, rfl, rfl, h0, h1, h2⟩ := trodAll_three hA
  obtain ⟨rfl, rfl⟩ := trodVars_none hV
  obtain ⟨sv, ord, dg, nl, rfl, hs⟩ := open_make (hval 0 24 v0 rfl rfl) h0
  obtain ⟨a, l, cap, rfl, hl, hlc⟩ := open_items Try.underlying25 Try.underlying30 (by kernel_rfl) rfl rfl rfl rfl (by kernel_rfl) Try.underlying3 (hval 1 25 v1 rfl rfl) h1
  obtain ⟨xx, rfl⟩ := open_item (hval 2 30 v2 rfl rfl) h2
  refine (law_GThere sv ord dg nl a cap l xx hlc W hs hl).mono fun e W' ⟨he, hc⟩ => ?_
  subst he
  exact ⟨_, rfl, law_post laid (by kernel_rfl) rfl Try.underlying4 hW' rfl rfl (hc.below (Nat.le_refl _) (fun _ _ _ h => h))⟩

theorem proved : Rows.FnGThereSaid :=
  OpenClaim.holds_of_wide 4 Try.f4 rfl rfl rfl rfl rfl rfl rfl ⟨rfl, rfl, rfl, rfl, rfl⟩ rfl rfl rfl rfl rfl (by kernel_rfl) Try.func4 (by kernel_rfl)
    (of_decide_eq_true (by kernel_rfl)) (by unfold Func.isWrapper; first | (rw [if_pos (by decide +kernel)]; kernel_rfl) | (rw [if_neg (by decide +kernel)]; exact ⟨rfl, rfl⟩))
    (fun os started H enc _ => lifted os started H enc)
end fnGThere
end Go.Proofs.Ytgdchpinlboejaa
