/- The law FnGKeeps, whatever the input. -/
import Derived.Test.YtnohimhihombmaaA12
import Derived.Test.YtnohimhihombmaaF1
namespace Go.Proofs.Ytnohimhihombmaa
set_option linter.unusedSimpArgs false
set_option linter.unusedVariables false
open Go.RowKit

set_option maxRecDepth 100000 in
set_option maxHeartbeats 8000000 in
theorem DeleteAscend_any {ord : List Int} {k : Kc ord} {mn mx : Nat} {w : World} {F : Nat → Prop} {t : Nat} {l : List (It ord)} {ob ab N : Nat} (key : It ord) (hM : MapIn k mn mx w F t l) (hmn : 1 ≤ mn) (hK : KeepD ob ab N w.heap.size w.heap.size w [] (.slice none 0 0)) (hlN : l.length ≤ N) (hN : N ≤ 1000000000000) (hFo : ¬ F ob) (hto : ∀ b, MOwn k t b → b ≠ ob) :
    Calls Try.prog 26 #[.pointer (some ⟨t, 0, none⟩), .agg #[.int .i64 key.1, .int .i64 key.2], fnD ob ab] w fun e w' => e = .returned (.tuple #[]) ∧ ∃ v, KeepD ob ab N (w.heap.size + 2) w.heap.size w' (upp ltM key l) v ∧ Chg (fun b _ => b = ob ∨ w.heap.size ≤ b) w w' := by
  obtain ⟨tot, htot⟩ : ∃ tot, tot = upp ltM key l := ⟨_, rfl⟩
  rw [← htot]
  have htl : tot.length ≤ N := by rw [htot]; exact Nat.le_trans (upp_len ltM key l) hlN
  have HTOT := Lib.hid htot
  have HM := Lib.hid hM
  have HK := Lib.hid hK
  have HFL := Lib.hid (show ∀ b, F b → b < w.heap.size from fun b hb => hM.famLt hb)
  have HOL := Lib.hid (show ∀ b, MOwn k t b → b < w.heap.size from fun b hb => hM.own hb)
  have HTO := Lib.hid hto
  have HFO := Lib.hid hFo
  clear htot hM hK hto hFo
  unfold fnD
  go_enter Try.func26, Try.ntmps26
  go_wp2_with fail
  go_step3
  go_wp2_with (go_at_call 46; refine (lock_any t true _).mono ?_; rintro e w' ⟨rfl, rfl⟩)
  go_step3
  refine name_prop (fun w1 => Chg (fun _ _ => False) w w1 ∧ w1.heap[w.heap.size]? = some (.cells #[.int .i64 key.1, .int .i64 key.2] 27 (0, 0)) ∧ w1.heap[w.heap.size + 1]? = some hintO0) ⟨((Chg.refl _ _).alloc _).alloc _, ?_, ?_⟩ ?_
  · rw [ha_lt _ _ (by simp)]; exact ha_at _ _ rfl
  · exact ha_at _ _ (by simp)
  rintro w1 ⟨hc1, hbx, hhb⟩
  have hs1 := heap_lt hhb
  have hk1 : KeepD ob ab N (w.heap.size + 2) w.heap.size w1 [] (.slice none 0 0) := by
    have h2 := HK.out.chg hc1 (fun _ _ _ h => h) (fun _ _ _ h => h)
    exact ⟨h2.o, OwnE.nil _ _ _, h2.act, h2.lo, h2.la, h2.ne, by omega, by omega⟩
  have hB1 : DaB ob ab N (w.heap.size + 2) w.heap.size (w.heap.size + 1) key w w1 [] (.slice none 0 0) (.slice none 0 0) [] := ⟨hk1, OwnE.nil _ _ _, (fun b hb => by cases hb), ⟨_, hhb, hintC0⟩, hbx, hc1.mono (fun _ _ _ h => h.elim), by omega, by omega, by omega, by omega, by omega⟩
  have HB1 := Lib.hid hB1
  have HC1 := Lib.hid hc1
  clear hk1 hB1 hbx hhb hc1
  rcases HM.out with ⟨rfl, _, hB⟩ | ⟨H, h, T, hI, hB, rfl, h1⟩
  · have c2 : w1.cell? ⟨t, 2, none⟩ = some (.pointer none) := (hB.chg HC1.out (fun _ _ _ h => h)).c2
    clear hB
    go_wp2_with fail
    rw [Exit.noGoto_ret]
    refine bodyPost_ret (v := .tuple #[]) (by simp [results, Try.results26, go_sem]) rfl ?_
    exact ⟨rfl, _, by rw [HTOT.out]; exact HB1.out.kd, HB1.out.chg⟩
  · have HB := Lib.hid hB
    have HI := Lib.hid hI
    have hmx := hI.m1000
    have hhl := height_le hmn h T hI.sh h1
    have hB2 := hB.chg HC1.out (fun _ _ _ h => h)
    have c2 : w1.cell? ⟨t, 2, none⟩ = some (.pointer (some ⟨rid T, 0, none⟩)) := hB2.c2
    have c0 := hB2.at_.c0
    obtain ⟨l0, hn0⟩ := (hI.fam.chg HC1.out (fun _ _ _ h => h)).node hI.isT.root
    have n0 := hn0.c0
    clear hB hI hn0 hB2
    go_wp2_with fail
    refine (isoLoad_any t (rid T) k _ _ _ c2 n0 c0).mono ?_
    rintro e w2 ⟨rfl, m2, hw2⟩
    have hc2 : Chg (fun _ _ => False) w1 w2 := by rw [hw2]; exact (Chg.refl _ _).drewN _
    have hB2 := HB1.out.keep hc2
    have HB2 := Lib.hid hB2
    clear hw2 c2 n0 c0 hB2 hc2
    obtain ⟨i0, hi0, hz0, hz1, hz2⟩ := info_parts infoStk
    have hca := (Chg.refl (fun _ _ => False) w2).alloc (.cells #[.pointer (some ⟨(rid T), 0, none⟩), .int .i64 0] 103)
    have HOW := Lib.hid (HB2.out.stk.keep hca)
    have hbs : w.heap.size + 2 ≤ (w2.alloc (.cells #[.pointer (some ⟨(rid T), 0, none⟩), .int .i64 0] 103)).heap.size := Nat.le_trans HB2.out.kd.rw_ hca.size
    go_wp2_with (refine wpList_append_E2 stkE (by rfl) _ _ _ (by rfl) i0 _ 16 Try.underlying94 hi0 hz0 hz1 hz2 rfl (.slice none 0 0) (by rfl) ([] : List (Nat × Int)) (w.heap.size + 2) HOW.out hbs ⟨w2.heap.size, 0, none⟩ 1 _ (by rfl) [((rid T), 0)] rfl (by decide) ?_ ?_ ?_ ?_)
    · first | exact El.src1 stkE (c := #[.pointer (some ⟨(rid T), 0, none⟩), .int .i64 0]) (ha_at _ _ (by first | rfl | simp)) _ rfl | exact fun _ _ h => h
    · unfold maxLen; decide
    · decide
    intro v6 w6 g1 g2 g3
    have hB6 := HB2.out.stack g1 (hca.trans' g2 (B := fun b _ => ((.slice none 0 0) : Value).ownBlock = some b) (fun _ _ _ h => h.elim) (fun _ _ _ h => h)) (g3.imp id fun ⟨nb, h1, h2⟩ => .inr ⟨nb, h1, by first | omega | exact Nat.le_trans hca.size h2⟩)
    have HB6 := Lib.hid hB6
    obtain ⟨va, vc, hvf⟩ := g1.sl.form
    subst hvf
    clear hca hbs g1 g2 g3 hB6
    have hF0 : FrmD H mn mx h [(rid T, (0 : Int))] h (rid T) ([] : List (It ord)) := ⟨rfl, .inl ⟨rfl, rfl, rfl⟩⟩
    have HF0 := Lib.hid hF0
    clear hF0
    go_wp2_with fail
    refine wp_loop (LabL H mn mx h t w.heap.size (w.heap.size + 1) ob ab N (w.heap.size + 2) (.agg #[.int .i64 key.1, .int .i64 key.2]) (fnD ob ab) key w tot) (fun a _ => mOf H ((a.tmps[8]?).getD undef)) ?_ ?_
    · exact ⟨⟨rfl, rfl, rfl, rfl, rfl, rfl, rfl⟩, h, T, [(rid T, (0 : Int))], [], [], _, _, rfl, rfl, by simpa using HB6.out, ⟨HI.out.isT, HI.out.sh, h1, HI.out.srt, by omega, HF0.out⟩, by rw [HTOT.out]; simp⟩
    · rintro a wr ⟨hfr, h', T', es, R, acc, v, st, s7, s8, hBr, hTr, hrem⟩
      clear HB6 HB2 HB1 hs1 HF0
      obtain ⟨f, rfl, e0, e1, e2, e4, e6⟩ := hfr.lit
      simp only [List.getElem?_toArray, List.getElem?_cons_succ, List.getElem?_cons_zero, Option.some.injEq] at s7 s8
      simp only [List.getElem?_toArray, List.getElem?_cons_succ, List.getElem?_cons_zero, Option.getD_some]
      have ht8 : mOf H (f 8) = (toL h' T').length := by rw [s8]; exact mOf_root hTr.1
      rw [ht8]
      clear hfr ht8
      obtain ⟨sa, sc, hsf⟩ := hBr.stk.sl.form
      rw [List.length_reverse] at hsf
      subst hsf
      go_wp2_with fail
      refine wp_scope_lab 1 (LabJ H mn mx h t w.heap.size (w.heap.size + 1) ob ab N (w.heap.size + 2) (.agg #[.int .i64 key.1, .int .i64 key.2]) (fnD ob ab) key w tot (rid T')) (daMu N ob) (by rfl) ?_ ?_
      · have HBR := Lib.hid hBr
        have HTR := Lib.hid hTr
        have HRE := Lib.hid hrem
        have hfl := hTr.2.2.2.2.2.len
        have hfp := hTr.2.2.2.2.2.pos
        have hcf : Chg (fun _ _ => False) wr wr := Chg.refl _ _
        have hfam := HI.out.fam.chg hBr.chg (fun b o hb h => by
          rcases h with h | h
          · rw [h] at hb; exact HFO.out hb
          · have := HFL.out b hb; omega)
        have hma := (HB.out.chg hBr.chg (fun b o hb h => by
          rcases h with h | h
          · exact HTO.out b hb h
          · have := HOL.out b hb; omega)).at_
        obtain ⟨l1, hn1⟩ := hfam.node hTr.1.root
        have hits := its_srt hTr.2.1 hTr.2.2.2.1
        have hsl := hTr.2.1.len
        have hse := find_o (some (w.heap.size + 1)) t (es.length - 1) key hma hn1 (by rw [recOf_items]; exact hits) (by rw [recOf_items]; omega) (by rw [recOf_items]; exact hTr.2.2.1) (fun b e => by obtain rfl := Option.some.inj e; exact hBr.hint) (by omega)
        rw [recOf_items] at hse
        unfold aggM hintV at hse
        have HSE := Lib.hid hse
        have s1 : IntKind.i64.wrap ((es.length : Int) - 1) = ((es.length - 1 : Nat) : Int) := (by rw [IntWalk.i64_in _ (by omega)]; omega)
        have x0 := cell_of_block hBr.bxc 0
        have x1 := cell_of_block hBr.bxc 1
        simp only [List.getElem?_toArray, List.getElem?_cons_zero, List.getElem?_cons_succ] at x0 x1
        rw [e0, e1, e2, e4, e6, s7, s8]
        clear hBr hTr hrem hfam hma hn1 hits hse e0 e1 e2 e4 e6 s7 s8
        go_wp2_with fail
        refine HSE.out.mono ?_
        rintro e w3 ⟨i, fd, rfl, hw3, hh3, hf⟩
        have hB3 := HBR.out.srch hw3 (hh3 _ rfl)
        have HB3 := Lib.hid hB3
        have HF3 := Lib.hid hf
        clear hw3 hh3 hf hB3
        go_wp2_with fail
        obtain ⟨g1, g2, g3, g4, g5, g6⟩ := HTR.out
        rcases h' with _ | h'
        · have hu : i ≤ T'.2.length ∧ (fd = true → i < T'.2.length) ∧ upp ltM key (toL 0 T') = T'.2.drop i := by
            rcases HF3.out with ⟨rfl, y, hy⟩ | ⟨rfl, hp⟩
            · have hlt : i < T'.2.length := (List.getElem?_eq_some_iff.1 hy.at_).1
              exact ⟨by omega, fun _ => hlt, upp_leaf_hit (l := toL 0 T') g4 hy⟩
            · exact ⟨hp.le, (fun e => by cases e), upp_leaf_pos hp⟩
          exact ⟨⟨rfl, rfl, rfl, rfl, rfl, rfl, rfl⟩, 0, T', es, R, T'.2.drop i ++ R, acc, v, _, i, fd, rfl, rfl, rfl, rfl, HB3.out, HTR.out, ⟨hu.1, hu.2.1, rfl⟩, by rw [← hu.2.2]; exact HRE.out, fun _ => rfl⟩
        · rcases HF3.out with ⟨rfl, y, hy⟩ | ⟨rfl, hp⟩
          · have hlt : i < T'.2.1.length := (List.getElem?_eq_some_iff.1 hy.at_).1
            exact ⟨⟨rfl, rfl, rfl, rfl, rfl, rfl, rfl⟩, h' + 1, T', es, R, _, acc, v, _, i, true, rfl, rfl, rfl, rfl, HB3.out, HTR.out, ⟨hlt, rfl⟩, by rw [← upp_hit g2 g4 hy]; exact HRE.out, fun _ => rfl⟩
          · exact ⟨⟨rfl, rfl, rfl, rfl, rfl, rfl, rfl⟩, h' + 1, T', es, R, _, acc, v, _, i, false, rfl, rfl, rfl, rfl, HB3.out, HTR.out, ⟨hp, rfl⟩, HRE.out, fun _ => rfl⟩
      · intro a w4 hJ
        obtain ⟨m0, hm0⟩ : ∃ m0, m0 = daMu N ob a w4 := ⟨_, rfl⟩
        rw [← hm0]
        obtain ⟨hfr, h4, T4, es4, R4, rem4, acc4, v4, st4, i, fd, s7, s8, s9, s10, hB4, hT4, hP4, hrem4, hfd⟩ := hJ
        have hmr := mOf_root hTr.1
        clear hBr hTr hrem e0 e1 e2 e4 e6
        have hmu : m0 = 2 * (N - acc4.length) + (if fd then 0 else 1) := by
          rw [hm0]; unfold daMu; rw [hB4.mu, s10]; cases fd <;> rfl
        clear hm0
        obtain ⟨f, rfl, e0, e1, e2, e4, e6⟩ := hfr.lit
        simp only [List.getElem?_toArray, List.getElem?_cons_succ, List.getElem?_cons_zero, Option.some.injEq] at s7 s8 s9 s10
        clear hfr
        have hal : acc4.length + rem4.length ≤ N := by rw [← List.length_append, hrem4]; exact htl
        refine wp_seq_mid (LabM H mn mx h t w.heap.size (w.heap.size + 1) ob ab N (w.heap.size + 2) (.agg #[.int .i64 key.1, .int .i64 key.2]) (fnD ob ab) key w tot m0) ?_ ?_
        · rw [e0, e1, e2, e4, e6, s7, s8, s9, s10]
          obtain ⟨sa, sc, hsf⟩ := hB4.stk.sl.form
          rw [List.length_reverse] at hsf
          subst hsf
          have hfl := hT4.2.2.2.2.2.len
          have hfp := hT4.2.2.2.2.2.pos
          have hsl := hT4.2.1.len
          have hfam := HI.out.fam.chg hB4.chg (fun b o hb h => by
            rcases h with h | h
            · rw [h] at hb; exact HFO.out hb
            · have := HFL.out b hb; omega)
          have hblk := HB.out.chg hB4.chg (fun b o hb h => by
            rcases h with h | h
            · exact HTO.out b hb h
            · have := HOL.out b hb; omega)
          obtain ⟨l1, hn1⟩ := hfam.node hT4.1.root
          have c0 := hblk.at_.c0
          have HB4 := Lib.hid hB4
          have HT4 := Lib.hid hT4
          have HRE := Lib.hid hrem4
          have HMU := Lib.hid hmu
          have HMR := Lib.hid hmr
          have HFD := Lib.hid hfd
          have HP4 := Lib.hid hP4
          clear e0 e1 e2 e4 e6 s7 s8 s9 s10 hB4 hT4 hrem4 hmu hmr hfd hP4 hblk
          rcases h4 with _ | h4
          · have n3 := hn1.c3n rfl
            clear hn1 hfam c0
            go_wp2_with fail
            have hp := HP4.out
            exact ⟨⟨rfl, rfl, rfl, rfl, rfl, rfl, rfl⟩, T4, es4, R4, acc4, v4, _, i, rfl, rfl, rfl, HB4.out, HT4.out, hp.1, by rw [← hp.2.2]; exact HRE.out, fun _ => by rw [HMU.out]; omega, fun h => by
              rw [HMU.out]
              cases fd
              · simp
              · have := hp.2.1 rfl; omega⟩
          · have hk : (recOf (h4 + 1) T4).kids = some (T4.2.2.map fun c => some (rid c)) := rfl
            have n3 := hn1.c3s hk
            have nc := hn1.cc hk
            rw [List.length_map] at nc
            have hkl : T4.2.2.length = T4.2.1.length + 1 := HT4.out.2.1.2.1
            cases fd
            · have hp := (show PosAt ltM T4.2.1 key i ∧ rem4 = upp ltM key (toL (h4 + 1) T4) ++ R4 from HP4.out)
              have hple := hp.1.le
              obtain ⟨c, hcj⟩ : ∃ c, T4.2.2[i]? = some c := ⟨_, List.getElem?_eq_getElem (by omega)⟩
              have hcm : c ∈ T4.2.2 := List.mem_of_getElem? hcj
              have kc : w4.cell? ⟨l1.cb, l1.co + i, none⟩ = some (.pointer (some ⟨rid c, 0, none⟩)) := hn1.kidc hk (j := i) (o := some (rid c)) (by simp [hcj])
              have b1 : (0 : Int) ≤ (i : Int) := by omega
              have b2 : (i : Int) < (T4.2.2.length : Int) := by omega
              obtain ⟨lc, hnc⟩ := hfam.node (HT4.out.1.kid hcm).root
              have nc0 := hnc.c0
              have hks : mn ≤ (its c).length := (HT4.out.2.1.2.2 c hcm).1
              have hgt := kid_lt HT4.out.2.1 hcm HT4.out.2.2.1
              have hto : acc4 ++ (upp ltM key (toL h4 c) ++ (post (T4.2.1.drop i) ((T4.2.2.map (toL h4)).drop (i + 1)) ++ R4)) = tot := by
                rw [← HRE.out, hp.2, upp_kid HT4.out.2.1 hcj HT4.out.2.2.2.1 hp.1, List.append_assoc]
              have HTO2 := Lib.hid hto
              have hT5 : DaT H mn mx h h4 c ((rid c, (i : Int)) :: es4) (post (T4.2.1.drop i) ((T4.2.2.map (toL h4)).drop (i + 1)) ++ R4) :=
                ⟨HT4.out.1.kid hcm, (HT4.out.2.1.2.2 c hcm).2, by omega, sub_srt HT4.out.2.1 hcj HT4.out.2.2.2.1, by have := HT4.out.2.2.2.2.1; omega, rfl, .inr ⟨T4, i, R4, rfl, HT4.out.1, HT4.out.2.1, HT4.out.2.2.1, HT4.out.2.2.2.1, HT4.out.2.2.2.2.1, hple, HT4.out.2.2.2.2.2, rfl⟩⟩
              have HT5 := Lib.hid hT5
              have hme : mOf H (.pointer (some ⟨rid c, 0, none⟩)) < (toL h' T').length := by
                have h1 := mOf_root (HT4.out.1.kid hcm)
                have h2 := mOf_root HT4.out.1
                have h3 := HFD.out rfl
                rw [h3] at h2
                rw [h1, ← HMR.out, h2]; exact hgt
              have HME := Lib.hid hme
              clear hn1 hnc hcj hto hT5 hme hfam hp
              go_wp2_with fail
              refine (isoLoad_any t (rid c) k _ _ _ kc nc0 c0).mono ?_
              rintro e w5 ⟨rfl, m5, hw5⟩
              have hc5 : Chg (fun _ _ => False) w4 w5 := by rw [hw5]; exact (Chg.refl _ _).drewN _
              have hB5 := HB4.out.keep hc5
              have HB5 := Lib.hid hB5
              clear hw5 hB5 hc5
              have hca := (Chg.refl (fun _ _ => False) w5).alloc (.cells #[.pointer (some ⟨(rid c), 0, none⟩), .int .i64 (i : Int)] 103)
              have HOW := Lib.hid (HB5.out.stk.keep hca)
              have hbs : w.heap.size + 2 ≤ (w5.alloc (.cells #[.pointer (some ⟨(rid c), 0, none⟩), .int .i64 (i : Int)] 103)).heap.size := Nat.le_trans HB5.out.kd.rw_ hca.size
              go_wp2_with (refine wpList_append_E2 stkE (by rfl) _ _ _ (by rfl) i0 _ 16 Try.underlying94 hi0 hz0 hz1 hz2 rfl (.slice sa es4.length sc) (by rfl) es4.reverse (w.heap.size + 2) HOW.out hbs ⟨w5.heap.size, 0, none⟩ 1 _ (by rfl) [((rid c), (i : Int))] rfl (by decide) ?_ ?_ ?_ ?_)
              · first | exact El.src1 stkE (c := #[.pointer (some ⟨(rid c), 0, none⟩), .int .i64 (i : Int)]) (ha_at _ _ (by first | rfl | simp)) _ rfl | exact fun _ _ h => h
              · unfold maxLen; (rw [List.length_reverse]; omega)
              · (rw [List.length_reverse]; omega)
              intro v6 w6 g1 g2 g3
              have hB6 := HB5.out.stack g1 (hca.trans' g2 (B := fun b _ => ((.slice sa es4.length sc) : Value).ownBlock = some b) (fun _ _ _ h => h.elim) (fun _ _ _ h => h)) (g3.imp id fun ⟨nb, h1, h2⟩ => .inr ⟨nb, h1, by first | omega | exact Nat.le_trans hca.size h2⟩)
              have HB6 := Lib.hid hB6
              obtain ⟨va, vc, hvf⟩ := g1.sl.form
              subst hvf
              clear hca hbs g1 g2 g3 hB6
              go_wp2_with fail
              exact ⟨⟨⟨rfl, rfl, rfl, rfl, rfl, rfl, rfl⟩, h4, c, (rid c, (i : Int)) :: es4, _, acc4, v4, _, rfl, rfl, by rw [List.reverse_cons]; exact HB6.out, HT5.out, HTO2.out⟩, HME.out⟩
            · have hp := (show i < T4.2.1.length ∧ rem4 = post (T4.2.1.drop i) ((T4.2.2.map (toL h4)).drop (i + 1)) ++ R4 from HP4.out)
              have hplt := hp.1
              obtain ⟨y, hy⟩ : ∃ y, T4.2.1[i]? = some y := ⟨_, List.getElem?_eq_getElem hplt⟩
              obtain ⟨c, hcj⟩ : ∃ c, T4.2.2[i + 1]? = some c := ⟨_, List.getElem?_eq_getElem (by omega)⟩
              have hcm : c ∈ T4.2.2 := List.mem_of_getElem? hcj
              have hrem5 : rem4 = y :: (toL h4 c ++ (post (T4.2.1.drop (i + 1)) ((T4.2.2.map (toL h4)).drop (i + 1 + 1)) ++ R4)) := by
                rw [hp.2, post_drop hy (t := toL h4 c) (by simp [hcj])]; simp
              have n2 : w4.cell? ⟨rid T4, 2, none⟩ = some (.slice (some ⟨l1.ib, l1.io, none⟩) T4.2.1.length l1.ic) := hn1.c2
              have ik := hn1.mkey (j := i) hy
              have iv := hn1.mval (j := i) hy
              have b0 : (0 : Int) ≤ (i : Int) := by omega
              have b1 : (i : Int) < (T4.2.1.length : Int) := by omega
              have hsl2 : T4.2.1.length ≤ mx := hsl
              have hacc : acc4.length < N := by rw [hrem5] at hal; simp only [List.length_cons] at hal; omega
              have HK1 := Lib.hid (keep1_any y HB4.out.kd hacc hN)
              have HR5 := Lib.hid hrem5
              have HCJ := Lib.hid hcj
              clear nc hn1 hp hrem5 hcj hy
              unfold fnD
              go_wp2_with fail
              clear n3
              refine HK1.out.mono ?_
              rintro e w5 ⟨rfl, v5, hk5, hc5, hv5⟩
              have hB5 := HB4.out.call hk5 hc5 hv5
              have hfam5 := HI.out.fam.chg hB5.chg (fun b o hb h => by
                rcases h with h | h
                · rw [h] at hb; exact HFO.out hb
                · have := HFL.out b hb; omega)
              have hblk5 := HB.out.chg hB5.chg (fun b o hb h => by
                rcases h with h | h
                · exact HTO.out b hb h
                · have := HOL.out b hb; omega)
              have HB5 := Lib.hid hB5
              obtain ⟨l5, hn5⟩ := hfam5.node HT4.out.1.root
              have n3 := hn5.c3s hk
              have nc := hn5.cc hk
              rw [List.length_map] at nc
              have kc : w5.cell? ⟨l5.cb, l5.co + (i + 1), none⟩ = some (.pointer (some ⟨rid c, 0, none⟩)) := hn5.kidc hk (j := i + 1) (o := some (rid c)) (by simp [HCJ.out])
              obtain ⟨lc, hnc⟩ := hfam5.node (HT4.out.1.kid hcm).root
              have nc0 := hnc.c0
              replace c0 := hblk5.at_.c0
              have s1 : IntKind.i64.wrap ((i : Int) + 1) = (i : Int) + 1 := IntWalk.i64_in _ (by omega)
              have s2 : (0 : Int) ≤ (i : Int) + 1 := by omega
              have s3 : (i : Int) + 1 < (T4.2.2.length : Int) := by omega
              have s4 : ((i : Int) + 1).toNat = i + 1 := by omega
              have hks : mn ≤ (its c).length := (HT4.out.2.1.2.2 c hcm).1
              have hgt := kid_lt HT4.out.2.1 hcm HT4.out.2.2.1
              have hT5 : DaT H mn mx h h4 c ((rid c, ((i + 1 : Nat) : Int)) :: es4) (post (T4.2.1.drop (i + 1)) ((T4.2.2.map (toL h4)).drop (i + 1 + 1)) ++ R4) :=
                ⟨HT4.out.1.kid hcm, (HT4.out.2.1.2.2 c hcm).2, by omega, sub_srt HT4.out.2.1 HCJ.out HT4.out.2.2.2.1, by have := HT4.out.2.2.2.2.1; omega, rfl, .inr ⟨T4, i + 1, R4, rfl, HT4.out.1, HT4.out.2.1, HT4.out.2.2.1, HT4.out.2.2.2.1, HT4.out.2.2.2.2.1, by omega, HT4.out.2.2.2.2.2, rfl⟩⟩
              have HT5 := Lib.hid hT5
              have hto5 : (acc4 ++ [y]) ++ (toL h4 c ++ (post (T4.2.1.drop (i + 1)) ((T4.2.2.map (toL h4)).drop (i + 1 + 1)) ++ R4)) = tot := by
                rw [← HRE.out, HR5.out]; simp
              have HTO5 := Lib.hid hto5
              clear hk5 hc5 hv5 hB5 hfam5 hblk5 hn5 hnc hT5 hto5 ik iv n2 HK1 hfam
              go_wp2_with fail
              refine (isoLoad_any t (rid c) k _ _ _ kc nc0 c0).mono ?_
              rintro e w6 ⟨rfl, m6, hw6⟩
              have hc6 : Chg (fun _ _ => False) w5 w6 := by rw [hw6]; exact (Chg.refl _ _).drewN _
              have hB6 := HB5.out.keep hc6
              have HB6 := Lib.hid hB6
              clear hw6 hB6 hc6 n3 nc kc nc0 c0
              have hca := (Chg.refl (fun _ _ => False) w6).alloc (.cells #[.pointer (some ⟨(rid c), 0, none⟩), .int .i64 ((i : Int) + 1)] 103)
              have HOW := Lib.hid (HB6.out.stk.keep hca)
              have hbs : w.heap.size + 2 ≤ (w6.alloc (.cells #[.pointer (some ⟨(rid c), 0, none⟩), .int .i64 ((i : Int) + 1)] 103)).heap.size := Nat.le_trans HB6.out.kd.rw_ hca.size
              go_wp2_with (refine wpList_append_E2 stkE (by rfl) _ _ _ (by rfl) i0 _ 16 Try.underlying94 hi0 hz0 hz1 hz2 rfl (.slice sa es4.length sc) (by rfl) es4.reverse (w.heap.size + 2) HOW.out hbs ⟨w6.heap.size, 0, none⟩ 1 _ (by rfl) [((rid c), ((i : Int) + 1))] rfl (by decide) ?_ ?_ ?_ ?_)
              · first | exact El.src1 stkE (c := #[.pointer (some ⟨(rid c), 0, none⟩), .int .i64 ((i : Int) + 1)]) (ha_at _ _ (by first | rfl | simp)) _ rfl | exact fun _ _ h => h
              · unfold maxLen; (rw [List.length_reverse]; omega)
              · (rw [List.length_reverse]; omega)
              intro v6 w6 g1 g2 g3
              have hB6 := HB6.out.stack g1 (hca.trans' g2 (B := fun b _ => ((.slice sa es4.length sc) : Value).ownBlock = some b) (fun _ _ _ h => h.elim) (fun _ _ _ h => h)) (g3.imp id fun ⟨nb, h1, h2⟩ => .inr ⟨nb, h1, by first | omega | exact Nat.le_trans hca.size h2⟩)
              have HB6 := Lib.hid hB6
              obtain ⟨va, vc, hvf⟩ := g1.sl.form
              subst hvf
              clear hca hbs g1 g2 g3 hB6
              clear s1 s2 s3 s4
              go_wp2_with fail
              have hml : 2 * (N - (acc4 ++ [y]).length) < m0 := by rw [HMU.out]; simp; omega
              have HML := Lib.hid hml
              clear hml hplt hsl2 hacc hgt hks hkl hal b0 b1
              refine wp_loop (LabK H mn mx h t w.heap.size (w.heap.size + 1) ob ab N (w.heap.size + 2) (.agg #[.int .i64 key.1, .int .i64 key.2]) (fnD ob ab) key w tot (acc4 ++ [y]) v5) (fun a _ => mOf H ((a.tmps[8]?).getD undef)) ?_ ?_
              · exact ⟨⟨rfl, rfl, rfl, rfl, rfl, rfl, rfl⟩, h4, c, _, _, _, rfl, rfl, rfl, by rw [List.reverse_cons]; exact HB6.out, HT5.out, HTO5.out⟩
              · rintro a wr ⟨hfr, h5, T5, es5, R5, st5, s7, s8, s9, hB5, hT5, hre5⟩
                obtain ⟨f, rfl, e0, e1, e2, e4, e6⟩ := hfr.lit
                simp only [List.getElem?_toArray, List.getElem?_cons_succ, List.getElem?_cons_zero, Option.some.injEq] at s7 s8 s9
                simp only [List.getElem?_toArray, List.getElem?_cons_succ, List.getElem?_cons_zero, Option.getD_some]
                rw [e0, e1, e2, e4, e6, s7, s8, s9, mOf_root hT5.1]
                clear hfr e0 e1 e2 e4 e6 s7 s8 s9
                have HB5 := Lib.hid hB5
                clear HB6 HT5 HTO5
                have HT5 := Lib.hid hT5
                have HTO5 := Lib.hid hre5
                obtain ⟨sa5, sc5, hsf⟩ := hB5.stk.sl.form
                rw [List.length_reverse] at hsf
                subst hsf
                have hfl5 := hT5.2.2.2.2.2.len
                have hfam5 := HI.out.fam.chg hB5.chg (fun b o hb h => by
                  rcases h with h | h
                  · rw [h] at hb; exact HFO.out hb
                  · have := HFL.out b hb; omega)
                have hblk5 := HB.out.chg hB5.chg (fun b o hb h => by
                  rcases h with h | h
                  · exact HTO.out b hb h
                  · have := HOL.out b hb; omega)
                obtain ⟨l5, hn5⟩ := hfam5.node hT5.1.root
                have c0 := hblk5.at_.c0
                clear hB5 hT5 hre5 hblk5
                rcases h5 with _ | h5
                · have n3 := hn5.c3n rfl
                  clear hn5 hfam5 c0
                  go_wp2_with (go_at_call 51; refine (leaf_any _ none _ ?_).mono ?_; (focus go_simp); rintro e w' ⟨rfl, rfl⟩)
                  have hil : 1 ≤ T5.2.length := HT5.out.2.2.1
                  exact ⟨⟨rfl, rfl, rfl, rfl, rfl, rfl, rfl⟩, T5, es5, R5, acc4 ++ [y], v5, _, 0, rfl, rfl, rfl, HB5.out, HT5.out, Nat.zero_le _, HTO5.out, fun _ => Nat.le_of_lt HML.out, fun _ => HML.out⟩
                · have hk5 : (recOf (h5 + 1) T5).kids = some (T5.2.2.map fun c => some (rid c)) := rfl
                  have n3 := hn5.c3s hk5
                  have nc := hn5.cc hk5
                  rw [List.length_map] at nc
                  have hkl5 : T5.2.2.length = T5.2.1.length + 1 := HT5.out.2.1.2.1
                  obtain ⟨c5, hcj5⟩ : ∃ c, T5.2.2[0]? = some c := ⟨_, List.getElem?_eq_getElem (by omega)⟩
                  have hcm5 : c5 ∈ T5.2.2 := List.mem_of_getElem? hcj5
                  have kc : wr.cell? ⟨l5.cb, l5.co, none⟩ = some (.pointer (some ⟨rid c5, 0, none⟩)) := hn5.kidc hk5 (j := 0) (o := some (rid c5)) (by simp [hcj5])
                  obtain ⟨lc, hnc⟩ := hfam5.node (HT5.out.1.kid hcm5).root
                  have nc0 := hnc.c0
                  have b1 : (0 : Int) < (T5.2.2.length : Int) := by omega
                  have b2 : 0 < T5.2.2.length := by omega
                  have hgt5 := kid_lt HT5.out.2.1 hcm5 HT5.out.2.2.1
                  have HG5 := Lib.hid (show mOf H (.pointer (some ⟨rid c5, 0, none⟩)) < (toL (h5 + 1) T5).length by rw [mOf_root (HT5.out.1.kid hcm5)]; exact hgt5)
                  have hks5 : mn ≤ (its c5).length := (HT5.out.2.1.2.2 c5 hcm5).1
                  have hT6 : DaT H mn mx h h5 c5 ((rid c5, ((0 : Nat) : Int)) :: es5) (post (T5.2.1.drop 0) ((T5.2.2.map (toL h5)).drop (0 + 1)) ++ R5) :=
                    ⟨HT5.out.1.kid hcm5, (HT5.out.2.1.2.2 c5 hcm5).2, by omega, sub_srt HT5.out.2.1 hcj5 HT5.out.2.2.2.1, by have := HT5.out.2.2.2.2.1; omega, rfl, .inr ⟨T5, 0, R5, rfl, HT5.out.1, HT5.out.2.1, HT5.out.2.2.1, HT5.out.2.2.2.1, HT5.out.2.2.2.2.1, Nat.zero_le _, HT5.out.2.2.2.2.2, rfl⟩⟩
                  have HT6 := Lib.hid hT6
                  have hto6 : (acc4 ++ [y]) ++ (toL h5 c5 ++ (post (T5.2.1.drop 0) ((T5.2.2.map (toL h5)).drop (0 + 1)) ++ R5)) = tot := by
                    rw [← HTO5.out, toL_at HT5.out.2.1 hcj5]; simp [pre]
                  have HTO6 := Lib.hid hto6
                  clear hn5 hnc hcj5 hfam5 hT6 hto6 hkl5
                  go_wp2_with (go_at_call 51; refine (leaf_any _ (some ⟨l5.cc, 0, none⟩) _ n3).mono ?_; rintro e w' ⟨rfl, rfl⟩)
                  refine (isoLoad_any t (rid c5) k _ _ _ kc nc0 c0).mono ?_
                  rintro e w6 ⟨rfl, m6, hw6⟩
                  have hc6 : Chg (fun _ _ => False) wr w6 := by rw [hw6]; exact (Chg.refl _ _).drewN _
                  have hB6 := HB5.out.keep hc6
                  have HB6 := Lib.hid hB6
                  clear hw6 hB6 hc6 n3 nc kc nc0 c0 b1 b2
                  have hca := (Chg.refl (fun _ _ => False) w6).alloc (.cells #[.pointer (some ⟨(rid c5), 0, none⟩), .int .i64 (0 : Int)] 103)
                  have HOW := Lib.hid (HB6.out.stk.keep hca)
                  have hbs : w.heap.size + 2 ≤ (w6.alloc (.cells #[.pointer (some ⟨(rid c5), 0, none⟩), .int .i64 (0 : Int)] 103)).heap.size := Nat.le_trans HB6.out.kd.rw_ hca.size
                  go_wp2_with (refine wpList_append_E2 stkE (by rfl) _ _ _ (by rfl) i0 _ 16 Try.underlying94 hi0 hz0 hz1 hz2 rfl (.slice sa5 es5.length sc5) (by rfl) es5.reverse (w.heap.size + 2) HOW.out hbs ⟨w6.heap.size, 0, none⟩ 1 _ (by rfl) [((rid c5), (0 : Int))] rfl (by decide) ?_ ?_ ?_ ?_)
                  · first | exact El.src1 stkE (c := #[.pointer (some ⟨(rid c5), 0, none⟩), .int .i64 (0 : Int)]) (ha_at _ _ (by first | rfl | simp)) _ rfl | exact fun _ _ h => h
                  · unfold maxLen; (rw [List.length_reverse]; omega)
                  · (rw [List.length_reverse]; omega)
                  intro v6 w6 g1 g2 g3
                  have hB6 := HB6.out.stack g1 (hca.trans' g2 (B := fun b _ => ((.slice sa5 es5.length sc5) : Value).ownBlock = some b) (fun _ _ _ h => h.elim) (fun _ _ _ h => h)) (g3.imp id fun ⟨nb, h1, h2⟩ => .inr ⟨nb, h1, by first | omega | exact Nat.le_trans hca.size h2⟩)
                  have HB6 := Lib.hid hB6
                  obtain ⟨va, vc, hvf⟩ := g1.sl.form
                  subst hvf
                  clear hca hbs g1 g2 g3 hB6
                  go_wp2_with fail
                  exact ⟨⟨⟨rfl, rfl, rfl, rfl, rfl, rfl, rfl⟩, h5, c5, _, _, _, rfl, rfl, rfl, by rw [List.reverse_cons]; exact HB6.out, HT6.out, HTO6.out⟩, HG5.out⟩
        · rintro a w7 ⟨hfr, T7, es7, R7, acc7, v7, st7, i7, s7, s8, s9, hB7, hT7, hi7, hre7, hma7, hmb7⟩
          clear hal hrem4 hB4 hT4 hP4 hmu hfd e0 e1 e2 e4 e6 s10
          obtain ⟨f, rfl, e0, e1, e2, e4, e6⟩ := hfr.lit
          simp only [List.getElem?_toArray, List.getElem?_cons_succ, List.getElem?_cons_zero, Option.some.injEq] at s7 s8 s9
          clear hfr
          refine wp_seq_mid2 (LabM H mn mx h t w.heap.size (w.heap.size + 1) ob ab N (w.heap.size + 2) (.agg #[.int .i64 key.1, .int .i64 key.2]) (fnD ob ab) key w tot m0) ?_ ?_
          · rw [e0, e1, e2, e4, e6, s7, s8, s9]
            obtain ⟨sa, sc, hsf⟩ := hB7.stk.sl.form
            rw [List.length_reverse] at hsf
            subst hsf
            have hmh := HI.out.mh
            have hfl := hT7.2.2.2.2.2.len
            have hsl : T7.2.length ≤ mx := hT7.2.1
            have hfam := HI.out.fam.chg hB7.chg (fun b o hb h => by
              rcases h with h | h
              · rw [h] at hb; exact HFO.out hb
              · have := HFL.out b hb; omega)
            have hblk := HB.out.chg hB7.chg (fun b o hb h => by
              rcases h with h | h
              · exact HTO.out b hb h
              · have := HOL.out b hb; omega)
            obtain ⟨l1, hn1⟩ := hfam.node hT7.1.root
            have c10 : w7.cell? ⟨t, 10, none⟩ = some (.int .i64 mn) := by rw [cell_of_block hblk.blk]; rfl
            have n2 : w7.cell? ⟨rid T7, 2, none⟩ = some (.slice (some ⟨l1.ib, l1.io, none⟩) T7.2.length l1.ic) := hn1.c2
            obtain ⟨mb, hmb⟩ : ∃ mb : Int, mb = (T7.2.length : Int) - i7 - mn := ⟨_, rfl⟩
            have s1 : IntKind.i64.wrap ((T7.2.length : Int) - (i7 : Int)) = (T7.2.length : Int) - i7 := IntWalk.i64_in _ (by omega)
            have s2 : IntKind.i64.wrap ((T7.2.length : Int) - (i7 : Int) - (mn : Int)) = mb := by rw [hmb]; exact IntWalk.i64_in _ (by omega)
            have HMB := Lib.hid hmb
            have HB7 := Lib.hid hB7
            have HT7 := Lib.hid hT7
            have HRE := Lib.hid hre7
            have HMA := Lib.hid hma7
            have HMZ := Lib.hid hmb7
            clear e0 e1 e2 e4 e6 s7 s8 s9 hB7 hT7 hre7 hma7 hmb7 hblk hfam hn1 hmb
            go_quiet (fail)
            refine name_prop (fun w8 => Chg (fun _ _ => False) w7 w8) ((Chg.refl _ _).drewN _) ?_
            intro w8 hc8
            have hB8 := HB7.out.keep hc8
            have HB8 := Lib.hid hB8
            clear hB8 c10 n2 s1 s2
            by_cases hbk : 1 < mb
            rotate_left
            · go_wp2_with fail
              exact ⟨⟨rfl, rfl, rfl, rfl, rfl, rfl, rfl⟩, T7, es7, R7, acc7, v7, _, i7, rfl, rfl, rfl, HB8.out, HT7.out, hi7, HRE.out, HMA.out, HMZ.out⟩
            · have hilt : i7 < T7.2.length := by have := HMB.out; omega
              obtain ⟨y, hy⟩ : ∃ y, T7.2[i7]? = some y := ⟨_, List.getElem?_eq_getElem hilt⟩
              have hmb0 : (0 : Int) < mb := by omega
              go_wp2_with fail
              refine wp_loop (fun a' w' => a' = _ ∧ w' = _) (fun _ _ => 0) ⟨rfl, rfl⟩ ?_
              rintro a' w' ⟨rfl, hw⟩
              have hw' := hw.symm
              subst hw'
              clear hw
              have hfam8 := HI.out.fam.chg HB8.out.chg (fun b o hb h => by
                rcases h with h | h
                · rw [h] at hb; exact HFO.out hb
                · have := HFL.out b hb; omega)
              obtain ⟨l8, hn8⟩ := hfam8.node HT7.out.1.root
              have n2 : w8.cell? ⟨rid T7, 2, none⟩ = some (.slice (some ⟨l8.ib, l8.io, none⟩) T7.2.length l8.ic) := hn8.c2
              have ik := hn8.mkey (j := i7) hy
              have iv := hn8.mval (j := i7) hy
              have j0 : (0 : Int) ≤ (i7 : Int) := by omega
              have j1 : (i7 : Int) < (T7.2.length : Int) := by omega
              have s1 : IntKind.i64.wrap (i7 : Int) = (i7 : Int) := IntWalk.i64_in _ (by omega)
              have hlen7 : acc7.length + (T7.2.length - i7) ≤ N := by
                have h1 := congrArg List.length HRE.out
                simp only [List.length_append, List.length_drop] at h1
                omega
              have hacc : acc7.length < N := by omega
              have HK1 := Lib.hid (keep1_any y HB8.out.kd hacc hN)
              have HLN := Lib.hid hlen7
              have HY := Lib.hid hy
              clear hfam8 hn8 hlen7 hy
              unfold fnD
              go_wp2_with fail
              refine HK1.out.mono ?_
              rintro e w9 ⟨rfl, v9, hk9, hc9, hv9⟩
              have hB9 := HB8.out.call hk9 hc9 hv9
              have HB9 := Lib.hid hB9
              have hfam9 := HI.out.fam.chg hB9.chg (fun b o hb h => by
                rcases h with h | h
                · rw [h] at hb; exact HFO.out hb
                · have := HFL.out b hb; omega)
              obtain ⟨l9, hn9⟩ := hfam9.node HT7.out.1.root
              have HN9 := Lib.hid hn9
              have HF9 := Lib.hid hfam9
              clear n2 ik iv hk9 hc9 hv9 hB9 hfam9 HK1
              have n2 : w9.cell? ⟨rid T7, 2, none⟩ = some (.slice (some ⟨l9.ib, l9.io, none⟩) T7.2.length l9.ic) := hn9.c2
              have hlc : T7.2.length ≤ l9.ic := hn9.len
              have j2 : (i7 : Int) ≤ (T7.2.length : Int) := by omega
              have j3 : ¬ l9.ic = i7 := by omega
              clear hn9
              go_upto_region 34 with fail
              obtain ⟨hr0, cc, hrg, hrf, hrc⟩ := HN9.out.row
              have hfl9 : (flat (parM k) (T7.2.drop i7)).length = (T7.2.length - i7) * 2 := by rw [flat_len, List.length_drop]; rfl
              have hlc2 : l9.io + l9.ic * 2 ≤ cc.size := hrf
              have hcpy : ∀ j u, (flat (parM k) (T7.2.drop i7))[j]? = some u → w9.cell? ⟨l9.ib, l9.io + i7 * 2 + j, none⟩ = some u := fun j u hj => by
                have h1 : (flat (parM k) T7.2)[i7 * 2 + j]? = some u := by
                  have h2 := flat_drop (parM k) T7.2 i7
                  rw [← h2, List.getElem?_drop] at hj
                  exact hj
                have h3 := HN9.out.row.cell h1
                rw [← Nat.add_assoc] at h3
                exact h3
              have HCPY := Lib.hid hcpy
              have HRG := Lib.hid hrg
              clear hr0 hrf hrc hcpy hrg
              go_still_tail 14, (by kernel_rfl)
              refine wpList_copy_self (by rfl) _ _ _ _ (by rfl) 27 2 (by kernel_rfl) (by kernel_rfl) l9.ib (l9.io + i7 * 2) _ _ (by rfl) (by rfl) (flat (parM k) (T7.2.drop i7)) hfl9 HCPY.out cc _ HRG.out (by omega) (flat_one _ _) ?_
              clear hfl9 hlc2 HCPY HRG
              go_upto_region 35 with fail
              refine name_world (fun wz => Chg (fun _ _ => False) w9 wz) ((Chg.refl _ _).drew) ?_
              intro w10 hc10
              replace n2 := hc10.cell (fun h => h) n2
              have s2 : IntKind.i64.wrap (T7.2.length : Int) = (T7.2.length : Int) := IntWalk.i64_in _ (by omega)
              go_wp2_with fail
              refine wp_loop (fun a' w' => a' = _ ∧ w' = _) (fun _ _ => 0) ⟨rfl, rfl⟩ ?_
              rintro a' w' ⟨rfl, hw⟩
              have hw' := hw.symm
              subst hw'
              clear hw
              have z2 := (HN9.out.chg hc10 (fun _ _ _ h => h)).fz 2
              have j4 : (0 : Int) ≤ (T7.2.length : Int) := by omega
              have j5 : (T7.2.length : Int) ≤ (l9.ic : Int) := by omega
              go_upto_region 39 with fail
              go_still_tail 13, (by kernel_rfl)
              go_upto_region 40 with fail
              refine name_world (fun wz => Chg (fun _ _ => False) w9 wz) (by rw [setCell_same n2]; exact hc10.drew) ?_
              intro w11 hc11
              have HC11 := Lib.hid hc11
              clear n2 z2 hc10 hc11 s1 s2 j0 j1 j2 j3 j4 j5
              go_wp2_with fail
              refine wp_loop (LabC t w.heap.size (w.heap.size + 1) (.agg #[.int .i64 key.1, .int .i64 key.2]) (fnD ob ab) (.slice sa es7.length sc) (.pointer (some ⟨rid T7, 0, none⟩)) (.int .i64 i7) es7.length w9) (fun a _ => es7.length - (intOf ((a.tmps[16]?).getD undef)).toNat) ?_ ?_
              · exact ⟨⟨rfl, rfl, rfl, rfl, rfl, rfl, rfl⟩, rfl, rfl, rfl, rfl, rfl, ⟨0, Nat.zero_le _, rfl⟩, HC11.out⟩
              · rintro a w12 ⟨hfr, s7, s8, s9, s13, s14, ⟨j, hj, s16⟩, hc12⟩
                obtain ⟨f, rfl, e0, e1, e2, e4, e6⟩ := hfr.lit
                simp only [List.getElem?_toArray, List.getElem?_cons_succ, List.getElem?_cons_zero, Option.some.injEq] at s7 s8 s9 s13 s14 s16
                simp only [List.getElem?_toArray, List.getElem?_cons_succ, List.getElem?_cons_zero, Option.getD_some]
                rw [e0, e1, e2, e4, e6, s7, s8, s9, s13, s14, s16]
                clear hfr e0 e1 e2 e4 e6 s7 s8 s9 s13 s14 s16
                have HC12 := Lib.hid hc12
                have hB12 := HB9.out.keep hc12
                have HB12 := Lib.hid hB12
                have hfam12 := HF9.out.chg hc12 (fun _ _ _ h => h)
                clear hc12 hB12
                by_cases hlt : j < es7.length
                · obtain ⟨e, he⟩ : ∃ e, es7.reverse[j]? = some e := ⟨_, List.getElem?_eq_getElem (by rw [List.length_reverse]; exact hlt)⟩
                  obtain ⟨h', T', hre, hIT, hll⟩ := HT7.out.2.2.2.2.2.nodes ⟨T7, rfl, HT7.out.1, HT7.out.2.2.2.2.1⟩ e (List.mem_reverse.1 (List.mem_of_getElem? he))
                  obtain ⟨b, o, rfl, hcell⟩ := HB12.out.stk.sl.cell he
                  have g0 := hcell 0 (.pointer (some ⟨e.1, 0, none⟩)) rfl
                  obtain ⟨lk, hnk⟩ := hfam12.node hIT.root
                  have c1 := hnk.c1
                  have z1 := hnk.fz 1
                  rw [hre, recOf_cnt] at c1
                  rw [hre] at z1
                  obtain ⟨q, hq⟩ : ∃ q, (toL h' T').length = q := ⟨_, rfl⟩
                  rw [hq] at c1 hll
                  have s1 : IntKind.i64.wrap (q : Int) = (q : Int) := IntWalk.i64_in _ (by omega)
                  have j0 : (0 : Int) ≤ (j : Int) := by omega
                  have j1 : (j : Int) < (es7.length : Int) := by omega
                  have s3 : IntKind.i64.wrap ((j : Int) + 1) = ((j + 1 : Nat) : Int) := (by rw [IntWalk.i64_in _ (by omega)]; omega)
                  have g0' : w12.cell? ⟨b, o + j * 2, none⟩ = some (.pointer (some ⟨e.1, 0, none⟩)) := g0
                  clear hcell g0 hfam12 hnk hre hIT hq
                  go_upto_region 42 with fail
                  refine name_world (fun wz => Chg (fun _ _ => False) w9 wz) (by rw [setCell_same c1]; exact HC12.out) ?_
                  intro w13 hc13
                  go_wp2_with fail
                  exact ⟨⟨⟨rfl, rfl, rfl, rfl, rfl, rfl, rfl⟩, rfl, rfl, rfl, rfl, rfl, ⟨j + 1, by omega, rfl⟩, hc13⟩, by simp [intOf]; omega⟩
                · have hje : j = es7.length := by omega
                  have hnlt : ¬ (j : Int) < (es7.length : Int) := by omega
                  have hblk12 := HB.out.chg HB12.out.chg (fun b o hb h => by
                    rcases h with h | h
                    · exact HTO.out b hb h
                    · have := HOL.out b hb; omega)
                  have c3 := hblk12.c3
                  have z3 := hblk12.fz 3
                  obtain ⟨q, hq⟩ : ∃ q, (toL h T).length = q := ⟨_, rfl⟩
                  rw [hq] at c3 hlN
                  have s1 : IntKind.i64.wrap (q : Int) = (q : Int) := IntWalk.i64_in _ (by omega)
                  have s3 : IntKind.i64.wrap ((i7 : Int) + 1) = ((i7 + 1 : Nat) : Int) := (by rw [IntWalk.i64_in _ (by omega)]; omega)
                  clear hblk12 hq hfam12
                  go_upto_region 45 with fail
                  refine name_world (fun wz => Chg (fun _ _ => False) w9 wz) (by rw [setCell_same c3]; exact HC12.out) ?_
                  intro w13 hc13
                  have hB13 := HB9.out.keep hc13
                  have HB13 := Lib.hid hB13
                  clear hB13 hc13 c3 z3
                  go_wp2_with fail
                  have hre9 : (acc7 ++ [y]) ++ (T7.2.drop (i7 + 1) ++ R7) = tot := by
                    rw [← HRE.out, drop_cons HY.out]; simp
                  have hlt9 : 2 * (N - (acc7 ++ [y]).length) < m0 := by
                    have h1 := HMA.out hilt
                    simp
                    omega
                  exact ⟨⟨rfl, rfl, rfl, rfl, rfl, rfl, rfl⟩, T7, es7, R7, acc7 ++ [y], v9, _, i7 + 1, rfl, rfl, rfl, HB13.out, HT7.out, by omega, hre9, fun _ => Nat.le_of_lt hlt9, fun _ => hlt9⟩
          · intro a w8 hM8
            clear s7 s8 s9 hB7 hT7 hi7 hre7 hma7 hmb7 e0 e1 e2 e4 e6
            go_wp2_with fail
            refine wp_loop (LabM H mn mx h t w.heap.size (w.heap.size + 1) ob ab N (w.heap.size + 2) (.agg #[.int .i64 key.1, .int .i64 key.2]) (fnD ob ab) key w tot m0) (fun _ w' => N - slLen (w'.cell? ⟨ob, 0, none⟩)) hM8 ?_
            clear hM8
            rintro a w8 ⟨hfr, T8, es8, R8, acc8, v8, st8, i8, s7, s8, s9, hB8, hT8, hi8, hre8, hma8, hmb8⟩
            obtain ⟨f, rfl, e0, e1, e2, e4, e6⟩ := hfr.lit
            simp only [List.getElem?_toArray, List.getElem?_cons_succ, List.getElem?_cons_zero, Option.some.injEq] at s7 s8 s9
            rw [e0, e1, e2, e4, e6, s7, s8, s9, hB8.mu]
            clear hfr e0 e1 e2 e4 e6 s7 s8 s9
            have hfl := hT8.2.2.2.2.2.len
            have hsl : T8.2.length ≤ mx := hT8.2.1
            have hfam := HI.out.fam.chg hB8.chg (fun b o hb h => by
              rcases h with h | h
              · rw [h] at hb; exact HFO.out hb
              · have := HFL.out b hb; omega)
            obtain ⟨l8, hn8⟩ := hfam.node hT8.1.root
            have n2 : w8.cell? ⟨rid T8, 2, none⟩ = some (.slice (some ⟨l8.ib, l8.io, none⟩) T8.2.length l8.ic) := hn8.c2
            have HB8 := Lib.hid hB8
            have HT8 := Lib.hid hT8
            have HRE := Lib.hid hre8
            have HMA := Lib.hid hma8
            have HMZ := Lib.hid hmb8
            clear hB8 hT8 hre8 hma8 hmb8 hfam
            by_cases hlt : i8 < T8.2.length
            · obtain ⟨y, hy⟩ : ∃ y, T8.2[i8]? = some y := ⟨_, List.getElem?_eq_getElem hlt⟩
              have ik := hn8.mkey (j := i8) hy
              have iv := hn8.mval (j := i8) hy
              have j0 : (0 : Int) ≤ (i8 : Int) := by omega
              have j1 : (i8 : Int) < (T8.2.length : Int) := by omega
              have s1 : IntKind.i64.wrap ((i8 : Int) + 1) = ((i8 + 1 : Nat) : Int) := (by rw [IntWalk.i64_in _ (by omega)]; omega)
              have hlen8 : acc8.length + (T8.2.length - i8) ≤ N := by
                have h1 := congrArg List.length HRE.out
                simp only [List.length_append, List.length_drop] at h1
                omega
              have hacc : acc8.length < N := by omega
              have HK1 := Lib.hid (keep1_any y HB8.out.kd hacc hN)
              have HY := Lib.hid hy
              clear hn8 hy hlen8
              unfold fnD
              go_wp2_with fail
              refine HK1.out.mono ?_
              rintro e w9 ⟨rfl, v9, hk9, hc9, hv9⟩
              have hB9 := HB8.out.call hk9 hc9 hv9
              have HB9 := Lib.hid hB9
              clear n2 ik iv hk9 hc9 hv9 hB9 HK1
              go_wp2_with fail
              have hre9 : (acc8 ++ [y]) ++ (T8.2.drop (i8 + 1) ++ R8) = tot := by
                rw [← HRE.out, drop_cons HY.out]; simp
              have hlt9 : 2 * (N - (acc8 ++ [y]).length) < m0 := by
                have h1 := HMA.out hlt
                simp
                omega
              exact ⟨⟨⟨rfl, rfl, rfl, rfl, rfl, rfl, rfl⟩, T8, es8, R8, acc8 ++ [y], v9, _, i8 + 1, rfl, rfl, rfl, HB9.out, HT8.out, by omega, hre9, fun _ => Nat.le_of_lt hlt9, fun _ => hlt9⟩, by rw [HB9.out.mu]; simp; omega⟩
            · have hnlt : ¬ (i8 : Int) < (T8.2.length : Int) := by omega
              have hre9 : acc8 ++ R8 = tot := by
                rw [← HRE.out, List.drop_eq_nil_of_le (by omega)]; rfl
              have HRE9 := Lib.hid hre9
              clear hn8 hre9
              go_wp2_with fail
              refine wp_loop (LabZ H mn mx h t w.heap.size (w.heap.size + 1) ob ab N (w.heap.size + 2) (.agg #[.int .i64 key.1, .int .i64 key.2]) (fnD ob ab) key w tot m0) (fun a _ => slLen (a.tmps[7]?)) ?_ ?_
              · exact ⟨⟨rfl, rfl, rfl, rfl, rfl, rfl, rfl⟩, 0, rid T8, es8, R8, acc8, v8, _, rfl, HB8.out, HT8.out.2.2.2.2.2, HRE9.out, HMZ.out (by omega)⟩
              · clear n2 hnlt hlt hfl hsl HB8 HT8 HRE HMA HMZ HRE9 hi8
                rintro a w9 ⟨hfr, h9, n9, es9, R9, acc9, v9, st9, s7, hB9, hf9, hre9, hm9⟩
                obtain ⟨f, rfl, e0, e1, e2, e4, e6⟩ := hfr.lit
                simp only [List.getElem?_toArray, List.getElem?_cons_succ, List.getElem?_cons_zero, Option.some.injEq] at s7
                simp only [List.getElem?_toArray, List.getElem?_cons_succ, List.getElem?_cons_zero]
                rcases es9 with _ | ⟨e, es9⟩
                · exact hf9.elim
                have hfl := FrmD.len hf9
                rw [List.length_cons] at hfl
                have hstk := hB9.stk
                rw [List.reverse_cons] at hstk
                obtain ⟨b, o, cap, hst⟩ := stk_top hstk
                have hrv : es9.reverse.length = es9.length := List.length_reverse
                obtain ⟨q, hq⟩ : ∃ q, es9.length = q := ⟨_, rfl⟩
                obtain ⟨N9, hN9⟩ : ∃ N9, q + 1 = N9 := ⟨_, rfl⟩
                have hste : st9 = .slice (some ⟨b, o, none⟩) N9 cap := by rw [hst.eq, hrv, hq, hN9]
                subst hste
                have g1 := hst.c1
                have hpop := hst.pop
                have hroom := hst.room
                rw [hrv, hq] at g1 hpop hroom
                have hB10 := hB9.stack hpop (Chg.refl _ _) (.inl rfl)
                have HB10 := Lib.hid hB10
                have HF9 := Lib.hid hf9
                have HRE9 := Lib.hid hre9
                have s1 : IntKind.i64.wrap ((N9 : Int) - 1) = (q : Int) := (by rw [IntWalk.i64_in _ (by omega)]; omega)
                have s2 : (0 : Int) ≤ (q : Int) := by omega
                have s3 : (q : Int) < (N9 : Int) := by omega
                have s4 : (q : Int) ≤ (cap : Int) := by omega
                have s5 : ¬ N9 = 0 := by omega
                have s6 : ¬ cap = 0 := by omega
                have HNQ := Lib.hid (And.intro hN9 hq)
                rw [e0, e1, e2, e4, e6, s7]
                clear hfr e0 e1 e2 e4 e6 s7 hB9 hf9 hre9 hstk hst hpop hroom hB10 hN9 hq hrv
                rcases es9 with _ | ⟨e', es9⟩
                · have hq0 : q = 0 := HNQ.out.2.symm
                  have hcmp : ((q : Int) == 0) = true := by simp [hq0]
                  clear hq0
                  go_wp2_with fail
                  have hR9 : R9 = [] := by
                    rcases HF9.out.2 with ⟨_, _, h3⟩ | ⟨T, k, R', _, _, _, _, _, _, _, hf, _⟩
                    · exact h3
                    · exact hf.elim
                  show bodyPost Try.prog Try.f26 (fun e w' => e = Ending.returned (.tuple #[]) ∧ ∃ v, KeepD ob ab N (w.heap.size + 2) w.heap.size w' tot v ∧ Chg (fun b _ => b = ob ∨ w.heap.size ≤ b) w w') Exit.ret _ w9
                  refine bodyPost_ret (v := .tuple #[]) (by simp [results, Try.results26, go_sem]) rfl ?_
                  refine ⟨rfl, v9, ?_, HB10.out.chg⟩
                  rw [← HRE9.out, hR9, List.append_nil]; exact HB10.out.kd
                · rcases HF9.out.2 with ⟨h3, _⟩ | ⟨T9, k9, R10, hk9, g1', g2', g3', g4', g5', hkl9, hf10, hR9⟩
                  · cases h3
                  rw [List.length_cons] at hfl
                  have he' : e'.1 = rid T9 := hf10.1
                  have hst10 := HB10.out.stk
                  rw [List.reverse_cons] at hst10
                  obtain ⟨b2, o2, cap2, hst2⟩ := stk_top (n := e'.1) (i := e'.2) hst10
                  have he2 := hst2.eq
                  injection he2 with e1' e2' e3'
                  injection e1' with e1'
                  injection e1' with e4' e5' e6'
                  subst e4'
                  subst e5'
                  subst e3'
                  clear e2' e6'
                  obtain ⟨q2, hq2⟩ : ∃ q2, es9.length = q2 := ⟨_, rfl⟩
                  have hq2q : q2 + 1 = q := by have := HNQ.out.2; rw [List.length_cons] at this; omega
                  have g0 := hst2.c0
                  have hrv : es9.reverse.length = es9.length := List.length_reverse
                  rw [hrv, hq2, he'] at g0
                  have hfam := HI.out.fam.chg HB10.out.chg (fun b o hb h => by
                    rcases h with h | h
                    · rw [h] at hb; exact HFO.out hb
                    · have := HFL.out b hb; omega)
                  obtain ⟨l9, hn9⟩ := hfam.node g1'.root
                  have n2 : w9.cell? ⟨rid T9, 2, none⟩ = some (.slice (some ⟨l9.ib, l9.io, none⟩) T9.2.1.length l9.ic) := hn9.c2
                  have p1 : IntKind.i64.wrap ((q : Int) - 1) = (q2 : Int) := (by rw [IntWalk.i64_in _ (by omega)]; omega)
                  have p2 : (0 : Int) ≤ (q2 : Int) := by omega
                  have p3 : (q2 : Int) < (q : Int) := by omega
                  have p5 : ¬ q = 0 := by omega
                  have p6 : ((q : Int) == 0) = false := beq_eq_false_iff_ne.2 (by omega)
                  rw [hk9] at g1
                  have HRR := Lib.hid hR9
                  have HT9 := Lib.hid (show DaT H mn mx h (h9 + 1) T9 (e' :: es9) R10 from ⟨g1', g2', g3', g4', g5', hf10⟩)
                  have HNQ2 := Lib.hid (And.intro hq2q (And.intro hq2 he'))
                  have hqN := HNQ.out.1
                  have HQN := Lib.hid hqN
                  clear hst10 hst2 hq2 hq2q hfam hn9 hR9 hf10 he' hrv hqN hk9
                  by_cases hlt : k9 < T9.2.1.length
                  · have hcmp : (k9 : Int) < (T9.2.1.length : Int) := by omega
                    go_wp2_with fail
                    go_step3
                    exact ⟨rfl, ⟨⟨rfl, rfl, rfl, rfl, rfl, rfl, rfl⟩, h9 + 1, T9, e' :: es9, R10, post (T9.2.1.drop k9) ((T9.2.2.map (toL h9)).drop (k9 + 1)) ++ R10, acc9, v9, _, k9, true, rfl, rfl, rfl, rfl, HB10.out, HT9.out, ⟨hlt, rfl⟩, by rw [← HRR.out]; exact HRE9.out, fun e => by cases e⟩, by
                      show 2 * (N - slLen (w9.cell? ⟨ob, 0, none⟩)) + 0 < m0
                      rw [HB10.out.mu]; omega⟩
                  · have hcmp : ¬ (k9 : Int) < (T9.2.1.length : Int) := by omega
                    have hR9 : R9 = R10 := by rw [HRR.out, post_nil (by omega)]; rfl
                    have HR9 := Lib.hid hR9
                    clear hR9
                    go_wp2_with fail
                    exact ⟨⟨⟨rfl, rfl, rfl, rfl, rfl, rfl, rfl⟩, h9 + 1, rid T9, e' :: es9, R10, acc9, v9, _, rfl, HB10.out, HT9.out.2.2.2.2.2, by rw [← HR9.out]; exact HRE9.out, hm9⟩, by show q < N9; have := HQN.out; omega⟩
end Go.Proofs.Ytnohimhihombmaa

namespace Go.Proofs.Ytnohimhihombmaa
set_option linter.unusedSimpArgs false
set_option linter.unusedVariables false
open Go.RowKit

set_option maxRecDepth 100000 in
set_option maxHeartbeats 4000000 in
theorem GDeleteAscend_any {ord : List Int} (sv : Value) (d : Int) (nl : Bool) (p : Option Addr) (cap : Nat) (l : List (It ord)) (x : It ord) (qb qo qc N : Nat) (w : World) (hs : SlE intE w sv ord) (hol : ord.length ≤ 2147483647) (hd : FitD d) (hl : ItemsAt w p l) (hlen : l.length ≤ 2147483647)
    (hq : qb < w.heap.size) (hact : ∀ j, j < N → w.cell? ⟨qb, qo + j, none⟩ = some (.int .i64 1)) (hgN : (growL l).length ≤ N) (hN : N ≤ 1000000000000) :
    Calls Try.prog 11 #[.agg #[sv, .int .i64 d, .bool nl], .slice p l.length cap, .agg #[.int .i64 x.1, .int .i64 x.2], .slice (some ⟨qb, qo, none⟩) N qc] w fun e w' => ∃ v1 v2, e = .returned (.tuple #[v1, v2]) ∧ SlE itemE w' v1 (upp ltM x (growL l)) ∧ SlE itemE w' v2 (growL l) ∧ Chg (fun _ _ => False) w w' := by
  have HGR := Lib.hid (fun w1 (c : Chg (fun _ _ => False) w w1) => grow_any (ord := ord) sv d nl p cap l w1 hd (hs.chg c) hol (hl.chg c) hlen)
  unfold GrowPost at HGR
  have hdim := hd.dims.1
  have HACT := Lib.hid hact
  obtain ⟨sa, sc, rfl⟩ : ∃ a c, sv = .slice a ord.length c := hs.form
  clear hl hs hact
  go_enter Try.func11, Try.ntmps11
  go_upto_region 1 with fail
  refine name_world (fun w1 => Chg (fun _ _ => False) w w1 ∧ w1.heap[w.heap.size]? = some (.cells #[.slice sa ord.length sc, .int .i64 d, .bool nl] 24 (0, 0)) ∧ w1.heap[w.heap.size + 1]? = some (.cells #[.int .i64 x.1, .int .i64 x.2] 27 (0, 0)) ∧ w1.heap[w.heap.size + 2]? = some (.cells #[.slice (some ⟨qb, qo, none⟩) N qc] 22 (0, 0))) ⟨(((Chg.refl _ _).alloc _).alloc _).alloc _, ?_, ?_, ?_⟩ ?_
  · rw [ha_lt _ _ (by simp; try omega), ha_lt _ _ (by simp; try omega)]; exact ha_at _ _ rfl
  · rw [ha_lt _ _ (by simp; try omega)]; exact ha_at _ _ (by simp)
  · exact ha_at _ _ (by simp)
  rintro w1 ⟨hc1, hb0, hb1, hba⟩
  have m0 := cell_of_block hb0 0
  have m1 := cell_of_block hb0 1
  have m2 := cell_of_block hb0 2
  have q0 := cell_of_block hb1 0
  have q1 := cell_of_block hb1 1
  simp only [List.getElem?_toArray, List.getElem?_cons_zero, List.getElem?_cons_succ] at m0 m1 m2 q0 q1
  have HBA := Lib.hid hba
  have hlt1 := heap_lt hba
  have hsz1 := hc1.size
  have HC1 := Lib.hid hc1
  clear hb0 hb1 hba hc1
  go_wp2_with fail
  refine (HGR.out _ HC1.out).mono ?_
  rintro e w2 ⟨k, t, F, rfl, hM, hc2, hF2, ho2⟩
  replace q0 := hc2.cell (fun h => h) q0
  replace q1 := hc2.cell (fun h => h) q1
  have hsz2 := hc2.size
  have HC2 := Lib.hid (HC1.out.trans hc2)
  have HBA2 := Lib.hid (show w2.heap[w.heap.size + 2]? = some (.cells #[.slice (some ⟨qb, qo, none⟩) N qc] 22 (0, 0)) by rw [hc2.block hlt1 (fun _ h => h)]; exact HBA.out)
  have HM := Lib.hid hM
  clear m0 m1 m2 hc2 hM
  go_upto_region 3 with fail
  refine name_world (fun w3 => Chg (fun _ _ => False) w2 w3 ∧ w3.heap[w2.heap.size]? = some (.cells #[.slice none 0 0] 25 (0, 0))) ⟨(Chg.refl _ _).alloc _, ha_at _ _ rfl⟩ ?_
  rintro w3 ⟨hc3, hbo⟩
  replace q0 := hc3.cell (fun h => h) q0
  replace q1 := hc3.cell (fun h => h) q1
  have hsz3 := heap_lt hbo
  have hM3 := HM.out.chg hc3
  have hFb : ∀ b, F b → b < w2.heap.size := fun b hb => HM.out.famLt hb
  have hOb : ∀ b, MOwn k t b → b < w2.heap.size := fun b hb => HM.out.own hb
  have hc03 := HC2.out.trans hc3
  have hk3 : KeepD w2.heap.size (w.heap.size + 2) N w3.heap.size w3.heap.size w3 [] (.slice none 0 0) :=
    ⟨hbo, OwnE.nil _ _ _, ⟨qb, qo, qc, by rw [hc3.block (heap_lt HBA2.out) (fun _ h => h)]; exact HBA2.out, by omega, by omega, fun j hj => hc03.cell (fun h => h) (HACT.out j hj)⟩, by omega, by omega, by omega, Nat.le_refl _, Nat.le_refl _⟩
  have hD := DeleteAscend_any x hM3 hdim hk3 hgN hN (fun h => by have := hFb _ h; omega) (fun b hb e => by have := hOb b hb; omega)
  unfold fnD at hD
  have HD := Lib.hid hD
  have HM3 := Lib.hid hM3
  have HC3 := Lib.hid hc03
  have HFO := Lib.hid (And.intro hFb hOb)
  clear hc3 hbo hM3 hFb hOb hc03 hk3 hD
  go_wp2_with fail
  refine HD.out.mono ?_
  rintro e w4 ⟨rfl, v, hk4, hc4⟩
  have hM4 := HM3.out.chgA hc4 (fun b _ hb h => by have := HFO.out.1 b hb; omega) (fun b _ hb h => by have := HFO.out.2 b hb; omega)
  have HM4 := Lib.hid hM4
  have HK4 := Lib.hid hk4
  have HC4 := Lib.hid (HC3.out.trans' hc4 (B := fun b _ => b = w2.heap.size ∨ w3.heap.size ≤ b) (fun _ _ _ h => h.elim) (fun _ _ _ h => h))
  have o4 := cell_of_block hk4.o 0
  simp only [List.getElem?_toArray, List.getElem?_cons_zero] at o4
  clear hM4 hk4 hc4 q0 q1 HD
  go_wp2_with fail
  refine wp_region_scr (fun w' => w'.cell? ⟨w2.heap.size, 0, none⟩ = some v) (.soft 0 (.soft 1 (.hard 2 (.soft 3 (.soft 4 .nil))))) (by kernel_rfl) (by kernel_rfl) (fun _ _ _ _ _ h => h) o4 ?_
  repeat
    first
    | (refine scr_soft (by rfl) ?_ ?_ ?_ ?_
       rotate_left
       · simp [Region.wanted, yielded]; done
       · intro w' hS
         try obtain ⟨a1⟩ := hS
         go_simp
         try with_reducible rfl
       simp only [Act.put, List.setIfInBounds_toArray, List.set_cons_zero, List.set_cons_succ])
    | (refine scr_skip (by rfl) ?_ ?_
       · simp [Region.wanted, yielded]; done
       simp only [Act.put, List.setIfInBounds_toArray, List.set_cons_zero, List.set_cons_succ])
  refine scr_hard (by rfl) (by simp [Region.wanted, yielded]) (fun K hK => ?_)
  go_simp
  refine (Items_any (HM4.out.chg (Chg.refl _ _).drew) hdim (by omega)).mono ?_
  rintro e w5 ⟨v5, rfl, how5, hc5'⟩
  have hc5 : Chg (fun _ _ => False) w4 w5 := (Chg.refl _ _).drew.trans hc5'
  refine hK _ _ (hc5.cell (fun h => h) o4) ?_
  clear hK K
  repeat
    first
    | (refine scr_soft (by rfl) ?_ ?_ ?_ ?_
       rotate_left
       · simp [Region.wanted, yielded]; done
       · intro w' hS
         try obtain ⟨a1⟩ := hS
         go_simp
         try with_reducible rfl
       simp only [Act.put, List.setIfInBounds_toArray, List.set_cons_zero, List.set_cons_succ])
    | (refine scr_skip (by rfl) ?_ ?_
       · simp [Region.wanted, yielded]; done
       simp only [Act.put, List.setIfInBounds_toArray, List.set_cons_zero, List.set_cons_succ])
  refine scr_nil ?_
  go_wp2_with fail
  go_ret2
  exact ⟨_, _, rfl, HK4.out.own.sl.chg hc5, how5.sl, (HC4.out.mono (fun b _ hb h => by rcases h with h | h <;> omega)).trans hc5⟩
end Go.Proofs.Ytnohimhihombmaa

namespace Go.Proofs.Ytnohimhihombmaa
set_option linter.unusedSimpArgs false
set_option linter.unusedVariables false
open Go.RowKit

theorem firstN0 {α : Type} (l : List α) : firstN 0 l = l := by simp [firstN]

theorem made_ints (n : Nat) (w : World) (hn : n ≤ 1000000000000) : (Instr.makeSlice 22 (.int .i64 n) (.int .i64 n)).run Try.prog w = .ok (.slice (some ⟨w.heap.size, 0, none⟩) n n) (w.alloc (.cells (madeCells #[.int .i64 0] (n * 1)) 3)) := by
  obtain ⟨i0, hi0, hz0, hz1, hz2⟩ := info_parts infoInt
  have h := run_make (P := Try.prog) w 22 3 i0 _ Try.underlying22 hi0 hz0 .i64 .i64 (n : Int) (n : Int) (by omega) (by omega) (by rw [hz2]; omega) (by omega)
  rw [h, hz1]
  simp [Value.cells]

/-- A row of numbers of which the first j are 1. -/
def OnesAt (w : World) (b n j : Nat) : Prop := ∃ c, w.heap[b]? = some (.cells c 3 (0, 0)) ∧ c.size = n ∧ ∀ i, i < j → c[i]? = some (.int .i64 1)

theorem OnesAt.set {w : World} {b n j : Nat} (h : OnesAt w b n j) (hj : j < n) : OnesAt (w.setCell ⟨b, j, none⟩ (.int .i64 1)) b n (j + 1) := by
  obtain ⟨c, h1, h2, h3⟩ := h
  refine ⟨_, hs_same h1 _, by simp [h2], fun i hi => ?_⟩
  rw [Array.getElem?_setIfInBounds]
  by_cases e : j = i
  · subst e; rw [if_pos rfl, if_pos (by omega)]
  · rw [if_neg e]; exact h3 i (by omega)

theorem OnesAt.there {w : World} {b n j i : Nat} (h : OnesAt w b n j) (hi : i < n) : ∃ v, w.cell? ⟨b, i, none⟩ = some v := by
  obtain ⟨c, h1, h2, h3⟩ := h
  rw [cell_of_block h1]
  exact ⟨_, Array.getElem?_eq_getElem (by omega)⟩

theorem OnesAt.fz {w : World} {b n j i : Nat} (h : OnesAt w b n j) : w.frozen? ⟨b, i, none⟩ = false := by
  obtain ⟨c, h1, h2, h3⟩ := h
  exact frozen_of_block h1 i

set_option maxHeartbeats 4000000 in
set_option maxRecDepth 100000 in
set_option maxHeartbeats 1000000 in
theorem law_GKeeps (sv : Value) (os : List Int) (d : Int) (nl : Bool) (p : Option Addr) (cap : Nat) (l : List (Int × Int)) (x : Int × Int)  (w : World) (hs : SlE intE w sv os) (hl : ItemsAt w p l) :
    Calls Try.prog 3 #[.agg #[sv, .int .i64 d, .bool nl], .slice p l.length cap, .agg #[.int .i64 x.1, .int .i64 x.2]] w fun e w' => e = .returned (.bool true) ∧ Chg (fun _ _ => False) w w' := by
  obtain ⟨sa, sc, rfl⟩ : ∃ a c, sv = .slice a os.length c := hs.form
  have hz := fun w1 => zzFits1_any sa os.length sc d nl w1
  by_cases hol : os.length ≤ 2147483647
  rotate_left
  · rw [decide_eq_false hol] at hz
    go_enter Try.func3, Try.ntmps3
    go_wp2_with fail
    refine name_calls (fun w1 => Chg (fun _ _ => False) w w1) ((((Chg.refl _ _).alloc _).alloc _)) ?_
    intro w1 hc1
    refine (hz w1).mono ?_
    rintro e w2 ⟨rfl, hc2⟩
    go_wp2_with fail
    go_ret
    exact ⟨rfl, hc1.trans hc2⟩
  rw [decide_eq_true hol] at hz
  by_cases hlen : l.length ≤ 2147483647
  rotate_left
  · have hlen' : 2147483647 < l.length := by omega
    go_enter Try.func3, Try.ntmps3
    go_wp2_with fail
    refine name_calls (fun w1 => Chg (fun _ _ => False) w w1) ((((Chg.refl _ _).alloc _).alloc _)) ?_
    intro w1 hc1
    refine (hz w1).mono ?_
    rintro e w2 ⟨rfl, hc2⟩
    go_wp2_with fail
    go_ret
    exact ⟨rfl, hc1.trans hc2⟩
  have hn : ¬ 2147483647 < l.length := by omega
  have HS := Lib.hid hs
  have HL := Lib.hid hl
  have HOL := Lib.hid hol
  have HLN := Lib.hid hlen
  clear hs hl
  go_enter Try.func3, Try.ntmps3
  go_wp2_with fail
  refine name_calls (fun w1 => Chg (fun _ _ => False) w w1 ∧ w1.heap[w.heap.size]? = some (.cells #[.slice sa os.length sc, .int .i64 d, .bool nl] 24 (0, 0)) ∧ w1.heap[w.heap.size + 1]? = some (.cells #[.int .i64 x.1, .int .i64 x.2] 27 (0, 0))) ⟨(((Chg.refl _ _).alloc _).alloc _), ?_, ?_⟩ ?_
  · rw [ha_lt _ _ (by simp; try omega)]; exact ha_at _ _ rfl
  · exact ha_at _ _ (by simp)
  rintro w1 ⟨hc1, hb0, hb1⟩
  have q0 := cell_of_block hb1 0
  have q1 := cell_of_block hb1 1
  have m0 := cell_of_block hb0 0
  have m1 := cell_of_block hb0 1
  have m2 := cell_of_block hb0 2
  simp only [List.getElem?_toArray, List.getElem?_cons_zero, List.getElem?_cons_succ] at m0 m1 m2 q0 q1
  clear hb0 hb1
  refine (hz w1).mono ?_
  rintro e w2 ⟨rfl, hc2⟩
  replace m0 := hc2.cell (fun h => h) m0
  replace m1 := hc2.cell (fun h => h) m1
  replace m2 := hc2.cell (fun h => h) m2
  replace q0 := hc2.cell (fun h => h) q0
  replace q1 := hc2.cell (fun h => h) q1
  go_wp2_with fail
  by_cases hd : FitD d
  rotate_left
  · refine (lawFits_no sa _ sc d nl _ hd).mono ?_
    rintro e w3 ⟨rfl, hc3⟩
    go_wp2_with fail
    refine (alive_any _).mono ?_
    rintro e w4 ⟨rfl, hc4⟩
    go_wp2_with fail
    go_ret
    exact ⟨rfl, ((hc1.trans hc2).trans hc3).trans hc4⟩
  refine (lawFits_yes sa _ sc d nl _ hd).mono ?_
  rintro e w3 ⟨rfl, hc3⟩
  replace m0 := hc3.cell (fun h => h) m0
  replace m1 := hc3.cell (fun h => h) m1
  replace m2 := hc3.cell (fun h => h) m2
  replace q0 := hc3.cell (fun h => h) q0
  replace q1 := hc3.cell (fun h => h) q1
  have hc03 := (hc1.trans hc2).trans hc3
  clear hz hc1 hc2 hc3
  have hgl := growL_take_len (ord := os) l l.length
  rw [List.take_length] at hgl
  have hul := upp_len (ord := os) ltM x (growL l)
  have G4 := fun w1 (c : Chg (fun _ _ => False) w w1) => GItems_any (ord := os) (.slice sa os.length sc) d nl p cap l w1 (HS.out.chg c) HOL.out hd (HL.out.chg c) HLN.out
  have G2 := fun w1 (c : Chg (fun _ _ => False) w w1) => GAscend_any (ord := os) (.slice sa os.length sc) d nl p cap l x 0 w1 (HS.out.chg c) HOL.out hd (HL.out.chg c) HLN.out
  have G5 := fun w1 (c : Chg (fun _ _ => False) w w1) qb qo qc N h1 h2 h3 h4 => GDeleteAscend_any (ord := os) (.slice sa os.length sc) d nl p cap l x qb qo qc N w1 (HS.out.chg c) HOL.out hd (HL.out.chg c) HLN.out h1 h2 h3 h4
  simp only [firstN0] at G2
  unfold OwnPostI at G2 G4
  generalize growL (ord := os) l = L at *
  generalize upp (ord := os) ltM x L = U at *
  replace G2 := Lib.hid G2
  replace G4 := Lib.hid G4
  replace G5 := Lib.hid G5
  have HGL := Lib.hid (And.intro hgl hul)
  clear hgl hul
  go_wp2_with fail
  refine (G4.out _ hc03).mono ?_
  rintro e w4 ⟨v4, rfl, how4, hc4⟩
  replace m0 := hc4.cell (fun h => h) m0
  replace m1 := hc4.cell (fun h => h) m1
  replace m2 := hc4.cell (fun h => h) m2
  replace q0 := hc4.cell (fun h => h) q0
  replace q1 := hc4.cell (fun h => h) q1
  have hs4 := how4.sl
  obtain ⟨a4, c4, rfl⟩ := hs4.form
  have HS4 := Lib.hid hs4
  have HC4 := Lib.hid (hc03.trans hc4)
  obtain ⟨n, hn⟩ : ∃ n, L.length = n := ⟨_, rfl⟩
  rw [hn]
  have HN := Lib.hid hn
  have hnb : n ≤ 2147483647 := by have := HGL.out.1; omega
  have hmk := fun w' => made_ints n w' (by omega)
  clear how4 hs4 hc4 hn hc03
  go_upto_region 7 with fail
  refine name_world (fun w5 => Chg (fun _ _ => False) w4 w5 ∧ OnesAt w5 w4.heap.size n 0) ⟨(Chg.refl _ _).alloc _, ⟨_, ha_at _ _ rfl, by simp [madeCells], fun i hi => absurd hi (Nat.not_lt_zero i)⟩⟩ ?_
  rintro w5 ⟨hc5, ho5⟩
  have HO5 := Lib.hid ho5
  have HC5 := Lib.hid hc5
  clear hmk ho5 hc5
  go_wp2_with fail
  have hl0 := World.block_lt_of_cell? _ _ m0
  have hl1 := World.block_lt_of_cell? _ _ q0
  go_loopw [32] (fun iv wr => ∃ (j : Nat), j ≤ n ∧ iv = .int .i64 j ∧ OnesAt wr w4.heap.size n j ∧ Chg (fun b _ => b = w4.heap.size) w5 wr) (fun iv _ => n - (intOf iv).toNat)
  case atStart => exact ⟨0, Nat.zero_le _, rfl, HO5.out, Chg.refl _ _⟩
  case round =>
    obtain ⟨j, hj, rfl, hon, hcw⟩ := hrel
    have HON := Lib.hid hon
    have HCW := Lib.hid hcw
    clear hon hcw
    by_cases hlt : j < n
    · obtain ⟨vj, hvj⟩ := HON.out.there hlt
      have zj : wr.frozen? ⟨w4.heap.size, j, none⟩ = false := HON.out.fz
      have i0 : (0 : Int) ≤ (j : Int) := by omega
      have i1 : (j : Int) < (n : Int) := by omega
      have s1 : IntKind.i64.wrap ((j : Int) + 1) = ((j + 1 : Nat) : Int) := (by rw [IntWalk.i64_in _ (by omega)]; omega)
      go_upto_region 11 with fail
      refine name_world (fun wz => OnesAt wz w4.heap.size n (j + 1) ∧ Chg (fun b _ => b = w4.heap.size) w5 wz) ⟨HON.out.set hlt, HCW.out.setCell (.inl rfl) _⟩ ?_
      rintro wz ⟨hoz, hcz⟩
      have HZ := Lib.hid (And.intro hoz hcz)
      clear hoz hcz
      go_wp2_with fail
      go_roundw
      case rel => exact ⟨j + 1, by omega, rfl, HZ.out.1, HZ.out.2⟩
      case measure => simp [intOf]; omega
    · have hje : j = n := by omega
      subst hje
      have hnlt : ¬ (j : Int) < (j : Int) := by omega
      have hc45 : Chg (fun _ _ => False) w4 wr := HC5.out.trans' HCW.out (B := fun b _ => b = w4.heap.size) (fun _ _ _ h => h.elim) (fun _ _ _ h => h) |>.mono (fun b _ hb h => by omega)
      replace m0 := hc45.cell (fun h => h) m0
      replace m1 := hc45.cell (fun h => h) m1
      replace m2 := hc45.cell (fun h => h) m2
      replace q0 := hc45.cell (fun h => h) q0
      replace q1 := hc45.cell (fun h => h) q1
      have hw5 : w4.heap.size < wr.heap.size := by
        obtain ⟨c, h1, _⟩ := HON.out
        exact heap_lt h1
      have hact : ∀ i, i < j → wr.cell? ⟨w4.heap.size, 0 + i, none⟩ = some (.int .i64 1) := fun i hi => by
        obtain ⟨c, h1, _, h3⟩ := HON.out
        rw [Nat.zero_add, cell_of_block h1]; exact h3 i hi
      have h5 := G5.out wr (HC4.out.trans hc45) w4.heap.size 0 j j hw5 hact (by rw [HN.out]; exact Nat.le_refl _) (by omega)
      have H5 := Lib.hid h5
      have HC6 := Lib.hid hc45
      clear hact h5 hc45 hlt
      go_wp2_with fail
      refine H5.out.mono ?_
      rintro e w6 ⟨v1, v2, rfl, hs1, hs2, hc6⟩
      replace m0 := hc6.cell (fun h => h) m0
      replace m1 := hc6.cell (fun h => h) m1
      replace m2 := hc6.cell (fun h => h) m2
      replace q0 := hc6.cell (fun h => h) q0
      replace q1 := hc6.cell (fun h => h) q1
      have HS1 := Lib.hid hs1
      have HS2 := Lib.hid hs2
      have HC7 := Lib.hid ((HC4.out.trans HC6.out).trans hc6)
      have HC46 := Lib.hid (HC6.out.trans hc6)
      obtain ⟨a1, c1, rfl⟩ := hs1.form
      obtain ⟨a2, c2, rfl⟩ := hs2.form
      clear hs1 hs2 hc6 H5
      go_wp2_with fail
      refine (G2.out _ HC7.out).mono ?_
      rintro e w7 ⟨v7, rfl, how7, hc7⟩
      have HS7 := Lib.hid how7.sl
      have hs7f := how7.sl
      obtain ⟨a7, c7, rfl⟩ := hs7f.form
      have hgu := HGL.out.2
      have hgl := HGL.out.1
      clear how7 hs7f
      go_wp2_with fail
      refine (equal_item _ _ _ _ (HS1.out.chg hc7) HS7.out (by omega)).mono ?_
      rintro e w8 ⟨rfl, hc8⟩
      have h4 := HS4.out.chg ((HC46.out.trans hc7).trans hc8)
      rw [HN.out] at h4
      have H4 := Lib.hid h4
      have H2 := Lib.hid (HS2.out.chg (hc7.trans hc8))
      have HC8 := Lib.hid ((HC7.out.trans hc7).trans hc8)
      clear hc7 hc8 h4 m0 m1 m2 q0 q1
      go_wp2_with fail
      refine (equal_item _ _ _ _ H2.out H4.out (by omega)).mono ?_
      rintro e w9 ⟨rfl, hc9⟩
      have HC9 := Lib.hid (HC8.out.trans hc9)
      clear hc9
      go_wp2_with fail
      refine (alive_any _).mono ?_
      rintro e w10 ⟨rfl, hc10⟩
      have HC10 := Lib.hid (HC9.out.trans hc10)
      clear hc10
      go_wp2_with fail
      go_ret
      exact ⟨rfl, HC10.out⟩
end Go.Proofs.Ytnohimhihombmaa
