/- MapIter.First. -/
import Derived.Test.YtjggkpmlffhjgaaIa
import Derived.BigQuiet
import Derived.Deep.QuietTactic
import Derived.StillTailTactics
namespace Go.Proofs.Ytjggkpmlffhjgaa
set_option linter.unusedSimpArgs false
set_option linter.unusedVariables false
open Go.RowKit

set_option maxRecDepth 100000 in
set_option maxHeartbeats 4000000 in
theorem first_any {mn mx : Nat} {w : World} {F : Nat → Prop} {H : Nat → Option (NodeR (Int × Int))} {t h : Nat} {T : BT (Int × Int) h} {ib base : Nat} {X : Nat → Prop} {k : Int} (hI : TreeIn 0 mn mx w F H t h T) (hB : MapBlk 0 mn mx w t (some (rid T)) (toL h T).length) (h1 : 1 ≤ (its T).length) (hmn : 1 ≤ mn) (hlen : (toL h T).length ≤ 1000000000000)
    (hit : ItAt w ib t false false false (.slice none 0 0) k) (hF : ∀ b, F b → b < base ∧ b ≠ ib) (htb : t < base) (hti : t ≠ ib) (hib : ib < base) (hbase : base ≤ w.heap.size) (hX : ∀ b, X b → b < w.heap.size) :
    Calls Try.prog 126 #[.pointer (some ⟨ib, 0, none⟩)] w (ItPost X w H mn mx h false ib t base (toL h T)) := by
  have HIT := Lib.hid hit
  have HB := Lib.hid hB
  have HI := Lib.hid hI
  have e0 := HIT.out.c0
  have e1 := HIT.out.c1
  have e2 := HIT.out.c2
  have e3 := HIT.out.c3
  have e4 := HIT.out.c4
  have e5 := HIT.out.c5
  have z2 := HIT.out.fz 2
  have z3 := HIT.out.fz 3
  have z4 := HIT.out.fz 4
  have z5 := HIT.out.fz 5
  obtain ⟨i0, hi0, hz0, hz1, hz2⟩ := info_parts infoStk
  clear hit hB hI
  go_enter Try.func126, Try.ntmps126
  go_upto_region 4 with fail
  refine name_world (fun wz => ItAt wz ib t false false false (.slice none 0 0) k ∧ Chg (ItCh ib base X) w wz) ⟨HIT.out.put4 _, (Chg.refl _ _).setCell (Or.inl (show ItCh ib base X _ _ from Or.inl rfl)) _⟩ ?_
  rintro w1 ⟨hitn, hc1⟩
  replace HIT := Lib.hid hitn
  clear hitn
  clear e0 e1 e2 e3 e4 e5 z2 z3 z4 z5
  have e0 := HIT.out.c0
  have e1 := HIT.out.c1
  have e2 := HIT.out.c2
  have e3 := HIT.out.c3
  have e4 := HIT.out.c4
  have e5 := HIT.out.c5
  have z2 := HIT.out.fz 2
  have z3 := HIT.out.fz 3
  have z4 := HIT.out.fz 4
  have z5 := HIT.out.fz 5
  go_upto_region 5 with fail
  refine name_world (fun wz => ItAt wz ib t false false false (.slice none 0 0) k ∧ Chg (ItCh ib base X) w wz) ⟨HIT.out.put3 _, (hc1).setCell (Or.inl (show ItCh ib base X _ _ from Or.inl rfl)) _⟩ ?_
  rintro w2 ⟨hitn, hc2⟩
  replace HIT := Lib.hid hitn
  clear hitn
  clear e0 e1 e2 e3 e4 e5 z2 z3 z4 z5
  have e0 := HIT.out.c0
  have e1 := HIT.out.c1
  have e2 := HIT.out.c2
  have e3 := HIT.out.c3
  have e4 := HIT.out.c4
  have e5 := HIT.out.c5
  have z2 := HIT.out.fz 2
  have z3 := HIT.out.fz 3
  have z4 := HIT.out.fz 4
  have z5 := HIT.out.fz 5
  go_upto_region 6 with fail
  refine name_world (fun wz => ItAt wz ib t true false false (.slice none 0 0) k ∧ Chg (ItCh ib base X) w wz) ⟨HIT.out.put2 _, (hc2).setCell (Or.inl (show ItCh ib base X _ _ from Or.inl rfl)) _⟩ ?_
  rintro w3 ⟨hitn, hc3⟩
  replace HIT := Lib.hid hitn
  clear hitn
  clear e0 e1 e2 e3 e4 e5 z2 z3 z4 z5
  have e0 := HIT.out.c0
  have e1 := HIT.out.c1
  have e2 := HIT.out.c2
  have e3 := HIT.out.c3
  have e4 := HIT.out.c4
  have e5 := HIT.out.c5
  have z2 := HIT.out.fz 2
  have z3 := HIT.out.fz 3
  have z4 := HIT.out.fz 4
  have z5 := HIT.out.fz 5
  go_upto_region 7 with fail
  refine name_world (fun wz => ItAt wz ib t true false false (.slice none 0 0) k ∧ Chg (ItCh ib base X) w wz) ⟨HIT.out.put5 _, (hc3).setCell (Or.inl (show ItCh ib base X _ _ from Or.inl rfl)) _⟩ ?_
  rintro w4 ⟨hitn, hc4⟩
  replace HIT := Lib.hid hitn
  clear hitn
  clear e0 e1 e2 e3 e4 e5 z2 z3 z4 z5
  have e0 := HIT.out.c0
  have e1 := HIT.out.c1
  have e2 := HIT.out.c2
  have e3 := HIT.out.c3
  have e4 := HIT.out.c4
  have e5 := HIT.out.c5
  have z2 := HIT.out.fz 2
  have z3 := HIT.out.fz 3
  have z4 := HIT.out.fz 4
  have z5 := HIT.out.fz 5
  have hOF : ∀ b o, F b → ¬ ItCh ib base X b o := fun b _ hb h => by
    have := hF b hb
    rcases h with h | h <;> omega
  have hOT : ∀ b o, MOwn 0 t b → ¬ ItCh ib base X b o := fun b _ hb h => by
    have hb' : b = t := hb
    rcases h with h | h <;> omega
  have HOF := Lib.hid hOF
  have HOT := Lib.hid hOT
  have hB4 := HB.out.chg hc4 (fun b o hb => hOT b o hb)
  obtain ⟨l0, hn0⟩ := (HI.out.fam.chg hc4 hOF).node HI.out.isT.root
  have n0 := hn0.c0
  have b2 : w4.cell? ⟨t, 2, none⟩ = some (.pointer (some ⟨rid T, 0, none⟩)) := hB4.c2
  have b0 := hB4.at_.c0
  clear hOF hOT hc1 hc2 hc3
  go_upto_region 9 with fail
  go_quiet ((go_at_call 161; exact Calls.quiet_of (isoLoad_any t (rid T) 0 _ _ _ b2 n0 b0)))
  refine name_prop (fun w8 => Chg (fun _ _ => False) w4 w8) ((Chg.refl _ _).drewN _) ?_
  intro w5 hc5
  have hc05 := hc4.trans' hc5 (B := ItCh ib base X) (fun _ _ _ h => h) (fun _ _ _ h => h.elim)
  have hs5 := hc05.size
  clear e0 e1 e2 e3 e4 e5 z2 z3 z4 z5 b2 b0 n0
  go_wp2_with fail
  go_loopw [3] (fun nv wr => ∃ (h' : Nat) (T' : BT (Int × Int) h') (fs : List (Nat × Int)) (R : List (Int × Int)) (st : Value), nv = .pointer (some ⟨rid T', 0, none⟩) ∧ IsT H h' T' ∧ Sh mn mx h' T' ∧ 1 ≤ (its T').length ∧ (toL h' T').length ≤ 1000000000000 ∧ Frm H mn mx h false fs h' R ∧ toL h' T' ++ R = toL h T ∧ ItAt wr ib t true false false st k ∧ OwnX X wr st fs.reverse base ∧ Chg (ItCh ib base X) w wr) (fun nv _ => mOf H nv)
  case atStart => exact ⟨h, T, [], [], _, rfl, HI.out.isT, HI.out.sh, h1, hlen, ⟨rfl, rfl⟩, by simp, HIT.out.chg hc5 (fun _ h => h), OwnX.nil _ _ _, hc05⟩
  case round =>
    obtain ⟨h', T', fs, R, st, rfl, hT, hs, hit, hll, hfr, htot, hia, how, hc⟩ := hrel
    have hsz := hc.size
    have hfl := hfr.len
    have hht := height_lt hmn HI.out.sh h1
    have hfam := HI.out.fam.chg hc HOF.out
    have HFR := Lib.hid hfr
    have HTOT := Lib.hid htot
    replace HIT := Lib.hid hia
    have e0 := HIT.out.c0
    have e1 := HIT.out.c1
    have e2 := HIT.out.c2
    have e3 := HIT.out.c3
    have e4 := HIT.out.c4
    have e5 := HIT.out.c5
    have z2 := HIT.out.fz 2
    have z3 := HIT.out.fz 3
    have z4 := HIT.out.fz 4
    have z5 := HIT.out.fz 5
    have hca := (Chg.refl (fun _ _ => False) wr).alloc (.cells #[.pointer (some ⟨rid T', 0, none⟩), .int .i64 0] 213)
    have HOW := Lib.hid (how.keep hca)
    have HC := Lib.hid hc
    have HFAM := Lib.hid hfam
    clear hfr htot hia how hc hfam hht
    go_wp2_with (refine wpList_append_X (by rfl) _ _ _ (by rfl) i0 _ 16 Try.underlying104 hi0 hz0 hz1 hz2 rfl _ (by rfl) _ base HOW.out (Nat.le_trans (Nat.le_trans hbase hsz) hca.size) (fun b hb => Nat.lt_of_lt_of_le (hX b hb) (Nat.le_trans hsz hca.size)) ⟨wr.heap.size, 0, none⟩ 1 _ (by rfl) [(rid T', (0 : Int))] rfl (by decide) ?_ ?_ ?_ ?_)
    · first | exact El.src1 stkE (c := #[.pointer (some ⟨rid T', 0, none⟩), .int .i64 0]) (ha_at _ _ (by first | rfl | simp)) _ rfl | exact fun _ _ h => h
    · have := height_lt hmn HI.out.sh h1; rw [List.length_reverse]; unfold maxLen; omega
    · have := height_lt hmn HI.out.sh h1; rw [List.length_reverse]; omega
    intro v6 w6 g1 g2
    have hca6 : Chg (ItCh ib base X) wr w6 := (hca.trans' g2 (B := fun b _ => base ≤ b ∧ ¬ X b) (fun _ _ _ h => h.elim) (fun _ _ _ h => h)).mono (fun _ _ _ h => .inr h)
    have hi6 := HIT.out.chg (hca.trans' g2 (B := fun b _ => base ≤ b ∧ ¬ X b) (fun _ _ _ h => h.elim) (fun _ _ _ h => h)) (fun _ h => by omega)
    have hc6 := HC.out.trans hca6
    obtain ⟨sa, sc, hv6⟩ := g1.sl.form
    have hrl : (fs.reverse ++ [(rid T', (0 : Int))]).length = fs.length + 1 := by simp
    rw [hrl] at hv6
    subst hv6
    clear e0 e1 e2 e3 e4 e5 z2 z3 z4 z5 hca hca6 hrl g2
    replace HIT := Lib.hid hi6
    clear hi6
    have e0 := HIT.out.c0
    have e1 := HIT.out.c1
    have e2 := HIT.out.c2
    have e3 := HIT.out.c3
    have e4 := HIT.out.c4
    have e5 := HIT.out.c5
    have z2 := HIT.out.fz 2
    have z3 := HIT.out.fz 3
    have z4 := HIT.out.fz 4
    have z5 := HIT.out.fz 5
    go_upto_region 11 with fail
    refine name_world (fun wz => ItAt wz ib t true false false (.slice sa (fs.length + 1) sc) k ∧ OwnX X wz (.slice sa (fs.length + 1) sc) (fs.reverse ++ [(rid T', (0 : Int))]) base ∧ Chg (ItCh ib base X) w wz) ⟨HIT.out.put5 _, g1.chg ((Chg.refl (fun b _ => b = ib) _).setCell (.inl rfl) _) (fun b _ hb h => by omega), hc6.setCell (Or.inl (show ItCh ib base X _ _ from Or.inl rfl)) _⟩ ?_
    rintro w7 ⟨hi7, how7, hc7⟩
    clear e0 e1 e2 e3 e4 e5 z2 z3 z4 z5 g1 hc6
    replace HIT := Lib.hid hi7
    clear hi7
    have e0 := HIT.out.c0
    have e1 := HIT.out.c1
    have e2 := HIT.out.c2
    have e3 := HIT.out.c3
    have e4 := HIT.out.c4
    have e5 := HIT.out.c5
    have z2 := HIT.out.fz 2
    have z3 := HIT.out.fz 3
    have z4 := HIT.out.fz 4
    have z5 := HIT.out.fz 5
    have hf7 := HI.out.fam.chg hc7 HOF.out
    obtain ⟨l2, hn2, hblk, _⟩ := hf7.work hT.root
    have HBLK := Lib.hid hblk
    clear hblk
    have hsz7 := hc7.size
    rcases h' with _ | h'
    · have n3 := hn2.c3n rfl
      go_wp2_with (go_at_call 162; refine (leaf_any _ none _ ?_).mono ?_; (focus go_simp); rintro e w' ⟨rfl, rfl⟩)
      obtain ⟨y, hy⟩ : ∃ y, T'.2[0]? = some y := ⟨_, List.getElem?_eq_getElem (show 0 < T'.2.length from hit)⟩
      have HCONS := Lib.hid (show T'.2 = y :: T'.2.drop 1 from dropc (k := 0) hy)
      have HY := Lib.hid hy
      have hht := height_lt hmn HI.out.sh h1
      have n2 : w7.cell? ⟨rid T', 2, none⟩ = some (.slice (some ⟨l2.ib, l2.io, none⟩) T'.2.length l2.ic) := hn2.c2
      have hjl : 0 < T'.2.length := (List.getElem?_eq_some_iff.1 hy).1
      have ik := hn2.mkey (j := 0) hy
      obtain ⟨b, o, cap, hst⟩ := stk_top how7
      have hrv : fs.reverse.length = fs.length := List.length_reverse
      obtain ⟨q, hq⟩ : ∃ q, fs.length = q := ⟨_, rfl⟩
      obtain ⟨N, hN⟩ : ∃ N, q + 1 = N := ⟨_, rfl⟩
      clear e0 e1 e2 e3 e4 e5 z2 z3 z4 z5
      have e0 := HIT.out.c0
      have e1 := HIT.out.c1
      have e2 := HIT.out.c2
      have e3 := HIT.out.c3
      have e4 := HIT.out.c4
      have e5 := HIT.out.c5
      have z2 := HIT.out.fz 2
      have z3 := HIT.out.fz 3
      have z4 := HIT.out.fz 4
      have z5 := HIT.out.fz 5
      replace e5 : w7.cell? ⟨ib, 5, none⟩ = some (.slice (some ⟨b, o, none⟩) N cap) := by rw [HIT.out.c5, hst.eq, hrv, hq, hN]
      have g0 := hst.c0
      have g1 := hst.c1
      rw [hrv, hq] at g0 g1
      obtain ⟨z, hz⟩ : ∃ z : Nat, z = 0 := ⟨_, rfl⟩
      rw [← hz] at ik hjl
      replace g1 : w7.cell? ⟨b, o + q * 2 + 1, none⟩ = some (.int .i64 (z : Int)) := by rw [hz]; exact g1
      have s1 : IntKind.i64.wrap ((N : Int) - 1) = (q : Int) := (by rw [IntWalk.i64_in _ (by omega)]; omega)
      have s2 : (0 : Int) ≤ (q : Int) := by omega
      have s3 : (q : Int) < (N : Int) := by omega
      have s5 : ¬ N = 0 := by omega
      have j0 : (0 : Int) ≤ (z : Int) := by omega
      have j1 : (z : Int) < (T'.2.length : Int) := by omega
      have hbi : b ≠ ib := by have := hst.lo; omega
      have hti1 : rid T' ≠ ib := (HOF.out _ 0 (hf7.mem hT.root) <| .inl ·)
      have hti2 : l2.ib ≠ ib := (HOF.out _ 0 (HBLK.out _ (.inr (.inl rfl))) <| .inl ·)
      have HST := Lib.hid hst
      have HOX := Lib.hid how7
      have HCX := Lib.hid hc7
      have HNE := Lib.hid hn2
      have HNQ := Lib.hid (And.intro hN (And.intro hq hz))
      clear hht hst how7 hc7 hrv hN hq hf7 hy hn2 hz hjl
      go_wp2_with fail
      go_quiet (fail)
      refine name_prop (fun wq => Chg (fun _ _ => False) w7 wq) ((Chg.refl _ _).drewN _) ?_
      intro wq hcq
      go_wp2_with fail
      have a0 := hcq.cell (fun h => h) g0
      have a1 := hcq.cell (fun h => h) g1
      have a2 := hcq.cell (fun h => h) n2
      have a3 := hcq.cell (fun h => h) ik
      have hit8 := HIT.out.chg hcq (fun _ h => h)
      have hnd := (HNE.out.chg hcq (fun _ _ _ h => h)).chg (Chg.refl (fun _ _ => False) wq).drew (fun _ _ _ h => h)
      have hpi := (hit8.chg (Chg.refl (fun _ _ => False) wq).drew (fun _ h => h)).pz
      have a6 := hit8.c6
      have z6 := hit8.fz 6
      have hcw := ((Chg.refl (fun b _ => b = ib) wq).setCell (a := ⟨ib, 6, none⟩) (.inl rfl) (.int .i64 y.1)).drew
      have hif : ItAt (wq.setCell ⟨ib, 6, none⟩ (.int .i64 y.1)).drew ib t true false false _ y.1 := hit8.put6 y.1
      clear e0 e1 e2 e3 e4 e5 z2 z3 z4 z5 g0 g1 n2 ik
      have HIF := Lib.hid hif
      have HCW := Lib.hid hcw
      have HND := Lib.hid hnd
      clear hif hcw hnd hit8
      refine wp_region_scr (fun w' => w'.cell? ⟨b, o + q * 2, none⟩ = some (.pointer (some ⟨rid T', 0, none⟩)) ∧ w'.cell? ⟨b, o + q * 2 + 1, none⟩ = some (.int .i64 z) ∧ w'.cell? ⟨rid T', 2, none⟩ = some (.slice (some ⟨l2.ib, l2.io, none⟩) T'.2.length l2.ic) ∧ w'.cell? ⟨l2.ib, l2.io + z, none⟩ = some (.int .i64 y.1) ∧ (partAt ⟨l2.ib, l2.io + z, none⟩ 0 0).run Try.prog w' = .ok ⟨l2.ib, l2.io + z, none⟩ w' ∧ (partAt ⟨ib, 6, none⟩ 0 0).run Try.prog w' = .ok ⟨ib, 6, none⟩ w') (.soft 0 (.soft 1 (.soft 2 (.soft 3 (.soft 4 (.soft 5 (.soft 6 (.soft 7 (.soft 8 (.soft 9 (.soft 10 (.soft 11 (.soft 12 (.soft 13 (.soft 14 (.soft 15 (.hard 16 .nil))))))))))))))))) (by kernel_rfl) (by kernel_rfl) (fun _ _ _ _ _ h => h) ⟨a0, a1, a2, a3, HND.out.pz _, hpi⟩ ?_
      repeat
        first
        | (refine scr_soft (by rfl) ?_ ?_ ?_ ?_
           rotate_left
           · simp [Region.wanted, yielded]; done
           · intro w' hS
             try obtain ⟨k1, k2, k3, k4, k5, k6⟩ := hS
             go_simp
             try with_reducible rfl
           simp only [Act.put, List.setIfInBounds_toArray, List.set_cons_zero, List.set_cons_succ])
        | (refine scr_skip (by rfl) ?_ ?_
           · simp [Region.wanted, yielded]; done
           simp only [Act.put, List.setIfInBounds_toArray, List.set_cons_zero, List.set_cons_succ])
      refine scr_hard (by rfl) (by simp [Region.wanted, yielded]) (fun K hK => ?_)
      go_simp
      refine hK _ _ ⟨HCW.out.cell (a := ⟨b, o + q * 2, none⟩) (fun h => hbi h) a0, HCW.out.cell (a := ⟨b, o + q * 2 + 1, none⟩) (fun h => hbi h) a1, HCW.out.cell (a := ⟨rid T', 2, none⟩) (fun h => hti1 h) a2, HCW.out.cell (a := ⟨l2.ib, l2.io + z, none⟩) (fun h => hti2 h) a3, ((HNE.out.chg hcq (fun _ _ _ h => h)).chg HCW.out (fun b o hx h => HOF.out b o (HBLK.out b hx.blk) (.inl h))).pz _, HIF.out.pz⟩ ?_
      clear hK K
      refine scr_nil ?_
      go_wp2_with fail
      go_ret
      have hown := (HOX.out.keep hcq).chg HCW.out (fun b o hb h => by omega)
      obtain ⟨RX, hRX, hcur⟩ : ∃ RX, toL h T = y :: RX ∧ CurAt H mn mx h false ((rid T', (0 : Nat)) :: fs) y RX := ⟨T'.2.drop 1 ++ R, by rw [← HTOT.out]; show T'.2 ++ R = _; exact congrArg (· ++ R) HCONS.out, 0, T', 0, fs, R, T'.2.drop (0 + 1), rfl, hT, hs, hit, hll, HY.out, HFR.out, rfl, rfl⟩
      exact .inl ⟨y, RX, hRX, rfl, ⟨_, _, HIF.out, by rw [List.reverse_cons]; exact hown, hcur⟩, (HCX.out.trans' hcq (fun _ _ _ h => h) (fun _ _ _ h => h.elim)).trans (HCW.out.mono (fun _ _ _ h => .inl h))⟩
    · have hk : (recOf (h' + 1) T').kids = some (T'.2.2.map fun c => some (rid c)) := rfl
      have n3 := hn2.c3s hk
      have nc := hn2.cc hk
      rw [List.length_map] at nc
      have hkl : T'.2.2.length = T'.2.1.length + 1 := hs.2.1
      obtain ⟨c, hcj⟩ : ∃ c, T'.2.2[0]? = some c := ⟨_, List.getElem?_eq_getElem (by omega)⟩
      have hcm : c ∈ T'.2.2 := List.mem_of_getElem? hcj
      have kc : w7.cell? ⟨l2.cb, l2.co, none⟩ = some (.pointer (some ⟨rid c, 0, none⟩)) := hn2.kidc hk (j := 0) (o := some (rid c)) (by simp [hcj])
      obtain ⟨lc, hnc⟩ := hf7.node (hT.kid hcm).root
      have nc0 := hnc.c0
      have hb7 := HB.out.chg hc7 HOT.out
      have cw0 := hb7.at_.c0
      have hgt := kid_lt hs hcm hit
      have m1 := mOf_root hT
      have m2 := mOf_root (hT.kid hcm)
      have b1 : (0 : Int) < (T'.2.2.length : Int) := by omega
      have b2 : 0 < T'.2.2.length := by omega
      have hks : mn ≤ (its c).length := (hs.2.2 c hcm).1
      have hkl2 := kid_lt hs hcm hit
      have hto : toL (h' + 1) T' = turnL false (toL h' c) ++ sideL false T' 0 := by
        have := toL_at hs hcj
        simpa [pre, turnL, sideL] using this
      have HCJ := Lib.hid hcj
      have HTO := Lib.hid hto
      have HO7 := Lib.hid how7
      have HC7 := Lib.hid hc7
      clear hn2 hnc hf7 hcj hb7 hto how7 hc7
      go_wp2_with (go_at_call 162; refine (leaf_any _ (some ⟨l2.cc, 0, none⟩) _ n3).mono ?_; rintro e w' ⟨rfl, rfl⟩)
      go_quiet ((go_at_call 161; exact Calls.quiet_of (isoLoad_any t (rid c) 0 _ _ _ kc nc0 cw0)))
      refine name_prop (fun w8 => Chg (fun _ _ => False) w7 w8) ((Chg.refl _ _).drewN _) ?_
      intro w8 hc8
      go_wp2_with fail
      go_roundw
      case rel => exact ⟨h', c, (rid T', ((0 : Nat) : Int)) :: fs, sideL false T' 0 ++ R, _, rfl, hT.kid hcm, (hs.2.2 c hcm).2, by omega, by omega, ⟨T', 0, R, rfl, hT, hs, hit, hll, Nat.zero_le _, HFR.out, rfl⟩, by rw [← HTOT.out, HTO.out]; simp [turnL], HIT.out.chg hc8 (fun _ h => h), by rw [List.reverse_cons]; exact HO7.out.keep hc8, HC7.out.trans' hc8 (fun _ _ _ h => h) (fun _ _ _ h => h.elim)⟩
      case measure => rw [m1, m2]; exact hgt
end Go.Proofs.Ytjggkpmlffhjgaa
