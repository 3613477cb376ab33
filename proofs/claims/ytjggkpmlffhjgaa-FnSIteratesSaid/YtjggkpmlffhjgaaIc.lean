/- MapIter.Next, behind an item. -/
import Derived.Test.YtjggkpmlffhjgaaIa
import Derived.BigQuiet
import Derived.Deep.QuietTactic
import Derived.StillTailTactics
namespace Go.Proofs.Ytjggkpmlffhjgaa
set_option linter.unusedSimpArgs false
set_option linter.unusedVariables false
open Go.RowKit

def stkLen (o : Option Value) : Nat := match o with
  | some (.slice _ n _) => n
  | _ => 0

set_option maxRecDepth 100000 in
set_option maxHeartbeats 8000000 in
theorem next_any {mn mx : Nat} {w : World} {F : Nat → Prop} {H : Nat → Option (NodeR (Int × Int))} {t h : Nat} {T : BT (Int × Int) h} {ib base : Nat} {X : Nat → Prop} {y0 : Int × Int} {R0 : List (Int × Int)} (hI : TreeIn 0 mn mx w F H t h T) (hB : MapBlk 0 mn mx w t (some (rid T)) (toL h T).length) (h1 : 1 ≤ (its T).length) (hmn : 1 ≤ mn) (hlen : (toL h T).length ≤ 1000000000000)
    (hon : ItOn X w H mn mx h false ib t base y0 R0) (hF : ∀ b, F b → b < base ∧ b ≠ ib) (htb : t < base) (hti : t ≠ ib) (hib : ib < base) (hbase : base ≤ w.heap.size) (hX : ∀ b, X b → b < w.heap.size) :
    Calls Try.prog 123 #[.pointer (some ⟨ib, 0, none⟩)] w (ItPost X w H mn mx h false ib t base R0) := by
  obtain ⟨fr, st, hia0, how0, h', T', k0, fs, R1, XL, rfl, hT, hs, hit, hll, hy0, hfr, hnx, hR0⟩ := hon
  rw [List.reverse_cons] at how0
  have hfl := hfr.len
  have hOF : ∀ b o, F b → ¬ ItCh ib base X b o := fun b _ hb h => by
    have := hF b hb
    rcases h with h | h <;> omega
  have hOT : ∀ b o, MOwn 0 t b → ¬ ItCh ib base X b o := fun b _ hb h => by
    have hb' : b = t := hb
    rcases h with h | h <;> omega
  have HOF := Lib.hid hOF
  have HOT := Lib.hid hOT
  have HB := Lib.hid hB
  have HI := Lib.hid hI
  have HFR := Lib.hid hfr
  have HR0 := Lib.hid hR0
  have HNX := Lib.hid hnx
  obtain ⟨i0, hi0, hz0, hz1, hz2⟩ := info_parts infoStk
  have hkl0 := (List.getElem?_eq_some_iff.1 hy0).1
  have hk1000 : (its T').length ≤ 1000 := by
    have hm := hI.m1000
    rcases h' with _ | h'
    · exact Nat.le_trans hs hm
    · exact Nat.le_trans hs.1 hm
  have hht := height_lt hmn HI.out.sh h1
  obtain ⟨b, o, cap, hst⟩ := stk_top how0
  have hrv : fs.reverse.length = fs.length := List.length_reverse
  obtain ⟨q, hq⟩ : ∃ q, fs.length = q := ⟨_, rfl⟩
  obtain ⟨N, hN⟩ : ∃ N, q + 1 = N := ⟨_, rfl⟩
  have hste : st = .slice (some ⟨b, o, none⟩) N cap := by rw [hst.eq, hrv, hq, hN]
  subst hste
  obtain ⟨k1, hk1⟩ : ∃ k1 : Nat, k1 = k0 + 1 := ⟨_, rfl⟩
  have g0 := hst.c0
  have g1 := hst.c1
  have gz := hst.fz
  rw [hrv, hq] at g0 g1
  have hbi : b ≠ ib := by have := hst.lo; omega
  have hblo := hst.lo
  have hnxb := hst.nx
  replace gz := gz (o + q * 2 + 1)
  have s1 : IntKind.i64.wrap ((N : Int) - 1) = (q : Int) := (by rw [IntWalk.i64_in _ (by omega)]; omega)
  have s2 : (0 : Int) ≤ (q : Int) := by omega
  have s3 : (q : Int) < (N : Int) := by omega
  have s4 : IntKind.i64.wrap ((k0 : Int) + 1) = (k1 : Int) := (by rw [IntWalk.i64_in _ (by omega)]; omega)
  have s5 : ¬ N = 0 := by omega
  have s6 : ((N : Int) == 0) = false := beq_eq_false_iff_ne.2 (by omega)
  have HIT := Lib.hid hia0
  have HOW0 := Lib.hid how0
  have HNQ := Lib.hid (And.intro hN (And.intro hq hk1))
  have HK0 := Lib.hid hkl0
  have e0 := HIT.out.c0
  have e1 := HIT.out.c1
  have e2 := HIT.out.c2
  have e3 := HIT.out.c3
  have e4 := HIT.out.c4
  have e5 := HIT.out.c5
  have z2 := HIT.out.fz 2
  have z3 := HIT.out.fz 3
  have z4 := HIT.out.fz 4
  have z5 := HIT.out.fz 5
  clear hOF hOT hB hI hfr hR0 hnx hst hia0 how0 hrv hN hq hk1 hy0 hkl0
  go_enter Try.func123, Try.ntmps123
  go_upto_region 9 with fail
  go_quiet (fail)
  refine name_prop (fun wq => Chg (fun _ _ => False) w wq) ((Chg.refl _ _).drewN _) ?_
  intro wq hcq
  obtain ⟨b2, o2, cap2, hst2⟩ := stk_top (HOW0.out.keep hcq)
  have he2 := hst2.eq
  injection he2 with e1' e2' e3'
  injection e1' with e1'
  injection e1' with e4' e5' e6'
  subst e4'
  subst e5'
  subst e3'
  clear e2' e6'
  have hput := hst2.put (k1 : Int)
  have hrv : fs.reverse.length = fs.length := List.length_reverse
  rw [hrv, HNQ.out.2.1] at hput
  have hiq := HIT.out.chg hcq (fun _ h => h)
  have hblt := hst2.hi
  replace g0 := hcq.cell (fun h => h) g0
  replace g1 := hcq.cell (fun h => h) g1
  replace gz : wq.frozen? ⟨b, o + q * 2 + 1, none⟩ = false := hst2.fz _
  have HPUT := Lib.hid hput
  have HIQ := Lib.hid hiq
  have hcs := (Chg.refl (fun b' _ => b' = b) wq).setCell (a := ⟨b, o + q * 2 + 1, none⟩) (.inl rfl) (.int .i64 (k1 : Int))
  have HCS := Lib.hid hcs
  clear hst2 hput hiq hcs hrv
  go_upto_region 11 with fail
  refine name_world (fun wz => OwnX X wz (.slice (some ⟨b, o, none⟩) N cap) (fs.reverse ++ [(rid T', (k1 : Int))]) base ∧ Chg (fun b' _ => b' = b) wq wz) ⟨HPUT.out, HCS.out⟩ ?_
  rintro w1 ⟨how1, hcs⟩
  have hc1 : Chg (ItCh ib base X) w w1 := (hcq.trans' hcs (B := fun b' _ => b' = b) (fun _ _ _ h => h.elim) (fun _ _ _ h => h)).mono (fun b' _ _ h => .inr ⟨by omega, by rw [show b' = b from h]; exact hnxb⟩)
  have hi1 := HIQ.out.chg hcs (fun _ h => by omega)
  clear g0 g1 gz e0 e1 e2 e3 e4 e5 z2 z3 z4 z5 HIQ HIT HPUT HCS HOW0 hcs hblt
  have HIT := Lib.hid hi1
  clear hi1
  have e0 := HIT.out.c0
  have e1 := HIT.out.c1
  have e2 := HIT.out.c2
  have e3 := HIT.out.c3
  have e4 := HIT.out.c4
  have e5 := HIT.out.c5
  have z2 := HIT.out.fz 2
  have z3 := HIT.out.fz 3
  have z4 := HIT.out.fz 4
  have z5 := HIT.out.fz 5
  have hf1 := HI.out.fam.chg hc1 HOF.out
  obtain ⟨l2, hn2, hblk, _⟩ := hf1.work hT.root
  have HBLK := Lib.hid hblk
  clear hblk
  have hsz1 := hc1.size
  obtain ⟨b2, o2, cap2, hst2⟩ := stk_top (how1)
  have he2 := hst2.eq
  injection he2 with e1' e2' e3'
  injection e1' with e1'
  injection e1' with e4' e5' e6'
  subst e4'
  subst e5'
  subst e3'
  clear e2' e6'
  have g0 := hst2.c0
  have g1 := hst2.c1
  have hrv : fs.reverse.length = fs.length := List.length_reverse
  rw [hrv, HNQ.out.2.1] at g0 g1
  have HO1 := Lib.hid how1
  have HC1 := Lib.hid hc1
  clear hst2 hrv how1 hc1
  rcases h' with _ | h'
  · have n3 := hn2.c3n rfl
    go_wp2_with (go_at_call 162; refine (leaf_any _ none _ ?_).mono ?_; (focus go_simp); rintro e w' ⟨rfl, rfl⟩)
    have n2 : w1.cell? ⟨rid T', 2, none⟩ = some (.slice (some ⟨l2.ib, l2.io, none⟩) T'.2.length l2.ic) := hn2.c2
    have hkl0 : k0 < T'.2.length := HK0.out
    by_cases hlt : k1 < T'.2.length
    · have hcmp : ((k1 : Int) == (T'.2.length : Int)) = false := beq_eq_false_iff_ne.2 (by omega)
      go_quiet (fail)
      refine name_prop (fun wq => Chg (fun _ _ => False) w1 wq) ((Chg.refl _ _).drewN _) ?_
      intro w2 hcm
      have how2 := HO1.out.keep hcm
      have hcx := HC1.out.trans' hcm (fun _ _ _ h => h) (fun _ _ _ h => h.elim)
      have hf7 := HI.out.fam.chg hcx HOF.out
      replace hn2 := hn2.chg hcm (fun _ _ _ h => h)
      replace HIT := Lib.hid (HIT.out.chg hcm (fun _ h => h))
      obtain ⟨y, hy⟩ : ∃ y, T'.2[k1]? = some y := ⟨_, List.getElem?_eq_getElem hlt⟩
      have HTOT := Lib.hid (show R0 = y :: (T'.2.drop (k1 + 1) ++ R1) by
        have hx : XL = T'.2.drop (k0 + 1) := HNX.out
        rw [HR0.out, hx, ← HNQ.out.2.2, dropc hy]; rfl)
      have HY := Lib.hid hy
      clear g0 g1 n2 n3 hcmp s1 s2 s3 s4 s5 s6 hkl0
      have n2 : w2.cell? ⟨rid T', 2, none⟩ = some (.slice (some ⟨l2.ib, l2.io, none⟩) T'.2.length l2.ic) := hn2.c2
      have hjl : k1 < T'.2.length := (List.getElem?_eq_some_iff.1 hy).1
      have ik := hn2.mkey (j := k1) hy
      obtain ⟨b, o, cap, hst⟩ := stk_top how2
      have hrv : fs.reverse.length = fs.length := List.length_reverse
      obtain ⟨q, hq⟩ : ∃ q, fs.length = q := ⟨_, rfl⟩
      obtain ⟨N, hN⟩ : ∃ N, q + 1 = N := ⟨_, rfl⟩
      clear e0 e1 e2 e3 e4 e5 z2 z3 z4 z5
      have e0 := HIT.out.c0
      have e1 := HIT.out.c1
      have e2 := HIT.out.c2
      have e3 := HIT.out.c3
      have e4 := HIT.out.c4
      have e5 := HIT.out.c5
      have z2 := HIT.out.fz 2
      have z3 := HIT.out.fz 3
      have z4 := HIT.out.fz 4
      have z5 := HIT.out.fz 5
      replace e5 : w2.cell? ⟨ib, 5, none⟩ = some (.slice (some ⟨b, o, none⟩) N cap) := by rw [HIT.out.c5, hst.eq, hrv, hq, hN]
      have g0 := hst.c0
      have g1 := hst.c1
      rw [hrv, hq] at g0 g1
      obtain ⟨z, hz⟩ : ∃ z : Nat, z = k1 := ⟨_, rfl⟩
      rw [← hz] at ik hjl
      replace g1 : w2.cell? ⟨b, o + q * 2 + 1, none⟩ = some (.int .i64 (z : Int)) := by rw [hz]; exact g1
      have s1 : IntKind.i64.wrap ((N : Int) - 1) = (q : Int) := (by rw [IntWalk.i64_in _ (by omega)]; omega)
      have s2 : (0 : Int) ≤ (q : Int) := by omega
      have s3 : (q : Int) < (N : Int) := by omega
      have s5 : ¬ N = 0 := by omega
      have j0 : (0 : Int) ≤ (z : Int) := by omega
      have j1 : (z : Int) < (T'.2.length : Int) := by omega
      have hbi : b ≠ ib := by have := hst.lo; omega
      have hti1 : rid T' ≠ ib := (HOF.out _ 0 (hf7.mem hT.root) <| .inl ·)
      have hti2 : l2.ib ≠ ib := (HOF.out _ 0 (HBLK.out _ (.inr (.inl rfl))) <| .inl ·)
      have HST := Lib.hid hst
      have HOX := Lib.hid how2
      have HCX := Lib.hid hcx
      have HNE := Lib.hid hn2
      have HNQ := Lib.hid (And.intro hN (And.intro hq hz))
      clear hht hst how2 hcx hrv hN hq hf7 hy hn2 hz hjl
      go_wp2_with fail
      go_quiet (fail)
      refine name_prop (fun wq => Chg (fun _ _ => False) w2 wq) ((Chg.refl _ _).drewN _) ?_
      intro wq hcq
      go_wp2_with fail
      have a0 := hcq.cell (fun h => h) g0
      have a1 := hcq.cell (fun h => h) g1
      have a2 := hcq.cell (fun h => h) n2
      have a3 := hcq.cell (fun h => h) ik
      have hit8 := HIT.out.chg hcq (fun _ h => h)
      have hnd := (HNE.out.chg hcq (fun _ _ _ h => h)).chg (Chg.refl (fun _ _ => False) wq).drew (fun _ _ _ h => h)
      have hpi := (hit8.chg (Chg.refl (fun _ _ => False) wq).drew (fun _ h => h)).pz
      have a6 := hit8.c6
      have z6 := hit8.fz 6
      have hcw := ((Chg.refl (fun b _ => b = ib) wq).setCell (a := ⟨ib, 6, none⟩) (.inl rfl) (.int .i64 y.1)).drew
      have hif : ItAt (wq.setCell ⟨ib, 6, none⟩ (.int .i64 y.1)).drew ib t true false false _ y.1 := hit8.put6 y.1
      clear e0 e1 e2 e3 e4 e5 z2 z3 z4 z5 g0 g1 n2 ik
      have HIF := Lib.hid hif
      have HCW := Lib.hid hcw
      have HND := Lib.hid hnd
      clear hif hcw hnd hit8
      refine wp_region_scr (fun w' => w'.cell? ⟨b, o + q * 2, none⟩ = some (.pointer (some ⟨rid T', 0, none⟩)) ∧ w'.cell? ⟨b, o + q * 2 + 1, none⟩ = some (.int .i64 z) ∧ w'.cell? ⟨rid T', 2, none⟩ = some (.slice (some ⟨l2.ib, l2.io, none⟩) T'.2.length l2.ic) ∧ w'.cell? ⟨l2.ib, l2.io + z, none⟩ = some (.int .i64 y.1) ∧ (partAt ⟨l2.ib, l2.io + z, none⟩ 0 0).run Try.prog w' = .ok ⟨l2.ib, l2.io + z, none⟩ w' ∧ (partAt ⟨ib, 6, none⟩ 0 0).run Try.prog w' = .ok ⟨ib, 6, none⟩ w') (.soft 0 (.soft 1 (.soft 2 (.soft 3 (.soft 4 (.soft 5 (.soft 6 (.soft 7 (.soft 8 (.soft 9 (.soft 10 (.soft 11 (.soft 12 (.soft 13 (.soft 14 (.soft 15 (.hard 16 .nil))))))))))))))))) (by kernel_rfl) (by kernel_rfl) (fun _ _ _ _ _ h => h) ⟨a0, a1, a2, a3, HND.out.pz _, hpi⟩ ?_
      repeat
        first
        | (refine scr_soft (by rfl) ?_ ?_ ?_ ?_
           rotate_left
           · simp [Region.wanted, yielded]; done
           · intro w' hS
             try obtain ⟨k1, k2, k3, k4, k5, k6⟩ := hS
             go_simp
             try with_reducible rfl
           simp only [Act.put, List.setIfInBounds_toArray, List.set_cons_zero, List.set_cons_succ])
        | (refine scr_skip (by rfl) ?_ ?_
           · simp [Region.wanted, yielded]; done
           simp only [Act.put, List.setIfInBounds_toArray, List.set_cons_zero, List.set_cons_succ])
      refine scr_hard (by rfl) (by simp [Region.wanted, yielded]) (fun K hK => ?_)
      go_simp
      refine hK _ _ ⟨HCW.out.cell (a := ⟨b, o + q * 2, none⟩) (fun h => hbi h) a0, HCW.out.cell (a := ⟨b, o + q * 2 + 1, none⟩) (fun h => hbi h) a1, HCW.out.cell (a := ⟨rid T', 2, none⟩) (fun h => hti1 h) a2, HCW.out.cell (a := ⟨l2.ib, l2.io + z, none⟩) (fun h => hti2 h) a3, ((HNE.out.chg hcq (fun _ _ _ h => h)).chg HCW.out (fun b o hx h => HOF.out b o (HBLK.out b hx.blk) (.inl h))).pz _, HIF.out.pz⟩ ?_
      clear hK K
      refine scr_nil ?_
      go_wp2_with fail
      go_ret
      have hown := (HOX.out.keep hcq).chg HCW.out (fun b o hb h => by omega)
      obtain ⟨RX, hRX, hcur⟩ : ∃ RX, R0 = y :: RX ∧ CurAt H mn mx h false ((rid T', (k1 : Nat)) :: fs) y RX := ⟨_, HTOT.out, 0, T', k1, fs, R1, T'.2.drop (k1 + 1), rfl, hT, hs, hit, hll, HY.out, HFR.out, rfl, rfl⟩
      exact .inl ⟨y, RX, hRX, rfl, ⟨_, _, HIF.out, by rw [List.reverse_cons]; exact hown, hcur⟩, (HCX.out.trans' hcq (fun _ _ _ h => h) (fun _ _ _ h => h.elim)).trans (HCW.out.mono (fun _ _ _ h => .inl h))⟩
    · have hk1e : k1 = T'.2.length := by have := HNQ.out.2.2; omega
      have hcmp : ((k1 : Int) == (T'.2.length : Int)) = true := by simp [hk1e]
      have HX1 := Lib.hid (show R0 = R1 by
        have hx : XL = T'.2.drop (k0 + 1) := HNX.out
        rw [HR0.out, hx, ← HNQ.out.2.2, hk1e, List.drop_length]; rfl)
      clear hlt hk1e
      go_quiet (fail)
      refine name_prop (fun wq => Chg (fun _ _ => False) w1 wq) ((Chg.refl _ _).drewN _) ?_
      intro w2 hcm
      have how2 := HO1.out.keep hcm
      have hcx := HC1.out.trans' hcm (fun _ _ _ h => h) (fun _ _ _ h => h.elim)
      have hf7 := HI.out.fam.chg hcx HOF.out
      replace hn2 := hn2.chg hcm (fun _ _ _ h => h)
      replace HIT := Lib.hid (HIT.out.chg hcm (fun _ h => h))
      clear g0 g1 n2 n3 hcmp s1 s2 s3 s4 s5 s6 hkl0 hf7
      go_wp2_with fail
      go_loopw [3] (fun _ wr => ∃ (fs : List (Nat × Int)) (f : Nat × Int) (hc' : Nat) (st : Value), Frm H mn mx h false fs hc' R0 ∧ ItAt wr ib t true false false st y0.1 ∧ OwnX X wr st (fs.reverse ++ [f]) base ∧ Chg (ItCh ib base X) w wr) (fun _ wr => stkLen (wr.cell? ⟨ib, 5, none⟩))
      case atStart => exact ⟨fs, (rid T', (k1 : Int)), 0, _, by rw [HX1.out]; exact HFR.out, HIT.out, how2, hcx⟩
      case round =>
        obtain ⟨fs, ⟨fn, fi⟩, hc', st, hfr, hia, how, hc⟩ := hrel
        have hsz := hc.size
        have hfl := hfr.len
        obtain ⟨b, o, cap, hst⟩ := stk_top how
        have hrv : fs.reverse.length = fs.length := List.length_reverse
        obtain ⟨q, hq⟩ : ∃ q, fs.length = q := ⟨_, rfl⟩
        obtain ⟨N, hN⟩ : ∃ N, q + 1 = N := ⟨_, rfl⟩
        have hste : st = .slice (some ⟨b, o, none⟩) N cap := by rw [hst.eq, hrv, hq, hN]
        subst hste
        have hpop := hst.pop
        have hroom := hst.room
        rw [hrv, hq] at hpop hroom
        have hbi : b ≠ ib := by have := hst.lo; omega
        have hqb : q ≤ 1000000000000 := by omega
        have s1 : IntKind.i64.wrap ((N : Int) - 1) = (q : Int) := (by rw [IntWalk.i64_in _ (by omega)]; omega)
        have s2 : (0 : Int) ≤ (q : Int) := by omega
        have s3 : (q : Int) ≤ (cap : Int) := by omega
        have s5 : ¬ N = 0 := by omega
        have s6 : ¬ cap = 0 := by omega
        have s7 : q ≤ cap := by omega
        clear e0 e1 e2 e3 e4 e5 z2 z3 z4 z5
        replace HIT := Lib.hid hia
        have e0 := HIT.out.c0
        have e1 := HIT.out.c1
        have e2 := HIT.out.c2
        have e3 := HIT.out.c3
        have e4 := HIT.out.c4
        have e5 := HIT.out.c5
        have z2 := HIT.out.fz 2
        have z3 := HIT.out.fz 3
        have z4 := HIT.out.fz 4
        have z5 := HIT.out.fz 5
        have hid1 := (hia.chg (Chg.refl (fun _ _ => False) wr).drew (fun _ h => h)).put5 (.slice (some ⟨b, o, none⟩) q cap)
        have hpo1 := hpop.chg (((Chg.refl (fun b' _ => b' = ib) wr).drew).setCell (a := ⟨ib, 5, none⟩) (.inl rfl) (.slice (some ⟨b, o, none⟩) q cap)) (fun b' _ hb h => by omega)
        have hch1 := hc.trans ((((Chg.refl (ItCh ib base X) wr).drew).setCell (a := ⟨ib, 5, none⟩) (Or.inl (show ItCh ib base X _ _ from Or.inl rfl)) (.slice (some ⟨b, o, none⟩) q cap)))
        have HP1 := Lib.hid (And.intro hid1 (And.intro hpo1 hch1))
        have HM0 := Lib.hid hia.c5
        have HFR2 := Lib.hid hfr
        have HNQ2 := Lib.hid (And.intro hN hq)
        clear hid1 hpo1 hch1 hfr hst hia how hc hpop hroom hrv hN hq
        go_wp2_with fail
        go_still_tail 12, (by kernel_rfl)
        go_upto_region 14 with fail
        refine name_world (fun wz => ItAt wz ib t true false false (.slice (some ⟨b, o, none⟩) q cap) y0.1 ∧ OwnX X wz (.slice (some ⟨b, o, none⟩) q cap) fs.reverse base ∧ Chg (ItCh ib base X) w wz) HP1.out ?_
        rintro w3 ⟨hi3, how3, hc3⟩
        clear e0 e1 e2 e3 e4 e5 z2 z3 z4 z5 s1 s2 s3 s5 s6 s7 HP1
        replace HIT := Lib.hid hi3
        clear hi3
        have e0 := HIT.out.c0
        have e1 := HIT.out.c1
        have e2 := HIT.out.c2
        have e3 := HIT.out.c3
        have e4 := HIT.out.c4
        have e5 := HIT.out.c5
        have z2 := HIT.out.fz 2
        have z3 := HIT.out.fz 3
        have z4 := HIT.out.fz 4
        have z5 := HIT.out.fz 5
        rcases fs with _ | ⟨f2, fs⟩
        · have hq0 : q = 0 := HNQ2.out.2.symm
          have hcmp : ((q : Int) == 0) = true := by simp [hq0]
          have HRE := Lib.hid HFR2.out.2
          have HC3 := Lib.hid hc3
          clear hq0 how3 hc3
          go_upto_region 16 with fail
          refine name_world (fun wz => (∃ sk a e st k, ItAt wz ib t sk a e st k) ∧ Chg (ItCh ib base X) w wz) ⟨⟨_, _, _, _, _, HIT.out.put4 _⟩, HC3.out.setCell (Or.inl (show ItCh ib base X _ _ from Or.inl rfl)) _⟩ ?_
          rintro w4 ⟨hex, hc4⟩
          clear e0 e1 e2 e3 e4 e5 z2 z3 z4 z5
          go_wp2_with fail
          go_ret
          exact .inr ⟨HRE.out, rfl, hex, hc4⟩
        · obtain ⟨T', k1, R2, hfe, hT, hs, hit, hll, hk1l, hfr2, hR⟩ := HFR2.out
          subst hfe
          rw [List.length_cons] at hfl
          rw [List.reverse_cons] at how3
          have hf7 := HI.out.fam.chg hc3 HOF.out
          obtain ⟨l2, hn2, hblk, _⟩ := hf7.work hT.root
          have HBLK := Lib.hid hblk
          clear hblk
          obtain ⟨q2, hq2⟩ : ∃ q2, fs.length = q2 := ⟨_, rfl⟩
          have hq2q : q2 + 1 = q := by have := HNQ2.out.2; rw [List.length_cons] at this; omega
          obtain ⟨b2, o2, cap2, hst2⟩ := stk_top (how3)
          have he2 := hst2.eq
          injection he2 with e1' e2' e3'
          injection e1' with e1'
          injection e1' with e4' e5' e6'
          subst e4'
          subst e5'
          subst e3'
          clear e2' e6'
          have g0 := hst2.c0
          have g1 := hst2.c1
          have hrv : fs.reverse.length = fs.length := List.length_reverse
          rw [hrv, hq2] at g0 g1
          have n2 : w3.cell? ⟨rid T', 2, none⟩ = some (.slice (some ⟨l2.ib, l2.io, none⟩) T'.2.1.length l2.ic) := hn2.c2
          have hqN := HNQ2.out.1
          have s1 : IntKind.i64.wrap ((q : Int) - 1) = (q2 : Int) := (by rw [IntWalk.i64_in _ (by omega)]; omega)
          have s2 : (0 : Int) ≤ (q2 : Int) := by omega
          have s3 : (q2 : Int) < (q : Int) := by omega
          have s5 : ¬ q = 0 := by omega
          have s6 : ((q : Int) == 0) = false := beq_eq_false_iff_ne.2 (by omega)
          have HQ := Lib.hid (And.intro hqN hq2q)
          have HFR3 := Lib.hid hfr2
          have HR3 := Lib.hid hR
          have HO1 := Lib.hid how3
          have HC1 := Lib.hid hc3
          have hkc : T'.2.2.length = T'.2.1.length + 1 := hs.2.1
          obtain ⟨c, hcj⟩ : ∃ c, (k1 < T'.2.1.length → T'.2.2[k1 + 1]? = some c) := by
            by_cases h : k1 + 1 < T'.2.2.length
            · exact ⟨_, fun _ => List.getElem?_eq_getElem h⟩
            · exact ⟨T'.2.2[0]'(by omega), fun h2 => by omega⟩
          have HCJ := Lib.hid hcj
          clear hst2 hrv hq2 hq2q how3 hc3 hfr2 hR hqN hcj hkc hf7
          go_upto_region 17 with fail
          go_quiet (fail)
          refine name_prop (fun wq => Chg (fun _ _ => False) w3 wq) ((Chg.refl _ _).drewN _) ?_
          intro w4 hcm
          have how2 := HO1.out.keep hcm
          have hcx := HC1.out.trans' hcm (fun _ _ _ h => h) (fun _ _ _ h => h.elim)
          have hf7 := HI.out.fam.chg hcx HOF.out
          replace hn2 := hn2.chg hcm (fun _ _ _ h => h)
          replace HIT := Lib.hid (HIT.out.chg hcm (fun _ h => h))
          replace g0 := hcm.cell (fun h => h) g0
          replace g1 := hcm.cell (fun h => h) g1
          replace n2 := hcm.cell (fun h => h) n2
          replace HO1 := Lib.hid how2
          replace HC1 := Lib.hid hcx
          clear how2 hcx hf7 hcm
          by_cases hlt : k1 < T'.2.1.length
          · have hcmp : (k1 : Int) < (T'.2.1.length : Int) := by omega
            obtain ⟨y, hy⟩ : ∃ y, T'.2.1[k1]? = some y := ⟨_, List.getElem?_eq_getElem hlt⟩
            have hcj := HCJ.out hlt
            have HTOT := Lib.hid (show R0 = y :: ((turnL false (toL hc' c) ++ sideL false T' (k1 + 1)) ++ R2) by
              rw [HR3.out]
              have h3 := postc (ts := T'.2.2.map (toL hc')) hy (t := toL hc' c) (by simp [hcj])
              show post (T'.2.1.drop k1) ((T'.2.2.map (toL hc')).drop (k1 + 1)) ++ R2 = _
              rw [h3]; simp [turnL, sideL])
            replace HCJ := Lib.hid hcj
            clear hcj
            go_upto_region 18 with fail
            go_quiet (fail)
            refine name_prop (fun wq => Chg (fun _ _ => False) w4 wq) ((Chg.refl _ _).drewN _) ?_
            intro w5 hcm
            have how2 := HO1.out.keep hcm
            have hcx := HC1.out.trans' hcm (fun _ _ _ h => h) (fun _ _ _ h => h.elim)
            have hf7 := HI.out.fam.chg hcx HOF.out
            replace hn2 := hn2.chg hcm (fun _ _ _ h => h)
            replace HIT := Lib.hid (HIT.out.chg hcm (fun _ h => h))
            have HY := Lib.hid hy
            clear g0 g1 n2 hcmp s1 s2 s3 s5 s6
            have n2 : w5.cell? ⟨rid T', 2, none⟩ = some (.slice (some ⟨l2.ib, l2.io, none⟩) T'.2.1.length l2.ic) := hn2.c2
            have hjl : k1 < T'.2.1.length := (List.getElem?_eq_some_iff.1 hy).1
            have ik := hn2.mkey (j := k1) hy
            obtain ⟨b, o, cap, hst⟩ := stk_top how2
            have hrv : fs.reverse.length = fs.length := List.length_reverse
            obtain ⟨q, hq⟩ : ∃ q, fs.length = q := ⟨_, rfl⟩
            obtain ⟨N, hN⟩ : ∃ N, q + 1 = N := ⟨_, rfl⟩
            clear e0 e1 e2 e3 e4 e5 z2 z3 z4 z5
            have e0 := HIT.out.c0
            have e1 := HIT.out.c1
            have e2 := HIT.out.c2
            have e3 := HIT.out.c3
            have e4 := HIT.out.c4
            have e5 := HIT.out.c5
            have z2 := HIT.out.fz 2
            have z3 := HIT.out.fz 3
            have z4 := HIT.out.fz 4
            have z5 := HIT.out.fz 5
            replace e5 : w5.cell? ⟨ib, 5, none⟩ = some (.slice (some ⟨b, o, none⟩) N cap) := by rw [HIT.out.c5, hst.eq, hrv, hq, hN]
            have g0 := hst.c0
            have g1 := hst.c1
            rw [hrv, hq] at g0 g1
            obtain ⟨z, hz⟩ : ∃ z : Nat, z = k1 := ⟨_, rfl⟩
            rw [← hz] at ik hjl
            replace g1 : w5.cell? ⟨b, o + q * 2 + 1, none⟩ = some (.int .i64 (z : Int)) := by rw [hz]; exact g1
            have s1 : IntKind.i64.wrap ((N : Int) - 1) = (q : Int) := (by rw [IntWalk.i64_in _ (by omega)]; omega)
            have s2 : (0 : Int) ≤ (q : Int) := by omega
            have s3 : (q : Int) < (N : Int) := by omega
            have s5 : ¬ N = 0 := by omega
            have j0 : (0 : Int) ≤ (z : Int) := by omega
            have j1 : (z : Int) < (T'.2.1.length : Int) := by omega
            have hbi : b ≠ ib := by have := hst.lo; omega
            have hti1 : rid T' ≠ ib := (HOF.out _ 0 (hf7.mem hT.root) <| .inl ·)
            have hti2 : l2.ib ≠ ib := (HOF.out _ 0 (HBLK.out _ (.inr (.inl rfl))) <| .inl ·)
            have HST := Lib.hid hst
            have HOX := Lib.hid how2
            have HCX := Lib.hid hcx
            have HNE := Lib.hid hn2
            have HNQ := Lib.hid (And.intro hN (And.intro hq hz))
            clear hht hst how2 hcx hrv hN hq hf7 hy hn2 hz hjl
            go_wp2_with fail
            go_quiet (fail)
            refine name_prop (fun wq => Chg (fun _ _ => False) w5 wq) ((Chg.refl _ _).drewN _) ?_
            intro wq hcq
            go_wp2_with fail
            have a0 := hcq.cell (fun h => h) g0
            have a1 := hcq.cell (fun h => h) g1
            have a2 := hcq.cell (fun h => h) n2
            have a3 := hcq.cell (fun h => h) ik
            have hit8 := HIT.out.chg hcq (fun _ h => h)
            have hnd := (HNE.out.chg hcq (fun _ _ _ h => h)).chg (Chg.refl (fun _ _ => False) wq).drew (fun _ _ _ h => h)
            have hpi := (hit8.chg (Chg.refl (fun _ _ => False) wq).drew (fun _ h => h)).pz
            have a6 := hit8.c6
            have z6 := hit8.fz 6
            have hcw := ((Chg.refl (fun b _ => b = ib) wq).setCell (a := ⟨ib, 6, none⟩) (.inl rfl) (.int .i64 y.1)).drew
            have hif : ItAt (wq.setCell ⟨ib, 6, none⟩ (.int .i64 y.1)).drew ib t true false false _ y.1 := hit8.put6 y.1
            clear e0 e1 e2 e3 e4 e5 z2 z3 z4 z5 g0 g1 n2 ik
            have HIF := Lib.hid hif
            have HCW := Lib.hid hcw
            have HND := Lib.hid hnd
            clear hif hcw hnd hit8
            refine wp_region_scr (fun w' => w'.cell? ⟨b, o + q * 2, none⟩ = some (.pointer (some ⟨rid T', 0, none⟩)) ∧ w'.cell? ⟨b, o + q * 2 + 1, none⟩ = some (.int .i64 z) ∧ w'.cell? ⟨rid T', 2, none⟩ = some (.slice (some ⟨l2.ib, l2.io, none⟩) T'.2.1.length l2.ic) ∧ w'.cell? ⟨l2.ib, l2.io + z, none⟩ = some (.int .i64 y.1) ∧ (partAt ⟨l2.ib, l2.io + z, none⟩ 0 0).run Try.prog w' = .ok ⟨l2.ib, l2.io + z, none⟩ w' ∧ (partAt ⟨ib, 6, none⟩ 0 0).run Try.prog w' = .ok ⟨ib, 6, none⟩ w') (.soft 0 (.soft 1 (.soft 2 (.soft 3 (.soft 4 (.soft 5 (.soft 6 (.soft 7 (.soft 8 (.soft 9 (.soft 10 (.soft 11 (.soft 12 (.soft 13 (.soft 14 (.soft 15 (.hard 16 .nil))))))))))))))))) (by kernel_rfl) (by kernel_rfl) (fun _ _ _ _ _ h => h) ⟨a0, a1, a2, a3, HND.out.pz _, hpi⟩ ?_
            repeat
              first
              | (refine scr_soft (by rfl) ?_ ?_ ?_ ?_
                 rotate_left
                 · simp [Region.wanted, yielded]; done
                 · intro w' hS
                   try obtain ⟨k1, k2, k3, k4, k5, k6⟩ := hS
                   go_simp
                   try with_reducible rfl
                 simp only [Act.put, List.setIfInBounds_toArray, List.set_cons_zero, List.set_cons_succ])
              | (refine scr_skip (by rfl) ?_ ?_
                 · simp [Region.wanted, yielded]; done
                 simp only [Act.put, List.setIfInBounds_toArray, List.set_cons_zero, List.set_cons_succ])
            refine scr_hard (by rfl) (by simp [Region.wanted, yielded]) (fun K hK => ?_)
            go_simp
            refine hK _ _ ⟨HCW.out.cell (a := ⟨b, o + q * 2, none⟩) (fun h => hbi h) a0, HCW.out.cell (a := ⟨b, o + q * 2 + 1, none⟩) (fun h => hbi h) a1, HCW.out.cell (a := ⟨rid T', 2, none⟩) (fun h => hti1 h) a2, HCW.out.cell (a := ⟨l2.ib, l2.io + z, none⟩) (fun h => hti2 h) a3, ((HNE.out.chg hcq (fun _ _ _ h => h)).chg HCW.out (fun b o hx h => HOF.out b o (HBLK.out b hx.blk) (.inl h))).pz _, HIF.out.pz⟩ ?_
            clear hK K
            refine scr_nil ?_
            go_wp2_with fail
            go_ret
            have hown := (HOX.out.keep hcq).chg HCW.out (fun b o hb h => by omega)
            obtain ⟨RX, hRX, hcur⟩ : ∃ RX, R0 = y :: RX ∧ CurAt H mn mx h false ((rid T', (k1 : Nat)) :: fs) y RX := ⟨_, HTOT.out, hc' + 1, T', k1, fs, R2, _, rfl, hT, hs, hit, hll, HY.out, HFR3.out, ⟨c, HCJ.out, rfl⟩, rfl⟩
            exact .inl ⟨y, RX, hRX, rfl, ⟨_, _, HIF.out, by rw [List.reverse_cons]; exact hown, hcur⟩, (HCX.out.trans' hcq (fun _ _ _ h => h) (fun _ _ _ h => h.elim)).trans (HCW.out.mono (fun _ _ _ h => .inl h))⟩
          · have hcmp : ¬ (k1 : Int) < (T'.2.1.length : Int) := by omega
            have HRE := Lib.hid (show R0 = R2 by
              rw [HR3.out]
              show post (T'.2.1.drop k1) ((T'.2.2.map (toL hc')).drop (k1 + 1)) ++ R2 = _
              rw [postn (by omega)]; rfl)
            clear hlt
            go_upto_region 18 with fail
            go_quiet (fail)
            refine name_prop (fun wq => Chg (fun _ _ => False) w4 wq) ((Chg.refl _ _).drewN _) ?_
            intro w5 hcm
            have how2 := HO1.out.keep hcm
            have hcx := HC1.out.trans' hcm (fun _ _ _ h => h) (fun _ _ _ h => h.elim)
            have hf7 := HI.out.fam.chg hcx HOF.out
            replace hn2 := hn2.chg hcm (fun _ _ _ h => h)
            replace HIT := Lib.hid (HIT.out.chg hcm (fun _ h => h))
            have HM1 := Lib.hid HIT.out.c5
            clear g0 g1 n2 hcmp s1 s2 s3 s5 s6 hf7
            go_wp2_with fail
            go_roundw
            case rel => exact ⟨fs, (rid T', (k1 : Int)), hc' + 1, _, by rw [HRE.out]; exact HFR3.out, HIT.out, how2, hcx⟩
            case measure => rw [HM0.out, HM1.out]; show q < N; have := HQ.out.1; omega
  · have hk : (recOf (h' + 1) T').kids = some (T'.2.2.map fun c => some (rid c)) := rfl
    have n3 := hn2.c3s hk
    have nc := hn2.cc hk
    rw [List.length_map] at nc
    have hkl : T'.2.2.length = T'.2.1.length + 1 := hs.2.1
    obtain ⟨c, hcj0, hXL⟩ := HNX.out
    have hcj : T'.2.2[k1]? = some c := by rw [HNQ.out.2.2]; exact hcj0
    have hcm : c ∈ T'.2.2 := List.mem_of_getElem? hcj
    have kc : w1.cell? ⟨l2.cb, l2.co + k1, none⟩ = some (.pointer (some ⟨rid c, 0, none⟩)) := hn2.kidc hk (j := k1) (o := some (rid c)) (by simp [hcj])
    obtain ⟨lc, hnc⟩ := hf1.node (hT.kid hcm).root
    have nc0 := hnc.c0
    have hb1 := HB.out.chg HC1.out HOT.out
    have cw0 := hb1.at_.c0
    have b1 : (0 : Int) ≤ (k1 : Int) := by omega
    have hk1l := (List.getElem?_eq_some_iff.1 hcj).1
    have b2 : (k1 : Int) < (T'.2.2.length : Int) := by omega
    have hks : mn ≤ (its c).length := (hs.2.2 c hcm).1
    have hkl2 := kid_lt hs hcm hit
    have hk1m : k1 ≤ T'.2.1.length := by omega
    have HTO := Lib.hid (show toL h' c ++ (sideL false T' k1 ++ R1) = R0 by
      rw [HR0.out, hXL, HNQ.out.2.2]; simp [turnL])
    clear hn2 hnc hf1 hcj hb1 hcj0 hXL hk1l s1 s2 s3 s4 s5 s6
    go_wp2_with (go_at_call 162; refine (leaf_any _ (some ⟨l2.cc, 0, none⟩) _ n3).mono ?_; rintro e w' ⟨rfl, rfl⟩)
    go_quiet ((go_at_call 161; exact Calls.quiet_of (isoLoad_any t (rid c) 0 _ _ _ kc nc0 cw0)))
    refine name_prop (fun wq => Chg (fun _ _ => False) w1 wq) ((Chg.refl _ _).drewN _) ?_
    intro w2 hcm2
    have how2 := HO1.out.keep hcm2
    have hcx := HC1.out.trans' hcm2 (fun _ _ _ h => h) (fun _ _ _ h => h.elim)
    replace HIT := Lib.hid (HIT.out.chg hcm2 (fun _ h => h))
    clear e0 e1 e2 e3 e4 e5 z2 z3 z4 z5 g0 g1 n3 nc kc nc0 cw0 b1 b2
    go_wp2_with fail
    go_loopw [4] (fun nv wr => ∃ (h' : Nat) (T' : BT (Int × Int) h') (fs : List (Nat × Int)) (R : List (Int × Int)) (st : Value), nv = .pointer (some ⟨rid T', 0, none⟩) ∧ IsT H h' T' ∧ Sh mn mx h' T' ∧ 1 ≤ (its T').length ∧ (toL h' T').length ≤ 1000000000000 ∧ Frm H mn mx h false fs h' R ∧ toL h' T' ++ R = R0 ∧ ItAt wr ib t true false false st y0.1 ∧ OwnX X wr st fs.reverse base ∧ Chg (ItCh ib base X) w wr) (fun nv _ => mOf H nv)
    case atStart => exact ⟨h', c, (rid T', (k1 : Int)) :: fs, sideL false T' k1 ++ R1, _, rfl, hT.kid hcm, (hs.2.2 c hcm).2, by omega, by omega, ⟨T', k1, R1, rfl, hT, hs, hit, hll, hk1m, HFR.out, rfl⟩, HTO.out, HIT.out, by rw [List.reverse_cons]; exact how2, hcx⟩
    case round =>
      obtain ⟨h', T', fs, R, st, rfl, hT, hs, hit, hll, hfr, htot, hia, how, hc⟩ := hrel
      have hsz := hc.size
      have hfl := hfr.len
      have hht := height_lt hmn HI.out.sh h1
      have hfam := HI.out.fam.chg hc HOF.out
      have HFR := Lib.hid hfr
      have HTOT := Lib.hid htot
      replace HIT := Lib.hid hia
      have e0 := HIT.out.c0
      have e1 := HIT.out.c1
      have e2 := HIT.out.c2
      have e3 := HIT.out.c3
      have e4 := HIT.out.c4
      have e5 := HIT.out.c5
      have z2 := HIT.out.fz 2
      have z3 := HIT.out.fz 3
      have z4 := HIT.out.fz 4
      have z5 := HIT.out.fz 5
      have hca := (Chg.refl (fun _ _ => False) wr).alloc (.cells #[.pointer (some ⟨rid T', 0, none⟩), .int .i64 0] 213)
      have HOW := Lib.hid (how.keep hca)
      have HC := Lib.hid hc
      have HFAM := Lib.hid hfam
      clear hfr htot hia how hc hfam hht
      go_wp2_with (refine wpList_append_X (by rfl) _ _ _ (by rfl) i0 _ 16 Try.underlying104 hi0 hz0 hz1 hz2 rfl _ (by rfl) _ base HOW.out (Nat.le_trans (Nat.le_trans hbase hsz) hca.size) (fun b hb => Nat.lt_of_lt_of_le (hX b hb) (Nat.le_trans hsz hca.size)) ⟨wr.heap.size, 0, none⟩ 1 _ (by rfl) [(rid T', (0 : Int))] rfl (by decide) ?_ ?_ ?_ ?_)
      · first | exact El.src1 stkE (c := #[.pointer (some ⟨rid T', 0, none⟩), .int .i64 0]) (ha_at _ _ (by first | rfl | simp)) _ rfl | exact fun _ _ h => h
      · have := height_lt hmn HI.out.sh h1; rw [List.length_reverse]; unfold maxLen; omega
      · have := height_lt hmn HI.out.sh h1; rw [List.length_reverse]; omega
      intro v6 w6 g1 g2
      have hca6 : Chg (ItCh ib base X) wr w6 := (hca.trans' g2 (B := fun b _ => base ≤ b ∧ ¬ X b) (fun _ _ _ h => h.elim) (fun _ _ _ h => h)).mono (fun _ _ _ h => .inr h)
      have hi6 := HIT.out.chg (hca.trans' g2 (B := fun b _ => base ≤ b ∧ ¬ X b) (fun _ _ _ h => h.elim) (fun _ _ _ h => h)) (fun _ h => by omega)
      have hc6 := HC.out.trans hca6
      obtain ⟨sa, sc, hv6⟩ := g1.sl.form
      have hrl : (fs.reverse ++ [(rid T', (0 : Int))]).length = fs.length + 1 := by simp
      rw [hrl] at hv6
      subst hv6
      clear e0 e1 e2 e3 e4 e5 z2 z3 z4 z5 hca hca6 hrl g2
      replace HIT := Lib.hid hi6
      clear hi6
      have e0 := HIT.out.c0
      have e1 := HIT.out.c1
      have e2 := HIT.out.c2
      have e3 := HIT.out.c3
      have e4 := HIT.out.c4
      have e5 := HIT.out.c5
      have z2 := HIT.out.fz 2
      have z3 := HIT.out.fz 3
      have z4 := HIT.out.fz 4
      have z5 := HIT.out.fz 5
      go_upto_region 21 with fail
      refine name_world (fun wz => ItAt wz ib t true false false (.slice sa (fs.length + 1) sc) y0.1 ∧ OwnX X wz (.slice sa (fs.length + 1) sc) (fs.reverse ++ [(rid T', (0 : Int))]) base ∧ Chg (ItCh ib base X) w wz) ⟨HIT.out.put5 _, g1.chg ((Chg.refl (fun b _ => b = ib) _).setCell (.inl rfl) _) (fun b _ hb h => by omega), hc6.setCell (Or.inl (show ItCh ib base X _ _ from Or.inl rfl)) _⟩ ?_
      rintro w7 ⟨hi7, how7, hc7⟩
      clear e0 e1 e2 e3 e4 e5 z2 z3 z4 z5 g1 hc6
      replace HIT := Lib.hid hi7
      clear hi7
      have e0 := HIT.out.c0
      have e1 := HIT.out.c1
      have e2 := HIT.out.c2
      have e3 := HIT.out.c3
      have e4 := HIT.out.c4
      have e5 := HIT.out.c5
      have z2 := HIT.out.fz 2
      have z3 := HIT.out.fz 3
      have z4 := HIT.out.fz 4
      have z5 := HIT.out.fz 5
      have hf7 := HI.out.fam.chg hc7 HOF.out
      obtain ⟨l2, hn2, hblk, _⟩ := hf7.work hT.root
      have HBLK := Lib.hid hblk
      clear hblk
      have hsz7 := hc7.size
      rcases h' with _ | h'
      · have n3 := hn2.c3n rfl
        go_wp2_with (go_at_call 162; refine (leaf_any _ none _ ?_).mono ?_; (focus go_simp); rintro e w' ⟨rfl, rfl⟩)
        obtain ⟨y, hy⟩ : ∃ y, T'.2[0]? = some y := ⟨_, List.getElem?_eq_getElem (show 0 < T'.2.length from hit)⟩
        have HCONS := Lib.hid (show T'.2 = y :: T'.2.drop 1 from dropc (k := 0) hy)
        have HY := Lib.hid hy
        have hht := height_lt hmn HI.out.sh h1
        have n2 : w7.cell? ⟨rid T', 2, none⟩ = some (.slice (some ⟨l2.ib, l2.io, none⟩) T'.2.length l2.ic) := hn2.c2
        have hjl : 0 < T'.2.length := (List.getElem?_eq_some_iff.1 hy).1
        have ik := hn2.mkey (j := 0) hy
        obtain ⟨b, o, cap, hst⟩ := stk_top how7
        have hrv : fs.reverse.length = fs.length := List.length_reverse
        obtain ⟨q, hq⟩ : ∃ q, fs.length = q := ⟨_, rfl⟩
        obtain ⟨N, hN⟩ : ∃ N, q + 1 = N := ⟨_, rfl⟩
        clear e0 e1 e2 e3 e4 e5 z2 z3 z4 z5
        have e0 := HIT.out.c0
        have e1 := HIT.out.c1
        have e2 := HIT.out.c2
        have e3 := HIT.out.c3
        have e4 := HIT.out.c4
        have e5 := HIT.out.c5
        have z2 := HIT.out.fz 2
        have z3 := HIT.out.fz 3
        have z4 := HIT.out.fz 4
        have z5 := HIT.out.fz 5
        replace e5 : w7.cell? ⟨ib, 5, none⟩ = some (.slice (some ⟨b, o, none⟩) N cap) := by rw [HIT.out.c5, hst.eq, hrv, hq, hN]
        have g0 := hst.c0
        have g1 := hst.c1
        rw [hrv, hq] at g0 g1
        obtain ⟨z, hz⟩ : ∃ z : Nat, z = 0 := ⟨_, rfl⟩
        rw [← hz] at ik hjl
        replace g1 : w7.cell? ⟨b, o + q * 2 + 1, none⟩ = some (.int .i64 (z : Int)) := by rw [hz]; exact g1
        have s1 : IntKind.i64.wrap ((N : Int) - 1) = (q : Int) := (by rw [IntWalk.i64_in _ (by omega)]; omega)
        have s2 : (0 : Int) ≤ (q : Int) := by omega
        have s3 : (q : Int) < (N : Int) := by omega
        have s5 : ¬ N = 0 := by omega
        have j0 : (0 : Int) ≤ (z : Int) := by omega
        have j1 : (z : Int) < (T'.2.length : Int) := by omega
        have hbi : b ≠ ib := by have := hst.lo; omega
        have hti1 : rid T' ≠ ib := (HOF.out _ 0 (hf7.mem hT.root) <| .inl ·)
        have hti2 : l2.ib ≠ ib := (HOF.out _ 0 (HBLK.out _ (.inr (.inl rfl))) <| .inl ·)
        have HST := Lib.hid hst
        have HOX := Lib.hid how7
        have HCX := Lib.hid hc7
        have HNE := Lib.hid hn2
        have HNQ := Lib.hid (And.intro hN (And.intro hq hz))
        clear hht hst how7 hc7 hrv hN hq hf7 hy hn2 hz hjl
        go_wp2_with fail
        go_quiet (fail)
        refine name_prop (fun wq => Chg (fun _ _ => False) w7 wq) ((Chg.refl _ _).drewN _) ?_
        intro wq hcq
        go_wp2_with fail
        have a0 := hcq.cell (fun h => h) g0
        have a1 := hcq.cell (fun h => h) g1
        have a2 := hcq.cell (fun h => h) n2
        have a3 := hcq.cell (fun h => h) ik
        have hit8 := HIT.out.chg hcq (fun _ h => h)
        have hnd := (HNE.out.chg hcq (fun _ _ _ h => h)).chg (Chg.refl (fun _ _ => False) wq).drew (fun _ _ _ h => h)
        have hpi := (hit8.chg (Chg.refl (fun _ _ => False) wq).drew (fun _ h => h)).pz
        have a6 := hit8.c6
        have z6 := hit8.fz 6
        have hcw := ((Chg.refl (fun b _ => b = ib) wq).setCell (a := ⟨ib, 6, none⟩) (.inl rfl) (.int .i64 y.1)).drew
        have hif : ItAt (wq.setCell ⟨ib, 6, none⟩ (.int .i64 y.1)).drew ib t true false false _ y.1 := hit8.put6 y.1
        clear e0 e1 e2 e3 e4 e5 z2 z3 z4 z5 g0 g1 n2 ik
        have HIF := Lib.hid hif
        have HCW := Lib.hid hcw
        have HND := Lib.hid hnd
        clear hif hcw hnd hit8
        refine wp_region_scr (fun w' => w'.cell? ⟨b, o + q * 2, none⟩ = some (.pointer (some ⟨rid T', 0, none⟩)) ∧ w'.cell? ⟨b, o + q * 2 + 1, none⟩ = some (.int .i64 z) ∧ w'.cell? ⟨rid T', 2, none⟩ = some (.slice (some ⟨l2.ib, l2.io, none⟩) T'.2.length l2.ic) ∧ w'.cell? ⟨l2.ib, l2.io + z, none⟩ = some (.int .i64 y.1) ∧ (partAt ⟨l2.ib, l2.io + z, none⟩ 0 0).run Try.prog w' = .ok ⟨l2.ib, l2.io + z, none⟩ w' ∧ (partAt ⟨ib, 6, none⟩ 0 0).run Try.prog w' = .ok ⟨ib, 6, none⟩ w') (.soft 0 (.soft 1 (.soft 2 (.soft 3 (.soft 4 (.soft 5 (.soft 6 (.soft 7 (.soft 8 (.soft 9 (.soft 10 (.soft 11 (.soft 12 (.soft 13 (.soft 14 (.soft 15 (.hard 16 .nil))))))))))))))))) (by kernel_rfl) (by kernel_rfl) (fun _ _ _ _ _ h => h) ⟨a0, a1, a2, a3, HND.out.pz _, hpi⟩ ?_
        repeat
          first
          | (refine scr_soft (by rfl) ?_ ?_ ?_ ?_
             rotate_left
             · simp [Region.wanted, yielded]; done
             · intro w' hS
               try obtain ⟨k1, k2, k3, k4, k5, k6⟩ := hS
               go_simp
               try with_reducible rfl
             simp only [Act.put, List.setIfInBounds_toArray, List.set_cons_zero, List.set_cons_succ])
          | (refine scr_skip (by rfl) ?_ ?_
             · simp [Region.wanted, yielded]; done
             simp only [Act.put, List.setIfInBounds_toArray, List.set_cons_zero, List.set_cons_succ])
        refine scr_hard (by rfl) (by simp [Region.wanted, yielded]) (fun K hK => ?_)
        go_simp
        refine hK _ _ ⟨HCW.out.cell (a := ⟨b, o + q * 2, none⟩) (fun h => hbi h) a0, HCW.out.cell (a := ⟨b, o + q * 2 + 1, none⟩) (fun h => hbi h) a1, HCW.out.cell (a := ⟨rid T', 2, none⟩) (fun h => hti1 h) a2, HCW.out.cell (a := ⟨l2.ib, l2.io + z, none⟩) (fun h => hti2 h) a3, ((HNE.out.chg hcq (fun _ _ _ h => h)).chg HCW.out (fun b o hx h => HOF.out b o (HBLK.out b hx.blk) (.inl h))).pz _, HIF.out.pz⟩ ?_
        clear hK K
        refine scr_nil ?_
        go_wp2_with fail
        go_ret
        have hown := (HOX.out.keep hcq).chg HCW.out (fun b o hb h => by omega)
        obtain ⟨RX, hRX, hcur⟩ : ∃ RX, R0 = y :: RX ∧ CurAt H mn mx h false ((rid T', (0 : Nat)) :: fs) y RX := ⟨T'.2.drop 1 ++ R, by rw [← HTOT.out]; show T'.2 ++ R = _; exact congrArg (· ++ R) HCONS.out, 0, T', 0, fs, R, T'.2.drop (0 + 1), rfl, hT, hs, hit, hll, HY.out, HFR.out, rfl, rfl⟩
        exact .inl ⟨y, RX, hRX, rfl, ⟨_, _, HIF.out, by rw [List.reverse_cons]; exact hown, hcur⟩, (HCX.out.trans' hcq (fun _ _ _ h => h) (fun _ _ _ h => h.elim)).trans (HCW.out.mono (fun _ _ _ h => .inl h))⟩
      · have hk : (recOf (h' + 1) T').kids = some (T'.2.2.map fun c => some (rid c)) := rfl
        have n3 := hn2.c3s hk
        have nc := hn2.cc hk
        rw [List.length_map] at nc
        have hkl : T'.2.2.length = T'.2.1.length + 1 := hs.2.1
        obtain ⟨c, hcj⟩ : ∃ c, T'.2.2[0]? = some c := ⟨_, List.getElem?_eq_getElem (by omega)⟩
        have hcm : c ∈ T'.2.2 := List.mem_of_getElem? hcj
        have kc : w7.cell? ⟨l2.cb, l2.co, none⟩ = some (.pointer (some ⟨rid c, 0, none⟩)) := hn2.kidc hk (j := 0) (o := some (rid c)) (by simp [hcj])
        obtain ⟨lc, hnc⟩ := hf7.node (hT.kid hcm).root
        have nc0 := hnc.c0
        have hb7 := HB.out.chg hc7 HOT.out
        have cw0 := hb7.at_.c0
        have hgt := kid_lt hs hcm hit
        have m1 := mOf_root hT
        have m2 := mOf_root (hT.kid hcm)
        have b1 : (0 : Int) < (T'.2.2.length : Int) := by omega
        have b2 : 0 < T'.2.2.length := by omega
        have hks : mn ≤ (its c).length := (hs.2.2 c hcm).1
        have hkl2 := kid_lt hs hcm hit
        have hto : toL (h' + 1) T' = turnL false (toL h' c) ++ sideL false T' 0 := by
          have := toL_at hs hcj
          simpa [pre, turnL, sideL] using this
        have HCJ := Lib.hid hcj
        have HTO := Lib.hid hto
        have HO7 := Lib.hid how7
        have HC7 := Lib.hid hc7
        clear hn2 hnc hf7 hcj hb7 hto how7 hc7
        go_wp2_with (go_at_call 162; refine (leaf_any _ (some ⟨l2.cc, 0, none⟩) _ n3).mono ?_; rintro e w' ⟨rfl, rfl⟩)
        go_quiet ((go_at_call 161; exact Calls.quiet_of (isoLoad_any t (rid c) 0 _ _ _ kc nc0 cw0)))
        refine name_prop (fun w8 => Chg (fun _ _ => False) w7 w8) ((Chg.refl _ _).drewN _) ?_
        intro w8 hc8
        go_wp2_with fail
        go_roundw
        case rel => exact ⟨h', c, (rid T', ((0 : Nat) : Int)) :: fs, sideL false T' 0 ++ R, _, rfl, hT.kid hcm, (hs.2.2 c hcm).2, by omega, by omega, ⟨T', 0, R, rfl, hT, hs, hit, hll, Nat.zero_le _, HFR.out, rfl⟩, by rw [← HTOT.out, HTO.out]; simp [turnL], HIT.out.chg hc8 (fun _ h => h), by rw [List.reverse_cons]; exact HO7.out.keep hc8, HC7.out.trans' hc8 (fun _ _ _ h => h) (fun _ _ _ h => h.elim)⟩
        case measure => rw [m1, m2]; exact hgt
end Go.Proofs.Ytjggkpmlffhjgaa
