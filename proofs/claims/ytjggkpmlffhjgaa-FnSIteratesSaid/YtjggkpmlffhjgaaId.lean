/- MapIter.Last. -/
import Derived.BigQuiet
import Derived.Deep.QuietTactic
import Derived.StillTailTactics
import Derived.Test.YtjggkpmlffhjgaaA2
import Derived.Test.YtjggkpmlffhjgaaIa
namespace Go.Proofs.Ytjggkpmlffhjgaa
set_option linter.unusedSimpArgs false
set_option linter.unusedVariables false
open Go.RowKit

set_option maxRecDepth 100000 in
set_option maxHeartbeats 4000000 in
theorem last_any {mn mx : Nat} {w : World} {F : Nat → Prop} {H : Nat → Option (NodeR (Int × Int))} {t h : Nat} {T : BT (Int × Int) h} {ib base : Nat} {X : Nat → Prop} {k : Int} (hI : TreeIn 0 mn mx w F H t h T) (hB : MapBlk 0 mn mx w t (some (rid T)) (toL h T).length) (h1 : 1 ≤ (its T).length) (hmn : 1 ≤ mn) (hlen : (toL h T).length ≤ 1000000000000)
    (hit : ItAt w ib t false false false (.slice none 0 0) k) (hF : ∀ b, F b → b < base ∧ b ≠ ib) (htb : t < base) (hti : t ≠ ib) (hib : ib < base) (hbase : base ≤ w.heap.size) (hX : ∀ b, X b → b < w.heap.size) :
    Calls Try.prog 122 #[.pointer (some ⟨ib, 0, none⟩)] w (ItPost X w H mn mx h true ib t base (toL h T).reverse) := by
  have HIT := Lib.hid hit
  have HB := Lib.hid hB
  have HI := Lib.hid hI
  have e0 := HIT.out.c0
  have e1 := HIT.out.c1
  have e2 := HIT.out.c2
  have e3 := HIT.out.c3
  have e4 := HIT.out.c4
  have e5 := HIT.out.c5
  have z2 := HIT.out.fz 2
  have z3 := HIT.out.fz 3
  have z4 := HIT.out.fz 4
  have z5 := HIT.out.fz 5
  obtain ⟨i0, hi0, hz0, hz1, hz2⟩ := info_parts infoStk
  clear hit hB hI
  go_enter Try.func122, Try.ntmps122
  go_upto_region 4 with fail
  refine name_world (fun wz => ItAt wz ib t true false false (.slice none 0 0) k ∧ Chg (ItCh ib base X) w wz) ⟨HIT.out.put2 _, (Chg.refl _ _).setCell (Or.inl (show ItCh ib base X _ _ from Or.inl rfl)) _⟩ ?_
  rintro w3 ⟨hitn, hc3⟩
  replace HIT := Lib.hid hitn
  clear hitn
  clear e0 e1 e2 e3 e4 e5 z2 z3 z4 z5
  have e0 := HIT.out.c0
  have e1 := HIT.out.c1
  have e2 := HIT.out.c2
  have e3 := HIT.out.c3
  have e4 := HIT.out.c4
  have e5 := HIT.out.c5
  have z2 := HIT.out.fz 2
  have z3 := HIT.out.fz 3
  have z4 := HIT.out.fz 4
  have z5 := HIT.out.fz 5
  go_upto_region 5 with fail
  refine name_world (fun wz => ItAt wz ib t true false false (.slice none 0 0) k ∧ Chg (ItCh ib base X) w wz) ⟨HIT.out.put5 _, (hc3).setCell (Or.inl (show ItCh ib base X _ _ from Or.inl rfl)) _⟩ ?_
  rintro w4 ⟨hitn, hc4⟩
  replace HIT := Lib.hid hitn
  clear hitn
  clear e0 e1 e2 e3 e4 e5 z2 z3 z4 z5
  have e0 := HIT.out.c0
  have e1 := HIT.out.c1
  have e2 := HIT.out.c2
  have e3 := HIT.out.c3
  have e4 := HIT.out.c4
  have e5 := HIT.out.c5
  have z2 := HIT.out.fz 2
  have z3 := HIT.out.fz 3
  have z4 := HIT.out.fz 4
  have z5 := HIT.out.fz 5
  have hOF : ∀ b o, F b → ¬ ItCh ib base X b o := fun b _ hb h => by
    have := hF b hb
    rcases h with h | h <;> omega
  have hOT : ∀ b o, MOwn 0 t b → ¬ ItCh ib base X b o := fun b _ hb h => by
    have hb' : b = t := hb
    rcases h with h | h <;> omega
  have HOF := Lib.hid hOF
  have HOT := Lib.hid hOT
  have hB4 := HB.out.chg hc4 (fun b o hb => hOT b o hb)
  obtain ⟨l0, hn0⟩ := (HI.out.fam.chg hc4 hOF).node HI.out.isT.root
  have n0 := hn0.c0
  have b2 : w4.cell? ⟨t, 2, none⟩ = some (.pointer (some ⟨rid T, 0, none⟩)) := hB4.c2
  have b0 := hB4.at_.c0
  clear hOF hOT hc3
  go_upto_region 7 with fail
  go_quiet ((go_at_call 161; exact Calls.quiet_of (isoLoad_any t (rid T) 0 _ _ _ b2 n0 b0)))
  refine name_prop (fun w8 => Chg (fun _ _ => False) w4 w8) ((Chg.refl _ _).drewN _) ?_
  intro w5 hc5
  have hc05 := hc4.trans' hc5 (B := ItCh ib base X) (fun _ _ _ h => h) (fun _ _ _ h => h.elim)
  have hs5 := hc05.size
  clear e0 e1 e2 e3 e4 e5 z2 z3 z4 z5 b2 b0 n0
  go_wp2_with fail
  go_loopw [3] (fun nv wr => ∃ (h' : Nat) (T' : BT (Int × Int) h') (fs : List (Nat × Int)) (R : List (Int × Int)) (st : Value), nv = .pointer (some ⟨rid T', 0, none⟩) ∧ IsT H h' T' ∧ Sh mn mx h' T' ∧ 1 ≤ (its T').length ∧ (toL h' T').length ≤ 1000000000000 ∧ Frm H mn mx h true fs h' R ∧ (toL h' T').reverse ++ R = (toL h T).reverse ∧ ItAt wr ib t true false false st k ∧ OwnX X wr st fs.reverse base ∧ Chg (ItCh ib base X) w wr) (fun nv _ => mOf H nv)
  case atStart => exact ⟨h, T, [], [], _, rfl, HI.out.isT, HI.out.sh, h1, hlen, ⟨rfl, rfl⟩, by simp, HIT.out.chg hc5 (fun _ h => h), OwnX.nil _ _ _, hc05⟩
  case round =>
    obtain ⟨h', T', fs, R, st, rfl, hT, hs, hit, hll, hfr, htot, hia, how, hc⟩ := hrel
    have hsz := hc.size
    have hfl := hfr.len
    have hht := height_lt hmn HI.out.sh h1
    have hfam := HI.out.fam.chg hc HOF.out
    have HFR := Lib.hid hfr
    have HTOT := Lib.hid htot
    replace HIT := Lib.hid hia
    have e0 := HIT.out.c0
    have e1 := HIT.out.c1
    have e2 := HIT.out.c2
    have e3 := HIT.out.c3
    have e4 := HIT.out.c4
    have e5 := HIT.out.c5
    have z2 := HIT.out.fz 2
    have z3 := HIT.out.fz 3
    have z4 := HIT.out.fz 4
    have z5 := HIT.out.fz 5
    obtain ⟨l2, hn2, hblk, _⟩ := hfam.work hT.root
    have n2 : wr.cell? ⟨rid T', 2, none⟩ = some (.slice (some ⟨l2.ib, l2.io, none⟩) (recOf h' T').items.length l2.ic) := hn2.c2
    rw [recOf_items] at n2
    obtain ⟨m, hm⟩ : ∃ m, (its T').length = m := ⟨_, rfl⟩
    rw [hm] at n2
    have hm1000 : m ≤ 1000 := by
      have hmx := HI.out.m1000
      rw [← hm]
      rcases h' with _ | h'
      · exact Nat.le_trans hs hmx
      · exact Nat.le_trans hs.1 hmx
    have HC := Lib.hid hc
    have HM := Lib.hid hm
    have HOW := Lib.hid how
    clear hfr htot hia how hc hfam hht hm hblk hn2
    go_wp2_with fail
    refine wp_region_script (fun w' => w'.cell? ⟨ib, 0 + 5, none⟩ = some st ∧ w'.cell? ⟨rid T', 2, none⟩ = some (.slice (some ⟨l2.ib, l2.io, none⟩) m l2.ic)) 14
      [(0, true), (1, true), (2, true), (3, true), (4, true), (5, true), (6, true), (7, true), (8, true), (9, true), (10, true), (11, true), (12, false), (13, false), (14, false), (15, false), (16, false)] (by kernel_rfl) (by kernel_rfl) (fun _ _ _ _ _ h => h) ⟨e5, n2⟩ ?_
    simp only [Nat.zero_add]
    refine script_soft (by rfl) ?_ (by simp [Region.wanted, yielded]) ?_ ?_
    rotate_left
    · intro w' hS
      try obtain ⟨a1, a2⟩ := hS
      go_simp
      try with_reducible rfl
    simp only [Act.put, List.setIfInBounds_toArray, List.set_cons_zero, List.set_cons_succ]
    refine script_soft (by rfl) ?_ (by simp [Region.wanted, yielded]) ?_ ?_
    rotate_left
    · intro w' hS
      try obtain ⟨a1, a2⟩ := hS
      go_simp
      try with_reducible rfl
    simp only [Act.put, List.setIfInBounds_toArray, List.set_cons_zero, List.set_cons_succ]
    refine script_soft (by rfl) ?_ (by simp [Region.wanted, yielded]) ?_ ?_
    rotate_left
    · intro w' hS
      try obtain ⟨a1, a2⟩ := hS
      go_simp
      try with_reducible rfl
    simp only [Act.put, List.setIfInBounds_toArray, List.set_cons_zero, List.set_cons_succ]
    refine script_soft (by rfl) ?_ (by simp [Region.wanted, yielded]) ?_ ?_
    rotate_left
    · intro w' hS
      try obtain ⟨a1, a2⟩ := hS
      go_simp
      try with_reducible rfl
    simp only [Act.put, List.setIfInBounds_toArray, List.set_cons_zero, List.set_cons_succ]
    refine script_soft (by rfl) ?_ (by simp [Region.wanted, yielded]) ?_ ?_
    rotate_left
    · intro w' hS
      try obtain ⟨a1, a2⟩ := hS
      go_simp
      try with_reducible rfl
    simp only [Act.put, List.setIfInBounds_toArray, List.set_cons_zero, List.set_cons_succ]
    refine script_soft (by rfl) ?_ (by simp [Region.wanted, yielded]) ?_ ?_
    rotate_left
    · intro w' hS
      try obtain ⟨a1, a2⟩ := hS
      go_simp
      try with_reducible rfl
    simp only [Act.put, List.setIfInBounds_toArray, List.set_cons_zero, List.set_cons_succ]
    refine script_soft (by rfl) ?_ (by simp [Region.wanted, yielded]) ?_ ?_
    rotate_left
    · intro w' hS
      try obtain ⟨a1, a2⟩ := hS
      go_simp
      try with_reducible rfl
    simp only [Act.put, List.setIfInBounds_toArray, List.set_cons_zero, List.set_cons_succ]
    refine script_soft (by rfl) ?_ (by simp [Region.wanted, yielded]) ?_ ?_
    rotate_left
    · intro w' hS
      try obtain ⟨a1, a2⟩ := hS
      go_simp
      try with_reducible rfl
    simp only [Act.put, List.setIfInBounds_toArray, List.set_cons_zero, List.set_cons_succ]
    refine script_soft (by rfl) ?_ (by simp [Region.wanted, yielded]) ?_ ?_
    rotate_left
    · intro w' hS
      try obtain ⟨a1, a2⟩ := hS
      go_simp
      try with_reducible rfl
    simp only [Act.put, List.setIfInBounds_toArray, List.set_cons_zero, List.set_cons_succ]
    refine script_soft (by rfl) ?_ (by simp [Region.wanted, yielded]) ?_ ?_
    rotate_left
    · intro w' hS
      try obtain ⟨a1, a2⟩ := hS
      go_simp
      try with_reducible rfl
    simp only [Act.put, List.setIfInBounds_toArray, List.set_cons_zero, List.set_cons_succ]
    refine script_soft (by rfl) ?_ (by simp [Region.wanted, yielded]) ?_ ?_
    rotate_left
    · intro w' hS
      try obtain ⟨a1, a2⟩ := hS
      go_simp
      try with_reducible rfl
    simp only [Act.put, List.setIfInBounds_toArray, List.set_cons_zero, List.set_cons_succ]
    refine script_soft (by rfl) ?_ (by simp [Region.wanted, yielded]) ?_ ?_
    rotate_left
    · intro w' hS
      try obtain ⟨a1, a2⟩ := hS
      go_simp
      try with_reducible rfl
    simp only [Act.put, List.setIfInBounds_toArray, List.set_cons_zero, List.set_cons_succ]
    refine script_hard (by rfl) (by simp [Region.wanted, yielded]) (fun K hK => ?_)
    go_simp
    have hca := ((Chg.refl (fun _ _ => False) wr).alloc (.cells #[.pointer (some ⟨rid T', 0, none⟩), .int .i64 m] 213)).drew
    refine hK _ _ (fun _ => ⟨hca.cell (fun h => h) e5, hca.cell (fun h => h) n2⟩) ?_
    clear hK K
    refine script_hard (by rfl) (by simp [Region.wanted, yielded]) (fun K hK => ?_)
    refine wp_append_X _ _ _ (by rfl) i0 _ 16 Try.underlying104 hi0 hz0 hz1 hz2 rfl st (by rfl) fs.reverse base (HOW.out.keep hca) (Nat.le_trans (Nat.le_trans hbase hsz) hca.size) (fun b hb => Nat.lt_of_lt_of_le (hX b hb) (Nat.le_trans hsz hca.size)) ⟨wr.heap.size, 0, none⟩ 1 _ (by rfl) [(rid T', (m : Int))] rfl (by decide) ?_ ?_ ?_ ?_
    · exact El.src1 stkE (c := #[.pointer (some ⟨rid T', 0, none⟩), .int .i64 m]) (ha_at _ _ (by first | rfl | simp)) _ rfl
    · have := height_lt hmn HI.out.sh h1; rw [List.length_reverse]; unfold maxLen; omega
    · have := height_lt hmn HI.out.sh h1; rw [List.length_reverse]; omega
    intro v6 w6 g1 g2
    obtain ⟨sa, sc, hv6⟩ := g1.sl.form
    have hrl : (fs.reverse ++ [(rid T', (m : Int))]).length = fs.length + 1 := by simp
    rw [hrl] at hv6
    subst hv6
    have hcb : Chg (fun b _ => base ≤ b ∧ ¬ X b) wr w6 := (hca.mono (fun _ _ _ h => h.elim)).trans g2
    have hca6 : Chg (ItCh ib base X) wr w6 := hcb.mono (fun _ _ _ h => .inr h)
    have hi6 := HIT.out.chg hcb (fun _ h => by have h2 : base ≤ ib := h.1; omega)
    have hc6 := HC.out.trans hca6
    have e5' := hi6.c5
    have n2' : w6.cell? ⟨rid T', 2, none⟩ = some (.slice (some ⟨l2.ib, l2.io, none⟩) m l2.ic) := hcb.cell (a := ⟨rid T', 2, none⟩) (fun h => HOF.out _ 0 (HI.out.fam.mem hT.root) (.inr h)) n2
    refine hK _ _ (fun _ => ⟨e5', n2'⟩) ?_
    clear hK K
    clear e0 e1 e2 e3 e4 e5 z2 z3 z4 z5 hca hca6 hrl g2 n2 hcb
    replace HIT := Lib.hid hi6
    clear hi6
    have e0 := HIT.out.c0
    have e1 := HIT.out.c1
    have e2 := HIT.out.c2
    have e3 := HIT.out.c3
    have e4 := HIT.out.c4
    have e5 := HIT.out.c5
    have z2 := HIT.out.fz 2
    have z3 := HIT.out.fz 3
    have z4 := HIT.out.fz 4
    have z5 := HIT.out.fz 5
    refine script_hard (by rfl) (by simp [Region.wanted, yielded]) (fun K hK => ?_)
    go_simp
    refine hK _ _ (fun h => absurd h (by decide)) ?_
    clear hK K
    refine script_hard (by rfl) (by simp [Region.wanted, yielded]) (fun K hK => ?_)
    go_simp
    refine hK _ _ (fun h => absurd h (by decide)) ?_
    clear hK K
    refine script_hard (by rfl) (by simp [Region.wanted, yielded]) (fun K hK => ?_)
    go_simp
    refine hK _ _ (fun h => absurd h (by decide)) (script_nil ?_)
    clear hK K
    go_upto_region 9 with fail
    refine name_world (fun wz => ItAt wz ib t true false false (.slice sa (fs.length + 1) sc) k ∧ OwnX X wz (.slice sa (fs.length + 1) sc) (fs.reverse ++ [(rid T', (m : Int))]) base ∧ Chg (ItCh ib base X) w wz) ⟨HIT.out.put5 _, g1.chg ((Chg.refl (fun b _ => b = ib) _).setCell (.inl rfl) _) (fun b _ hb h => by omega), hc6.setCell (Or.inl (show ItCh ib base X _ _ from Or.inl rfl)) _⟩ ?_
    rintro w7 ⟨hi7, how7, hc7⟩
    clear e0 e1 e2 e3 e4 e5 z2 z3 z4 z5 g1 hc6 e5' n2'
    replace HIT := Lib.hid hi7
    clear hi7 HOW
    have e0 := HIT.out.c0
    have e1 := HIT.out.c1
    have e2 := HIT.out.c2
    have e3 := HIT.out.c3
    have e4 := HIT.out.c4
    have e5 := HIT.out.c5
    have z2 := HIT.out.fz 2
    have z3 := HIT.out.fz 3
    have z4 := HIT.out.fz 4
    have z5 := HIT.out.fz 5
    have hf7 := HI.out.fam.chg hc7 HOF.out
    obtain ⟨l2, hn2, hblk, _⟩ := hf7.work hT.root
    have HBLK := Lib.hid hblk
    clear hblk
    have hsz7 := hc7.size
    rcases h' with _ | h'
    · have n3 := hn2.c3n rfl
      go_wp2_with (go_at_call 162; refine (leaf_any _ none _ ?_).mono ?_; (focus go_simp); rintro e w' ⟨rfl, rfl⟩)
      have hm0 : 1 ≤ m := by rw [← HM.out]; exact hit
      obtain ⟨k1, hk1⟩ : ∃ k1 : Nat, k1 + 1 = m := ⟨m - 1, by omega⟩
      obtain ⟨b, o, cap, hst⟩ := stk_top how7
      have hrv : fs.reverse.length = fs.length := List.length_reverse
      obtain ⟨q, hq⟩ : ∃ q, fs.length = q := ⟨_, rfl⟩
      obtain ⟨N, hN⟩ : ∃ N, q + 1 = N := ⟨_, rfl⟩
      clear e0 e1 e2 e3 e4 e5 z2 z3 z4 z5
      have e0 := HIT.out.c0
      have e1 := HIT.out.c1
      have e2 := HIT.out.c2
      have e3 := HIT.out.c3
      have e4 := HIT.out.c4
      have e5 := HIT.out.c5
      have z2 := HIT.out.fz 2
      have z3 := HIT.out.fz 3
      have z4 := HIT.out.fz 4
      have z5 := HIT.out.fz 5
      replace e5 : w7.cell? ⟨ib, 5, none⟩ = some (.slice (some ⟨b, o, none⟩) N cap) := by rw [HIT.out.c5, hst.eq, hrv, hq, hN]
      have hstq : HIT.out.c5 = HIT.out.c5 := rfl
      have g0 := hst.c0
      have g1 := hst.c1
      have gz := hst.fz (o + q * 2 + 1)
      have hblo := hst.lo
      have hnxb := hst.nx
      have hput := (stk_top (how7.keep (Chg.refl (fun _ _ => False) w7).drew))
      obtain ⟨b2, o2, cap2, hst2⟩ := hput
      have he2 := hst2.eq.symm.trans hst.eq
      injection he2 with e1' e2' e3'
      injection e1' with e1'
      injection e1' with e4' e5' e6'
      subst e4'
      subst e5'
      subst e3'
      clear e2' e6' hstq
      have hput := hst2.put (k1 : Int)
      rw [hrv, hq] at g0 g1 hput
      have hht := height_lt hmn HI.out.sh h1
      have s1 : IntKind.i64.wrap ((N : Int) - 1) = (q : Int) := (by rw [IntWalk.i64_in _ (by omega)]; omega)
      have s2 : (0 : Int) ≤ (q : Int) := by omega
      have s3 : (q : Int) < (N : Int) := by omega
      have s4 : IntKind.i64.wrap ((m : Int) - 1) = (k1 : Int) := (by rw [IntWalk.i64_in _ (by omega)]; omega)
      have s5 : ¬ N = 0 := by omega
      have hcs := ((Chg.refl (fun b' _ => b' = b2) w7).drew).setCell (a := ⟨b2, o2 + q * 2 + 1, none⟩) (.inl rfl) (.int .i64 (k1 : Int))
      have hi9 := HIT.out.chg hcs (fun _ h => by omega)
      have HD := Lib.hid (And.intro hput (And.intro hi9 hcs))
      have HC7 := Lib.hid hc7
      have HNQ := Lib.hid (And.intro hN (And.intro hq hk1))
      clear hst hst2 hput hcs hi9 how7 hc7 hrv hN hq hk1 hf7 hht
      go_wp2_with fail
      go_still_tail 16, (by kernel_rfl)
      go_upto_region 12 with fail
      refine name_world (fun wz => OwnX X wz _ (fs.reverse ++ [(rid T', (k1 : Int))]) base ∧ ItAt wz ib t true false false _ _ ∧ Chg (fun b' _ => b' = b2) w7 wz) HD.out ?_
      rintro w9 ⟨how9, hi9, hcs2⟩
      have hcd := HC7.out.trans (hcs2.mono (fun b' _ _ h => show ItCh ib base X _ _ from .inr ⟨by omega, by rw [show b' = b2 from h]; exact hnxb⟩))
      replace HIT := Lib.hid hi9
      have hk1 := HNQ.out.2.2
      try rw [← HNQ.out.2.1] at how9
      clear hi9 HD g0 g1 gz s1 s2 s3 s4 s5 e0 e1 e2 e3 e4 e5 z2 z3 z4 z5
      have e0 := HIT.out.c0
      have e1 := HIT.out.c1
      have e2 := HIT.out.c2
      have e3 := HIT.out.c3
      have e4 := HIT.out.c4
      have e5 := HIT.out.c5
      have z2 := HIT.out.fz 2
      have z3 := HIT.out.fz 3
      have z4 := HIT.out.fz 4
      have z5 := HIT.out.fz 5
      have hTl : T'.2.length = m := HM.out
      obtain ⟨y, hy⟩ : ∃ y, T'.2[k1]? = some y := ⟨_, List.getElem?_eq_getElem (by omega)⟩
      have HTOT2 := Lib.hid (show (toL h T).reverse = y :: ((T'.2.take k1).reverse ++ R) by
        rw [← HTOT.out]
        show T'.2.reverse ++ R = _
        have h3 : T'.2 = T'.2.take k1 ++ [y] := by
          have h4 := List.take_add_one (l := T'.2) (i := k1)
          rw [hy, List.take_of_length_le (by omega)] at h4
          simpa using h4
        conv => lhs; rw [h3]
        simp)
      have HY := Lib.hid hy
      have hht := height_lt hmn HI.out.sh h1
      clear hTl hm0
      have hf7 := HI.out.fam.chg hcd HOF.out
      replace hn2 := hn2.chg hcs2 (fun b _ h1 h2 => HOF.out b 0 (HBLK.out b h1.blk) (.inr ⟨by omega, by rw [show b = b2 from h2]; exact hnxb⟩))
      clear hcs2
      have n2 : w9.cell? ⟨rid T', 2, none⟩ = some (.slice (some ⟨l2.ib, l2.io, none⟩) T'.2.length l2.ic) := hn2.c2
      have hjl : k1 < T'.2.length := (List.getElem?_eq_some_iff.1 hy).1
      have ik := hn2.mkey (j := k1) hy
      obtain ⟨b, o, cap, hst⟩ := stk_top how9
      have hrv : fs.reverse.length = fs.length := List.length_reverse
      obtain ⟨q, hq⟩ : ∃ q, fs.length = q := ⟨_, rfl⟩
      obtain ⟨N, hN⟩ : ∃ N, q + 1 = N := ⟨_, rfl⟩
      clear e0 e1 e2 e3 e4 e5 z2 z3 z4 z5
      have e0 := HIT.out.c0
      have e1 := HIT.out.c1
      have e2 := HIT.out.c2
      have e3 := HIT.out.c3
      have e4 := HIT.out.c4
      have e5 := HIT.out.c5
      have z2 := HIT.out.fz 2
      have z3 := HIT.out.fz 3
      have z4 := HIT.out.fz 4
      have z5 := HIT.out.fz 5
      replace e5 : w9.cell? ⟨ib, 5, none⟩ = some (.slice (some ⟨b, o, none⟩) N cap) := by rw [HIT.out.c5, hst.eq, hrv, hq, hN]
      have g0 := hst.c0
      have g1 := hst.c1
      rw [hrv, hq] at g0 g1
      obtain ⟨z, hz⟩ : ∃ z : Nat, z = k1 := ⟨_, rfl⟩
      rw [← hz] at ik hjl
      replace g1 : w9.cell? ⟨b, o + q * 2 + 1, none⟩ = some (.int .i64 (z : Int)) := by rw [hz]; exact g1
      have s1 : IntKind.i64.wrap ((N : Int) - 1) = (q : Int) := (by rw [IntWalk.i64_in _ (by omega)]; omega)
      have s2 : (0 : Int) ≤ (q : Int) := by omega
      have s3 : (q : Int) < (N : Int) := by omega
      have s5 : ¬ N = 0 := by omega
      have j0 : (0 : Int) ≤ (z : Int) := by omega
      have j1 : (z : Int) < (T'.2.length : Int) := by omega
      have hbi : b ≠ ib := by have := hst.lo; omega
      have hti1 : rid T' ≠ ib := (HOF.out _ 0 (hf7.mem hT.root) <| .inl ·)
      have hti2 : l2.ib ≠ ib := (HOF.out _ 0 (HBLK.out _ (.inr (.inl rfl))) <| .inl ·)
      have HST := Lib.hid hst
      have HOX := Lib.hid how9
      have HCX := Lib.hid hcd
      have HNE := Lib.hid hn2
      have HNQ := Lib.hid (And.intro hN (And.intro hq hz))
      clear hht hst how9 hcd hrv hN hq hf7 hy hn2 hz hjl
      go_wp2_with fail
      go_quiet (fail)
      refine name_prop (fun wq => Chg (fun _ _ => False) w9 wq) ((Chg.refl _ _).drewN _) ?_
      intro wq hcq
      go_wp2_with fail
      have a0 := hcq.cell (fun h => h) g0
      have a1 := hcq.cell (fun h => h) g1
      have a2 := hcq.cell (fun h => h) n2
      have a3 := hcq.cell (fun h => h) ik
      have hit8 := HIT.out.chg hcq (fun _ h => h)
      have hnd := (HNE.out.chg hcq (fun _ _ _ h => h)).chg (Chg.refl (fun _ _ => False) wq).drew (fun _ _ _ h => h)
      have hpi := (hit8.chg (Chg.refl (fun _ _ => False) wq).drew (fun _ h => h)).pz
      have a6 := hit8.c6
      have z6 := hit8.fz 6
      have hcw := ((Chg.refl (fun b _ => b = ib) wq).setCell (a := ⟨ib, 6, none⟩) (.inl rfl) (.int .i64 y.1)).drew
      have hif : ItAt (wq.setCell ⟨ib, 6, none⟩ (.int .i64 y.1)).drew ib t true false false _ y.1 := hit8.put6 y.1
      clear e0 e1 e2 e3 e4 e5 z2 z3 z4 z5 g0 g1 n2 ik
      have HIF := Lib.hid hif
      have HCW := Lib.hid hcw
      have HND := Lib.hid hnd
      clear hif hcw hnd hit8
      refine wp_region_scr (fun w' => w'.cell? ⟨b, o + q * 2, none⟩ = some (.pointer (some ⟨rid T', 0, none⟩)) ∧ w'.cell? ⟨b, o + q * 2 + 1, none⟩ = some (.int .i64 z) ∧ w'.cell? ⟨rid T', 2, none⟩ = some (.slice (some ⟨l2.ib, l2.io, none⟩) T'.2.length l2.ic) ∧ w'.cell? ⟨l2.ib, l2.io + z, none⟩ = some (.int .i64 y.1) ∧ (partAt ⟨l2.ib, l2.io + z, none⟩ 0 0).run Try.prog w' = .ok ⟨l2.ib, l2.io + z, none⟩ w' ∧ (partAt ⟨ib, 6, none⟩ 0 0).run Try.prog w' = .ok ⟨ib, 6, none⟩ w') (.soft 0 (.soft 1 (.soft 2 (.soft 3 (.soft 4 (.soft 5 (.soft 6 (.soft 7 (.soft 8 (.soft 9 (.soft 10 (.soft 11 (.soft 12 (.soft 13 (.soft 14 (.soft 15 (.hard 16 .nil))))))))))))))))) (by kernel_rfl) (by kernel_rfl) (fun _ _ _ _ _ h => h) ⟨a0, a1, a2, a3, HND.out.pz _, hpi⟩ ?_
      repeat
        first
        | (refine scr_soft (by rfl) ?_ ?_ ?_ ?_
           rotate_left
           · simp [Region.wanted, yielded]; done
           · intro w' hS
             try obtain ⟨k1, k2, k3, k4, k5, k6⟩ := hS
             go_simp
             try with_reducible rfl
           simp only [Act.put, List.setIfInBounds_toArray, List.set_cons_zero, List.set_cons_succ])
        | (refine scr_skip (by rfl) ?_ ?_
           · simp [Region.wanted, yielded]; done
           simp only [Act.put, List.setIfInBounds_toArray, List.set_cons_zero, List.set_cons_succ])
      refine scr_hard (by rfl) (by simp [Region.wanted, yielded]) (fun K hK => ?_)
      go_simp
      refine hK _ _ ⟨HCW.out.cell (a := ⟨b, o + q * 2, none⟩) (fun h => hbi h) a0, HCW.out.cell (a := ⟨b, o + q * 2 + 1, none⟩) (fun h => hbi h) a1, HCW.out.cell (a := ⟨rid T', 2, none⟩) (fun h => hti1 h) a2, HCW.out.cell (a := ⟨l2.ib, l2.io + z, none⟩) (fun h => hti2 h) a3, ((HNE.out.chg hcq (fun _ _ _ h => h)).chg HCW.out (fun b o hx h => HOF.out b o (HBLK.out b hx.blk) (.inl h))).pz _, HIF.out.pz⟩ ?_
      clear hK K
      refine scr_nil ?_
      go_wp2_with fail
      go_ret
      have hown := (HOX.out.keep hcq).chg HCW.out (fun b o hb h => by omega)
      obtain ⟨RX, hRX, hcur⟩ : ∃ RX, (toL h T).reverse = y :: RX ∧ CurAt H mn mx h true ((rid T', (k1 : Nat)) :: fs) y RX := ⟨_, HTOT2.out, 0, T', k1, fs, R, (T'.2.take k1).reverse, rfl, hT, hs, hit, hll, HY.out, HFR.out, rfl, rfl⟩
      exact .inl ⟨y, RX, hRX, rfl, ⟨_, _, HIF.out, by rw [List.reverse_cons]; exact hown, hcur⟩, (HCX.out.trans' hcq (fun _ _ _ h => h) (fun _ _ _ h => h.elim)).trans (HCW.out.mono (fun _ _ _ h => .inl h))⟩
    · have hk : (recOf (h' + 1) T').kids = some (T'.2.2.map fun c => some (rid c)) := rfl
      have n3 := hn2.c3s hk
      have nc := hn2.cc hk
      rw [List.length_map] at nc
      have hm2 : T'.2.1.length = m := HM.out
      have n2 : w7.cell? ⟨rid T', 2, none⟩ = some (.slice (some ⟨l2.ib, l2.io, none⟩) T'.2.1.length l2.ic) := hn2.c2
      rw [hm2] at n2
      have hkl : T'.2.2.length = T'.2.1.length + 1 := hs.2.1
      obtain ⟨c, hcj⟩ : ∃ c, T'.2.2[m]? = some c := ⟨_, List.getElem?_eq_getElem (by omega)⟩
      have hcm : c ∈ T'.2.2 := List.mem_of_getElem? hcj
      have kc : w7.cell? ⟨l2.cb, l2.co + m, none⟩ = some (.pointer (some ⟨rid c, 0, none⟩)) := hn2.kidc hk (j := m) (o := some (rid c)) (by simp [hcj])
      obtain ⟨lc, hnc⟩ := hf7.node (hT.kid hcm).root
      have nc0 := hnc.c0
      have hb7 := HB.out.chg hc7 HOT.out
      have cw0 := hb7.at_.c0
      have hgt := kid_lt hs hcm hit
      have m1 := mOf_root hT
      have m2 := mOf_root (hT.kid hcm)
      have b1 : (0 : Int) ≤ (m : Int) := by omega
      have b2 : (m : Int) < (T'.2.2.length : Int) := by omega
      have hks : mn ≤ (its c).length := (hs.2.2 c hcm).1
      have hml : m ≤ T'.2.1.length := by omega
      have hto : (toL (h' + 1) T').reverse = (toL h' c).reverse ++ sideL true T' m := by
        have h3 := toL_at hs hcj
        rw [h3, List.drop_of_length_le (show T'.2.1.length ≤ m by omega)]
        have h4 : post ([] : List (Int × Int)) ((T'.2.2.map (toL h')).drop (m + 1)) = [] := by cases (T'.2.2.map (toL h')).drop (m + 1) <;> rfl
        rw [h4]
        simp [sideL]
      have HTO := Lib.hid hto
      have HO7 := Lib.hid how7
      have HC7 := Lib.hid hc7
      clear hn2 hnc hf7 hcj hb7 hto how7 hc7 hkl hm2
      go_wp2_with (go_at_call 162; refine (leaf_any _ (some ⟨l2.cc, 0, none⟩) _ n3).mono ?_; rintro e w' ⟨rfl, rfl⟩)
      go_quiet ((go_at_call 161; exact Calls.quiet_of (isoLoad_any t (rid c) 0 _ _ _ kc nc0 cw0)))
      refine name_prop (fun w8 => Chg (fun _ _ => False) w7 w8) ((Chg.refl _ _).drewN _) ?_
      intro w8 hc8
      go_wp2_with fail
      go_roundw
      case rel => exact ⟨h', c, (rid T', (m : Int)) :: fs, sideL true T' m ++ R, _, rfl, hT.kid hcm, (hs.2.2 c hcm).2, by omega, by omega, ⟨T', m, R, rfl, hT, hs, hit, hll, hml, HFR.out, rfl⟩, by rw [← HTOT.out, HTO.out, List.append_assoc], HIT.out.chg hc8 (fun _ h => h), by rw [List.reverse_cons]; exact HO7.out.keep hc8, HC7.out.trans' hc8 (fun _ _ _ h => h) (fun _ _ _ h => h.elim)⟩
      case measure => rw [m1, m2]; exact hgt
end Go.Proofs.Ytjggkpmlffhjgaa
