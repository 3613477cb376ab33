/- What an iterator over a set does, step by step. -/
import Derived.Test.YtjggkpmlffhjgaaIb
import Derived.Test.YtjggkpmlffhjgaaIc
import Derived.Test.YtjggkpmlffhjgaaId
import Derived.Test.YtjggkpmlffhjgaaIe
import Derived.Test.YtjggkpmlffhjgaaIf
namespace Go.Proofs.Ytjggkpmlffhjgaa
set_option linter.unusedSimpArgs false
set_option linter.unusedVariables false
open Go.RowKit

set_option maxRecDepth 100000 in
theorem first_none {w : World} {t ib base : Nat} {X : Nat → Prop} {k : Int} (hB : MapBlk 0 0 0 w t none 0) (hit : ItAt w ib t false false false (.slice none 0 0) k) (htb : t < base) (hti : t ≠ ib) :
    Calls Try.prog 126 #[.pointer (some ⟨ib, 0, none⟩)] w fun e w' => e = .returned (.bool false) ∧ (∃ sk a e st k, ItAt w' ib t sk a e st k) ∧ Chg (ItCh ib base X) w w' := by
  have HIT := Lib.hid hit
  have HB := Lib.hid hB
  have e0 := HIT.out.c0
  have e1 := HIT.out.c1
  have e2 := HIT.out.c2
  have e3 := HIT.out.c3
  have e4 := HIT.out.c4
  have e5 := HIT.out.c5
  have z2 := HIT.out.fz 2
  have z3 := HIT.out.fz 3
  have z4 := HIT.out.fz 4
  have z5 := HIT.out.fz 5
  clear hit hB
  go_enter Try.func126, Try.ntmps126
  go_upto_region 4 with fail
  refine name_world (fun wz => ItAt wz ib t false false false (.slice none 0 0) k ∧ Chg (ItCh ib base X) w wz) ⟨HIT.out.put4 _, (Chg.refl _ _).setCell (Or.inl (show ItCh ib base X _ _ from Or.inl rfl)) _⟩ ?_
  rintro w1 ⟨hitn, hc1⟩
  replace HIT := Lib.hid hitn
  clear hitn
  clear e0 e1 e2 e3 e4 e5 z2 z3 z4 z5
  have e0 := HIT.out.c0
  have e1 := HIT.out.c1
  have e2 := HIT.out.c2
  have e3 := HIT.out.c3
  have e4 := HIT.out.c4
  have e5 := HIT.out.c5
  have z2 := HIT.out.fz 2
  have z3 := HIT.out.fz 3
  have z4 := HIT.out.fz 4
  have z5 := HIT.out.fz 5
  go_upto_region 5 with fail
  refine name_world (fun wz => ItAt wz ib t false false false (.slice none 0 0) k ∧ Chg (ItCh ib base X) w wz) ⟨HIT.out.put3 _, (hc1).setCell (Or.inl (show ItCh ib base X _ _ from Or.inl rfl)) _⟩ ?_
  rintro w2 ⟨hitn, hc2⟩
  replace HIT := Lib.hid hitn
  clear hitn
  clear e0 e1 e2 e3 e4 e5 z2 z3 z4 z5
  have e0 := HIT.out.c0
  have e1 := HIT.out.c1
  have e2 := HIT.out.c2
  have e3 := HIT.out.c3
  have e4 := HIT.out.c4
  have e5 := HIT.out.c5
  have z2 := HIT.out.fz 2
  have z3 := HIT.out.fz 3
  have z4 := HIT.out.fz 4
  have z5 := HIT.out.fz 5
  go_upto_region 6 with fail
  refine name_world (fun wz => ItAt wz ib t true false false (.slice none 0 0) k ∧ Chg (ItCh ib base X) w wz) ⟨HIT.out.put2 _, (hc2).setCell (Or.inl (show ItCh ib base X _ _ from Or.inl rfl)) _⟩ ?_
  rintro w3 ⟨hitn, hc3⟩
  replace HIT := Lib.hid hitn
  clear hitn
  clear e0 e1 e2 e3 e4 e5 z2 z3 z4 z5
  have e0 := HIT.out.c0
  have e1 := HIT.out.c1
  have e2 := HIT.out.c2
  have e3 := HIT.out.c3
  have e4 := HIT.out.c4
  have e5 := HIT.out.c5
  have z2 := HIT.out.fz 2
  have z3 := HIT.out.fz 3
  have z4 := HIT.out.fz 4
  have z5 := HIT.out.fz 5
  go_upto_region 7 with fail
  refine name_world (fun wz => ItAt wz ib t true false false (.slice none 0 0) k ∧ Chg (ItCh ib base X) w wz) ⟨HIT.out.put5 _, (hc3).setCell (Or.inl (show ItCh ib base X _ _ from Or.inl rfl)) _⟩ ?_
  rintro w4 ⟨hitn, hc4⟩
  replace HIT := Lib.hid hitn
  clear hitn
  clear e0 e1 e2 e3 e4 e5 z2 z3 z4 z5
  have e0 := HIT.out.c0
  have e1 := HIT.out.c1
  have e2 := HIT.out.c2
  have e3 := HIT.out.c3
  have e4 := HIT.out.c4
  have e5 := HIT.out.c5
  have z2 := HIT.out.fz 2
  have z3 := HIT.out.fz 3
  have z4 := HIT.out.fz 4
  have z5 := HIT.out.fz 5
  have hB4 := HB.out.chg hc4 (fun b _ hb h => by
    have hb' : b = t := hb
    rcases h with h | h <;> omega)
  have b2 : w4.cell? ⟨t, 2, none⟩ = some (.pointer none) := hB4.c2
  go_wp2_with fail
  go_ret
  exact ⟨rfl, ⟨_, _, _, _, _, HIT.out⟩, hc4⟩

set_option maxRecDepth 100000 in
theorem last_none {w : World} {t ib base : Nat} {X : Nat → Prop} {k : Int} (hB : MapBlk 0 0 0 w t none 0) (hit : ItAt w ib t false false false (.slice none 0 0) k) (htb : t < base) (hti : t ≠ ib) :
    Calls Try.prog 122 #[.pointer (some ⟨ib, 0, none⟩)] w fun e w' => e = .returned (.bool false) ∧ (∃ sk a e st k, ItAt w' ib t sk a e st k) ∧ Chg (ItCh ib base X) w w' := by
  have HIT := Lib.hid hit
  have HB := Lib.hid hB
  have e0 := HIT.out.c0
  have e1 := HIT.out.c1
  have e2 := HIT.out.c2
  have e3 := HIT.out.c3
  have e4 := HIT.out.c4
  have e5 := HIT.out.c5
  have z2 := HIT.out.fz 2
  have z3 := HIT.out.fz 3
  have z4 := HIT.out.fz 4
  have z5 := HIT.out.fz 5
  clear hit hB
  go_enter Try.func122, Try.ntmps122
  go_upto_region 4 with fail
  refine name_world (fun wz => ItAt wz ib t true false false (.slice none 0 0) k ∧ Chg (ItCh ib base X) w wz) ⟨HIT.out.put2 _, (Chg.refl _ _).setCell (Or.inl (show ItCh ib base X _ _ from Or.inl rfl)) _⟩ ?_
  rintro w3 ⟨hitn, hc3⟩
  replace HIT := Lib.hid hitn
  clear hitn
  clear e0 e1 e2 e3 e4 e5 z2 z3 z4 z5
  have e0 := HIT.out.c0
  have e1 := HIT.out.c1
  have e2 := HIT.out.c2
  have e3 := HIT.out.c3
  have e4 := HIT.out.c4
  have e5 := HIT.out.c5
  have z2 := HIT.out.fz 2
  have z3 := HIT.out.fz 3
  have z4 := HIT.out.fz 4
  have z5 := HIT.out.fz 5
  go_upto_region 5 with fail
  refine name_world (fun wz => ItAt wz ib t true false false (.slice none 0 0) k ∧ Chg (ItCh ib base X) w wz) ⟨HIT.out.put5 _, (hc3).setCell (Or.inl (show ItCh ib base X _ _ from Or.inl rfl)) _⟩ ?_
  rintro w4 ⟨hitn, hc4⟩
  replace HIT := Lib.hid hitn
  clear hitn
  clear e0 e1 e2 e3 e4 e5 z2 z3 z4 z5
  have e0 := HIT.out.c0
  have e1 := HIT.out.c1
  have e2 := HIT.out.c2
  have e3 := HIT.out.c3
  have e4 := HIT.out.c4
  have e5 := HIT.out.c5
  have z2 := HIT.out.fz 2
  have z3 := HIT.out.fz 3
  have z4 := HIT.out.fz 4
  have z5 := HIT.out.fz 5
  have hB4 := HB.out.chg hc4 (fun b _ hb h => by
    have hb' : b = t := hb
    rcases h with h | h <;> omega)
  have b2 : w4.cell? ⟨t, 2, none⟩ = some (.pointer none) := hB4.c2
  go_wp2_with fail
  go_ret
  exact ⟨rfl, ⟨_, _, _, _, _, HIT.out⟩, hc4⟩

theorem ItOn.move {X X' : Nat → Prop} {w w' : World} {H : Nat → Option (NodeR (Int × Int))} {mn mx h0 : Nat} {d : Bool} {ib t base : Nat} {y : Int × Int} {R : List (Int × Int)} (h : ItOn X w H mn mx h0 d ib t base y R) (c : Chg (fun b _ => X b) w w') (hib : ¬ X ib) (hX' : ∀ b, X' b → X b ∨ w.heap.size ≤ b) : ItOn X' w' H mn mx h0 d ib t base y R := by
  obtain ⟨fs, st, hia, ⟨ho, hn⟩, hcur⟩ := h
  exact ⟨fs, st, hia.chg c (fun _ => hib), ⟨ho.chgOwn c (fun b _ hb => hn b hb), fun b hb hx => (hX' b hx).elim (hn b hb) (fun h => by have := (ho.own_lt hb).2; omega)⟩, hcur⟩

/-- What the steps of an iterator give: n items L, then the end. St j X: behind j steps, the blocks X left alone. -/
structure Steps (d : Bool) (fB fN : Nat) (L : List (Int × Int)) (w0 : World) (t ib base : Nat) (St : Nat → (Nat → Prop) → World → Prop) : Prop where
  start : ∀ X, St 0 X w0
  step : ∀ (j : Nat) (X : Nat → Prop) (w : World), j ≤ L.length → Chg (fun b _ => b = ib) w0 w → (∀ b, X b → b < w.heap.size) → St j X w →
    Calls Try.prog (if j = 0 then fB else fN) #[.pointer (some ⟨ib, 0, none⟩)] w fun e w' => e = .returned (.bool (decide (j < L.length))) ∧ St (j + 1) X w' ∧ (∃ sk a e' st k, ItAt w' ib t sk a e' st k ∧ ∀ y, L[j]? = some y → k = y.1) ∧ Chg (ItCh ib base X) w w'
  move : ∀ (j : Nat) (X X' : Nat → Prop) (w w' : World), St j X w → Chg (fun b _ => X b) w w' → ¬ X ib → (∀ b, X' b → X b ∨ w.heap.size ≤ b) → St j X' w'

theorem steps_fwd {w0 : World} {F : Nat → Prop} {t ib : Nat} {l : List (Int × Int)} (hM : MapIn 31 63 w0 F t l) (hit : ItAt w0 ib t false false false (.slice none 0 0) 0) (hF : ∀ b, F b → b ≠ ib) (hti : t ≠ ib) (hlen : l.length ≤ 1000000000000) :
    ∃ St, Steps false 80 77 (turnL false l) w0 t ib w0.heap.size St := by
  have hlt : t < w0.heap.size := hM.own MOwn.self
  have hli := hit.lt
  rcases hM with ⟨rfl, _, hB⟩ | ⟨H, h, T, hI, hB, rfl, h1⟩
  · refine ⟨fun j X w => (j = 0 ∧ ItAt w ib t false false false (.slice none 0 0) 0) ∨ (j = 1 ∧ ∃ sk a e st k, ItAt w ib t sk a e st k), ⟨fun X => .inl ⟨rfl, hit⟩, ?_, ?_⟩⟩
    · intro j X w hj hc hX hst
      have hl0 : (turnL false ([] : List (Int × Int))).length = 0 := rfl
      rcases hst with ⟨rfl, hia⟩ | ⟨rfl, _⟩
      · rw [if_pos rfl]
        have hB' := hB.chg hc (fun b _ hb h => hti (by have hb' : b = t := hb; rw [← hb']; exact h))
        refine (sFirst_any (first_none (X := X) hB' hia hlt hti) (fun e w' h => ⟨_, h.1⟩)).mono ?_
        rintro e w' ⟨rfl, ⟨sk, a, e', st, k, hx⟩, hch⟩
        exact ⟨rfl, .inr ⟨rfl, ⟨_, _, _, _, _, hx⟩⟩, ⟨_, _, _, _, _, hx, fun y hy => by simp [turnL] at hy⟩, hch⟩
      · rw [hl0] at hj; omega
    · intro j X X' w w' hst c hib hX'
      rcases hst with ⟨rfl, hia⟩ | ⟨rfl, sk, a, e, st, k, hia⟩
      · exact .inl ⟨rfl, hia.chg c (fun _ => hib)⟩
      · exact .inr ⟨rfl, _, _, _, _, _, hia.chg c (fun _ => hib)⟩
  · have hpos : 1 ≤ (toL h T).length := by have := height_lt (by omega : 1 ≤ 31) hI.sh h1; omega
    have hll : (turnL false (toL h T)).length = (toL h T).length := by simp [turnL]
    have hFb : ∀ b, F b → b < w0.heap.size ∧ b ≠ ib := fun b hb => ⟨hI.fam.lt hb, hF b hb⟩
    have hIc : ∀ w, Chg (fun b _ => b = ib) w0 w → TreeIn 0 31 63 w F H t h T ∧ MapBlk 0 31 63 w t (some (rid T)) (toL h T).length := fun w c => by
      have g1 : ∀ b (o : Nat), F b → ¬ (b = ib) := fun b _ hb => hF b hb
      have g2 : ∀ b (o : Nat), MOwn 0 t b → ¬ (b = ib) := fun b _ hb h => hti (by have hb' : b = t := hb; rw [← hb']; exact h)
      exact ⟨⟨hI.fam.chg c g1, hI.map.chg c g2, hI.out, hI.isT, hI.nd, hI.sh, hI.srt, hI.big, hI.m3, hI.m1000, hI.mh, hI.mh2⟩, hB.chg c g2⟩
    refine ⟨fun j X w => (j = 0 ∧ ItAt w ib t false false false (.slice none 0 0) 0) ∨ (∃ y, 1 ≤ j ∧ (turnL false (toL h T))[j - 1]? = some y ∧ ItOn X w H 31 63 h false ib t w0.heap.size y ((turnL false (toL h T)).drop j)) ∨ (j = (toL h T).length + 1 ∧ ∃ sk a e st k, ItAt w ib t sk a e st k), ⟨fun X => .inl ⟨rfl, hit⟩, ?_, ?_⟩⟩
    · intro j X w hj hc hX hst
      obtain ⟨hI', hB'⟩ := hIc w hc
      rcases hst with ⟨rfl, hia⟩ | ⟨y, hj1, hy, hon⟩ | ⟨rfl, _⟩
      · rw [if_pos rfl]
        refine (sFirst_any (first_any (X := X) hI' hB' h1 (by omega) hlen hia hFb hlt hti hli hc.size hX) (fun e w' h => by
          rcases h with ⟨_, _, _, h, _⟩ | ⟨_, h, _⟩
          · exact ⟨_, h⟩
          · exact ⟨_, h⟩)).mono ?_
        rintro e w' (⟨y, R', hR, rfl, hon, hch⟩ | ⟨hR, _⟩)
        · have hR' : turnL false (toL h T) = y :: R' := hR
          have hon' := hon
          obtain ⟨fs, st, hia', _, _⟩ := hon'
          refine ⟨by rw [decide_eq_true (by omega : 0 < (turnL false (toL h T)).length)], .inr (.inl ⟨y, Nat.le_refl _, by rw [hR']; rfl, by rw [hR']; exact hon⟩), ⟨_, _, _, _, _, hia', fun z hz => by rw [hR'] at hz; rw [← Option.some.inj hz]⟩, hch⟩
        · exfalso
          have hR' : turnL false (toL h T) = [] := hR
          rw [hR'] at hll
          simp at hll; omega
      · rw [if_neg (by omega)]
        refine (sNext_any (next_any (X := X) hI' hB' h1 (by omega) hlen hon hFb hlt hti hli hc.size hX) (fun e w' h => by
          rcases h with ⟨_, _, _, h, _⟩ | ⟨_, h, _⟩
          · exact ⟨_, h⟩
          · exact ⟨_, h⟩)).mono ?_
        rintro e w' (⟨y', R', hR, rfl, hon', hch⟩ | ⟨hR, rfl, ⟨sk, a, e', st, k, hx⟩, hch⟩)
        · have hjl : j < (turnL false (toL h T)).length := by
            rcases Nat.lt_or_ge j (turnL false (toL h T)).length with h | h
            · exact h
            · rw [List.drop_of_length_le h] at hR; cases hR
          have hg : (turnL false (toL h T))[j]? = some y' := by
            have := congrArg (fun l : List (Int × Int) => l[0]?) hR
            simpa using this
          have hd : (turnL false (toL h T)).drop (j + 1) = R' := by
            have h2 := dropc hg
            rw [hR] at h2
            injection h2 with _ h2
            exact h2.symm
          have hon2 := hon'
          obtain ⟨fs, st, hia', _, _⟩ := hon2
          refine ⟨by rw [decide_eq_true hjl], .inr (.inl ⟨y', by omega, by rw [Nat.add_sub_cancel]; exact hg, by rw [hd]; exact hon'⟩), ⟨_, _, _, _, _, hia', fun z hz => by rw [hg] at hz; rw [← Option.some.inj hz]⟩, hch⟩
        · have hjl : ¬ j < (turnL false (toL h T)).length := fun hj9 => by
            have := List.length_drop (i := j) (l := turnL false (toL h T))
            rw [hR] at this
            simp at this; omega
          refine ⟨by rw [decide_eq_false hjl], .inr (.inr ⟨by omega, _, _, _, _, _, hx⟩), ⟨_, _, _, _, _, hx, fun z hz => by rw [List.getElem?_eq_none (by omega)] at hz; cases hz⟩, hch⟩
      · omega
    · intro j X X' w w' hst c hib hX'
      rcases hst with ⟨rfl, hia⟩ | ⟨y, hj1, hy, hon⟩ | ⟨rfl, sk, a, e, st, k, hia⟩
      · exact .inl ⟨rfl, hia.chg c (fun _ => hib)⟩
      · exact .inr (.inl ⟨y, hj1, hy, hon.move c hib hX'⟩)
      · exact .inr (.inr ⟨rfl, _, _, _, _, _, hia.chg c (fun _ => hib)⟩)

theorem steps_bwd {w0 : World} {F : Nat → Prop} {t ib : Nat} {l : List (Int × Int)} (hM : MapIn 31 63 w0 F t l) (hit : ItAt w0 ib t false false false (.slice none 0 0) 0) (hF : ∀ b, F b → b ≠ ib) (hti : t ≠ ib) (hlen : l.length ≤ 1000000000000) :
    ∃ St, Steps true 76 78 (turnL true l) w0 t ib w0.heap.size St := by
  have hlt : t < w0.heap.size := hM.own MOwn.self
  have hli := hit.lt
  rcases hM with ⟨rfl, _, hB⟩ | ⟨H, h, T, hI, hB, rfl, h1⟩
  · refine ⟨fun j X w => (j = 0 ∧ ItAt w ib t false false false (.slice none 0 0) 0) ∨ (j = 1 ∧ ∃ sk a e st k, ItAt w ib t sk a e st k), ⟨fun X => .inl ⟨rfl, hit⟩, ?_, ?_⟩⟩
    · intro j X w hj hc hX hst
      have hl0 : (turnL true ([] : List (Int × Int))).length = 0 := rfl
      rcases hst with ⟨rfl, hia⟩ | ⟨rfl, _⟩
      · rw [if_pos rfl]
        have hB' := hB.chg hc (fun b _ hb h => hti (by have hb' : b = t := hb; rw [← hb']; exact h))
        refine (sLast_any (last_none (X := X) hB' hia hlt hti) (fun e w' h => ⟨_, h.1⟩)).mono ?_
        rintro e w' ⟨rfl, ⟨sk, a, e', st, k, hx⟩, hch⟩
        exact ⟨rfl, .inr ⟨rfl, ⟨_, _, _, _, _, hx⟩⟩, ⟨_, _, _, _, _, hx, fun y hy => by simp [turnL] at hy⟩, hch⟩
      · rw [hl0] at hj; omega
    · intro j X X' w w' hst c hib hX'
      rcases hst with ⟨rfl, hia⟩ | ⟨rfl, sk, a, e, st, k, hia⟩
      · exact .inl ⟨rfl, hia.chg c (fun _ => hib)⟩
      · exact .inr ⟨rfl, _, _, _, _, _, hia.chg c (fun _ => hib)⟩
  · have hpos : 1 ≤ (toL h T).length := by have := height_lt (by omega : 1 ≤ 31) hI.sh h1; omega
    have hll : (turnL true (toL h T)).length = (toL h T).length := by simp [turnL]
    have hFb : ∀ b, F b → b < w0.heap.size ∧ b ≠ ib := fun b hb => ⟨hI.fam.lt hb, hF b hb⟩
    have hIc : ∀ w, Chg (fun b _ => b = ib) w0 w → TreeIn 0 31 63 w F H t h T ∧ MapBlk 0 31 63 w t (some (rid T)) (toL h T).length := fun w c => by
      have g1 : ∀ b (o : Nat), F b → ¬ (b = ib) := fun b _ hb => hF b hb
      have g2 : ∀ b (o : Nat), MOwn 0 t b → ¬ (b = ib) := fun b _ hb h => hti (by have hb' : b = t := hb; rw [← hb']; exact h)
      exact ⟨⟨hI.fam.chg c g1, hI.map.chg c g2, hI.out, hI.isT, hI.nd, hI.sh, hI.srt, hI.big, hI.m3, hI.m1000, hI.mh, hI.mh2⟩, hB.chg c g2⟩
    refine ⟨fun j X w => (j = 0 ∧ ItAt w ib t false false false (.slice none 0 0) 0) ∨ (∃ y, 1 ≤ j ∧ (turnL true (toL h T))[j - 1]? = some y ∧ ItOn X w H 31 63 h true ib t w0.heap.size y ((turnL true (toL h T)).drop j)) ∨ (j = (toL h T).length + 1 ∧ ∃ sk a e st k, ItAt w ib t sk a e st k), ⟨fun X => .inl ⟨rfl, hit⟩, ?_, ?_⟩⟩
    · intro j X w hj hc hX hst
      obtain ⟨hI', hB'⟩ := hIc w hc
      rcases hst with ⟨rfl, hia⟩ | ⟨y, hj1, hy, hon⟩ | ⟨rfl, _⟩
      · rw [if_pos rfl]
        refine (sLast_any (last_any (X := X) hI' hB' h1 (by omega) hlen hia hFb hlt hti hli hc.size hX) (fun e w' h => by
          rcases h with ⟨_, _, _, h, _⟩ | ⟨_, h, _⟩
          · exact ⟨_, h⟩
          · exact ⟨_, h⟩)).mono ?_
        rintro e w' (⟨y, R', hR, rfl, hon, hch⟩ | ⟨hR, _⟩)
        · have hR' : turnL true (toL h T) = y :: R' := hR
          have hon' := hon
          obtain ⟨fs, st, hia', _, _⟩ := hon'
          refine ⟨by rw [decide_eq_true (by omega : 0 < (turnL true (toL h T)).length)], .inr (.inl ⟨y, Nat.le_refl _, by rw [hR']; rfl, by rw [hR']; exact hon⟩), ⟨_, _, _, _, _, hia', fun z hz => by rw [hR'] at hz; rw [← Option.some.inj hz]⟩, hch⟩
        · exfalso
          have hR' : turnL true (toL h T) = [] := hR
          rw [hR'] at hll
          simp at hll; omega
      · rw [if_neg (by omega)]
        refine (sPrev_any (prev_any (X := X) hI' hB' h1 (by omega) hlen hon hFb hlt hti hli hc.size hX) (fun e w' h => by
          rcases h with ⟨_, _, _, h, _⟩ | ⟨_, h, _⟩
          · exact ⟨_, h⟩
          · exact ⟨_, h⟩)).mono ?_
        rintro e w' (⟨y', R', hR, rfl, hon', hch⟩ | ⟨hR, rfl, ⟨sk, a, e', st, k, hx⟩, hch⟩)
        · have hjl : j < (turnL true (toL h T)).length := by
            rcases Nat.lt_or_ge j (turnL true (toL h T)).length with h | h
            · exact h
            · rw [List.drop_of_length_le h] at hR; cases hR
          have hg : (turnL true (toL h T))[j]? = some y' := by
            have := congrArg (fun l : List (Int × Int) => l[0]?) hR
            simpa using this
          have hd : (turnL true (toL h T)).drop (j + 1) = R' := by
            have h2 := dropc hg
            rw [hR] at h2
            injection h2 with _ h2
            exact h2.symm
          have hon2 := hon'
          obtain ⟨fs, st, hia', _, _⟩ := hon2
          refine ⟨by rw [decide_eq_true hjl], .inr (.inl ⟨y', by omega, by rw [Nat.add_sub_cancel]; exact hg, by rw [hd]; exact hon'⟩), ⟨_, _, _, _, _, hia', fun z hz => by rw [hg] at hz; rw [← Option.some.inj hz]⟩, hch⟩
        · have hjl : ¬ j < (turnL true (toL h T)).length := fun hj9 => by
            have := List.length_drop (i := j) (l := turnL true (toL h T))
            rw [hR] at this
            simp at this; omega
          refine ⟨by rw [decide_eq_false hjl], .inr (.inr ⟨by omega, _, _, _, _, _, hx⟩), ⟨_, _, _, _, _, hx, fun z hz => by rw [List.getElem?_eq_none (by omega)] at hz; cases hz⟩, hch⟩
      · omega
    · intro j X X' w w' hst c hib hX'
      rcases hst with ⟨rfl, hia⟩ | ⟨y, hj1, hy, hon⟩ | ⟨rfl, sk, a, e, st, k, hia⟩
      · exact .inl ⟨rfl, hia.chg c (fun _ => hib)⟩
      · exact .inr (.inl ⟨y, hj1, hy, hon.move c hib hX'⟩)
      · exact .inr (.inr ⟨rfl, _, _, _, _, _, hia.chg c (fun _ => hib)⟩)
end Go.Proofs.Ytjggkpmlffhjgaa
