/- The search in a node, by the function less. -/
import Derived.Test.YtojplcbkiogcpaaWb
namespace Go.Proofs.Ytojplcbkiogcpaa
set_option linter.unusedSimpArgs false
set_option linter.unusedVariables false
open Go.RowKit
variable {ord : List Int} {k : Kc ord}

def SrchN (xs : List (It ord)) (x : It ord) (w : World) (e : Ending) (w' : World) : Prop :=
  ∃ (i : Nat) (f : Bool), e = .returned (.tuple #[.int .i64 i, .bool f]) ∧ Chg (fun _ _ => False) w w' ∧ ((f = true ∧ ∃ y, HitAt ltM xs x i y) ∨ (f = false ∧ PosAt ltM xs x i))

set_option maxRecDepth 100000 in
set_option maxHeartbeats 2000000 in
theorem search_node {k : Kc ord} {mn mx : Nat} {w : World} {n : Nat} {r : NodeR (It ord)} {l : Lay} (t : Nat) (x : It ord) (hm : MapAt k mn mx w t) (h : NodeAt (parM k) w n r l) (hs : Srt ltM r.items) (hlen : r.items.length ≤ 1000000) :
    Calls Try.prog 127 #[.pointer (some ⟨t, 0, none⟩), .pointer (some ⟨n, 0, none⟩), aggM x] w (SrchN r.items x w) := by
  have H := Lib.hid h
  have HM := Lib.hid hm
  have hsl : ∀ (i j : Nat) (a b : It ord), i < j → r.items[i]? = some a → r.items[j]? = some b → ltM a b = true := by
    intro i j a b hij ha hb
    obtain ⟨hi, rfl⟩ := List.getElem?_eq_some_iff.1 ha
    obtain ⟨hj, rfl⟩ := List.getElem?_eq_some_iff.1 hb
    exact List.pairwise_iff_getElem.1 hs i j hi hj hij
  have HS := Lib.hid hsl
  obtain ⟨N, hN⟩ : ∃ N, r.items.length = N := ⟨_, rfl⟩
  have HN := Lib.hid hN
  rw [hN] at hlen
  have n2 := h.c2
  rw [hN] at n2
  clear h hm hs hsl hN
  unfold aggM
  go_enter Try.func127, Try.ntmps127
  go_wp2
  refine name_world (fun w1 => Chg (fun _ _ => False) w w1 ∧ w1.heap[w.heap.size]? = some (.cells #[.int .i64 x.1, .int .i64 x.2] 26 (0, 0))) ⟨(Chg.refl _ _).alloc _, ha_at _ _ rfl⟩ ?_
  rintro w1 ⟨hc1, hb1⟩
  replace n2 := hc1.cell (fun h => h) n2
  have HB1 := Lib.hid hb1
  clear hb1
  go_quiet (fail)
  go_wp2
  go_loopw [8, 9, 10] (fun lo hi hh wr => ∃ l h' : Nat, l ≤ h' ∧ h' ≤ N ∧ lo = .int .i64 l ∧ hi = .int .i64 h' ∧ (∀ j y, j < l → r.items[j]? = some y → ltM x y = false) ∧ (∀ j y, h' ≤ j → r.items[j]? = some y → ltM x y = true) ∧ Chg (fun _ _ => False) w1 wr)
    (fun lo hi _ _ => (intOf hi).toNat - (intOf lo).toNat)
  case atStart => exact ⟨0, N, Nat.zero_le _, Nat.le_refl _, rfl, rfl, by omega, fun j y h1 h2 => by have := (List.getElem?_eq_some_iff.1 h2).1; have := HN.out; omega, (Chg.refl _ _).drewN _⟩
  case round =>
    obtain ⟨lo, hi, hlh, hh, rfl, rfl, hA, hB, hc⟩ := hrel
    have HA := Lib.hid hA
    have HB := Lib.hid hB
    clear hA hB
    have hbr : wr.heap[w.heap.size]? = some (.cells #[.int .i64 x.1, .int .i64 x.2] 26 (0, 0)) := by rw [hc.block (heap_lt HB1.out) (fun _ h => h)]; exact HB1.out
    have q0 := cell_of_block hbr 0
    have q1 := cell_of_block hbr 1
    simp only [List.getElem?_toArray, List.getElem?_cons_zero, List.getElem?_cons_succ] at q0 q1
    have m2 := hc.cell (fun h => h) n2
    have c6 := (HM.out.chg (hc1.trans hc) (fun _ _ _ h => h)).c6l
    have HO := Lib.hid (HM.out.chg (hc1.trans hc) (fun _ _ _ h => h)).ord
    have hnr := H.out.chg (hc1.trans hc) (fun _ _ _ h => h)
    unfold lessV at c6
    clear hbr
    by_cases hlt : lo < hi
    · obtain ⟨y, hy⟩ : ∃ y, r.items[(lo + hi) / 2]? = some y := ⟨_, List.getElem?_eq_getElem (by have := HN.out; omega)⟩
      have iv := hnr.mval hy
      have ik := hnr.mkey hy
      have HY := Lib.hid hy
      clear hnr hy
      have s1 : (0 : Int) ≤ ((lo : Int) + (hi : Int)) / 2 := by omega
      have s2 : ((lo : Int) + (hi : Int)) / 2 < (N : Int) := by omega
      have s3 : (((lo : Int) + (hi : Int)) / 2).toNat = (lo + hi) / 2 := by omega
      go_wp2_with fail
      refine wp_region_scr (fun w' => w'.cell? ⟨t, 6, none⟩ = some (.func (.func 110) #[] #[.pointer (some ⟨k.ob, 0, none⟩)]) ∧ w'.cell? ⟨w.heap.size, 0, none⟩ = some (.int .i64 x.1) ∧ w'.cell? ⟨w.heap.size, 1, none⟩ = some (.int .i64 x.2) ∧ w'.cell? ⟨n, 2, none⟩ = some (.slice (some ⟨l.ib, l.io, none⟩) N l.ic) ∧ w'.cell? ⟨l.ib, l.io + ((lo + hi) / 2) * 2, none⟩ = some (.int .i64 y.1) ∧ w'.cell? ⟨l.ib, l.io + ((lo + hi) / 2) * 2 + 1, none⟩ = some (.int .i64 y.2)) (.soft 0 (.soft 1 (.soft 2 (.soft 3 (.soft 4 (.soft 5 (.soft 6 (.soft 7 (.soft 8 (.soft 9 (.soft 10 (.soft 11 (.hard 12 (.soft 13 .nil)))))))))))))) (by kernel_rfl) (by kernel_rfl) (fun _ _ _ _ _ h => h) ⟨c6, q0, q1, m2, iv, ik⟩ ?_
      repeat
        first
        | (refine scr_soft (by rfl) ?_ ?_ ?_ ?_
           rotate_left
           · simp [Region.wanted, yielded]; done
           · intro w' hS
             try obtain ⟨a1, a2, a3, a4, a5, a6⟩ := hS
             go_simp
             try with_reducible rfl
           simp only [Act.put, List.setIfInBounds_toArray, List.set_cons_zero, List.set_cons_succ])
        | (refine scr_skip (by rfl) ?_ ?_
           · simp [Region.wanted, yielded]; done
           simp only [Act.put, List.setIfInBounds_toArray, List.set_cons_zero, List.set_cons_succ])
      refine scr_hard (by rfl) (by simp [Region.wanted, yielded]) (fun K hK => ?_)
      go_simp
      refine (less_any x y _ (HO.out.chg (Chg.refl (fun _ _ => False) _).drew (fun _ h => h) (fun _ h => h))).mono ?_
      rintro e w2 ⟨rfl, hc2⟩
      refine hK _ _ ⟨hc2.cell (fun h => h) c6, hc2.cell (fun h => h) q0, hc2.cell (fun h => h) q1, hc2.cell (fun h => h) m2, hc2.cell (fun h => h) iv, hc2.cell (fun h => h) ik⟩ ?_
      clear hK K
      repeat
        first
        | (refine scr_soft (by rfl) ?_ ?_ ?_ ?_
           rotate_left
           · simp [Region.wanted, yielded]; done
           · intro w' hS
             try obtain ⟨a1, a2, a3, a4, a5, a6⟩ := hS
             go_simp
             try with_reducible rfl
           simp only [Act.put, List.setIfInBounds_toArray, List.set_cons_zero, List.set_cons_succ])
        | (refine scr_skip (by rfl) ?_ ?_
           · simp [Region.wanted, yielded]; done
           simp only [Act.put, List.setIfInBounds_toArray, List.set_cons_zero, List.set_cons_succ])
      refine scr_nil ?_
      replace hc2 : Chg (fun _ _ => False) wr w2 := (Chg.refl _ _).drew.trans hc2
      cases hlxy : ltM x y
      · go_wp2_with fail
        go_roundw
        case rel =>
          refine ⟨(lo + hi) / 2 + 1, hi, by omega, hh, by go_num, rfl, ?_, HB.out, hc.trans hc2⟩
          intro j z hj hz
          rcases Nat.lt_or_ge j ((lo + hi) / 2) with hj' | hj'
          · have h1 := HS.out j _ z y hj' hz HY.out
            cases h2 : ltM x z
            · rfl
            · have := swoM.trans h2 h1; rw [hlxy] at this; cases this
          · have : j = (lo + hi) / 2 := by omega
            subst this
            rw [HY.out] at hz
            obtain rfl := Option.some.inj hz
            exact hlxy
        case measure => simp [intOf]; omega
      · go_wp2_with fail
        go_roundw
        case rel =>
          refine ⟨lo, (lo + hi) / 2, by omega, by omega, rfl, by go_num, HA.out, ?_, hc.trans hc2⟩
          intro j z hj hz
          rcases Nat.lt_or_ge ((lo + hi) / 2) j with hj' | hj'
          · exact swoM.trans hlxy (HS.out _ j y z hj' HY.out hz)
          · have : j = (lo + hi) / 2 := by omega
            subst this
            rw [HY.out] at hz
            obtain rfl := Option.some.inj hz
            exact hlxy
        case measure => simp [intOf]; omega
    · have hl : lo = hi := by omega
      subst hl
      rcases Nat.eq_zero_or_pos lo with h0 | h0
      · subst h0
        have hgt : decide ((0 : Int) < ((0 : Nat) : Int)) = false := by simp
        go_wp2_with fail
        refine wp_region_scr (fun w' => True) (.soft 0 (.soft 1 (.soft 2 (.soft 3 (.soft 4 (.soft 5 (.soft 6 (.soft 7 (.soft 8 (.soft 9 (.soft 10 (.soft 11 (.soft 12 (.soft 13 (.soft 14 (.soft 15 (.hard 16 (.soft 17 (.soft 18 .nil))))))))))))))))))) (by kernel_rfl) (by kernel_rfl) (fun _ _ _ _ _ h => h) trivial ?_
        repeat
          first
          | (refine scr_soft (by rfl) ?_ ?_ ?_ ?_
             rotate_left
             · simp [Region.wanted, yielded]; done
             · intro w' hS
               try obtain ⟨a1⟩ := hS
               go_simp
               try with_reducible rfl
             simp only [Act.put, List.setIfInBounds_toArray, List.set_cons_zero, List.set_cons_succ])
          | (refine scr_skip (by rfl) ?_ ?_
             · simp [Region.wanted, yielded]; done
             simp only [Act.put, List.setIfInBounds_toArray, List.set_cons_zero, List.set_cons_succ])
        refine scr_hard_skip (by rfl) (by simp [Region.wanted, yielded]) ?_
        simp only [Act.put, List.setIfInBounds_toArray, List.set_cons_zero, List.set_cons_succ]
        repeat
          first
          | (refine scr_soft (by rfl) ?_ ?_ ?_ ?_
             rotate_left
             · simp [Region.wanted, yielded]; done
             · intro w' hS
               try obtain ⟨a1⟩ := hS
               go_simp
               try with_reducible rfl
             simp only [Act.put, List.setIfInBounds_toArray, List.set_cons_zero, List.set_cons_succ])
          | (refine scr_skip (by rfl) ?_ ?_
             · simp [Region.wanted, yielded]; done
             simp only [Act.put, List.setIfInBounds_toArray, List.set_cons_zero, List.set_cons_succ])
        refine scr_nil ?_
        go_wp2_with fail
        go_ret2
        exact ⟨0, false, rfl, hc1.trans hc.drew, .inr ⟨rfl, Nat.zero_le _, fun j y h => by omega, HB.out⟩⟩
      · obtain ⟨y, hy⟩ : ∃ y, r.items[lo - 1]? = some y := ⟨_, List.getElem?_eq_getElem (by have := HN.out; omega)⟩
        have iv := hnr.mval hy
        have ik := hnr.mkey hy
        have HY := Lib.hid hy
        clear hnr hy
        have hgt : decide ((0 : Int) < (lo : Int)) = true := by simpa using h0
        have hcast : ((lo - 1 : Nat) : Int) = (lo : Int) - 1 := by omega
        have hcast2 : ((lo : Int) - 1).toNat = lo - 1 := by omega
        have s1 : (0 : Int) ≤ (lo : Int) - 1 := by omega
        have s4 : (1 : Int) ≤ (lo : Int) := by omega
        have s2 : (lo : Int) - 1 < (N : Int) := by omega
        have s3 : IntKind.i64.wrap ((lo : Int) - 1) = (lo : Int) - 1 := IntWalk.i64_in _ (by omega)
        have Hc := Lib.hid hcast
        clear hcast
        go_wp2_with fail
        refine wp_region_scr (fun w' => w'.cell? ⟨t, 6, none⟩ = some (.func (.func 110) #[] #[.pointer (some ⟨k.ob, 0, none⟩)]) ∧ w'.cell? ⟨w.heap.size, 0, none⟩ = some (.int .i64 x.1) ∧ w'.cell? ⟨w.heap.size, 1, none⟩ = some (.int .i64 x.2) ∧ w'.cell? ⟨n, 2, none⟩ = some (.slice (some ⟨l.ib, l.io, none⟩) N l.ic) ∧ w'.cell? ⟨l.ib, l.io + (lo - 1) * 2, none⟩ = some (.int .i64 y.1) ∧ w'.cell? ⟨l.ib, l.io + (lo - 1) * 2 + 1, none⟩ = some (.int .i64 y.2)) (.soft 0 (.soft 1 (.soft 2 (.soft 3 (.soft 4 (.soft 5 (.soft 6 (.soft 7 (.soft 8 (.soft 9 (.soft 10 (.soft 11 (.soft 12 (.soft 13 (.soft 14 (.soft 15 (.hard 16 (.soft 17 (.soft 18 .nil))))))))))))))))))) (by kernel_rfl) (by kernel_rfl) (fun _ _ _ _ _ h => h) ⟨c6, q0, q1, m2, iv, ik⟩ ?_
        repeat
          first
          | (refine scr_soft (by rfl) ?_ ?_ ?_ ?_
             rotate_left
             · simp [Region.wanted, yielded]; done
             · intro w' hS
               try obtain ⟨a1, a2, a3, a4, a5, a6⟩ := hS
               go_simp
               try with_reducible rfl
             simp only [Act.put, List.setIfInBounds_toArray, List.set_cons_zero, List.set_cons_succ])
          | (refine scr_skip (by rfl) ?_ ?_
             · simp [Region.wanted, yielded]; done
             simp only [Act.put, List.setIfInBounds_toArray, List.set_cons_zero, List.set_cons_succ])
        refine scr_hard (by rfl) (by simp [Region.wanted, yielded]) (fun K hK => ?_)
        go_simp
        refine (less_any y x _ (HO.out.chg (Chg.refl (fun _ _ => False) _).drew (fun _ h => h) (fun _ h => h))).mono ?_
        rintro e w2 ⟨rfl, hc2⟩
        refine hK _ _ ⟨hc2.cell (fun h => h) c6, hc2.cell (fun h => h) q0, hc2.cell (fun h => h) q1, hc2.cell (fun h => h) m2, hc2.cell (fun h => h) iv, hc2.cell (fun h => h) ik⟩ ?_
        clear hK K
        repeat
          first
          | (refine scr_soft (by rfl) ?_ ?_ ?_ ?_
             rotate_left
             · simp [Region.wanted, yielded]; done
             · intro w' hS
               try obtain ⟨a1, a2, a3, a4, a5, a6⟩ := hS
               go_simp
               try with_reducible rfl
             simp only [Act.put, List.setIfInBounds_toArray, List.set_cons_zero, List.set_cons_succ])
          | (refine scr_skip (by rfl) ?_ ?_
             · simp [Region.wanted, yielded]; done
             simp only [Act.put, List.setIfInBounds_toArray, List.set_cons_zero, List.set_cons_succ])
        refine scr_nil ?_
        have hcw : Chg (fun _ _ => False) w w2 := (hc1.trans hc).trans ((Chg.refl _ _).drew.trans hc2)
        have hxy := HA.out (lo - 1) y (by omega) HY.out
        have hlast : ∀ j z, j < lo - 1 → r.items[j]? = some z → ltM z y = true := fun j z hj hz => HS.out j _ z y hj hz HY.out
        cases hlyx : ltM y x
        · go_wp2_with fail
          go_ret2
          refine ⟨lo - 1, true, by rw [Hc.out]; rfl, hcw, .inl ⟨rfl, y, HY.out, fun j z hj hz => swoM.lt_of_lt_of_nlt (hlast j z hj hz) hxy, hlyx, hxy⟩⟩
        · go_wp2_with fail
          go_ret2
          refine ⟨lo, false, rfl, hcw, .inr ⟨rfl, by have := HN.out; omega, fun j z hj hz => ?_, HB.out⟩⟩
          rcases Nat.lt_or_ge j (lo - 1) with h1 | h1
          · exact swoM.trans (hlast j z h1 hz) hlyx
          · have : j = lo - 1 := by omega
            subst this
            rw [HY.out] at hz
            obtain rfl := Option.some.inj hz
            exact hlyx
end Go.Proofs.Ytojplcbkiogcpaa
