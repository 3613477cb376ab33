/- For every order, every degree and every list of items the law FnGLoads returns true and leaves its arguments as they were. -/
import Derived.Test.YtojplcbkiogcpaaRows
import Derived.Test.YtojplcbkiogcpaaOg
import Derived.Test.YtojplcbkiogcpaaYload
namespace Go.Proofs.Ytojplcbkiogcpaa
set_option linter.unusedSimpArgs false
set_option linter.unusedVariables false
open Go.RowKit

set_option maxRecDepth 100000 in
theorem ascends_any {ord : List Int} (sv v : Value) (l : List (It ord)) (w : World) (hs : SlE intE w sv ord) (hol : ord.length ≤ 2147483647) (hl : SlE itemE w v l) (hlen : l.length ≤ 2147483648) :
    Calls Try.prog 33 #[sv, v] w fun e w' => (∃ b, e = .returned (.bool b)) ∧ Chg (fun _ _ => False) w w' := by
  obtain ⟨a, cap, rfl⟩ := hl.form
  have HR := Lib.hid (fun w1 (c : Chg (fun _ _ => False) w w1) => rank_list sv ord w1 (hs.chg c) hol)
  have HL := Lib.hid hl
  clear hl hs
  go_enter Try.func33, Try.ntmps33
  go_wp2_with fail
  go_loopw [5] (fun i wr => ∃ (j : Nat), 1 ≤ j ∧ i = .int .i64 j ∧ j ≤ l.length + 1 ∧ Chg (fun _ _ => False) w wr) (fun i _ => l.length + 1 - (intOf i).toNat)
  case atStart => exact ⟨1, Nat.le_refl _, rfl, by omega, Chg.refl _ _⟩
  case round =>
    obtain ⟨j, hj1, rfl, hj, hc⟩ := hrel
    have j0 : (0 : Int) ≤ (j : Int) := by omega
    by_cases hlt : j < l.length
    · obtain ⟨x, hx⟩ : ∃ x, l[j]? = some x := ⟨_, List.getElem?_eq_getElem hlt⟩
      obtain ⟨y, hy⟩ : ∃ y, l[j - 1]? = some y := ⟨_, List.getElem?_eq_getElem (by omega)⟩
      obtain ⟨b, o, rfl, g0, g1⟩ := (HL.out.chg hc).item hx
      obtain ⟨b', o', hbo, g2, g3⟩ := (HL.out.chg hc).item hy
      obtain ⟨rfl, rfl⟩ : b = b' ∧ o = o' := by simpa using hbo
      have i1 : (j : Int) < (l.length : Int) := by omega
      have hcast2 : ((j : Int) - 1).toNat = j - 1 := by omega
      have s1 : (0 : Int) ≤ (j : Int) - 1 := by omega
      have s4 : (1 : Int) ≤ (j : Int) := by omega
      have s2 : (j : Int) - 1 < (l.length : Int) := by omega
      have s3 : IntKind.i64.wrap ((j : Int) - 1) = (j : Int) - 1 := IntWalk.i64_in _ (by omega)
      have hbf := before_any sv (rkL ord) x y wr.drew (HR.out _ hc.drew)
      unfold itemV at hbf
      have HBF := Lib.hid hbf
      clear hx hy hbo hbf
      go_wp2_with fail
      refine wp_region_scr (fun w' => w'.cell? ⟨b, o + j * 2, none⟩ = some (.int .i64 x.1) ∧ w'.cell? ⟨b, o + j * 2 + 1, none⟩ = some (.int .i64 x.2) ∧ w'.cell? ⟨b, o + (j - 1) * 2, none⟩ = some (.int .i64 y.1) ∧ w'.cell? ⟨b, o + (j - 1) * 2 + 1, none⟩ = some (.int .i64 y.2)) (.soft 0 (.soft 1 (.soft 2 (.soft 3 (.soft 4 (.soft 5 (.soft 6 (.soft 7 (.soft 8 (.soft 9 (.hard 10 .nil))))))))))) (by kernel_rfl) (by kernel_rfl) (fun _ _ _ _ _ h => h) ⟨g0, g1, g2, g3⟩ ?_
      repeat
        first
        | (refine scr_soft (by rfl) ?_ ?_ ?_ ?_
           rotate_left
           · simp [Region.wanted, yielded]; done
           · intro w' hS
             try obtain ⟨a1, a2, a3, a4⟩ := hS
             go_simp
             try with_reducible rfl
           simp only [Act.put, List.setIfInBounds_toArray, List.set_cons_zero, List.set_cons_succ])
        | (refine scr_skip (by rfl) ?_ ?_
           · simp [Region.wanted, yielded]; done
           simp only [Act.put, List.setIfInBounds_toArray, List.set_cons_zero, List.set_cons_succ])
      refine scr_hard (by rfl) (by simp [Region.wanted, yielded]) (fun K hK => ?_)
      go_simp
      refine HBF.out.mono ?_
      rintro e w2 ⟨rfl, hc2⟩
      refine hK _ _ ⟨hc2.cell (fun h => h) g0, hc2.cell (fun h => h) g1, hc2.cell (fun h => h) g2, hc2.cell (fun h => h) g3⟩ ?_
      clear hK K
      repeat
        first
        | (refine scr_soft (by rfl) ?_ ?_ ?_ ?_
           rotate_left
           · simp [Region.wanted, yielded]; done
           · intro w' hS
             try obtain ⟨a1, a2, a3, a4⟩ := hS
             go_simp
             try with_reducible rfl
           simp only [Act.put, List.setIfInBounds_toArray, List.set_cons_zero, List.set_cons_succ])
        | (refine scr_skip (by rfl) ?_ ?_
           · simp [Region.wanted, yielded]; done
           simp only [Act.put, List.setIfInBounds_toArray, List.set_cons_zero, List.set_cons_succ])
      refine scr_nil ?_
      have hc02 := hc.drew.trans hc2
      cases hb : ltR (rkL ord) x y
      · go_wp2_with fail
        go_roundw
        case rel => exact ⟨j + 1, by omega, by go_num, by omega, hc02⟩
        case measure => simp [intOf]; omega
      · go_wp2_with fail
        go_ret
        exact ⟨⟨false, rfl⟩, hc02⟩
    · have i1 : ¬ (j : Int) < (l.length : Int) := by omega
      go_wp2_with fail
      go_ret
      exact ⟨.inr rfl, hc⟩

set_option maxRecDepth 100000 in
set_option maxHeartbeats 1000000 in
theorem law_GLoads (sv : Value) (os : List Int) (d : Int) (nl : Bool) (p : Option Addr) (cap : Nat) (l : List (Int × Int)) (w : World) (hs : SlE intE w sv os) (hl : ItemsAt w p l) (hcapl : l.length ≤ cap) :
    Calls Try.prog 11 #[.agg #[sv, .int .i64 d, .bool nl], .slice p l.length cap] w fun e w' => e = .returned (.bool true) ∧ Chg (fun _ _ => False) w w' := by
  obtain ⟨sa, sc, rfl⟩ : ∃ a c, sv = .slice a os.length c := hs.form
  have hz := fun w1 => zzFits1_any sa os.length sc d nl w1
  by_cases hol : os.length ≤ 2147483647
  rotate_left
  · rw [decide_eq_false hol] at hz
    go_enter Try.func11, Try.ntmps11
    go_wp2_with fail
    refine name_calls (fun w1 => Chg (fun _ _ => False) w w1) (((Chg.refl _ _).alloc _)) ?_
    intro w1 hc1
    refine (hz w1).mono ?_
    rintro e w2 ⟨rfl, hc2⟩
    go_wp2_with fail
    go_ret
    exact ⟨rfl, hc1.trans hc2⟩
  rw [decide_eq_true hol] at hz
  by_cases hlen : l.length ≤ 2147483647
  rotate_left
  · have hlen' : 2147483647 < l.length := by omega
    go_enter Try.func11, Try.ntmps11
    go_wp2_with fail
    refine name_calls (fun w1 => Chg (fun _ _ => False) w w1) (((Chg.refl _ _).alloc _)) ?_
    intro w1 hc1
    refine (hz w1).mono ?_
    rintro e w2 ⟨rfl, hc2⟩
    go_wp2_with fail
    go_ret
    exact ⟨rfl, hc1.trans hc2⟩
  have hn : ¬ 2147483647 < l.length := by omega
  have HA := Lib.hid (fun w1 (c : Chg (fun _ _ => False) w w1) => ascends_any (ord := os) (.slice sa os.length sc) (.slice p l.length cap) l w1 (hs.chg c) hol ((hl.chg c).sl hcapl) (by omega))
  have HG := Lib.hid (fun hd w1 (c : Chg (fun _ _ => False) w w1) => GLoad_any (ord := os) (.slice sa os.length sc) d nl p cap l w1 (hs.chg c) hol hd (hl.chg c) hcapl hlen)
  have HH := Lib.hid (fun hd w1 (c : Chg (fun _ _ => False) w w1) => GSet_any (ord := os) (.slice sa os.length sc) d nl p cap l w1 (hs.chg c) hol hd (hl.chg c) hcapl hlen)
  have hgl := growL_take_len (ord := os) l l.length
  rw [List.take_length] at hgl
  have hol2 := outF_len (ord := os) l
  generalize outF (ord := os) l = U at HG HH hol2
  generalize growL (ord := os) l = V at HG HH hgl
  have hU : U.length ≤ 2147483648 := by omega
  clear hs hl hol2
  go_enter Try.func11, Try.ntmps11
  go_wp2_with fail
  refine name_calls (fun w1 => Chg (fun _ _ => False) w w1 ∧ w1.heap[w.heap.size]? = some (.cells #[.slice sa os.length sc, .int .i64 d, .bool nl] 24 (0, 0))) ⟨((Chg.refl _ _).alloc _), ha_at _ _ rfl⟩ ?_
  rintro w1 ⟨hc1, hb0⟩
  have m0 := cell_of_block hb0 0
  have m1 := cell_of_block hb0 1
  have m2 := cell_of_block hb0 2
  simp only [List.getElem?_toArray, List.getElem?_cons_zero, List.getElem?_cons_succ] at m0 m1 m2
  clear hb0
  refine (hz w1).mono ?_
  rintro e w2 ⟨rfl, hc2⟩
  replace m0 := hc2.cell (fun h => h) m0
  replace m1 := hc2.cell (fun h => h) m1
  replace m2 := hc2.cell (fun h => h) m2
  go_wp2_with fail
  by_cases hd : FitD d
  rotate_left
  · refine (lawFits_no sa _ sc d nl _ hd).mono ?_
    rintro e w3 ⟨rfl, hc3⟩
    go_wp2_with fail
    refine (alive_any _).mono ?_
    rintro e w4 ⟨rfl, hc4⟩
    go_wp2_with fail
    go_ret
    exact ⟨rfl, ((hc1.trans hc2).trans hc3).trans hc4⟩
  refine (lawFits_yes sa _ sc d nl _ hd).mono ?_
  rintro e w3 ⟨rfl, hc3⟩
  replace m0 := hc3.cell (fun h => h) m0
  replace m1 := hc3.cell (fun h => h) m1
  replace m2 := hc3.cell (fun h => h) m2
  have hc03 := (hc1.trans hc2).trans hc3
  go_wp2_with fail
  refine (HA.out _ hc03).mono ?_
  rintro e w4 ⟨⟨q, rfl⟩, hc4⟩
  replace m0 := hc4.cell (fun h => h) m0
  replace m1 := hc4.cell (fun h => h) m1
  replace m2 := hc4.cell (fun h => h) m2
  have hc04 := hc03.trans hc4
  cases q
  · go_wp2_with fail
    refine (alive_any _).mono ?_
    rintro e w5 ⟨rfl, hc5⟩
    go_wp2_with fail
    go_ret
    exact ⟨rfl, hc04.trans hc5⟩
  · go_wp2_with fail
    refine (HG.out hd _ hc04).mono ?_
    rintro e w5 ⟨v1, u1, rfl, s1, t1, hc5⟩
    replace m0 := hc5.cell (fun h => h) m0
    replace m1 := hc5.cell (fun h => h) m1
    replace m2 := hc5.cell (fun h => h) m2
    have hc05 := hc04.trans hc5
    have HS1 := Lib.hid s1
    have HT1 := Lib.hid t1
    clear s1 t1
    go_wp2_with fail
    refine (HH.out hd _ hc05).mono ?_
    rintro e w6 ⟨v2, u2, rfl, s2, t2, hc6⟩
    have hc06 := hc05.trans hc6
    have HS2 := Lib.hid s2
    have HT2 := Lib.hid t2
    clear s2 t2 m0 m1 m2
    go_wp2_with fail
    refine (equal_found _ _ _ _ (HS1.out.chg hc6) HS2.out (by omega)).mono ?_
    rintro e w7 ⟨rfl, hc7⟩
    go_wp2_with fail
    refine (equal_item _ _ _ _ (HT1.out.chg (hc6.trans hc7)) (HT2.out.chg hc7) (by omega)).mono ?_
    rintro e w8 ⟨rfl, hc8⟩
    go_wp2_with fail
    refine (alive_any _).mono ?_
    rintro e w9 ⟨rfl, hc9⟩
    go_wp2_with fail
    go_ret
    exact ⟨rfl, ((hc06.trans hc7).trans hc8).trans hc9⟩
end Go.Proofs.Ytojplcbkiogcpaa

namespace Go.Proofs.Ytojplcbkiogcpaa
set_option linter.unusedSimpArgs false
set_option linter.unusedVariables false
open Go.ChangeShapes Go.WideShapes Go.ChangeAt Go.RowKit

namespace fnGLoads
theorem own : ownKnob Try.prog.godebug = none := by kernel_rfl
theorem laid : laidOutB Try.prog = true := by kernel_rfl

set_option maxRecDepth 100000 in
theorem lifted (os : Os) (started : os.Started) (H : Type) (enc : TypeId × Value → H) :
    ReturnsInHanded {} Try.checked os 11 .any (Rows.fnGLoadsSpec.pre6 enc Try.prog Try.f11 Rows.fnGLoadsRow.domain false) (Rows.fnGLoadsSpec.post enc Try.prog Try.f11 false true false false) := by
  refine returnsInHanded_of_change (C := Try.checked) own started (by kernel_rfl) Try.func11
    (ChangeSpec.witness6 (enc := enc) (C := Try.checked) false ⟨#[], #[.agg #[.slice none 0 0, .int .i64 0, .bool false], .slice none 0 0], []⟩ 8 (by kernel_rfl) (by kernel_rfl) (by kernel_rfl) (by kernel_rfl)) ?_
  intro W base args ds gs before hval0 hW hcnd _
  have hval : ∀ (j : Nat) t v, Try.f11.params[j]? = some t → args[j]? = some v → Value.okWide Try.prog W .any base t v := hval0
  have hW' := hW
  obtain ⟨p, q, hA0, hV, rfl, hfz, hnd⟩ := hW
  have hA : DataW.TrodAll enc Try.prog W 0 (fun _ => true) true Try.f11.params.toList args.toList ds p := hA0
  rw [Try.params11] at hA hval
  obtain ⟨v0, v1, d0, d1, p0, p1, rfl, rfl, rfl, h0, h1⟩ := trodAll_two hA
  obtain ⟨rfl, rfl⟩ := trodVars_none hV
  obtain ⟨sv, ord, dg, nl, rfl, hs⟩ := open_make (hval 0 24 v0 rfl rfl) h0
  obtain ⟨a, l, cap, rfl, hl, hlc⟩ := open_items Try.underlying31 Try.underlying26 (by kernel_rfl) rfl rfl rfl rfl (by kernel_rfl) Try.underlying3 (hval 1 31 v1 rfl rfl) h1
  refine (law_GLoads sv ord dg nl a cap l W hs hl hlc).mono fun e W' ⟨he, hc⟩ => ?_
  subst he
  exact ⟨_, rfl, law_post laid (by kernel_rfl) rfl Try.underlying4 hW' rfl rfl (hc.below (Nat.le_refl _) (fun _ _ _ h => h))⟩

theorem proved : Rows.FnGLoadsSaid :=
  OpenClaim.holds_of_wide 11 Try.f11 rfl rfl rfl rfl rfl rfl rfl ⟨rfl, rfl, rfl, rfl, rfl⟩ rfl rfl rfl rfl rfl (by kernel_rfl) Try.func11 (by kernel_rfl)
    (of_decide_eq_true (by kernel_rfl)) (by unfold Func.isWrapper; first | (rw [if_pos (by decide +kernel)]; kernel_rfl) | (rw [if_neg (by decide +kernel)]; exact ⟨rfl, rfl⟩))
    (fun os started H enc _ => lifted os started H enc)
end fnGLoads
end Go.Proofs.Ytojplcbkiogcpaa
