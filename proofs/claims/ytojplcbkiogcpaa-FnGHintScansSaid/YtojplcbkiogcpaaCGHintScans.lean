/- For every order, every degree and every list of items, every pivot and every number the law FnGHintScans returns true and leaves its arguments as they were. -/
import Derived.Carry
import Derived.Test.YtojplcbkiogcpaaRows
import Derived.Test.YtojplcbkiogcpaaOg
import Derived.Test.YtojplcbkiogcpaaYhint
import Derived.Test.YtojplcbkiogcpaaYasc
namespace Go.Proofs.Ytojplcbkiogcpaa
set_option linter.unusedSimpArgs false
set_option linter.unusedVariables false
open Go.RowKit

theorem Items_any {ord : List Int} {k : Kc ord} {mn mx : Nat} {w : World} {F : Nat → Prop} {t : Nat} {l : List (It ord)} (hM : MapIn k mn mx w F t l) (hmn : 1 ≤ mn) (hlen : l.length ≤ 1000000000000) :
    Calls Try.prog 54 #[.pointer (some ⟨t, 0, none⟩)] w (OwnPostI l w) := by
  have HK := Lib.hid (items_any false hM hmn hlen)
  clear hM
  go_enter Try.func54, Try.ntmps54
  go_wp2_with fail
  refine HK.out.mono ?_
  rintro e w1 ⟨v1, rfl, h1, h2⟩
  go_wp2_with fail
  go_ret
  exact ⟨v1, rfl, h1, h2⟩

set_option maxRecDepth 100000 in
theorem GItems_any {ord : List Int} (sv : Value) (d : Int) (nl : Bool) (p : Option Addr) (cap : Nat) (l : List (It ord)) (w : World) (hs : SlE intE w sv ord) (hol : ord.length ≤ 2147483647) (hd : FitD d) (hl : ItemsAt w p l) (hlen : l.length ≤ 2147483647) :
    Calls Try.prog 24 #[.agg #[sv, .int .i64 d, .bool nl], .slice p l.length cap] w (OwnPostI (growL l) w) := by
  have HG := Lib.hid (fun w1 (c : Chg (fun _ _ => False) w w1) => grow_any (ord := ord) sv d nl p cap l w1 hd (hs.chg c) hol (hl.chg c) hlen)
  have hdim := hd.dims.1
  unfold GrowPost at HG
  have hgl := growL_take_len l l.length
  rw [List.take_length] at hgl
  have HGL := Lib.hid hgl
  obtain ⟨sa, sc, rfl⟩ : ∃ a c, sv = .slice a ord.length c := hs.form
  clear hs hl hgl
  go_enter Try.func24, Try.ntmps24
  go_wp2_with fail
  refine (HG.out _ ((Chg.refl _ _).alloc _)).mono ?_
  rintro e w2 ⟨k, t, F, rfl, hM, hc2, _, _⟩
  go_wp2_with fail
  refine (Items_any hM hdim (by have := HGL.out; omega)).mono ?_
  rintro e w3 ⟨v, rfl, how, hc3⟩
  have hc0 := (((Chg.refl (fun _ _ => False) w).alloc _)).trans hc2
  go_wp2_with fail
  go_ret
  exact ⟨v, rfl, how.mono hc0.size, hc0.trans hc3⟩


theorem lawFits_yes (a : Option Addr) (m c : Nat) (d : Int) (nl : Bool) (w : World) (hd : FitD d) :
    Calls Try.prog 22 #[.agg #[.slice a m c, .int .i64 d, .bool nl]] w fun e w' => e = .returned (.bool true) ∧ Chg (fun _ _ => False) w w' := by
  go_enter Try.func22, Try.ntmps22
  go_wp2_with fail
  refine (fits_fit d _ hd).mono ?_
  rintro e w' ⟨rfl, rfl⟩
  go_wp2_with fail
  go_ret
  exact ⟨rfl, (Chg.refl _ _).alloc _⟩

theorem lawFits_no (a : Option Addr) (m c : Nat) (d : Int) (nl : Bool) (w : World) (hd : ¬ FitD d) :
    Calls Try.prog 22 #[.agg #[.slice a m c, .int .i64 d, .bool nl]] w fun e w' => e = .returned (.bool false) ∧ Chg (fun _ _ => False) w w' := by
  go_enter Try.func22, Try.ntmps22
  go_wp2_with fail
  refine (fits_not d _ hd).mono ?_
  rintro e w' ⟨rfl, rfl⟩
  go_wp2_with fail
  go_ret
  exact ⟨rfl, (Chg.refl _ _).alloc _⟩

def exL3 : List (Int × Int) := [(5, 1), (3, 2), (9, 3)]
theorem grow3 : (growL (ord := []) exL3).length = 3 := by decide

theorem ItemsAt.take {w : World} {p : Option Addr} {l : List (Int × Int)} (h : ItemsAt w p l) (n : Nat) : ItemsAt w p (l.take n) := by
  rcases h with rfl | ⟨b, o, rfl, hc⟩
  · exact .inl (by simp)
  · refine .inr ⟨b, o, rfl, fun i x hx => hc i x ?_⟩
    rw [List.getElem?_take] at hx
    split at hx
    · exact hx
    · cases hx

theorem alive_any (w : World) : Calls Try.prog 23 #[] w fun e w' => e = .returned (.bool true) ∧ Chg (fun _ _ => False) w w' := by
  have HI := Lib.hid (fun q w1 (hq : ItemsAt w1 q exL3) => GItems_any (ord := []) (.slice none 0 0) 2 false q 7 exL3 w1 ⟨none, 0, rfl, Nat.le_refl _, .inl rfl⟩ (by simp) (.inr ⟨by omega, by omega⟩) hq (by decide))
  have q1 : exL.length = 7 := rfl
  have q3 : exL3.length = 3 := rfl
  unfold OwnPostI at HI
  rw [q3] at HI
  go_enter Try.func23, Try.ntmps23
  go_wp2_with fail
  refine (exMake_any _).mono ?_
  rintro e w1 ⟨rfl, hc1⟩
  go_wp2_with fail
  refine (exItems_any _).mono ?_
  rintro e w2 ⟨q, rfl, hq, hc2⟩
  go_wp2_with fail
  refine (HI.out q _ (hq.take 3)).mono ?_
  rintro e w3 ⟨v, rfl, how, hc3⟩
  obtain ⟨a, c, rfl⟩ := how.sl.form
  have hl3 : (growL (ord := []) exL3).length = 3 := grow3
  rw [hl3]
  clear how
  go_wp2_with fail
  go_ret
  exact ⟨rfl, (hc1.trans hc2).trans hc3⟩
end Go.Proofs.Ytojplcbkiogcpaa

namespace Go.Proofs.Ytojplcbkiogcpaa
set_option linter.unusedSimpArgs false
set_option linter.unusedVariables false
open Go.RowKit

set_option maxRecDepth 100000 in
set_option maxHeartbeats 1000000 in
theorem law_GHintScans (sv : Value) (os : List Int) (d : Int) (nl : Bool) (p : Option Addr) (cap : Nat) (l : List (Int × Int)) (x : Int × Int) (n : Int) (w : World) (hs : SlE intE w sv os) (hl : ItemsAt w p l) :
    Calls Try.prog 13 #[.agg #[sv, .int .i64 d, .bool nl], .slice p l.length cap, .agg #[.int .i64 x.1, .int .i64 x.2], .int .i64 n] w fun e w' => e = .returned (.bool true) ∧ Chg (fun _ _ => False) w w' := by
  obtain ⟨sa, sc, rfl⟩ : ∃ a c, sv = .slice a os.length c := hs.form
  have hz := fun w1 => zzFits1_any sa os.length sc d nl w1
  by_cases hol : os.length ≤ 2147483647
  rotate_left
  · rw [decide_eq_false hol] at hz
    go_enter Try.func13, Try.ntmps13
    go_wp2_with fail
    refine name_calls (fun w1 => Chg (fun _ _ => False) w w1) ((((Chg.refl _ _).alloc _).alloc _)) ?_
    intro w1 hc1
    refine (hz w1).mono ?_
    rintro e w2 ⟨rfl, hc2⟩
    go_wp2_with fail
    go_ret
    exact ⟨rfl, hc1.trans hc2⟩
  rw [decide_eq_true hol] at hz
  by_cases hlen : l.length ≤ 2147483647
  rotate_left
  · have hlen' : 2147483647 < l.length := by omega
    go_enter Try.func13, Try.ntmps13
    go_wp2_with fail
    refine name_calls (fun w1 => Chg (fun _ _ => False) w w1) ((((Chg.refl _ _).alloc _).alloc _)) ?_
    intro w1 hc1
    refine (hz w1).mono ?_
    rintro e w2 ⟨rfl, hc2⟩
    go_wp2_with fail
    go_ret
    exact ⟨rfl, hc1.trans hc2⟩
  have hn : ¬ 2147483647 < l.length := by omega
  have HS := Lib.hid hs
  have HL := Lib.hid hl
  have HOL := Lib.hid hol
  have HLN := Lib.hid hlen
  clear hs hl
  go_enter Try.func13, Try.ntmps13
  go_wp2_with fail
  refine name_calls (fun w1 => Chg (fun _ _ => False) w w1 ∧ w1.heap[w.heap.size]? = some (.cells #[.slice sa os.length sc, .int .i64 d, .bool nl] 24 (0, 0)) ∧ w1.heap[w.heap.size + 1]? = some (.cells #[.int .i64 x.1, .int .i64 x.2] 26 (0, 0))) ⟨(((Chg.refl _ _).alloc _).alloc _), ?_, ?_⟩ ?_
  · rw [ha_lt _ _ (by simp; try omega)]; exact ha_at _ _ rfl
  · exact ha_at _ _ (by simp)
  rintro w1 ⟨hc1, hb0, hb1⟩
  have q0 := cell_of_block hb1 0
  have q1 := cell_of_block hb1 1
  have m0 := cell_of_block hb0 0
  have m1 := cell_of_block hb0 1
  have m2 := cell_of_block hb0 2
  simp only [List.getElem?_toArray, List.getElem?_cons_zero, List.getElem?_cons_succ] at m0 m1 m2 q0 q1
  clear hb0 hb1
  refine (hz w1).mono ?_
  rintro e w2 ⟨rfl, hc2⟩
  replace m0 := hc2.cell (fun h => h) m0
  replace m1 := hc2.cell (fun h => h) m1
  replace m2 := hc2.cell (fun h => h) m2
  replace q0 := hc2.cell (fun h => h) q0
  replace q1 := hc2.cell (fun h => h) q1
  go_wp2_with fail
  by_cases hd : FitD d
  rotate_left
  · refine (lawFits_no sa _ sc d nl _ hd).mono ?_
    rintro e w3 ⟨rfl, hc3⟩
    go_wp2_with fail
    refine (alive_any _).mono ?_
    rintro e w4 ⟨rfl, hc4⟩
    go_wp2_with fail
    go_ret
    exact ⟨rfl, ((hc1.trans hc2).trans hc3).trans hc4⟩
  refine (lawFits_yes sa _ sc d nl _ hd).mono ?_
  rintro e w3 ⟨rfl, hc3⟩
  replace m0 := hc3.cell (fun h => h) m0
  replace m1 := hc3.cell (fun h => h) m1
  replace m2 := hc3.cell (fun h => h) m2
  replace q0 := hc3.cell (fun h => h) q0
  replace q1 := hc3.cell (fun h => h) q1
  have hc03 := (hc1.trans hc2).trans hc3
  clear hz hc1 hc2 hc3
  have hgl := growL_take_len (ord := os) l l.length
  rw [List.take_length] at hgl
  have hul := upp_len (ord := os) ltM x (growL l)
  have hdl := dwn_len (ord := os) ltM x (growL l)
  have hfu := firstN_len n (upp (ord := os) ltM x (growL l))
  have hfd := firstN_len n (dwn (ord := os) ltM x (growL l)).reverse
  rw [List.length_reverse] at hfd
  have G1 := Lib.hid (fun w1 (c : Chg (fun _ _ => False) w w1) => GAscend_any (ord := os) (.slice sa os.length sc) d nl p cap l x n w1 (HS.out.chg c) HOL.out hd (HL.out.chg c) HLN.out)
  have G2 := Lib.hid (fun w1 (c : Chg (fun _ _ => False) w w1) => GDescend_any (ord := os) (.slice sa os.length sc) d nl p cap l x n w1 (HS.out.chg c) HOL.out hd (HL.out.chg c) HLN.out)
  have G3 := Lib.hid (fun w1 (c : Chg (fun _ _ => False) w w1) => GAscendHint_any (ord := os) (.slice sa os.length sc) d nl p cap l x n w1 (HS.out.chg c) HOL.out hd (HL.out.chg c) HLN.out)
  have G4 := Lib.hid (fun w1 (c : Chg (fun _ _ => False) w w1) => GDescendHint_any (ord := os) (.slice sa os.length sc) d nl p cap l x n w1 (HS.out.chg c) HOL.out hd (HL.out.chg c) HLN.out)
  have G5 := Lib.hid (fun w1 (c : Chg (fun _ _ => False) w w1) => GAscendHintMut_any (ord := os) (.slice sa os.length sc) d nl p cap l x n w1 (HS.out.chg c) HOL.out hd (HL.out.chg c) HLN.out)
  have G6 := Lib.hid (fun w1 (c : Chg (fun _ _ => False) w w1) => GDescendHintMut_any (ord := os) (.slice sa os.length sc) d nl p cap l x n w1 (HS.out.chg c) HOL.out hd (HL.out.chg c) HLN.out)
  unfold OwnPostI at G1 G2 G3 G4 G5 G6
  generalize firstN n (upp (ord := os) ltM x (growL l)) = U at G1 G3 G5 hfu
  generalize firstN n (dwn (ord := os) ltM x (growL l)).reverse = D at G2 G4 G6 hfd
  have hU : U.length ≤ 2147483648 := by omega
  have hD : D.length ≤ 2147483648 := by omega
  clear hul hdl hfu hfd hgl
  go_wp2_with fail
  refine wp_region_scr (fun w' => w'.cell? ⟨w.heap.size, 0, none⟩ = some (.slice sa os.length sc) ∧ w'.cell? ⟨w.heap.size, 1, none⟩ = some (.int .i64 d) ∧ w'.cell? ⟨w.heap.size, 2, none⟩ = some (.bool nl) ∧ w'.cell? ⟨w.heap.size + 1, 0, none⟩ = some (.int .i64 x.1) ∧ w'.cell? ⟨w.heap.size + 1, 1, none⟩ = some (.int .i64 x.2)) (.soft 0 (.soft 1 (.soft 2 (.soft 3 (.soft 5 (.soft 6 (.soft 7 (.soft 8 (.hard 4 (.hard 9 (.soft 10 (.soft 11 .nil)))))))))))) (by kernel_rfl) (by kernel_rfl) (fun _ _ _ _ _ h => h) ⟨m0, m1, m2, q0, q1⟩ ?_
  repeat
    first
    | (refine scr_soft (by rfl) ?_ ?_ ?_ ?_
       rotate_left
       · simp [Region.wanted, yielded]; done
       · intro w' hS
         try obtain ⟨a1, a2, a3, a4, a5⟩ := hS
         go_simp
         try with_reducible rfl
       simp only [Act.put, List.setIfInBounds_toArray, List.set_cons_zero, List.set_cons_succ])
    | (refine scr_skip (by rfl) ?_ ?_
       · simp [Region.wanted, yielded]; done
       simp only [Act.put, List.setIfInBounds_toArray, List.set_cons_zero, List.set_cons_succ])
  refine scr_hard (by rfl) (by simp [Region.wanted, yielded]) (fun K hK => ?_)
  go_simp
  refine (G1.out _ hc03.drew).mono ?_
  rintro e w5 ⟨v5, rfl, how5, hc5⟩
  replace m0 := hc5.cell (fun h => h) m0
  replace m1 := hc5.cell (fun h => h) m1
  replace m2 := hc5.cell (fun h => h) m2
  replace q0 := hc5.cell (fun h => h) q0
  replace q1 := hc5.cell (fun h => h) q1
  refine hK _ _ ⟨m0, m1, m2, q0, q1⟩ ?_
  clear hK K
  repeat
    first
    | (refine scr_soft (by rfl) ?_ ?_ ?_ ?_
       rotate_left
       · simp [Region.wanted, yielded]; done
       · intro w' hS
         try obtain ⟨a1, a2, a3, a4, a5⟩ := hS
         go_simp
         try with_reducible rfl
       simp only [Act.put, List.setIfInBounds_toArray, List.set_cons_zero, List.set_cons_succ])
    | (refine scr_skip (by rfl) ?_ ?_
       · simp [Region.wanted, yielded]; done
       simp only [Act.put, List.setIfInBounds_toArray, List.set_cons_zero, List.set_cons_succ])
  refine scr_hard (by rfl) (by simp [Region.wanted, yielded]) (fun K hK => ?_)
  go_simp
  refine (G2.out _ (hc03.drew.trans hc5)).mono ?_
  rintro e w6 ⟨v6, rfl, how6, hc6⟩
  replace m0 := hc6.cell (fun h => h) m0
  replace m1 := hc6.cell (fun h => h) m1
  replace m2 := hc6.cell (fun h => h) m2
  replace q0 := hc6.cell (fun h => h) q0
  replace q1 := hc6.cell (fun h => h) q1
  refine hK _ _ ⟨m0, m1, m2, q0, q1⟩ ?_
  clear hK K
  repeat
    first
    | (refine scr_soft (by rfl) ?_ ?_ ?_ ?_
       rotate_left
       · simp [Region.wanted, yielded]; done
       · intro w' hS
         try obtain ⟨a1, a2, a3, a4, a5⟩ := hS
         go_simp
         try with_reducible rfl
       simp only [Act.put, List.setIfInBounds_toArray, List.set_cons_zero, List.set_cons_succ])
    | (refine scr_skip (by rfl) ?_ ?_
       · simp [Region.wanted, yielded]; done
       simp only [Act.put, List.setIfInBounds_toArray, List.set_cons_zero, List.set_cons_succ])
  refine scr_nil ?_
  have hc06 := (hc03.drew.trans hc5).trans hc6
  have hs5 := how5.sl.chg hc6
  have hs6 := how6.sl
  have HS5 := Lib.hid hs5
  have HS6 := Lib.hid hs6
  clear how5 how6 hs5 hs6 hc5 hc6
  go_wp2_with fail
  refine (G3.out _ hc06).mono ?_
  rintro e w7 ⟨v7, rfl, how7, hc7⟩
  replace m0 := hc7.cell (fun h => h) m0
  replace m1 := hc7.cell (fun h => h) m1
  replace m2 := hc7.cell (fun h => h) m2
  replace q0 := hc7.cell (fun h => h) q0
  replace q1 := hc7.cell (fun h => h) q1
  go_wp2_with fail
  have hc07 : Chg (fun _ _ => False) w6 w7 := hc7
  refine (equal_item _ _ _ _ how7.sl (HS5.out.chg hc07) (by omega)).mono ?_
  rintro e w8 ⟨rfl, hc8⟩
  replace m0 := hc8.cell (fun h => h) m0
  replace m1 := hc8.cell (fun h => h) m1
  replace m2 := hc8.cell (fun h => h) m2
  replace q0 := hc8.cell (fun h => h) q0
  replace q1 := hc8.cell (fun h => h) q1
  go_wp2_with fail
  have hc08 := hc07.trans hc8
  refine (G4.out _ (hc06.trans hc08)).mono ?_
  rintro e w9 ⟨v9, rfl, how9, hc9⟩
  replace m0 := hc9.cell (fun h => h) m0
  replace m1 := hc9.cell (fun h => h) m1
  replace m2 := hc9.cell (fun h => h) m2
  replace q0 := hc9.cell (fun h => h) q0
  replace q1 := hc9.cell (fun h => h) q1
  go_wp2_with fail
  have hc09 := hc08.trans hc9
  refine (equal_item _ _ _ _ how9.sl (HS6.out.chg hc09) (by omega)).mono ?_
  rintro e w10 ⟨rfl, hc10⟩
  replace m0 := hc10.cell (fun h => h) m0
  replace m1 := hc10.cell (fun h => h) m1
  replace m2 := hc10.cell (fun h => h) m2
  replace q0 := hc10.cell (fun h => h) q0
  replace q1 := hc10.cell (fun h => h) q1
  go_wp2_with fail
  have hc010 := hc09.trans hc10
  refine (G5.out _ (hc06.trans hc010)).mono ?_
  rintro e w11 ⟨v11, rfl, how11, hc11⟩
  replace m0 := hc11.cell (fun h => h) m0
  replace m1 := hc11.cell (fun h => h) m1
  replace m2 := hc11.cell (fun h => h) m2
  replace q0 := hc11.cell (fun h => h) q0
  replace q1 := hc11.cell (fun h => h) q1
  go_wp2_with fail
  have hc011 := hc010.trans hc11
  refine (equal_item _ _ _ _ how11.sl (HS5.out.chg hc011) (by omega)).mono ?_
  rintro e w12 ⟨rfl, hc12⟩
  replace m0 := hc12.cell (fun h => h) m0
  replace m1 := hc12.cell (fun h => h) m1
  replace m2 := hc12.cell (fun h => h) m2
  replace q0 := hc12.cell (fun h => h) q0
  replace q1 := hc12.cell (fun h => h) q1
  go_wp2_with fail
  have hc012 := hc011.trans hc12
  refine (G6.out _ (hc06.trans hc012)).mono ?_
  rintro e w13 ⟨v13, rfl, how13, hc13⟩
  replace m0 := hc13.cell (fun h => h) m0
  replace m1 := hc13.cell (fun h => h) m1
  replace m2 := hc13.cell (fun h => h) m2
  replace q0 := hc13.cell (fun h => h) q0
  replace q1 := hc13.cell (fun h => h) q1
  go_wp2_with fail
  have hc013 := hc012.trans hc13
  refine (equal_item _ _ _ _ how13.sl (HS6.out.chg hc013) (by omega)).mono ?_
  rintro e w14 ⟨rfl, hc14⟩
  replace m0 := hc14.cell (fun h => h) m0
  replace m1 := hc14.cell (fun h => h) m1
  replace m2 := hc14.cell (fun h => h) m2
  replace q0 := hc14.cell (fun h => h) q0
  replace q1 := hc14.cell (fun h => h) q1
  go_wp2_with fail
  have hc014 := hc013.trans hc14
  refine (alive_any _).mono ?_
  rintro e w15 ⟨rfl, hc15⟩
  replace m0 := hc15.cell (fun h => h) m0
  replace m1 := hc15.cell (fun h => h) m1
  replace m2 := hc15.cell (fun h => h) m2
  replace q0 := hc15.cell (fun h => h) q0
  replace q1 := hc15.cell (fun h => h) q1
  go_wp2_with fail
  go_ret
  exact ⟨rfl, hc06.trans (hc014.trans hc15)⟩
end Go.Proofs.Ytojplcbkiogcpaa

namespace Go.Proofs.Ytojplcbkiogcpaa
set_option linter.unusedSimpArgs false
set_option linter.unusedVariables false
open Go.ChangeShapes Go.WideShapes Go.ChangeAt Go.RowKit

namespace fnGHintScans
theorem own : ownKnob Try.prog.godebug = none := by kernel_rfl
theorem laid : laidOutB Try.prog = true := by kernel_rfl

set_option maxRecDepth 100000 in
theorem lifted (os : Os) (started : os.Started) (H : Type) (enc : TypeId × Value → H) :
    ReturnsInHanded {} Try.checked os 13 .any (Rows.fnGHintScansSpec.pre6 enc Try.prog Try.f13 Rows.fnGHintScansRow.domain false) (Rows.fnGHintScansSpec.post enc Try.prog Try.f13 false true false false) := by
  refine returnsInHanded_of_change (C := Try.checked) own started (by kernel_rfl) Try.func13
    (ChangeSpec.witness6 (enc := enc) (C := Try.checked) false ⟨#[], #[.agg #[.slice none 0 0, .int .i64 0, .bool false], .slice none 0 0, .agg #[.int .i64 0, .int .i64 0], .int .i64 0], []⟩ 8 (by kernel_rfl) (by kernel_rfl) (by kernel_rfl) (by kernel_rfl)) ?_
  intro W base args ds gs before hval0 hW hcnd _
  have hval : ∀ (j : Nat) t v, Try.f13.params[j]? = some t → args[j]? = some v → Value.okWide Try.prog W .any base t v := hval0
  have hW' := hW
  obtain ⟨p, q, hA0, hV, rfl, hfz, hnd⟩ := hW
  have hA : DataW.TrodAll enc Try.prog W 0 (fun _ => true) true Try.f13.params.toList args.toList ds p := hA0
  rw [Try.params13] at hA hval
  obtain ⟨v0, v1, v2, v3, d0, d1, d2, d3, p0, p1, p2, p3, rfl, rfl, rfl, h0, h1, h2, h3⟩ := trodAll_four hA
  obtain ⟨rfl, rfl⟩ := trodVars_none hV
  obtain ⟨sv, ord, dg, nl, rfl, hs⟩ := open_make (hval 0 24 v0 rfl rfl) h0
  obtain ⟨a, l, cap, rfl, hl, _⟩ := open_items Try.underlying31 Try.underlying26 (by kernel_rfl) rfl rfl rfl rfl (by kernel_rfl) Try.underlying3 (hval 1 31 v1 rfl rfl) h1
  obtain ⟨xx, rfl⟩ := open_item (hval 2 26 v2 rfl rfl) h2
  obtain ⟨nn, rfl, rfl, rfl, _⟩ := open_int Try.underlying3 (hval 3 3 v3 rfl rfl) h3
  refine (law_GHintScans sv ord dg nl a cap l xx nn W hs hl).mono fun e W' ⟨he, hc⟩ => ?_
  subst he
  exact ⟨_, rfl, law_post laid (by kernel_rfl) rfl Try.underlying4 hW' rfl rfl (hc.below (Nat.le_refl _) (fun _ _ _ h => h))⟩

theorem proved : Rows.FnGHintScansSaid :=
  OpenClaim.holds_of_wide 13 Try.f13 rfl rfl rfl rfl rfl rfl rfl ⟨rfl, rfl, rfl, rfl, rfl⟩ rfl rfl rfl rfl rfl (by kernel_rfl) Try.func13 (by kernel_rfl)
    (of_decide_eq_true (by kernel_rfl)) (by unfold Func.isWrapper; first | (rw [if_pos (by decide +kernel)]; kernel_rfl) | (rw [if_neg (by decide +kernel)]; exact ⟨rfl, rfl⟩))
    (fun os started H enc _ => lifted os started H enc)
end fnGHintScans
end Go.Proofs.Ytojplcbkiogcpaa
