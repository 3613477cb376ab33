/- The law FnSIterates. -/
import Derived.Test.YtjggkpmlffhjgaaIi
import Derived.Test.YtjggkpmlffhjgaaCl
import Derived.Test.YtjggkpmlffhjgaaZb
namespace Go.Proofs.Ytjggkpmlffhjgaa
set_option linter.unusedSimpArgs false
set_option linter.unusedVariables false
open Go.RowKit

theorem alive3S : (growL (([5, 3, 9] : List Int).map itK)).length = 3 := by decide

theorem aliveS_any (w : World) : Calls Try.prog 32 #[] w fun e w' => e = .returned (.bool true) ∧ Chg (fun _ _ => False) w w' := by
  have hown : SlE intE (w.alloc (.cells #[.int .i64 5, .int .i64 3, .int .i64 9] 3)) (.slice (some ⟨w.heap.size, 0, none⟩) 3 3) [5, 3, 9] := by
    refine ⟨_, _, rfl, Nat.le_refl _, .inr ⟨w.heap.size, 0, rfl, fun j u hj => ?_⟩⟩
    rw [cell_of_block (ha_at _ _ rfl)]
    have e : flat intE.par [5, 3, 9] = [.int .i64 5, .int .i64 3, .int .i64 9] := rfl
    rw [e] at hj
    rw [Nat.zero_add]
    simpa using hj
  have hi := SInsert_any _ [5, 3, 9] _ hown (by decide)
  unfold OwnPost at hi
  have HIN := Lib.hid hi
  have hca := (Chg.refl (fun _ _ => False) w).alloc (.cells #[.int .i64 5, .int .i64 3, .int .i64 9] 3)
  clear hi hown
  go_enter Try.func32, Try.ntmps32
  go_wp2_with fail
  refine HIN.out.mono ?_
  rintro e w2 ⟨v, rfl, how, hc2⟩
  obtain ⟨a, c, hf⟩ := how.sl.form
  rw [List.length_map, alive3S] at hf
  subst hf
  clear how HIN
  go_wp2_with fail
  go_ret
  exact ⟨rfl, hca.trans hc2⟩

set_option maxRecDepth 100000 in
set_option maxHeartbeats 2000000 in
theorem law_SIterates (v : Value) (l : List Int) (w : World) (hl : SlE intE w v l) :
    Calls Try.prog 10 #[v] w fun e w' => e = .returned (.bool true) ∧ Chg (fun _ _ => False) w w' := by
  have HL := Lib.hid hl
  obtain ⟨a, cap, hf⟩ := hl.form
  by_cases hlen : l.length ≤ 2147483647
  rotate_left
  · have hlen' : (2147483647 : Int) < (l.length : Int) := by omega
    subst hf
    clear hl hlen HL
    go_enter Try.func10, Try.ntmps10
    go_wp2
    go_ret
    exact ⟨rfl, (Chg.refl _ _).alloc _⟩
  have hlen' : ¬ (2147483647 : Int) < (l.length : Int) := by omega
  have HSI := Lib.hid (fun w1 (c : Chg (fun _ _ => False) w w1) => SInsert_any v l w1 (hl.chg c) hlen)
  have HWF := Lib.hid (fun dv bx w1 (c : Chg (fun _ _ => False) w w1) hb hd => walk_fwd v l dv bx w1 hb (hl.chg c) hlen hd)
  have HWB := Lib.hid (fun dv bx w1 (c : Chg (fun _ _ => False) w w1) hb hd => walk_bwd v l dv bx w1 hb (hl.chg c) hlen hd)
  unfold OwnPost at HSI
  have hgl := growL_lenK l l.length
  rw [List.take_of_length_le (by simp)] at hgl
  subst hf
  clear hl
  generalize growL (l.map itK) = L at HSI HWF HWB hgl
  have hca := (Chg.refl (fun _ _ => False) w).alloc (.cells #[.slice a l.length cap] 22)
  have cb0 : (w.alloc (.cells #[.slice a l.length cap] 22)).cell? ⟨w.heap.size, 0, none⟩ = some (.slice a l.length cap) := by rw [cell_of_block (ha_at _ _ rfl)]; rfl
  have HCB := Lib.hid (And.intro hca cb0)
  clear hca cb0
  go_enter Try.func10, Try.ntmps10
  go_upto_region 3 with fail
  refine name_world (fun w1 => Chg (fun _ _ => False) w w1 ∧ w1.cell? ⟨w.heap.size, 0, none⟩ = some (.slice a l.length cap)) HCB.out ?_
  rintro w1 ⟨hc1, cb⟩
  generalize w.heap.size = bx at cb ⊢
  go_wp2_with fail
  refine (HSI.out _ hc1).mono ?_
  rintro e w2 ⟨kv, rfl, how, hc2⟩
  have hsk := how.sl
  obtain ⟨ka, kc, hkf⟩ := hsk.form
  rw [List.length_map] at hkf
  subst hkf
  have hcb2 := hc2.cell (fun h => h) cb
  have hc02 := hc1.trans hc2
  have HW1 := Lib.hid (HWF.out _ bx w2 hc02 hcb2 (by exact hsk))
  have HSK := Lib.hid hsk
  have HC02 := Lib.hid hc02
  have HCB2 := Lib.hid hcb2
  clear how hsk hc1 hc2 cb hcb2 hc02 HSI HWF HCB
  go_wp2_with fail
  refine HW1.out.mono ?_
  rintro e w3 ⟨rfl, hc3⟩
  have hc03 := HC02.out.trans hc3
  have HT := Lib.hid (turned_any _ _ w3 (HSK.out.chg hc3) (by rw [List.length_map]; omega))
  unfold OwnOutZ at HT
  have HC3 := Lib.hid hc3
  clear hc3
  go_wp2_with fail
  refine HT.out.mono ?_
  rintro e w4 ⟨v4, rfl, how4, hc4⟩
  have hs4 := how4.sl
  have hc04 := hc03.trans hc4
  have hcb4 := (HC3.out.trans hc4).cell (fun h => h) HCB2.out
  have hd4 : SlE intE w4 v4 ((turnL true L).map Prod.fst) := by
    have e : (turnL true L).map Prod.fst = (L.map Prod.fst).reverse := by simp [turnL]
    rw [e]; exact hs4
  have HW2 := Lib.hid (HWB.out _ bx w4 hc04 hcb4 hd4)
  obtain ⟨a4, c4, hf4⟩ := hs4.form
  rw [List.length_reverse, List.length_map] at hf4
  subst hf4
  clear how4 hs4 hd4 hc4 hcb4 hc03
  go_wp2_with fail
  refine HW2.out.mono ?_
  rintro e w5 ⟨rfl, hc5⟩
  go_wp2_with fail
  refine (aliveS_any _).mono ?_
  rintro e w6 ⟨rfl, hc6⟩
  go_wp2_with fail
  go_ret
  exact ⟨rfl, (hc04.trans hc5).trans hc6⟩
end Go.Proofs.Ytjggkpmlffhjgaa
