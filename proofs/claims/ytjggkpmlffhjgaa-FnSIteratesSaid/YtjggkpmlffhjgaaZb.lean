/- Keys of sets; SInsert and its law. -/
import Derived.BigQuiet
import Derived.Laws.MakeOwn
import Derived.Test.YtjggkpmlffhjgaaA9
import Derived.Test.YtjggkpmlffhjgaaKn
import Derived.Test.YtjggkpmlffhjgaaZa
namespace Go.Proofs.Ytjggkpmlffhjgaa
set_option linter.unusedSimpArgs false
set_option linter.unusedVariables false
open Go.RowKit

theorem MapIn.blk {mn mx : Nat} {w : World} {F : Nat → Prop} {t : Nat} {l : List (Int × Int)} (h : MapIn mn mx w F t l) : ∃ root m1 m2, MapBlk 0 m1 m2 w t root l.length := by
  rcases h with ⟨rfl, _, hB⟩ | ⟨H, h, T, _, hB, rfl, _⟩
  · exact ⟨none, 0, 0, hB⟩
  · exact ⟨_, _, _, hB⟩

theorem Len_any {mn mx : Nat} {w : World} {F : Nat → Prop} {t : Nat} {l : List (Int × Int)} (hM : MapIn mn mx w F t l) :
    Calls Try.prog 139 #[.pointer (some ⟨t, 0, none⟩)] w fun e w' => e = .returned (.int .i64 l.length) ∧ w = w' := by
  obtain ⟨root, m1, m2, hB⟩ := hM.blk
  have c3 := hB.c3
  go_enter Try.func139, Try.ntmps139
  go_wp2
  go_ret
  exact ⟨rfl, rfl⟩

theorem made_ints (n : Nat) (w : World) (hn : n ≤ 1000000000000) : (Instr.makeSlice 22 (.int .i64 0) (.int .i64 n)).run Try.prog w = .ok (.slice (some ⟨w.heap.size, 0, none⟩) 0 n) (w.alloc (.cells (madeCells #[.int .i64 0] n) 3)) := by
  obtain ⟨i0, hi0, hz0, hz1, hz2⟩ := info_parts infoInt
  have h := run_make (P := Try.prog) w 22 3 i0 _ Try.underlying22 hi0 hz0 .i64 .i64 0 (n : Int) (by omega) (by omega) (by rw [hz2]; omega) (by omega)
  rw [h, hz1]
  simp [Value.cells]

theorem own_made (n : Nat) (w : World) : OwnE intE (w.alloc (.cells (madeCells #[.int .i64 0] n) 3)) (.slice (some ⟨w.heap.size, 0, none⟩) 0 n) [] w.heap.size := by
  refine .inr ⟨w.heap.size, 0, n, rfl, Nat.zero_le _, Nat.le_refl _, RowAt.of_block (ha_at _ _ rfl) _ _ (by simp [flat]) ?_ (by simp [flat])⟩
  simp [madeCells, intE]

set_option maxRecDepth 100000 in
theorem Keys_any {mn mx : Nat} {w : World} {F : Nat → Prop} {t : Nat} {l : List (Int × Int)} (hM : MapIn mn mx w F t l) (hF : ∀ b, F b → b < w.heap.size) (hlen : l.length ≤ 1000000000000) :
    Calls Try.prog 99 #[.pointer (some ⟨t, 0, none⟩)] w (OwnPost intE (l.map Prod.fst) w) := by
  have hL := Len_any hM
  obtain ⟨n, hn⟩ : ∃ n, l.length = n := ⟨_, rfl⟩
  rw [hn] at hL hlen
  have HN := Lib.hid hn
  clear hn
  have hmk := fun w' => made_ints n w' hlen
  have hca : Chg (fun _ _ => False) w (w.alloc (.cells (madeCells #[.int .i64 0] n) 3)) := (Chg.refl _ _).alloc _
  have hown := own_made n w
  have HOWN := Lib.hid hown
  clear hown
  rcases hM.chg hca with ⟨rfl, _, hB⟩ | ⟨H, h, T, hI, hB, rfl, h1⟩
  · have c2 : (w.alloc (.cells (madeCells #[.int .i64 0] n) 3)).cell? ⟨t, 2, none⟩ = some (.pointer none) := hB.c2
    go_enter Try.func99, Try.ntmps99
    go_wp2_with fail
    refine hL.mono ?_
    rintro e w' ⟨rfl, rfl⟩
    go_wp2_with fail
    go_ret
    exact ⟨_, rfl, HOWN.out, hca⟩
  · have c2 : (w.alloc (.cells (madeCells #[.int .i64 0] n) 3)).cell? ⟨t, 2, none⟩ = some (.pointer (some ⟨rid T, 0, none⟩)) := hB.c2
    have hk := keys_all h mn mx _ F H T _ [] w.heap.size hI.fam hI.isT hI.sh HOWN.out hca.size hF (by rw [HN.out]; simpa using hlen)
    have HK := Lib.hid hk
    clear hk
    go_enter Try.func99, Try.ntmps99
    go_wp2_with fail
    refine hL.mono ?_
    rintro e w' ⟨rfl, rfl⟩
    go_wp2_with fail
    refine HK.out.mono ?_
    rintro e w2 ⟨v2, rfl, how2, hc2⟩
    go_wp2_with fail
    go_ret
    exact ⟨v2, rfl, how2, hca.trans' hc2 (fun _ _ _ h => h) (fun b o hb h => by omega)⟩

theorem MapIn.fam {mn mx : Nat} {w : World} {F : Nat → Prop} {t : Nat} {l : List (Int × Int)} (hM : MapIn mn mx w F t l) : ∀ b, F b → b < w.heap.size := fun _ hb => hM.famLt hb

theorem SKeys_any {mn mx : Nat} {w : World} {F : Nat → Prop} {t : Nat} {l : List (Int × Int)} (hM : MapIn mn mx w F t l) (hlen : l.length ≤ 1000000000000) :
    Calls Try.prog 58 #[.pointer (some ⟨t, 0, none⟩)] w (OwnPost intE (l.map Prod.fst) w) := by
  have HK := Lib.hid (Keys_any hM hM.fam hlen)
  unfold OwnPost at HK
  clear hM
  go_enter Try.func58, Try.ntmps58
  go_wp2_with fail
  refine HK.out.mono ?_
  rintro e w2 ⟨v, rfl, how, hc⟩
  have HOW := Lib.hid how
  clear how HK
  go_wp2_with fail
  go_ret
  exact ⟨v, rfl, HOW.out, hc⟩

set_option maxRecDepth 100000 in
theorem SInsert_any (v : Value) (l : List Int) (w : World) (hs : SlE intE w v l) (hlen : l.length ≤ 2147483647) :
    Calls Try.prog 25 #[v] w (OwnPost intE ((growL (l.map itK)).map Prod.fst) w) := by
  have HG := Lib.hid (growSet_any v l w hs hlen)
  unfold GrowPost at HG
  have hgl := growL_lenK l l.length
  rw [List.take_of_length_le (by simp)] at hgl
  obtain ⟨a, cap, rfl⟩ := hs.form
  clear hs
  go_enter Try.func25, Try.ntmps25
  go_wp2_with fail
  refine HG.out.mono ?_
  rintro e w2 ⟨t, F, rfl, _, hM, hc2, hF2⟩
  have HK := Lib.hid (SKeys_any hM (by omega))
  unfold OwnPost at HK
  clear hM HG
  go_wp2_with fail
  refine HK.out.mono ?_
  rintro e w3 ⟨v, rfl, how, hc3⟩
  have HOW := Lib.hid how
  clear how HK
  go_wp2_with fail
  go_ret
  exact ⟨v, rfl, HOW.out.mono hc2.size, hc2.trans hc3⟩

theorem treeK_len (l : List Int) : (treeL (ltR id) (l.map itK)).length ≤ l.length := by
  have := treeL_len (ltR id) (l.map itK)
  simpa using this

set_option maxRecDepth 100000 in
set_option maxHeartbeats 1000000 in
theorem sInsert_any (v : Value) (l : List Int) (w : World) (hs : SlE intE w v l) (hlen : l.length ≤ 2147483647) :
    Calls Try.prog 12 #[v] w fun e w' => e = .returned (.bool true) ∧ Chg (fun _ _ => False) w w' := by
  have hM := SInsert_any v l w hs hlen
  have e1 : ∀ L : List (Int × Int), growL L = treeL (ltR id) L := fun _ => rfl
  rw [e1] at hM
  have hlen2 := treeK_len l
  have HM := Lib.hid hM
  unfold OwnPost at HM
  have HI := Lib.hid (fun w1 (c : Chg (fun _ _ => False) w w1) => specItems_any v l w1 (hs.chg c) (by omega))
  unfold OwnPost at HI
  have HT := Lib.hid (fun p2 cap2 w1 (h : ItemsAt w1 p2 (l.map itK)) => tree_any (.slice none 0 0) id p2 cap2 (l.map itK) w1 (rank_nil w1) h (by simpa using hlen))
  unfold TreePost at HT
  clear hM e1
  generalize treeL (ltR id) (l.map itK) = V at HM HT hlen2
  obtain ⟨a, cap, rfl⟩ := hs.form
  clear hs
  go_enter Try.func12, Try.ntmps12
  go_wp2_with fail
  refine HM.out.mono ?_
  rintro e w1 ⟨v1, rfl, how1, hc1⟩
  have HOW1 := Lib.hid how1.sl
  clear how1 HM
  go_wp2_with fail
  refine (HI.out _ hc1).mono ?_
  rintro e w2 ⟨v2, rfl, how2, hc2⟩
  obtain ⟨p2, cap2, rfl, hi2, hcap2⟩ := how2.sl.itemsAt
  have ht := HT.out p2 cap2 w2 hi2
  rw [List.length_map] at ht
  replace HT := Lib.hid ht
  clear ht
  clear how2 hi2 HI
  go_wp2_with fail
  refine HT.out.mono ?_
  rintro e w3 ⟨v3, rfl, hv3, hc3⟩
  obtain ⟨q, cap3, rfl, hi, hcap⟩ := hv3.items
  have HSK := Lib.hid (specKeys_any _ V w3 (hi.sl hcap) (by omega))
  unfold OwnPost at HSK
  clear hv3 hi HT
  go_wp2_with fail
  refine HSK.out.mono ?_
  rintro e w4 ⟨v4, rfl, how4, hc4⟩
  have HOW4 := Lib.hid how4.sl
  clear how4 HSK
  go_wp2_with fail
  refine (equal_int _ _ _ _ (HOW1.out.chg ((hc2.trans hc3).trans hc4)) HOW4.out (by simp; omega)).mono ?_
  rintro e w5 ⟨rfl, hc5⟩
  go_wp2_with fail
  go_ret
  exact ⟨rfl, (((hc1.trans hc2).trans hc3).trans hc4).trans hc5⟩

theorem exInts (w : World) (b : Nat) (c : Array Value) (xs : List Int) (hx : c.toList = xs.map (.int .i64 ·)) (hb : w.heap[b]? = some (.cells c 3 (0, 0))) : SlE intE w (.slice (some ⟨b, 0, none⟩) xs.length xs.length) xs := by
  refine ⟨_, _, rfl, Nat.le_refl _, .inr ⟨b, 0, rfl, fun j u hj => ?_⟩⟩
  rw [cell_of_block hb]
  have e : flat intE.par xs = xs.map (.int .i64 ·) := by
    induction xs generalizing c j with
    | nil => rfl
    | cons x xs ih =>
      show [Value.int .i64 x] ++ flat intE.par xs = _
      have : ∀ ys : List Int, flat intE.par ys = ys.map (.int .i64 ·) := by
        intro ys
        induction ys with
        | nil => rfl
        | cons y ys ih => show [Value.int .i64 y] ++ flat intE.par ys = _; rw [ih]; rfl
      rw [this]; rfl
  rw [e, ← hx] at hj
  simpa using hj

set_option maxRecDepth 100000 in
theorem law_ExactSInsert (v : Value) (l : List Int) (w : World) (hs : SlE intE w v l) :
    Calls Try.prog 3 #[v] w fun e w' => e = .returned (.bool true) ∧ Chg (fun _ _ => False) w w' := by
  have HS := Lib.hid hs
  obtain ⟨a, cap, rfl⟩ := hs.form
  clear hs
  by_cases hlen : l.length ≤ 2147483647
  rotate_left
  · have hlen' : 2147483647 < l.length := by omega
    go_enter Try.func3, Try.ntmps3
    go_wp2_with fail
    go_ret
    exact ⟨rfl, Chg.refl _ _⟩
  have hn : ¬ 2147483647 < l.length := by omega
  have HEX := Lib.hid (fun w1 (hb : w1.heap[w.heap.size]? = some (.cells #[.int .i64 5, .int .i64 3, .int .i64 9, .int .i64 3, .int .i64 1] 3 (0, 0))) => sInsert_any _ [5, 3, 9, 3, 1] w1 (exInts w1 w.heap.size _ [5, 3, 9, 3, 1] rfl hb) (by simp))
  have HG := Lib.hid (fun w1 (c : Chg (fun _ _ => False) w w1) => sInsert_any (.slice a l.length cap) l w1 (HS.out.chg c) hlen)
  have e5 : [(5 : Int), 3, 9, 3, 1].length = 5 := rfl
  rw [e5] at HEX
  go_enter Try.func3, Try.ntmps3
  go_wp2_with fail
  refine name_calls (fun w1 => Chg (fun _ _ => False) w w1 ∧ w1.heap[w.heap.size]? = some (.cells #[.int .i64 5, .int .i64 3, .int .i64 9, .int .i64 3, .int .i64 1] 3 (0, 0))) ⟨(Chg.refl _ _).alloc _, ha_at _ _ rfl⟩ ?_
  rintro w1 ⟨hc1, hb1⟩
  refine (HEX.out w1 hb1).mono ?_
  rintro e w2 ⟨rfl, hc2⟩
  go_wp2_with fail
  refine (HG.out _ (hc1.trans hc2)).mono ?_
  rintro e w3 ⟨rfl, hc3⟩
  go_wp2_with fail
  go_ret
  exact ⟨rfl, (hc1.trans hc2).trans hc3⟩
end Go.Proofs.Ytjggkpmlffhjgaa
