/- The law on SAscend. -/
import Derived.Test.YtjggkpmlffhjgaaZe
import Derived.Test.YtjggkpmlffhjgaaCn
namespace Go.Proofs.Ytjggkpmlffhjgaa
set_option linter.unusedSimpArgs false
set_option linter.unusedVariables false
open Go.RowKit

theorem firstN_map {α β : Type} (f : α → β) (n : Int) (l : List α) : (firstN n l).map f = firstN n (l.map f) := by
  unfold firstN
  rw [List.length_map]
  split
  · rfl
  · rw [List.map_take]

set_option maxRecDepth 100000 in
set_option maxHeartbeats 1000000 in
theorem sAscend_any (v : Value) (l : List Int) (k n : Int) (w : World) (hs : SlE intE w v l) (hlen : l.length ≤ 2147483647) :
    Calls Try.prog 19 #[v, .int .i64 k, .int .i64 n] w fun e w' => e = .returned (.bool true) ∧ Chg (fun _ _ => False) w w' := by
  have hM := SAscend_any v l k n w hs hlen
  have e1 : ∀ L : List (Int × Int), growL L = treeL (ltR id) L := fun _ => rfl
  have e2 : ∀ L : List (Int × Int), upp ltM (itK k) L = uppL (ltR id) (k, 0) L := fun _ => rfl
  rw [e1, e2, ← firstN_map] at hM
  have HM := Lib.hid hM
  unfold OwnPost at HM
  have HI := Lib.hid (fun w1 (c : Chg (fun _ _ => False) w w1) => specItems_any v l w1 (hs.chg c) (by omega))
  unfold OwnPost at HI
  have HT := Lib.hid (fun p2 cap2 w1 (h : ItemsAt w1 p2 (l.map itK)) => specGAscend_any p2 cap2 (l.map itK) (k, 0) n w1 h (by simpa using hlen))
  unfold makeV at HT
  have hll : (firstN n (uppL (ltR id) (k, 0) (treeL (ltR id) (l.map itK)))).length ≤ l.length := by
    have h1 := firstN_len n (uppL (ltR id) (k, 0) (treeL (ltR id) (l.map itK)))
    have h2 : (uppL (ltR id) (k, 0) (treeL (ltR id) (l.map itK))).length ≤ (treeL (ltR id) (l.map itK)).length := (List.dropWhile_sublist _).length_le
    have h3 := treeK_len l
    omega
  clear hM e1 e2
  generalize firstN n (uppL (ltR id) (k, 0) (treeL (ltR id) (l.map itK))) = V at HM HT hll
  obtain ⟨a, cap, rfl⟩ := hs.form
  clear hs
  go_enter Try.func19, Try.ntmps19
  go_wp2_with fail
  refine HM.out.mono ?_
  rintro e w1 ⟨v1, rfl, how1, hc1⟩
  have HOW1 := Lib.hid how1.sl
  clear how1 HM
  go_wp2_with fail
  refine (HI.out _ hc1).mono ?_
  rintro e w2 ⟨v2, rfl, how2, hc2⟩
  obtain ⟨p2, cap2, rfl, hi2, hcap2⟩ := how2.sl.itemsAt
  have ht := HT.out p2 cap2 w2 hi2
  rw [List.length_map] at ht
  replace HT := Lib.hid ht
  clear ht
  clear how2 hi2 HI
  go_wp2_with fail
  refine HT.out.mono ?_
  rintro e w3 ⟨v3, rfl, hv3, hc3⟩
  have HSK := Lib.hid (specKeys_any _ V w3 hv3 (by omega))
  unfold OwnPost at HSK
  obtain ⟨q, cap3, rfl⟩ := hv3.form
  clear hv3 HT
  go_wp2_with fail
  refine HSK.out.mono ?_
  rintro e w4 ⟨v4, rfl, how4, hc4⟩
  have HOW4 := Lib.hid how4.sl
  clear how4 HSK
  go_wp2_with fail
  refine (equal_int _ _ _ _ (HOW1.out.chg ((hc2.trans hc3).trans hc4)) HOW4.out (by simp; omega)).mono ?_
  rintro e w5 ⟨rfl, hc5⟩
  go_wp2_with fail
  go_ret
  exact ⟨rfl, (((hc1.trans hc2).trans hc3).trans hc4).trans hc5⟩

set_option maxRecDepth 100000 in
theorem law_ExactSAscend (v : Value) (l : List Int) (k n : Int) (w : World) (hs : SlE intE w v l) :
    Calls Try.prog 6 #[v, .int .i64 k, .int .i64 n] w fun e w' => e = .returned (.bool true) ∧ Chg (fun _ _ => False) w w' := by
  have HS := Lib.hid hs
  obtain ⟨a, cap, rfl⟩ := hs.form
  clear hs
  by_cases hlen : l.length ≤ 2147483647
  rotate_left
  · have hlen' : 2147483647 < l.length := by omega
    go_enter Try.func6, Try.ntmps6
    go_wp2_with fail
    go_ret
    exact ⟨rfl, Chg.refl _ _⟩
  have hn : ¬ 2147483647 < l.length := by omega
  have HEX := Lib.hid (fun w1 (hb : w1.heap[w.heap.size]? = some (.cells #[.int .i64 5, .int .i64 3, .int .i64 9, .int .i64 3, .int .i64 1] 3 (0, 0))) => sAscend_any _ [5, 3, 9, 3, 1] 4 2 w1 (exInts w1 w.heap.size _ [5, 3, 9, 3, 1] rfl hb) (by simp))
  have HG := Lib.hid (fun w1 (c : Chg (fun _ _ => False) w w1) => sAscend_any (.slice a l.length cap) l k n w1 (HS.out.chg c) hlen)
  have e5 : [(5 : Int), 3, 9, 3, 1].length = 5 := rfl
  rw [e5] at HEX
  go_enter Try.func6, Try.ntmps6
  go_wp2_with fail
  refine name_calls (fun w1 => Chg (fun _ _ => False) w w1 ∧ w1.heap[w.heap.size]? = some (.cells #[.int .i64 5, .int .i64 3, .int .i64 9, .int .i64 3, .int .i64 1] 3 (0, 0))) ⟨(Chg.refl _ _).alloc _, ha_at _ _ rfl⟩ ?_
  rintro w1 ⟨hc1, hb1⟩
  refine (HEX.out w1 hb1).mono ?_
  rintro e w2 ⟨rfl, hc2⟩
  go_wp2_with fail
  refine (HG.out _ (hc1.trans hc2)).mono ?_
  rintro e w3 ⟨rfl, hc3⟩
  go_wp2_with fail
  go_ret
  exact ⟨rfl, (hc1.trans hc2).trans hc3⟩
end Go.Proofs.Ytjggkpmlffhjgaa
