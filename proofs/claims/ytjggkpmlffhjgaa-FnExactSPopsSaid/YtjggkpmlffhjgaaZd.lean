/- The law on SGetAt. -/
import Derived.Test.YtjggkpmlffhjgaaZc
namespace Go.Proofs.Ytjggkpmlffhjgaa
set_option linter.unusedSimpArgs false
set_option linter.unusedVariables false
open Go.RowKit

set_option maxRecDepth 100000 in
set_option maxHeartbeats 1000000 in
theorem sGetAt_any (v : Value) (l : List Int) (kv : Value) (ks : List Int) (w : World) (hs : SlE intE w v l) (hk : SlE intE w kv ks) (hlen : l.length ≤ 2147483647) (hkl : ks.length ≤ 2147483647) :
    Calls Try.prog 18 #[v, kv] w fun e w' => e = .returned (.bool true) ∧ Chg (fun _ _ => False) w w' := by
  have hM := SGetAt_any v l kv ks w hs hk hlen hkl
  have e1 : ∀ L : List (Int × Int), growL L = treeL (ltR id) L := fun _ => rfl
  rw [e1] at hM
  have HM := Lib.hid hM
  unfold OwnPost at HM
  have HI := Lib.hid (fun w1 (c : Chg (fun _ _ => False) w w1) => specItems_any v l w1 (hs.chg c) (by omega))
  unfold OwnPost at HI
  have HT := Lib.hid (fun p2 cap2 w1 (h : ItemsAt w1 p2 (l.map itK)) (c : Chg (fun _ _ => False) w w1) => GGetAt_nil p2 cap2 (l.map itK) kv ks w1 h (hk.chg c) (by simpa using hlen) hkl)
  unfold OwnPost makeV at HT
  generalize treeL (ltR id) (l.map itK) = V at HM HT
  have e2 : (ks.map fun i => atL V i).map (fun o => o.map Prod.fst) = ks.map fun i => (atL V i).map Prod.fst := by rw [List.map_map]; rfl
  have HE2 := Lib.hid e2
  have hkk : (ks.map fun i => atL V i).length ≤ 2147483648 := by simp; omega
  generalize (ks.map fun i => atL V i) = A at HT HE2 hkk
  have hkk2 : (ks.map fun i => (atL V i).map Prod.fst).length ≤ 2147483648 := by simp; omega
  generalize (ks.map fun i => (atL V i).map Prod.fst) = B at HM HE2 hkk2
  obtain ⟨a, cap, rfl⟩ := hs.form
  obtain ⟨a3, cap3, rfl⟩ := hk.form
  clear hM e1 hs hk e2
  go_enter Try.func18, Try.ntmps18
  go_wp2_with fail
  refine HM.out.mono ?_
  rintro e w1 ⟨v1, rfl, how1, hc1⟩
  have HOW1 := Lib.hid how1.sl
  clear how1 HM
  go_wp2_with fail
  refine (HI.out _ hc1).mono ?_
  rintro e w2 ⟨v2, rfl, how2, hc2⟩
  obtain ⟨p2, cap2, rfl, hi2, hcap2⟩ := how2.sl.itemsAt
  have ht := HT.out p2 cap2 w2 hi2 (hc1.trans hc2)
  rw [List.length_map] at ht
  replace HT := Lib.hid ht
  clear ht how2 hi2 HI
  go_wp2_with fail
  refine HT.out.mono ?_
  rintro e w3 ⟨v3, rfl, how3, hc3⟩
  have HK := Lib.hid (keysOf_any v3 A w3 how3.sl hkk)
  unfold OwnPost at HK
  clear how3 HT
  go_wp2_with fail
  refine HK.out.mono ?_
  rintro e w4 ⟨v4, rfl, how4, hc4⟩
  have h4 := how4.sl
  rw [HE2.out] at h4
  have HOW4 := Lib.hid h4
  clear how4 HK h4
  go_wp2_with fail
  refine (equal_key _ _ B _ (HOW1.out.chg ((hc2.trans hc3).trans hc4)) HOW4.out (by omega)).mono ?_
  rintro e w5 ⟨rfl, hc5⟩
  go_wp2_with fail
  go_ret
  exact ⟨rfl, (((hc1.trans hc2).trans hc3).trans hc4).trans hc5⟩

theorem exPlaces_any (w : World) : Calls Try.prog 16 #[] w fun e w' => ∃ b, e = .returned (.slice (some ⟨b, 0, none⟩) 5 5) ∧ SlE intE w' (.slice (some ⟨b, 0, none⟩) 5 5) [0, 2, 5, -1, 100] ∧ Chg (fun _ _ => False) w w' := by
  go_enter Try.func16, Try.ntmps16
  go_wp2
  go_ret
  exact ⟨w.heap.size, rfl, exInts _ _ _ [0, 2, 5, -1, 100] rfl (ha_at _ _ rfl), (Chg.refl _ _).alloc _⟩

set_option maxRecDepth 100000 in
theorem law_ExactSGetAt (v : Value) (l : List Int) (kv : Value) (ks : List Int) (w : World) (hs : SlE intE w v l) (hk : SlE intE w kv ks) :
    Calls Try.prog 5 #[v, kv] w fun e w' => e = .returned (.bool true) ∧ Chg (fun _ _ => False) w w' := by
  have HS := Lib.hid hs
  have HK := Lib.hid hk
  obtain ⟨a, cap, rfl⟩ := hs.form
  obtain ⟨a3, cap3, rfl⟩ := hk.form
  clear hs hk
  by_cases hlen : l.length ≤ 2147483647
  rotate_left
  · have hlen' : 2147483647 < l.length := by omega
    go_enter Try.func5, Try.ntmps5
    go_wp2_with fail
    go_ret
    exact ⟨rfl, Chg.refl _ _⟩
  have hn : ¬ 2147483647 < l.length := by omega
  by_cases hkl : ks.length ≤ 2147483647
  rotate_left
  · have hkl' : 2147483647 < ks.length := by omega
    go_enter Try.func5, Try.ntmps5
    go_wp2_with fail
    go_ret
    exact ⟨rfl, Chg.refl _ _⟩
  have hkn : ¬ 2147483647 < ks.length := by omega
  have HEX := Lib.hid (fun w1 kv1 (hb : w1.heap[w.heap.size]? = some (.cells #[.int .i64 5, .int .i64 3, .int .i64 9, .int .i64 3, .int .i64 1] 3 (0, 0))) (hk : SlE intE w1 kv1 [0, 2, 5, -1, 100]) => sGetAt_any _ [5, 3, 9, 3, 1] kv1 [0, 2, 5, -1, 100] w1 (exInts w1 w.heap.size _ [5, 3, 9, 3, 1] rfl hb) hk (by simp) (by simp))
  have HG := Lib.hid (fun w1 (c : Chg (fun _ _ => False) w w1) => sGetAt_any (.slice a l.length cap) l (.slice a3 ks.length cap3) ks w1 (HS.out.chg c) (HK.out.chg c) hlen hkl)
  have e5 : [(5 : Int), 3, 9, 3, 1].length = 5 := rfl
  rw [e5] at HEX
  go_enter Try.func5, Try.ntmps5
  go_wp2_with fail
  refine name_calls (fun w1 => Chg (fun _ _ => False) w w1 ∧ w1.heap[w.heap.size]? = some (.cells #[.int .i64 5, .int .i64 3, .int .i64 9, .int .i64 3, .int .i64 1] 3 (0, 0))) ⟨(Chg.refl _ _).alloc _, ha_at _ _ rfl⟩ ?_
  rintro w1 ⟨hc1, hb1⟩
  have HB1 := Lib.hid hb1
  clear hb1
  refine (exPlaces_any w1).mono ?_
  rintro e w2 ⟨b2, rfl, hk2, hc2⟩
  have HK2 := Lib.hid hk2
  clear hk2
  go_wp2_with fail
  refine (HEX.out w2 _ (by rw [hc2.block (heap_lt HB1.out) (fun _ h => h)]; exact HB1.out) HK2.out).mono ?_
  rintro e w3 ⟨rfl, hc3⟩
  go_wp2_with fail
  refine (HG.out _ ((hc1.trans hc2).trans hc3)).mono ?_
  rintro e w4 ⟨rfl, hc4⟩
  go_wp2_with fail
  go_ret
  exact ⟨rfl, ((hc1.trans hc2).trans hc3).trans hc4⟩
end Go.Proofs.Ytjggkpmlffhjgaa
