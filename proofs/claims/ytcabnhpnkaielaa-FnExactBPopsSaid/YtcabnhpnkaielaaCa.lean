/- find; getHint, GetMut of trees of interfaces. -/
import Derived.Test.YtcabnhpnkaielaaBx
namespace Go.Proofs.Ytcabnhpnkaielaa
set_option linter.unusedSimpArgs false
set_option linter.unusedVariables false
open Go.RowKit

set_option maxRecDepth 100000 in
theorem find_any {ord : List Int} {k : Kc ord} {mn mx : Nat} {w : World} {n : Nat} {r : NodeR (It ord)} {l : Lay} (t : Nat) (x : It ord) (dp : Int) (hm : MapAt k mn mx w t) (h : NodeAt (parM k) w n r l) (hs : Srt ltM r.items) (hlen : r.items.length ≤ 1000000) :
    Calls Try.prog 129 #[.pointer (some ⟨t, 0, none⟩), .pointer (some ⟨n, 0, none⟩), aggM x, .pointer none, .int .i64 dp] w (SrchN r.items x w) := by
  have HS := Lib.hid (search_node t x hm h hs hlen)
  clear hm h hs
  unfold aggM at HS ⊢
  unfold SrchN at HS ⊢
  go_enter Try.func129, Try.ntmps129
  go_wp2_with fail
  refine HS.out.mono ?_
  rintro e w2 ⟨i, f, rfl, hc, hf⟩
  go_wp2_with fail
  go_ret2
  exact ⟨i, f, rfl, hc, hf⟩

theorem fnd_kid {α : Type} {lt : α → α → Bool} (s : Swo lt) {h : Nat} {T : BT α (h + 1)} {mn mx i : Nat} {c : BT α h} {x : α} (hs : Sh mn mx (h + 1) T) (hc : T.2.2[i]? = some c) (hsrt : Srt lt (toL (h + 1) T)) (hp : PosAt lt T.2.1 x i) :
    fndL lt x (toL (h + 1) T) = fndL lt x (toL h c) := by
  obtain ⟨h1, h2⟩ := around s hs hc hsrt hp
  rw [toL_at hs hc]
  exact fndL_mid s h1 h2

theorem kid_lt {α : Type} {h : Nat} {T : BT α (h + 1)} {mn mx : Nat} {c : BT α h} (hs : Sh mn mx (h + 1) T) (hc : c ∈ T.2.2) (h1 : 1 ≤ T.2.1.length) : (toL h c).length < (toL (h + 1) T).length := by
  have e := inter_len T.2.1 (T.2.2.map (toL h)) (by simpa using hs.2.1)
  obtain ⟨A, B, hAB⟩ := List.append_of_mem hc
  have e2 : (toL (h + 1) T).length = T.2.1.length + ((T.2.2.map (toL h)).map (·.length)).sum := e
  rw [e2, hAB]
  simp only [List.map_append, List.map_cons, List.sum_append, List.sum_cons]
  omega

set_option maxRecDepth 100000 in
set_option maxHeartbeats 1000000 in
theorem getHint_any {ord : List Int} {k : Kc ord} {mn mx : Nat} {w : World} {F : Nat → Prop} {t : Nat} {l : List (It ord)} (mt : Bool) (x : It ord) (hM : MapIn k mn mx w F t l) (hmn : 1 ≤ mn) :
    Calls Try.prog 119 #[.pointer (some ⟨t, 0, none⟩), aggM x, .pointer none, .bool mt] w fun e w' => e = .returned (endV (fndL ltM x l)) ∧ Chg (fun _ _ => False) w w' := by
  rcases hM with ⟨rfl, _, hB⟩ | ⟨H, h, T, hI, hB, rfl, h1⟩
  · have c2 : w.cell? ⟨t, 2, none⟩ = some (.pointer none) := hB.c2
    have c7 := hB.at_.c4
    clear hB
    unfold aggM
    go_enter Try.func119, Try.ntmps119
    go_wp2_with fail
    refine (lock_any t mt _).mono ?_
    rintro e w' ⟨rfl, rfl⟩
    go_wp2_with fail
    refine bodyPost_ret (v := .tuple #[.nilIface, .bool false]) (by simp [results, Try.results119, go_sem]) rfl ?_
    exact ⟨rfl, Chg.refl _ _⟩
  · have HB := Lib.hid hB
    have HI := Lib.hid hI
    have hmx := hI.m1000
    generalize hfd : fndL ltM x (toL h T) = o
    have HFD := Lib.hid hfd
    have c2 : w.cell? ⟨t, 2, none⟩ = some (.pointer (some ⟨rid T, 0, none⟩)) := hB.c2
    have c0 := hB.at_.c0
    have c7 := hB.at_.c4
    obtain ⟨l0, hn0⟩ := hI.fam.node hI.isT.root
    have n0 := hn0.c0
    clear hB hI hfd hn0
    unfold aggM
    go_enter Try.func119, Try.ntmps119
    go_wp2_with fail
    refine (lock_any t mt _).mono ?_
    rintro e w' ⟨rfl, rfl⟩
    go_wp2_with fail
    refine (isoLoad_any t (rid T) k _ _ _ c2 n0 c0).mono ?_
    rintro e w2 ⟨rfl, m, hw1⟩
    have hc2 : Chg (fun _ _ => False) w w2 := by rw [hw1]; exact (Chg.refl _ _).drewN _
    clear hw1
    go_wp2_with fail
    go_loopw [10, 11] (fun nv dv wr => ∃ h', ∃ T' : BT (It ord) h', ∃ dp : Int, nv = .pointer (some ⟨rid T', 0, none⟩) ∧ dv = .int .i64 dp ∧ IsT H h' T' ∧ Sh mn mx h' T' ∧ 1 ≤ (its T').length ∧ Srt ltM (toL h' T') ∧ fndL ltM x (toL h' T') = o ∧ Chg (fun _ _ => False) w wr) (fun nv _ _ => mOf H nv)
    case atStart => exact ⟨h, T, 0, rfl, rfl, HI.out.isT, HI.out.sh, h1, HI.out.srt, HFD.out, hc2⟩
    case round =>
      obtain ⟨h', T', dp, rfl, rfl, hT, hs, hit, hsrt, hfo, hc⟩ := hrel
      have hFr := HI.out.fam.chg hc (fun _ _ _ h => h)
      obtain ⟨l2, hn2⟩ := hFr.node hT.root
      have hits := its_srt hs hsrt
      have hsl := hs.len
      have hse := find_any t x dp ((HB.out.chg hc (fun _ _ _ h => h)).at_) hn2 (by rw [recOf_items]; exact hits) (by rw [recOf_items]; omega)
      rw [recOf_items] at hse
      unfold aggM at hse
      have HSE := Lib.hid hse
      have HFO := Lib.hid hfo
      have HFR := Lib.hid hFr
      clear hse hfo hFr
      go_wp2_with fail
      refine HSE.out.mono ?_
      rintro e w3 ⟨i, f, rfl, hw3, hf⟩
      have hc3 : Chg (fun _ _ => False) wr w3 := hw3
      clear hw3
      have hc13 := hc.trans hc3
      have hn3 := hn2.chg hc3 (fun _ _ _ h => h)
      have cw0 := hc13.cell (fun h => h) c0
      have cw7 := hc13.cell (fun h => h) c7
      rcases hf with ⟨rfl, y, hy⟩ | ⟨rfl, hp⟩
      · have n2 := hn3.c2
        rw [recOf_items] at n2
        have hyi : (recOf h' T').items[i]? = some y := by rw [recOf_items]; exact hy.at_
        have hilt := (List.getElem?_eq_some_iff.1 hy.at_).1
        have iv : w3.cell? ⟨l2.ib, l2.io + i, none⟩ = some (.iface 26 (.agg #[.int .i64 y.1, .int .i64 y.2])) := hn3.mval hyi
        have i0 : (0 : Int) ≤ (i : Int) := by omega
        have i1 : (i : Int) < ((its T').length : Int) := by omega
        have ho : o = some y := by rw [← HFO.out]; exact (toL_hit swoM hs hsrt hy).2
        clear hyi
        go_wp2_with fail
        refine bodyPost_ret (v := .tuple #[.iface 26 (.agg #[.int .i64 y.1, .int .i64 y.2]), .bool true]) (by simp [results, Try.results119, go_sem]) rfl ?_
        exact ⟨by rw [ho]; rfl, hc13⟩
      · rcases h' with _ | h'
        · have n3 := hn3.c3n rfl
          have ho : o = none := by rw [← HFO.out]; exact (pos_gap swoM (xs := T'.2) hp).2
          go_wp2_with fail
          refine bodyPost_ret (v := .tuple #[.nilIface, .bool false]) (by simp [results, Try.results119, go_sem]) rfl ?_
          exact ⟨by rw [ho]; rfl, hc13⟩
        · have hple : i ≤ T'.2.1.length := hp.le
          have hkl : T'.2.2.length = T'.2.1.length + 1 := hs.2.1
          obtain ⟨c, hcj⟩ : ∃ c, T'.2.2[i]? = some c := ⟨_, List.getElem?_eq_getElem (by omega)⟩
          have hcm : c ∈ T'.2.2 := List.mem_of_getElem? hcj
          have hk : (recOf (h' + 1) T').kids = some (T'.2.2.map fun c => some (rid c)) := rfl
          have n3 := hn3.c3s hk
          have nc := hn3.cc hk
          rw [List.length_map] at nc
          have kc : w3.cell? ⟨l2.cb, l2.co + i, none⟩ = some (.pointer (some ⟨rid c, 0, none⟩)) := hn3.kidc hk (j := i) (o := some (rid c)) (by simp [hcj])
          have i0 : (0 : Int) ≤ (i : Int) := by omega
          have i1 : (i : Int) < (T'.2.2.length : Int) := by omega
          have hfk := fnd_kid swoM hs hcj hsrt hp
          have HFK : Hid (fndL ltM x (toL h' c) = o) := Lib.hid (by rw [← hfk]; exact HFO.out)
          have hgt := kid_lt hs hcm hit
          have hsub := sub_srt hs hcj hsrt
          obtain ⟨lc, hnc⟩ := (HFR.out.chg hc3 (fun _ _ _ h => h)).node (hT.kid hcm).root
          have nc0 := hnc.c0
          have m2 := mOf_root (hT.kid hcm)
          have m1 := mOf_root hT
          clear hkl hcj hfk hnc
          go_wp2_with fail
          refine (isoLoad_any t (rid c) k _ _ _ kc nc0 cw0).mono ?_
          rintro e w4 ⟨rfl, m4, hw4⟩
          have hc4 : Chg (fun _ _ => False) w3 w4 := by rw [hw4]; exact (Chg.refl _ _).drewN _
          clear hw4
          go_wp2_with fail
          go_roundw
          case rel => exact ⟨h', c, _, rfl, rfl, hT.kid hcm, (hs.2.2 c hcm).2, Nat.le_trans hmn (hs.2.2 c hcm).1, hsub, HFK.out, hc13.trans hc4⟩
          case measure => rw [m1, m2]; exact hgt

theorem GetHintMut_any {ord : List Int} {k : Kc ord} {mn mx : Nat} {w : World} {F : Nat → Prop} {t : Nat} {l : List (It ord)} (x : It ord) (hM : MapIn k mn mx w F t l) (hmn : 1 ≤ mn) :
    Calls Try.prog 102 #[.pointer (some ⟨t, 0, none⟩), aggM x, .pointer none] w fun e w' => e = .returned (endV (fndL ltM x l)) ∧ Chg (fun _ _ => False) w w' := by
  have HC := Lib.hid (getHint_any true x hM hmn)
  clear hM
  unfold aggM at HC ⊢
  generalize fndL ltM x l = o at HC ⊢
  go_enter Try.func102, Try.ntmps102
  go_wp2_with fail
  refine HC.out.mono ?_
  rintro e w2 ⟨rfl, hc⟩
  rcases o with _ | y
  all_goals
    unfold endV
    go_wp2_with fail
    go_ret2
    exact ⟨rfl, hc⟩

theorem hGetHintMut_any {ord : List Int} {k : Kc ord} {mn mx : Nat} {w : World} {F : Nat → Prop} {hp t : Nat} {l : List (It ord)} (x : It ord) (hh : HeapAt k w hp t) (hM : MapIn k mn mx w F t l) (hmn : 1 ≤ mn) :
    Calls Try.prog 81 #[.pointer (some ⟨hp, 0, none⟩), aggM x, .pointer none, .bool true] w fun e w' => e = .returned (optV (fndL ltM x l)) ∧ Chg (fun _ _ => False) w w' := by
  have HC := Lib.hid (GetHintMut_any x hM hmn)
  have c0 := cell_of_block hh 0
  simp only [List.getElem?_toArray, List.getElem?_cons_zero] at c0
  clear hM hh
  unfold aggM at HC ⊢
  generalize fndL ltM x l = o at HC ⊢
  go_enter Try.func81, Try.ntmps81
  go_wp2_with fail
  refine HC.out.mono ?_
  rintro e w2 ⟨rfl, hc⟩
  rcases o with _ | y
  all_goals
    unfold endV
    go_wp2_with fail
    go_ret
    exact ⟨rfl, hc⟩

theorem GetMut_any {ord : List Int} {k : Kc ord} {mn mx : Nat} {w : World} {F : Nat → Prop} {hp t : Nat} {l : List (It ord)} (x : It ord) (hh : HeapAt k w hp t) (hM : MapIn k mn mx w F t l) (hmn : 1 ≤ mn) :
    Calls Try.prog 59 #[.pointer (some ⟨hp, 0, none⟩), aggM x] w fun e w' => e = .returned (optV (fndL ltM x l)) ∧ Chg (fun _ _ => False) w w' := by
  have HC := Lib.hid (hGetHintMut_any x hh hM hmn)
  clear hM hh
  unfold aggM at HC ⊢
  generalize fndL ltM x l = o at HC ⊢
  go_enter Try.func59, Try.ntmps59
  go_wp2_with fail
  refine HC.out.mono ?_
  rintro e w2 ⟨rfl, hc⟩
  go_wp2_with fail
  go_ret
  exact ⟨rfl, hc⟩
end Go.Proofs.Ytcabnhpnkaielaa
