/- get, Get. -/
import Derived.Test.YtkgcjgedpefhjaaMin
namespace Go.Proofs.Ytkgcjgedpefhjaa
open Go.RowKit

/-- What is found below a branch at a place between its items is found in the child there. -/
theorem fnd_kid {α : Type} {lt : α → α → Bool} (s : Swo lt) {h : Nat} {T : BT α (h + 1)} {mn mx i : Nat} {c : BT α h} {x : α} (hs : Sh mn mx (h + 1) T) (hc : T.2.2[i]? = some c) (hsrt : Srt lt (toL (h + 1) T)) (hp : PosAt lt T.2.1 x i) :
    fndL lt x (toL (h + 1) T) = fndL lt x (toL h c) := by
  obtain ⟨h1, h2⟩ := around s hs hc hsrt hp
  rw [toL_at hs hc]
  exact fndL_mid s h1 h2

theorem kid_lt {α : Type} {h : Nat} {T : BT α (h + 1)} {mn mx : Nat} {c : BT α h} (hs : Sh mn mx (h + 1) T) (hc : c ∈ T.2.2) (h1 : 1 ≤ T.2.1.length) : (toL h c).length < (toL (h + 1) T).length := by
  have e := inter_len T.2.1 (T.2.2.map (toL h)) (by simpa using hs.2.1)
  obtain ⟨A, B, hAB⟩ := List.append_of_mem hc
  have e2 : (toL (h + 1) T).length = T.2.1.length + ((T.2.2.map (toL h)).map (·.length)).sum := e
  rw [e2, hAB]
  simp only [List.map_append, List.map_cons, List.sum_append, List.sum_cons]
  omega

def getV (o : Option (Int × Int)) : Value := match o with
  | some y => .tuple #[.int .i64 y.2, .bool true]
  | none => .tuple #[.int .i64 0, .bool false]

set_option maxRecDepth 100000 in
set_option maxHeartbeats 1000000 in
theorem get_any {mn mx : Nat} {w : World} {F : Nat → Prop} {t : Nat} {l : List (Int × Int)} (mt : Bool) (key : Int) (hM : MapIn mn mx w F t l) (hmn : 1 ≤ mn) :
    Calls Try.prog 99 #[.pointer (some ⟨t, 0, none⟩), .int .i64 key, .bool mt] w fun e w' => e = .returned (getV (fndL ltM (key, 0) l)) ∧ Chg (fun _ _ => False) w w' := by
  rcases hM with ⟨rfl, _, hB⟩ | ⟨H, h, T, hI, hB, rfl, h1⟩
  · have c2 : w.cell? ⟨t, 2, none⟩ = some (.pointer none) := hB.c2
    have c4 := hB.at_.c4
    go_enter Try.func99, Try.ntmps99
    go_wp2
    go_ret2
    exact ⟨rfl, Chg.refl _ _⟩
  · have c2 : w.cell? ⟨t, 2, none⟩ = some (.pointer (some ⟨rid T, 0, none⟩)) := hB.c2
    have c0 := hB.at_.c0
    have c4 := hB.at_.c4
    obtain ⟨l0, hn0⟩ := hI.fam.node hI.isT.root
    have n0 := hn0.c0
    have hm := hI.m1000
    generalize hfd : fndL ltM (key, 0) (toL h T) = o
    have HFD := Lib.hid hfd
    clear hfd
    go_enter Try.func99, Try.ntmps99
    go_wp2_with fail
    refine (isoLoad_any t (rid T) 0 _ _ _ c2 n0 c0).mono ?_
    rintro e w1 ⟨rfl, m, hw1⟩
    have hc1 : Chg (fun _ _ => False) w w1 := by rw [hw1]; exact (Chg.refl _ _).drewN _
    clear hw1
    go_wp2_with fail
    go_loopw [8] (fun nv wr => ∃ h', ∃ T' : BT (Int × Int) h', nv = .pointer (some ⟨rid T', 0, none⟩) ∧ IsT H h' T' ∧ Sh mn mx h' T' ∧ 1 ≤ (its T').length ∧ Srt ltM (toL h' T') ∧ fndL ltM (key, 0) (toL h' T') = o ∧ Chg (fun _ _ => False) w wr) (fun nv _ => mOf H nv)
    case atStart => exact ⟨h, T, rfl, hI.isT, hI.sh, h1, hI.srt, HFD.out, hc1⟩
    case round =>
      obtain ⟨h', T', rfl, hT, hs, hit, hsrt, hfo, hc⟩ := hrel
      obtain ⟨l2, hn2⟩ := (hI.fam.chg hc (fun _ _ _ h => h)).node hT.root
      have hits := its_srt hs hsrt
      have hsl := hs.len
      have hse := search_node t (key, 0) hn2 (by rw [recOf_items]; exact hits) (by rw [recOf_items]; omega)
      rw [recOf_items] at hse
      have HSE := Lib.hid hse
      have HFO := Lib.hid hfo
      clear hse hfo
      have cw0 := hc.cell (fun h => h) c0
      have cw4 := hc.cell (fun h => h) c4
      go_wp2_with fail
      refine HSE.out.mono ?_
      rintro e w3 ⟨i, f, m3, rfl, hw3, hf⟩
      have hc3 : Chg (fun _ _ => False) wr w3 := by rw [hw3]; exact (Chg.refl _ _).drewN _
      clear hw3
      have hn3 := hn2.chg hc3 (fun _ _ _ h => h)
      replace cw0 := hc3.cell (fun h => h) cw0
      replace cw4 := hc3.cell (fun h => h) cw4
      rcases hf with ⟨rfl, y, hy⟩ | ⟨rfl, hp⟩
      · have n2 := hn3.c2
        rw [recOf_items] at n2
        have hyi : (recOf h' T').items[i]? = some y := by rw [recOf_items]; exact hy.at_
        have hilt := (List.getElem?_eq_some_iff.1 hy.at_).1
        have iv := hn3.mval hyi
        have i0 : (0 : Int) ≤ (i : Int) := by omega
        have i1 : (i : Int) < ((its T').length : Int) := by omega
        have ho : o = some y := by rw [← HFO.out]; exact (toL_hit swoM hs hsrt hy).2
        clear hyi
        go_wp2_with fail
        go_ret2
        exact ⟨by rw [ho]; rfl, hc.trans hc3⟩
      · rcases h' with _ | h'
        ·
          have n3 := hn3.c3n rfl
          have ho : o = none := by rw [← HFO.out]; exact (pos_gap swoM (xs := T'.2) hp).2
          go_wp2_with (go_at_call 70; refine (leaf_any _ none _ ?_).mono ?_; (focus go_simp); rintro e w' ⟨rfl, rfl⟩)
          go_ret2
          exact ⟨by rw [ho]; rfl, hc.trans hc3⟩
        ·
          have hple : i ≤ T'.2.1.length := hp.le
          have hkl : T'.2.2.length = T'.2.1.length + 1 := hs.2.1
          obtain ⟨c, hcj⟩ : ∃ c, T'.2.2[i]? = some c := ⟨_, List.getElem?_eq_getElem (by omega)⟩
          have hcm : c ∈ T'.2.2 := List.mem_of_getElem? hcj
          have hk : (recOf (h' + 1) T').kids = some (T'.2.2.map fun c => some (rid c)) := rfl
          have n3 := hn3.c3s hk
          have nc := hn3.cc hk
          rw [List.length_map] at nc
          have kc : w3.cell? ⟨l2.cb, l2.co + i, none⟩ = some (.pointer (some ⟨rid c, 0, none⟩)) := hn3.kidc hk (j := i) (o := some (rid c)) (by simp [hcj])
          have i0 : (0 : Int) ≤ (i : Int) := by omega
          have i1 : (i : Int) < (T'.2.2.length : Int) := by omega
          have hfk := fnd_kid swoM hs hcj hsrt hp
          have HFK : Hid (fndL ltM (key, 0) (toL h' c) = o) := Lib.hid (by rw [← hfk]; exact HFO.out)
          have hgt := kid_lt hs hcm hit
          have hsub := sub_srt hs hcj hsrt
          obtain ⟨lc, hnc⟩ := ((hI.fam.chg hc (fun _ _ _ h => h)).chg hc3 (fun _ _ _ h => h)).node (hT.kid hcm).root
          have nc0 := hnc.c0
          have m2 := mOf_root (hT.kid hcm)
          have m1 := mOf_root hT
          clear hkl hcj hfk
          go_wp2_with (go_at_call 70; refine (leaf_any _ (some ⟨l2.cc, 0, none⟩) _ ?_).mono ?_; (focus go_simp); rintro e w' ⟨rfl, rfl⟩)
          refine (isoLoad_any t (rid c) 0 _ _ _ kc nc0 cw0).mono ?_
          rintro e w4 ⟨rfl, m4, hw4⟩
          have hc4 : Chg (fun _ _ => False) w3 w4 := by rw [hw4]; exact (Chg.refl _ _).drewN _
          clear hw4
          go_wp2_with fail
          go_roundw
          case rel => exact ⟨h', c, rfl, hT.kid hcm, (hs.2.2 c hcm).2, Nat.le_trans hmn (hs.2.2 c hcm).1, hsub, HFK.out, (hc.trans hc3).trans hc4⟩
          case measure => rw [m1, m2]; exact hgt
end Go.Proofs.Ytkgcjgedpefhjaa
