/- nodeDescend over trees. -/
import Derived.Test.YtpgaedmhgchgeaaRv
namespace Go.Proofs.Ytpgaedmhgchgeaa
set_option linter.unusedSimpArgs false
set_option linter.unusedVariables false
open Go.RowKit

/-- The items that do not come behind x. -/
def dwn (lt : Int × Int → Int × Int → Bool) (x : Int × Int) (l : List (Int × Int)) : List (Int × Int) := l.takeWhile fun y => !lt x y

theorem dwn_pre {lt : Int × Int → Int × Int → Bool} {x : Int × Int} : ∀ {A B : List (Int × Int)}, (∀ a ∈ A, lt x a = false) → dwn lt x (A ++ B) = A ++ dwn lt x B
  | [], _, _ => rfl
  | a :: A, B, h => by
    have h1 := h a List.mem_cons_self
    have h2 := dwn_pre (B := B) (fun b hb => h b (List.mem_cons_of_mem _ hb))
    unfold dwn at h2 ⊢
    rw [List.cons_append, List.takeWhile_cons, h1]
    simp [h2]

theorem dwn_none {lt : Int × Int → Int × Int → Bool} {x : Int × Int} : ∀ {C : List (Int × Int)}, (∀ c ∈ C, lt x c = true) → dwn lt x C = []
  | [], _ => rfl
  | c :: C, h => by unfold dwn; rw [List.takeWhile_cons, h c List.mem_cons_self]; simp

theorem dwn_post {lt : Int × Int → Int × Int → Bool} {x : Int × Int} : ∀ {B C : List (Int × Int)}, (∀ c ∈ C, lt x c = true) → dwn lt x (B ++ C) = dwn lt x B
  | [], C, h => dwn_none h
  | b :: B, C, h => by
    have h2 := dwn_post (B := B) h
    unfold dwn at h2 ⊢
    rw [List.cons_append, List.takeWhile_cons, List.takeWhile_cons, h2]

theorem dwn_cut {lt : Int × Int → Int × Int → Bool} (s : Swo lt) {x y : Int × Int} {Q B : List (Int × Int)} (hs : Srt lt (Q ++ y :: B)) (n1 : lt y x = false) (n2 : lt x y = false) : dwn lt x (Q ++ y :: B) = Q ++ [y] := by
  obtain ⟨_, h2, h3⟩ := List.pairwise_append.1 hs
  obtain ⟨h4, _⟩ := List.pairwise_cons.1 h2
  have e : Q ++ y :: B = (Q ++ [y]) ++ B := by simp
  rw [e, dwn_pre, dwn_none, List.append_nil]
  · intro c hc; exact s.lt_of_nlt_of_lt n1 (h4 c hc)
  · intro a ha
    rcases List.mem_append.1 ha with ha | ha
    · exact s.asymm _ _ (s.lt_of_lt_of_nlt (h3 a ha y List.mem_cons_self) n2)
    · rw [List.mem_singleton.1 ha]; exact n2

theorem dwn_leaf_pos {x : Int × Int} {l : List (Int × Int)} {i : Nat} (h : PosAt ltM l x i) : dwn ltM x l = l.take i := by
  obtain ⟨h1, h2⟩ := pos_mem h
  conv => lhs; rw [← List.take_append_drop i l]
  rw [dwn_pre (fun a ha => swoM.asymm _ _ (h1 a ha)), dwn_none h2, List.append_nil]

theorem dwn_leaf_hit {x y : Int × Int} {l : List (Int × Int)} {i : Nat} (hs : Srt ltM l) (h : HitAt ltM l x i y) : dwn ltM x l = l.take (i + 1) := by
  have hi := (List.getElem?_eq_some_iff.1 h.at_).1
  have e : l = l.take i ++ y :: l.drop (i + 1) := split_at h.at_
  have e2 : l.take (i + 1) = l.take i ++ [y] := by rw [List.take_add_one, h.at_]; rfl
  rw [e2]
  conv => lhs; rw [e]
  exact dwn_cut swoM (by rw [← e]; exact hs) h.n1 h.n2

theorem dwn_kid {h : Nat} {T : BT (Int × Int) (h + 1)} {mn mx i : Nat} {c : BT (Int × Int) h} {x : Int × Int} (hs : Sh mn mx (h + 1) T) (hc : T.2.2[i]? = some c) (hsrt : Srt ltM (toL (h + 1) T)) (hp : PosAt ltM T.2.1 x i) :
    dwn ltM x (toL (h + 1) T) = pre (T.2.1.take i) ((T.2.2.map (toL h)).take i) ++ dwn ltM x (toL h c) := by
  obtain ⟨h1, h2⟩ := around swoM hs hc hsrt hp
  rw [toL_at hs hc, List.append_assoc, dwn_pre (fun a ha => swoM.asymm _ _ (h1 a ha)), dwn_post h2]

theorem dwn_hit {h : Nat} {T : BT (Int × Int) (h + 1)} {mn mx i : Nat} {x y : Int × Int} (hs : Sh mn mx (h + 1) T) (hsrt : Srt ltM (toL (h + 1) T)) (hy : HitAt ltM T.2.1 x i y) :
    dwn ltM x (toL (h + 1) T) = pre (T.2.1.take (i + 1)) ((T.2.2.map (toL h)).take (i + 1)) := by
  have hi := (List.getElem?_eq_some_iff.1 hy.at_).1
  have hml : (T.2.2.map (toL h)).length = T.2.1.length + 1 := by simpa using hs.2.1
  obtain ⟨t, ht⟩ : ∃ t, (T.2.2.map (toL h))[i]? = some t := ⟨_, List.getElem?_eq_getElem (by omega)⟩
  have e : toL (h + 1) T = pre (T.2.1.take (i + 1)) ((T.2.2.map (toL h)).take (i + 1)) ++ inter (T.2.1.drop (i + 1)) ((T.2.2.map (toL h)).drop (i + 1)) := inter_pre _ _ (i + 1) hml (by omega)
  have e3 : pre (T.2.1.take (i + 1)) ((T.2.2.map (toL h)).take (i + 1)) = (pre (T.2.1.take i) ((T.2.2.map (toL h)).take i) ++ t) ++ [y] := by rw [pre_step hy.at_ ht]; simp
  rw [e3] at e ⊢
  have e4 : toL (h + 1) T = (pre (T.2.1.take i) ((T.2.2.map (toL h)).take i) ++ t) ++ y :: inter (T.2.1.drop (i + 1)) ((T.2.2.map (toL h)).drop (i + 1)) := by rw [e]; simp
  rw [e4]
  exact dwn_cut swoM (by rw [← e4]; exact hsrt) hy.n1 hy.n2

theorem dwn_len (lt : Int × Int → Int × Int → Bool) (x : Int × Int) (l : List (Int × Int)) : (dwn lt x l).length ≤ l.length := (List.takeWhile_sublist _).length_le

def DescSpec (h : Nat) : Prop := ∀ (mn mx : Nat) (w : World) (F : Nat → Prop) (H : Nat → Option (NodeR (Int × Int))) (T : BT (Int × Int) h) (t : Nat) (pa : Addr) (key : Int) (mt : Bool) (n : Int) (ob b2 b3 rb : Nat) (acc : List (Int × Int)),
  Fam (parM 0) w F H → IsT H h T → Sh mn mx h T → Srt ltM (toL h T) → mx ≤ 1000 → w.cell? pa = some (.pointer (some ⟨rid T, 0, none⟩)) → MapAt 0 mn mx w t → KeptM n ob b2 b3 rb w acc → (∀ b, F b → ¬ TakeB ob rb b) → ¬ TakeB ob rb t → acc.length + (toL h T).length ≤ 1000000000000 →
  Calls Try.prog 64 #[.pointer (some ⟨t, 0, none⟩), .pointer (some pa), .int .i64 key, fnGD b2 b3, .bool mt] w (RunPostM n ob b2 b3 rb acc (dwn ltM (key, 0) (toL h T)).reverse w)


set_option maxRecDepth 100000 in
set_option maxHeartbeats 2000000 in
theorem desc_leaf : DescSpec 0 := by
  intro mn mx w F H T t pa key mt n ob b2 b3 rb acc hF hT hs hsrt hmx hpa ht0 hK hFb htb hlen
  obtain ⟨l0, hn0⟩ := hF.node hT.root
  have n0 := hn0.c0
  have hsl : T.2.length ≤ mx := hs.len
  have hlen' : acc.length + T.2.length ≤ 1000000000000 := hlen
  have HK := Lib.hid hK
  clear hK hlen
  unfold fnGD
  go_enter Try.func64, Try.ntmps64
  go_wp2_with fail
  refine (isoLoad_any t (rid T) 0 pa mt _ hpa n0 ht0.c0).mono ?_
  rintro e w1 ⟨rfl, m1, hw1⟩
  have hc1 : Chg (fun _ _ => False) w w1 := by rw [hw1]; exact (Chg.refl _ _).drewN _
  clear hw1 n0 hpa
  have hse := search_node t (key, 0) (ht0.chg hc1 (fun _ _ _ h => h)) (hn0.chg hc1 (fun _ _ _ h => h)) hsrt (by show T.2.length ≤ 1000000; omega)
  have HSE := Lib.hid hse
  clear hse
  go_wp2_with fail
  refine HSE.out.mono ?_
  rintro e w2 ⟨i, f, rfl, hw2, hf⟩
  have hcc : Chg (fun _ _ => False) w w2 := hc1.trans hw2
  clear hw2
  rcases hf with ⟨rfl, y, hy⟩ | ⟨rfl, hp⟩
  · have hdw := dwn_leaf_hit (l := T.2) hsrt hy
    have hil : i < T.2.length := (List.getElem?_eq_some_iff.1 hy.at_).1
    have HDW := Lib.hid hdw
    have HY := Lib.hid hy
    clear hdw hy
    go_wp2_with fail
    go_loopw [12] (fun i wr => ∃ (k : Nat) (z : Int) (acc' : List (Int × Int)), i = .int .i64 z ∧ z = (k : Int) - 1 ∧ k ≤ T.2.length ∧ KeptM n ob b2 b3 rb wr acc' ∧ runL (contN n) acc (dwn ltM (key, 0) T.2).reverse = runL (contN n) acc' (T.2.take k).reverse ∧ acc'.length + k ≤ 1000000000000 ∧ Chg (fun b _ => TakeB ob rb b) w wr) (fun i _ => (intOf i + 1).toNat)
    case atStart => exact ⟨i + 1, _, acc, rfl, by omega, by omega, HK.out.keep hcc, by rw [HDW.out], by omega, hcc.mono (fun _ _ _ h => h.elim)⟩
    case round =>
      obtain ⟨k, z, acc', rfl, hz, hk, hkp, hrun, hal, hc⟩ := hrel
      rcases k with _ | k
      · have hz0 : ¬ (0 : Int) ≤ z := by omega
        clear hz
        have HR := Lib.hid hrun
        have HKP := Lib.hid hkp
        clear hrun hkp
        go_wp2
        go_ret
        unfold RunPostM
        show _ = Ending.returned (.bool (runL (contN n) acc (dwn ltM (key, 0) T.2).reverse).2) ∧ KeptM n ob b2 b3 rb wr (runL (contN n) acc (dwn ltM (key, 0) T.2).reverse).1 ∧ _
        rw [HR.out]
        exact ⟨rfl, HKP.out, hc⟩
      · obtain rfl : z = (k : Int) := by omega
        obtain ⟨x, hx⟩ : ∃ x, T.2[k]? = some x := ⟨_, List.getElem?_eq_getElem (by omega)⟩
        obtain ⟨l, hn⟩ := (hF.chg hc (fun b o hb h => hFb b hb h)).node hT.root
        have n2 : wr.cell? ⟨rid T, 2, none⟩ = some (.slice (some ⟨l.ib, l.io, none⟩) T.2.length l.ic) := hn.c2
        have ik := hn.mkey (j := k) hx
        have htk : (T.2.take (k + 1)).reverse = x :: (T.2.take k).reverse := by rw [List.take_add_one, hx]; simp
        rw [htk] at hrun
        have hp := fun w1 (h : KeptM n ob b2 b3 rb w1 acc') => taker1MD_any x h (by omega)
        have HR := Lib.hid hrun
        have HKP := Lib.hid hkp
        have i0 : (0 : Int) ≤ (k : Int) := by omega
        have i1 : (k : Int) < (T.2.length : Int) := by omega
        clear hrun hkp htk hx hz
        cases hb : contN n (acc' ++ [x])
        all_goals
          rw [hb] at hp
          have HP := Lib.hid hp
          have HB := Lib.hid hb
          clear hp hb
          go_wp2_with fail
          refine wp_region_call (fun w' => w'.cell? ⟨rid T, 2, none⟩ = some (.slice (some ⟨l.ib, l.io, none⟩) T.2.length l.ic) ∧ w'.cell? ⟨l.ib, l.io + k, none⟩ = some (.int .i64 x.1) ∧ (partAt ⟨l.ib, l.io + k, none⟩ 0 0).run Try.prog w' = .ok ⟨l.ib, l.io + k, none⟩ w')
            17 [0, 1, 2, 3, 4, 5, 6, 7, 8, 9, 10, 11, 12, 13, 14, 15, 16] _ [18] (by kernel_rfl) (by kernel_rfl) (fun _ _ _ _ _ h => h) rfl rfl rfl ⟨n2, ik, (hn.chg (Chg.refl (fun _ _ => False) _).drew (fun _ _ _ h => h)).pz _⟩ ?_
          simp only [pickOps, List.filterMap_cons, List.filterMap_nil, List.getElem?_cons_zero, List.getElem?_cons_succ]
          refine wpSoft_step ?_ rfl ?_ ?_
          rotate_left
          · intro w' hS
            try obtain ⟨a1, a2, a3⟩ := hS
            go_simp
            try with_reducible rfl
          simp only [Act.put, List.setIfInBounds_toArray, List.set_cons_zero, List.set_cons_succ]
          refine wpSoft_step ?_ rfl ?_ ?_
          rotate_left
          · intro w' hS
            try obtain ⟨a1, a2, a3⟩ := hS
            go_simp
            try with_reducible rfl
          simp only [Act.put, List.setIfInBounds_toArray, List.set_cons_zero, List.set_cons_succ]
          refine wpSoft_step ?_ rfl ?_ ?_
          rotate_left
          · intro w' hS
            try obtain ⟨a1, a2, a3⟩ := hS
            go_simp
            try with_reducible rfl
          simp only [Act.put, List.setIfInBounds_toArray, List.set_cons_zero, List.set_cons_succ]
          refine wpSoft_step ?_ rfl ?_ ?_
          rotate_left
          · intro w' hS
            try obtain ⟨a1, a2, a3⟩ := hS
            go_simp
            try with_reducible rfl
          simp only [Act.put, List.setIfInBounds_toArray, List.set_cons_zero, List.set_cons_succ]
          refine wpSoft_step ?_ rfl ?_ ?_
          rotate_left
          · intro w' hS
            try obtain ⟨a1, a2, a3⟩ := hS
            go_simp
            try with_reducible rfl
          simp only [Act.put, List.setIfInBounds_toArray, List.set_cons_zero, List.set_cons_succ]
          refine wpSoft_step ?_ rfl ?_ ?_
          rotate_left
          · intro w' hS
            try obtain ⟨a1, a2, a3⟩ := hS
            go_simp
            try with_reducible rfl
          simp only [Act.put, List.setIfInBounds_toArray, List.set_cons_zero, List.set_cons_succ]
          refine wpSoft_step ?_ rfl ?_ ?_
          rotate_left
          · intro w' hS
            try obtain ⟨a1, a2, a3⟩ := hS
            go_simp
            try with_reducible rfl
          simp only [Act.put, List.setIfInBounds_toArray, List.set_cons_zero, List.set_cons_succ]
          refine wpSoft_step ?_ rfl ?_ ?_
          rotate_left
          · intro w' hS
            try obtain ⟨a1, a2, a3⟩ := hS
            go_simp
            try with_reducible rfl
          simp only [Act.put, List.setIfInBounds_toArray, List.set_cons_zero, List.set_cons_succ]
          refine wpSoft_step ?_ rfl ?_ ?_
          rotate_left
          · intro w' hS
            try obtain ⟨a1, a2, a3⟩ := hS
            go_simp
            try with_reducible rfl
          simp only [Act.put, List.setIfInBounds_toArray, List.set_cons_zero, List.set_cons_succ]
          refine wpSoft_step ?_ rfl ?_ ?_
          rotate_left
          · intro w' hS
            try obtain ⟨a1, a2, a3⟩ := hS
            go_simp
            try with_reducible rfl
          simp only [Act.put, List.setIfInBounds_toArray, List.set_cons_zero, List.set_cons_succ]
          refine wpSoft_step ?_ rfl ?_ ?_
          rotate_left
          · intro w' hS
            try obtain ⟨a1, a2, a3⟩ := hS
            go_simp
            try with_reducible rfl
          simp only [Act.put, List.setIfInBounds_toArray, List.set_cons_zero, List.set_cons_succ]
          refine wpSoft_step ?_ rfl ?_ ?_
          rotate_left
          · intro w' hS
            try obtain ⟨a1, a2, a3⟩ := hS
            go_simp
            try with_reducible rfl
          simp only [Act.put, List.setIfInBounds_toArray, List.set_cons_zero, List.set_cons_succ]
          refine wpSoft_step ?_ rfl ?_ ?_
          rotate_left
          · intro w' hS
            try obtain ⟨a1, a2, a3⟩ := hS
            go_simp
            try with_reducible rfl
          simp only [Act.put, List.setIfInBounds_toArray, List.set_cons_zero, List.set_cons_succ]
          refine wpSoft_step ?_ rfl ?_ ?_
          rotate_left
          · intro w' hS
            try obtain ⟨a1, a2, a3⟩ := hS
            go_simp
            try with_reducible rfl
          simp only [Act.put, List.setIfInBounds_toArray, List.set_cons_zero, List.set_cons_succ]
          refine wpSoft_step ?_ rfl ?_ ?_
          rotate_left
          · intro w' hS
            try obtain ⟨a1, a2, a3⟩ := hS
            go_simp
            try with_reducible rfl
          simp only [Act.put, List.setIfInBounds_toArray, List.set_cons_zero, List.set_cons_succ]
          refine wpSoft_step ?_ rfl ?_ ?_
          rotate_left
          · intro w' hS
            try obtain ⟨a1, a2, a3⟩ := hS
            go_simp
            try with_reducible rfl
          simp only [Act.put, List.setIfInBounds_toArray, List.set_cons_zero, List.set_cons_succ]
          refine wpSoft_step ?_ rfl ?_ ?_
          rotate_left
          · intro w' hS
            try obtain ⟨a1, a2, a3⟩ := hS
            go_simp
            try with_reducible rfl
          simp only [Act.put, List.setIfInBounds_toArray, List.set_cons_zero, List.set_cons_succ]
          refine wpSoft_nil ?_
          refine wp_hide (fun K hK => ?_)
          go_simp
          refine (HP.out _ (KeptM.keep HKP.out (Chg.refl _ _).drew)).mono ?_
          rintro e w2 ⟨rfl, hk2, hc2⟩
          refine hK _ _ ?_
          clear hK K
          refine wpSoft_step ?_ rfl ?_ ?_
          rotate_left
          · intro w' hS
            try obtain ⟨a1⟩ := hS
            go_simp
            try with_reducible rfl
          simp only [Act.put, List.setIfInBounds_toArray, List.set_cons_zero, List.set_cons_succ]
          refine wpSoft_nil ?_
          have hc02 := hc.drew.trans hc2
        · go_wp2
          go_ret
          unfold RunPostM
          show _ = Ending.returned (.bool (runL (contN n) acc (dwn ltM (key, 0) T.2).reverse).2) ∧ KeptM n ob b2 b3 rb w2 (runL (contN n) acc (dwn ltM (key, 0) T.2).reverse).1 ∧ _
          rw [HR.out, runL_stop HB.out]
          exact ⟨rfl, hk2, hc02⟩
        · obtain ⟨l2, hn2⟩ := (hF.chg hc02 (fun b o hb h => hFb b hb h)).node hT.root
          have n3 := hn2.c3n rfl
          go_wp2_with (go_at_call 58; refine (leaf_any _ none _ ?_).mono ?_; (focus go_simp); rintro e w' ⟨rfl, rfl⟩)
          go_roundw
          case rel => exact ⟨k, (k : Int) - 1, acc' ++ [x], by go_num, rfl, by omega, hk2, by rw [HR.out, runL_cons HB.out], by simp; omega, hc02⟩
          case measure => simp [intOf]
  · have hdw := dwn_leaf_pos (l := T.2) hp
    have hil : i ≤ T.2.length := hp.le
    have HDW := Lib.hid hdw
    clear hdw hp
    have n3 := hcc.cell (fun h => h) (hn0.c3n rfl)
    have i0 : (0 : Int) ≤ (i : Int) := by omega
    have i1 : (i : Int) ≤ 1000 := by omega
    go_wp2_with (go_at_call 58; refine (leaf_any _ none _ ?_).mono ?_; (focus go_simp); rintro e w' ⟨rfl, rfl⟩)
    clear n3
    go_loopw [12] (fun i wr => ∃ (k : Nat) (z : Int) (acc' : List (Int × Int)), i = .int .i64 z ∧ z = (k : Int) - 1 ∧ k ≤ T.2.length ∧ KeptM n ob b2 b3 rb wr acc' ∧ runL (contN n) acc (dwn ltM (key, 0) T.2).reverse = runL (contN n) acc' (T.2.take k).reverse ∧ acc'.length + k ≤ 1000000000000 ∧ Chg (fun b _ => TakeB ob rb b) w wr) (fun i _ => (intOf i + 1).toNat)
    case atStart => exact ⟨i, _, acc, rfl, by omega, hil, HK.out.keep hcc, by rw [HDW.out], by omega, hcc.mono (fun _ _ _ h => h.elim)⟩
    case round =>
      obtain ⟨k, z, acc', rfl, hz, hk, hkp, hrun, hal, hc⟩ := hrel
      rcases k with _ | k
      · have hz0 : ¬ (0 : Int) ≤ z := by omega
        clear hz
        have HR := Lib.hid hrun
        have HKP := Lib.hid hkp
        clear hrun hkp
        go_wp2
        go_ret
        unfold RunPostM
        show _ = Ending.returned (.bool (runL (contN n) acc (dwn ltM (key, 0) T.2).reverse).2) ∧ KeptM n ob b2 b3 rb wr (runL (contN n) acc (dwn ltM (key, 0) T.2).reverse).1 ∧ _
        rw [HR.out]
        exact ⟨rfl, HKP.out, hc⟩
      · obtain rfl : z = (k : Int) := by omega
        obtain ⟨x, hx⟩ : ∃ x, T.2[k]? = some x := ⟨_, List.getElem?_eq_getElem (by omega)⟩
        obtain ⟨l, hn⟩ := (hF.chg hc (fun b o hb h => hFb b hb h)).node hT.root
        have n2 : wr.cell? ⟨rid T, 2, none⟩ = some (.slice (some ⟨l.ib, l.io, none⟩) T.2.length l.ic) := hn.c2
        have ik := hn.mkey (j := k) hx
        have htk : (T.2.take (k + 1)).reverse = x :: (T.2.take k).reverse := by rw [List.take_add_one, hx]; simp
        rw [htk] at hrun
        have hp := fun w1 (h : KeptM n ob b2 b3 rb w1 acc') => taker1MD_any x h (by omega)
        have HR := Lib.hid hrun
        have HKP := Lib.hid hkp
        have i0 : (0 : Int) ≤ (k : Int) := by omega
        have i1 : (k : Int) < (T.2.length : Int) := by omega
        clear hrun hkp htk hx hz
        cases hb : contN n (acc' ++ [x])
        all_goals
          rw [hb] at hp
          have HP := Lib.hid hp
          have HB := Lib.hid hb
          clear hp hb
          go_wp2_with fail
          refine wp_region_call (fun w' => w'.cell? ⟨rid T, 2, none⟩ = some (.slice (some ⟨l.ib, l.io, none⟩) T.2.length l.ic) ∧ w'.cell? ⟨l.ib, l.io + k, none⟩ = some (.int .i64 x.1) ∧ (partAt ⟨l.ib, l.io + k, none⟩ 0 0).run Try.prog w' = .ok ⟨l.ib, l.io + k, none⟩ w')
            17 [0, 1, 2, 3, 4, 5, 6, 7, 8, 9, 10, 11, 12, 13, 14, 15, 16] _ [18] (by kernel_rfl) (by kernel_rfl) (fun _ _ _ _ _ h => h) rfl rfl rfl ⟨n2, ik, (hn.chg (Chg.refl (fun _ _ => False) _).drew (fun _ _ _ h => h)).pz _⟩ ?_
          simp only [pickOps, List.filterMap_cons, List.filterMap_nil, List.getElem?_cons_zero, List.getElem?_cons_succ]
          refine wpSoft_step ?_ rfl ?_ ?_
          rotate_left
          · intro w' hS
            try obtain ⟨a1, a2, a3⟩ := hS
            go_simp
            try with_reducible rfl
          simp only [Act.put, List.setIfInBounds_toArray, List.set_cons_zero, List.set_cons_succ]
          refine wpSoft_step ?_ rfl ?_ ?_
          rotate_left
          · intro w' hS
            try obtain ⟨a1, a2, a3⟩ := hS
            go_simp
            try with_reducible rfl
          simp only [Act.put, List.setIfInBounds_toArray, List.set_cons_zero, List.set_cons_succ]
          refine wpSoft_step ?_ rfl ?_ ?_
          rotate_left
          · intro w' hS
            try obtain ⟨a1, a2, a3⟩ := hS
            go_simp
            try with_reducible rfl
          simp only [Act.put, List.setIfInBounds_toArray, List.set_cons_zero, List.set_cons_succ]
          refine wpSoft_step ?_ rfl ?_ ?_
          rotate_left
          · intro w' hS
            try obtain ⟨a1, a2, a3⟩ := hS
            go_simp
            try with_reducible rfl
          simp only [Act.put, List.setIfInBounds_toArray, List.set_cons_zero, List.set_cons_succ]
          refine wpSoft_step ?_ rfl ?_ ?_
          rotate_left
          · intro w' hS
            try obtain ⟨a1, a2, a3⟩ := hS
            go_simp
            try with_reducible rfl
          simp only [Act.put, List.setIfInBounds_toArray, List.set_cons_zero, List.set_cons_succ]
          refine wpSoft_step ?_ rfl ?_ ?_
          rotate_left
          · intro w' hS
            try obtain ⟨a1, a2, a3⟩ := hS
            go_simp
            try with_reducible rfl
          simp only [Act.put, List.setIfInBounds_toArray, List.set_cons_zero, List.set_cons_succ]
          refine wpSoft_step ?_ rfl ?_ ?_
          rotate_left
          · intro w' hS
            try obtain ⟨a1, a2, a3⟩ := hS
            go_simp
            try with_reducible rfl
          simp only [Act.put, List.setIfInBounds_toArray, List.set_cons_zero, List.set_cons_succ]
          refine wpSoft_step ?_ rfl ?_ ?_
          rotate_left
          · intro w' hS
            try obtain ⟨a1, a2, a3⟩ := hS
            go_simp
            try with_reducible rfl
          simp only [Act.put, List.setIfInBounds_toArray, List.set_cons_zero, List.set_cons_succ]
          refine wpSoft_step ?_ rfl ?_ ?_
          rotate_left
          · intro w' hS
            try obtain ⟨a1, a2, a3⟩ := hS
            go_simp
            try with_reducible rfl
          simp only [Act.put, List.setIfInBounds_toArray, List.set_cons_zero, List.set_cons_succ]
          refine wpSoft_step ?_ rfl ?_ ?_
          rotate_left
          · intro w' hS
            try obtain ⟨a1, a2, a3⟩ := hS
            go_simp
            try with_reducible rfl
          simp only [Act.put, List.setIfInBounds_toArray, List.set_cons_zero, List.set_cons_succ]
          refine wpSoft_step ?_ rfl ?_ ?_
          rotate_left
          · intro w' hS
            try obtain ⟨a1, a2, a3⟩ := hS
            go_simp
            try with_reducible rfl
          simp only [Act.put, List.setIfInBounds_toArray, List.set_cons_zero, List.set_cons_succ]
          refine wpSoft_step ?_ rfl ?_ ?_
          rotate_left
          · intro w' hS
            try obtain ⟨a1, a2, a3⟩ := hS
            go_simp
            try with_reducible rfl
          simp only [Act.put, List.setIfInBounds_toArray, List.set_cons_zero, List.set_cons_succ]
          refine wpSoft_step ?_ rfl ?_ ?_
          rotate_left
          · intro w' hS
            try obtain ⟨a1, a2, a3⟩ := hS
            go_simp
            try with_reducible rfl
          simp only [Act.put, List.setIfInBounds_toArray, List.set_cons_zero, List.set_cons_succ]
          refine wpSoft_step ?_ rfl ?_ ?_
          rotate_left
          · intro w' hS
            try obtain ⟨a1, a2, a3⟩ := hS
            go_simp
            try with_reducible rfl
          simp only [Act.put, List.setIfInBounds_toArray, List.set_cons_zero, List.set_cons_succ]
          refine wpSoft_step ?_ rfl ?_ ?_
          rotate_left
          · intro w' hS
            try obtain ⟨a1, a2, a3⟩ := hS
            go_simp
            try with_reducible rfl
          simp only [Act.put, List.setIfInBounds_toArray, List.set_cons_zero, List.set_cons_succ]
          refine wpSoft_step ?_ rfl ?_ ?_
          rotate_left
          · intro w' hS
            try obtain ⟨a1, a2, a3⟩ := hS
            go_simp
            try with_reducible rfl
          simp only [Act.put, List.setIfInBounds_toArray, List.set_cons_zero, List.set_cons_succ]
          refine wpSoft_step ?_ rfl ?_ ?_
          rotate_left
          · intro w' hS
            try obtain ⟨a1, a2, a3⟩ := hS
            go_simp
            try with_reducible rfl
          simp only [Act.put, List.setIfInBounds_toArray, List.set_cons_zero, List.set_cons_succ]
          refine wpSoft_nil ?_
          refine wp_hide (fun K hK => ?_)
          go_simp
          refine (HP.out _ (KeptM.keep HKP.out (Chg.refl _ _).drew)).mono ?_
          rintro e w2 ⟨rfl, hk2, hc2⟩
          refine hK _ _ ?_
          clear hK K
          refine wpSoft_step ?_ rfl ?_ ?_
          rotate_left
          · intro w' hS
            try obtain ⟨a1⟩ := hS
            go_simp
            try with_reducible rfl
          simp only [Act.put, List.setIfInBounds_toArray, List.set_cons_zero, List.set_cons_succ]
          refine wpSoft_nil ?_
          have hc02 := hc.drew.trans hc2
        · go_wp2
          go_ret
          unfold RunPostM
          show _ = Ending.returned (.bool (runL (contN n) acc (dwn ltM (key, 0) T.2).reverse).2) ∧ KeptM n ob b2 b3 rb w2 (runL (contN n) acc (dwn ltM (key, 0) T.2).reverse).1 ∧ _
          rw [HR.out, runL_stop HB.out]
          exact ⟨rfl, hk2, hc02⟩
        · obtain ⟨l2, hn2⟩ := (hF.chg hc02 (fun b o hb h => hFb b hb h)).node hT.root
          have n3 := hn2.c3n rfl
          go_wp2_with (go_at_call 58; refine (leaf_any _ none _ ?_).mono ?_; (focus go_simp); rintro e w' ⟨rfl, rfl⟩)
          go_roundw
          case rel => exact ⟨k, (k : Int) - 1, acc' ++ [x], by go_num, rfl, by omega, hk2, by rw [HR.out, runL_cons HB.out], by simp; omega, hc02⟩
          case measure => simp [intOf]


set_option maxRecDepth 100000 in
set_option maxHeartbeats 4000000 in
theorem desc_branch {h : Nat} (ih : DescSpec h) : DescSpec (h + 1) := by
  intro mn mx w F H T t pa key mt n ob b2 b3 rb acc hF hT hs hsrt hmx hpa ht0 hK hFb htb hlen
  obtain ⟨l0, hn0⟩ := hF.node hT.root
  have n0 := hn0.c0
  have hk : (recOf (h + 1) T).kids = some (T.2.2.map fun c => some (rid c)) := rfl
  have hsl : T.2.1.length ≤ mx := hs.len
  have hkl : T.2.2.length = T.2.1.length + 1 := hs.2.1
  have hml : (T.2.2.map (toL h)).length = T.2.1.length + 1 := by simpa using hkl
  have hdl := dwn_len ltM (key, 0) (toL (h + 1) T)
  have hits : Srt ltM T.2.1 := its_srt hs hsrt
  have HKL := Lib.hid hkl
  have HML := Lib.hid hml
  have HLEN := Lib.hid hlen
  have HDL := Lib.hid hdl
  have HK := Lib.hid hK
  have HT0 := Lib.hid ht0
  have HSRT := Lib.hid hsrt
  have hrv := fun (c : BT (Int × Int) h) (hcm : c ∈ T.2.2) (w1 : World) (pa1 : Addr) (acc1 : List (Int × Int)) (hc1 : Chg (fun b _ => TakeB ob rb b) w w1) (hp1 : w1.cell? pa1 = some (.pointer (some ⟨rid c, 0, none⟩))) (h1 : KeptM n ob b2 b3 rb w1 acc1) (h2 : acc1.length + (toL h c).length ≤ 1000000000000) =>
    rev_all h mn mx w1 F H c t pa1 mt n ob b2 b3 rb acc1 (hF.chg hc1 (fun b o hb h => hFb b hb h)) (hT.kid hcm) (hs.2.2 c hcm).2 hp1 (hc1.cell (a := ⟨t, 0, none⟩) (fun h => htb h) HT0.out.c0) h1 hFb htb h2
  have hih := fun (i : Nat) (c : BT (Int × Int) h) (hci : T.2.2[i]? = some c) (hcm : c ∈ T.2.2) (w1 : World) (pa1 : Addr) (hc1 : Chg (fun _ _ => False) w w1) (hp1 : w1.cell? pa1 = some (.pointer (some ⟨rid c, 0, none⟩))) (h1 : KeptM n ob b2 b3 rb w1 acc) (h2 : acc.length + (toL h c).length ≤ 1000000000000) =>
    ih mn mx w1 F H c t pa1 key mt n ob b2 b3 rb acc (hF.chg hc1 (fun b o hb h => h)) (hT.kid hcm) (hs.2.2 c hcm).2 (sub_srt hs hci HSRT.out) hmx hp1 (HT0.out.chg hc1 (fun _ _ _ h => h)) h1 hFb htb h2
  unfold fnGD at hrv hih
  have HRV := Lib.hid hrv
  have HIH := Lib.hid hih
  clear hK hlen hkl hml hrv hih hdl hsrt
  unfold fnGD
  go_enter Try.func64, Try.ntmps64
  go_wp2_with fail
  refine (isoLoad_any t (rid T) 0 pa mt _ hpa n0 ht0.c0).mono ?_
  rintro e w1 ⟨rfl, m1, hw1⟩
  have hc1 : Chg (fun _ _ => False) w w1 := by rw [hw1]; exact (Chg.refl _ _).drewN _
  clear hw1 n0 hpa
  have hse := search_node t (key, 0) (ht0.chg hc1 (fun _ _ _ h => h)) (hn0.chg hc1 (fun _ _ _ h => h)) hits (by show T.2.1.length ≤ 1000000; omega)
  have HSE := Lib.hid hse
  clear hse
  go_wp2_with fail
  refine HSE.out.mono ?_
  rintro e w2 ⟨i, f, rfl, hw2, hf⟩
  have hcc : Chg (fun _ _ => False) w w2 := hc1.trans hw2
  clear hw2
  rcases hf with ⟨rfl, y, hy⟩ | ⟨rfl, hp⟩
  · have hdw := dwn_hit hs HSRT.out hy
    have hil : i < T.2.1.length := (List.getElem?_eq_some_iff.1 hy.at_).1
    have HDW := Lib.hid hdw
    clear hdw hy
    go_wp2_with fail
    go_loopw [12] (fun i wr => ∃ (k : Nat) (z : Int) (acc' : List (Int × Int)), i = .int .i64 z ∧ z = (k : Int) - 1 ∧ k ≤ T.2.1.length ∧ KeptM n ob b2 b3 rb wr acc' ∧ runL (contN n) acc (dwn ltM (key, 0) (toL (h + 1) T)).reverse = runL (contN n) acc' (pre (T.2.1.take k) ((T.2.2.map (toL h)).take k)).reverse ∧ acc'.length + (pre (T.2.1.take k) ((T.2.2.map (toL h)).take k)).length ≤ 1000000000000 ∧ Chg (fun b _ => TakeB ob rb b) w wr) (fun i _ => (intOf i + 1).toNat)
    case atStart => exact ⟨i + 1, _, acc, rfl, by omega, by omega, HK.out.keep hcc, by rw [HDW.out], by have := HLEN.out; have h2 := HDL.out; rw [HDW.out] at h2; omega, hcc.mono (fun _ _ _ h => h.elim)⟩
    case round =>
      obtain ⟨k, z, acc', rfl, hz, hkk, hkp, hrun, hal, hc⟩ := hrel
      rcases k with _ | k
      · have hz0 : ¬ (0 : Int) ≤ z := by omega
        have HR := Lib.hid hrun
        have HKP := Lib.hid hkp
        clear hz hrun hkp
        go_wp2
        go_ret
        unfold RunPostM
        show _ = Ending.returned (.bool (runL (contN n) acc (dwn ltM (key, 0) (toL (h + 1) T)).reverse).2) ∧ KeptM n ob b2 b3 rb wr (runL (contN n) acc (dwn ltM (key, 0) (toL (h + 1) T)).reverse).1 ∧ _
        rw [HR.out]
        exact ⟨rfl, HKP.out, hc⟩
      · obtain rfl : z = (k : Int) := by omega
        obtain ⟨x, hx⟩ : ∃ x, T.2.1[k]? = some x := ⟨_, List.getElem?_eq_getElem (by omega)⟩
        obtain ⟨c, hcj⟩ : ∃ c, T.2.2[k]? = some c := ⟨_, List.getElem?_eq_getElem (by have := HKL.out; omega)⟩
        have hcm : c ∈ T.2.2 := List.mem_of_getElem? hcj
        have htj : (T.2.2.map (toL h))[k]? = some (toL h c) := by simp [hcj]
        have hkc := (List.getElem?_eq_some_iff.1 hcj).1
        obtain ⟨l, hn⟩ := (hF.chg hc (fun b o hb h => hFb b hb h)).node hT.root
        have n2 : wr.cell? ⟨rid T, 2, none⟩ = some (.slice (some ⟨l.ib, l.io, none⟩) T.2.1.length l.ic) := hn.c2
        have ik := hn.mkey (j := k) hx
        have hpr := pre_rev hx htj
        have hptl := pre_take_len HML.out htj (by omega)
        rw [hpr] at hrun
        have hp := fun w1 (h : KeptM n ob b2 b3 rb w1 acc') => taker1MD_any x h (by omega)
        have HR := Lib.hid hrun
        have HKP := Lib.hid hkp
        have HCJ := Lib.hid hcj
        have HPTL := Lib.hid hptl
        have i0 : (0 : Int) ≤ (k : Int) := by omega
        have i1 : (k : Int) < (T.2.1.length : Int) := by omega
        have i2 : (k : Int) < (T.2.2.length : Int) := by omega
        clear hrun hkp hpr hx hz htj hcj hptl
        cases hb : contN n (acc' ++ [x])
        all_goals
          rw [hb] at hp
          have HP := Lib.hid hp
          have HB1 := Lib.hid hb
          clear hp hb
          go_wp2_with fail
          refine wp_region_call (fun w' => w'.cell? ⟨rid T, 2, none⟩ = some (.slice (some ⟨l.ib, l.io, none⟩) T.2.1.length l.ic) ∧ w'.cell? ⟨l.ib, l.io + k, none⟩ = some (.int .i64 x.1) ∧ (partAt ⟨l.ib, l.io + k, none⟩ 0 0).run Try.prog w' = .ok ⟨l.ib, l.io + k, none⟩ w')
            17 [0, 1, 2, 3, 4, 5, 6, 7, 8, 9, 10, 11, 12, 13, 14, 15, 16] _ [18] (by kernel_rfl) (by kernel_rfl) (fun _ _ _ _ _ h => h) rfl rfl rfl ⟨n2, ik, (hn.chg (Chg.refl (fun _ _ => False) _).drew (fun _ _ _ h => h)).pz _⟩ ?_
          simp only [pickOps, List.filterMap_cons, List.filterMap_nil, List.getElem?_cons_zero, List.getElem?_cons_succ]
          refine wpSoft_step ?_ rfl ?_ ?_
          rotate_left
          · intro w' hS
            try obtain ⟨a1, a2, a3⟩ := hS
            go_simp
            try with_reducible rfl
          simp only [Act.put, List.setIfInBounds_toArray, List.set_cons_zero, List.set_cons_succ]
          refine wpSoft_step ?_ rfl ?_ ?_
          rotate_left
          · intro w' hS
            try obtain ⟨a1, a2, a3⟩ := hS
            go_simp
            try with_reducible rfl
          simp only [Act.put, List.setIfInBounds_toArray, List.set_cons_zero, List.set_cons_succ]
          refine wpSoft_step ?_ rfl ?_ ?_
          rotate_left
          · intro w' hS
            try obtain ⟨a1, a2, a3⟩ := hS
            go_simp
            try with_reducible rfl
          simp only [Act.put, List.setIfInBounds_toArray, List.set_cons_zero, List.set_cons_succ]
          refine wpSoft_step ?_ rfl ?_ ?_
          rotate_left
          · intro w' hS
            try obtain ⟨a1, a2, a3⟩ := hS
            go_simp
            try with_reducible rfl
          simp only [Act.put, List.setIfInBounds_toArray, List.set_cons_zero, List.set_cons_succ]
          refine wpSoft_step ?_ rfl ?_ ?_
          rotate_left
          · intro w' hS
            try obtain ⟨a1, a2, a3⟩ := hS
            go_simp
            try with_reducible rfl
          simp only [Act.put, List.setIfInBounds_toArray, List.set_cons_zero, List.set_cons_succ]
          refine wpSoft_step ?_ rfl ?_ ?_
          rotate_left
          · intro w' hS
            try obtain ⟨a1, a2, a3⟩ := hS
            go_simp
            try with_reducible rfl
          simp only [Act.put, List.setIfInBounds_toArray, List.set_cons_zero, List.set_cons_succ]
          refine wpSoft_step ?_ rfl ?_ ?_
          rotate_left
          · intro w' hS
            try obtain ⟨a1, a2, a3⟩ := hS
            go_simp
            try with_reducible rfl
          simp only [Act.put, List.setIfInBounds_toArray, List.set_cons_zero, List.set_cons_succ]
          refine wpSoft_step ?_ rfl ?_ ?_
          rotate_left
          · intro w' hS
            try obtain ⟨a1, a2, a3⟩ := hS
            go_simp
            try with_reducible rfl
          simp only [Act.put, List.setIfInBounds_toArray, List.set_cons_zero, List.set_cons_succ]
          refine wpSoft_step ?_ rfl ?_ ?_
          rotate_left
          · intro w' hS
            try obtain ⟨a1, a2, a3⟩ := hS
            go_simp
            try with_reducible rfl
          simp only [Act.put, List.setIfInBounds_toArray, List.set_cons_zero, List.set_cons_succ]
          refine wpSoft_step ?_ rfl ?_ ?_
          rotate_left
          · intro w' hS
            try obtain ⟨a1, a2, a3⟩ := hS
            go_simp
            try with_reducible rfl
          simp only [Act.put, List.setIfInBounds_toArray, List.set_cons_zero, List.set_cons_succ]
          refine wpSoft_step ?_ rfl ?_ ?_
          rotate_left
          · intro w' hS
            try obtain ⟨a1, a2, a3⟩ := hS
            go_simp
            try with_reducible rfl
          simp only [Act.put, List.setIfInBounds_toArray, List.set_cons_zero, List.set_cons_succ]
          refine wpSoft_step ?_ rfl ?_ ?_
          rotate_left
          · intro w' hS
            try obtain ⟨a1, a2, a3⟩ := hS
            go_simp
            try with_reducible rfl
          simp only [Act.put, List.setIfInBounds_toArray, List.set_cons_zero, List.set_cons_succ]
          refine wpSoft_step ?_ rfl ?_ ?_
          rotate_left
          · intro w' hS
            try obtain ⟨a1, a2, a3⟩ := hS
            go_simp
            try with_reducible rfl
          simp only [Act.put, List.setIfInBounds_toArray, List.set_cons_zero, List.set_cons_succ]
          refine wpSoft_step ?_ rfl ?_ ?_
          rotate_left
          · intro w' hS
            try obtain ⟨a1, a2, a3⟩ := hS
            go_simp
            try with_reducible rfl
          simp only [Act.put, List.setIfInBounds_toArray, List.set_cons_zero, List.set_cons_succ]
          refine wpSoft_step ?_ rfl ?_ ?_
          rotate_left
          · intro w' hS
            try obtain ⟨a1, a2, a3⟩ := hS
            go_simp
            try with_reducible rfl
          simp only [Act.put, List.setIfInBounds_toArray, List.set_cons_zero, List.set_cons_succ]
          refine wpSoft_step ?_ rfl ?_ ?_
          rotate_left
          · intro w' hS
            try obtain ⟨a1, a2, a3⟩ := hS
            go_simp
            try with_reducible rfl
          simp only [Act.put, List.setIfInBounds_toArray, List.set_cons_zero, List.set_cons_succ]
          refine wpSoft_step ?_ rfl ?_ ?_
          rotate_left
          · intro w' hS
            try obtain ⟨a1, a2, a3⟩ := hS
            go_simp
            try with_reducible rfl
          simp only [Act.put, List.setIfInBounds_toArray, List.set_cons_zero, List.set_cons_succ]
          refine wpSoft_nil ?_
          refine wp_hide (fun K hK => ?_)
          go_simp
          refine (HP.out _ (KeptM.keep HKP.out (Chg.refl _ _).drew)).mono ?_
          rintro e w4 ⟨rfl, hk4, hc4⟩
          refine hK _ _ ?_
          clear hK K
          refine wpSoft_step ?_ rfl ?_ ?_
          rotate_left
          · intro w' hS
            try obtain ⟨a1⟩ := hS
            go_simp
            try with_reducible rfl
          simp only [Act.put, List.setIfInBounds_toArray, List.set_cons_zero, List.set_cons_succ]
          refine wpSoft_nil ?_
          have hc04 := hc.drew.trans hc4
          have HK4 := Lib.hid hk4
          clear hk4
        · go_wp2
          go_ret
          unfold RunPostM
          show _ = Ending.returned (.bool (runL (contN n) acc (dwn ltM (key, 0) (toL (h + 1) T)).reverse).2) ∧ KeptM n ob b2 b3 rb w4 (runL (contN n) acc (dwn ltM (key, 0) (toL (h + 1) T)).reverse).1 ∧ _
          rw [HR.out, runL_stop HB1.out]
          exact ⟨rfl, HK4.out, hc04⟩
        · obtain ⟨l4, hn4⟩ := (hF.chg hc04 (fun b o hb h => hFb b hb h)).node hT.root
          have n3 := hn4.c3s hk
          have nc := hn4.cc hk
          rw [List.length_map] at nc
          have kc : w4.cell? ⟨l4.cb, l4.co + k, none⟩ = some (.pointer (some ⟨rid c, 0, none⟩)) := hn4.kidc hk (j := k) (o := some (rid c)) (by simp [HCJ.out])
          clear n2 ik
          cases hb2 : (runL (contN n) (acc' ++ [x]) (toL h c).reverse).2
          all_goals
            have hkid := HRV.out c hcm w4 ⟨l4.cb, l4.co + k, none⟩ (acc' ++ [x]) hc04 kc HK4.out (by have := HPTL.out; simp only [List.length_append, List.length_cons, List.length_nil]; omega)
            unfold RunPostM at hkid
            rw [hb2] at hkid
            have HKID := Lib.hid hkid
            have HB2 := Lib.hid hb2
            clear hkid hb2
            go_wp2_with (go_at_call 58; refine (leaf_any _ (some ⟨l4.cc, 0, none⟩) _ ?_).mono ?_; (focus go_simp); rintro e w' ⟨rfl, rfl⟩)
            refine HKID.out.mono ?_
            rintro e w5 ⟨rfl, hk5, hc5⟩
            have hc05 := hc04.trans hc5
            have HK5 := Lib.hid hk5
            clear hk5
          · go_wp2
            go_ret
            unfold RunPostM
            show _ = Ending.returned (.bool (runL (contN n) acc (dwn ltM (key, 0) (toL (h + 1) T)).reverse).2) ∧ KeptM n ob b2 b3 rb w5 (runL (contN n) acc (dwn ltM (key, 0) (toL (h + 1) T)).reverse).1 ∧ _
            rw [HR.out, runL_cons HB1.out, runL_app_false HB2.out, HB2.out]
            exact ⟨rfl, HK5.out, hc05⟩
          · have hrt2 := runL_true _ _ _ HB2.out
            have HRT2 := Lib.hid hrt2
            clear hrt2
            go_wp2
            go_roundw
            case rel => exact ⟨k, (k : Int) - 1, _, by go_num, rfl, by omega, HK5.out, by rw [HR.out, runL_cons HB1.out, runL_app_true HB2.out], by rw [HRT2.out]; have := HPTL.out; simp only [List.length_append, List.length_reverse, List.length_cons, List.length_nil]; omega, hc05⟩
            case measure => simp [intOf]
  · obtain ⟨c, hcj⟩ : ∃ c, T.2.2[i]? = some c := ⟨_, List.getElem?_eq_getElem (by have := HKL.out; have h2 : i ≤ T.2.1.length := hp.le; omega)⟩
    have hcm : c ∈ T.2.2 := List.mem_of_getElem? hcj
    have hkc := (List.getElem?_eq_some_iff.1 hcj).1
    have hdw := dwn_kid hs hcj HSRT.out hp
    have hil : i ≤ T.2.1.length := hp.le
    have htj : (T.2.2.map (toL h))[i]? = some (toL h c) := by simp [hcj]
    have hpl := pre_len HML.out htj
    have hn2 := hn0.chg hcc (fun _ _ _ h => h)
    have n3 := hn2.c3s hk
    have nc := hn2.cc hk
    rw [List.length_map] at nc
    have kc : w2.cell? ⟨l0.cb, l0.co + i, none⟩ = some (.pointer (some ⟨rid c, 0, none⟩)) := hn2.kidc hk (j := i) (o := some (rid c)) (by simp [hcj])
    have hcl : acc.length + (toL h c).length ≤ 1000000000000 := by
      have h1 := HLEN.out
      have h2 : (toL (h + 1) T).length = (inter T.2.1 (T.2.2.map (toL h))).length := rfl
      omega
    have hkid0 := HIH.out i c hcj hcm w2 ⟨l0.cb, l0.co + i, none⟩ hcc kc (HK.out.keep hcc) hcl
    have HDW := Lib.hid hdw
    have i0 : (0 : Int) ≤ (i : Int) := by omega
    have i1 : (i : Int) < (T.2.2.length : Int) := by omega
    have i2 : (i : Int) ≤ 1000 := by omega
    clear hdw hp hcj htj hpl hcl
    cases hb0 : (runL (contN n) acc (dwn ltM (key, 0) (toL h c)).reverse).2
    all_goals
      have hkid := hkid0
      unfold RunPostM at hkid
      rw [hb0] at hkid
      have HKID := Lib.hid hkid
      have HB0 := Lib.hid hb0
      clear hkid hb0 hkid0
      go_wp2_with (go_at_call 58; refine (leaf_any _ (some ⟨l0.cc, 0, none⟩) _ ?_).mono ?_; (focus go_simp); rintro e w' ⟨rfl, rfl⟩)
      refine HKID.out.mono ?_
      rintro e w3 ⟨rfl, hk3, hc3⟩
      have hc03 := (hcc.mono (B := fun b _ => TakeB ob rb b) (fun _ _ _ h => h.elim)).trans hc3
      have HK3 := Lib.hid hk3
      clear hk3 n3 nc kc
    · go_wp2
      go_ret
      unfold RunPostM
      show _ = Ending.returned (.bool (runL (contN n) acc (dwn ltM (key, 0) (toL (h + 1) T)).reverse).2) ∧ KeptM n ob b2 b3 rb w3 (runL (contN n) acc (dwn ltM (key, 0) (toL (h + 1) T)).reverse).1 ∧ _
      rw [HDW.out, List.reverse_append, runL_app_false HB0.out, HB0.out]
      exact ⟨rfl, HK3.out, hc03⟩
    · have hrt := runL_true _ _ _ HB0.out
      have HRT := Lib.hid hrt
      clear hrt
      go_wp2
      go_loopw [12] (fun i wr => ∃ (k : Nat) (z : Int) (acc' : List (Int × Int)), i = .int .i64 z ∧ z = (k : Int) - 1 ∧ k ≤ T.2.1.length ∧ KeptM n ob b2 b3 rb wr acc' ∧ runL (contN n) acc (dwn ltM (key, 0) (toL (h + 1) T)).reverse = runL (contN n) acc' (pre (T.2.1.take k) ((T.2.2.map (toL h)).take k)).reverse ∧ acc'.length + (pre (T.2.1.take k) ((T.2.2.map (toL h)).take k)).length ≤ 1000000000000 ∧ Chg (fun b _ => TakeB ob rb b) w wr) (fun i _ => (intOf i + 1).toNat)
      case atStart => exact ⟨i, _, _, rfl, rfl, hil, HK3.out, by rw [HDW.out, List.reverse_append, runL_app_true HB0.out], by rw [HRT.out]; have h1 := HLEN.out; have h2 := HDL.out; rw [HDW.out] at h2; simp only [List.length_append, List.length_reverse] at h2 ⊢; omega, hc03⟩
      case round =>
        obtain ⟨k, z, acc', rfl, hz, hkk, hkp, hrun, hal, hc⟩ := hrel
        rcases k with _ | k
        · have hz0 : ¬ (0 : Int) ≤ z := by omega
          have HR := Lib.hid hrun
          have HKP := Lib.hid hkp
          clear hz hrun hkp
          go_wp2
          go_ret
          unfold RunPostM
          show _ = Ending.returned (.bool (runL (contN n) acc (dwn ltM (key, 0) (toL (h + 1) T)).reverse).2) ∧ KeptM n ob b2 b3 rb wr (runL (contN n) acc (dwn ltM (key, 0) (toL (h + 1) T)).reverse).1 ∧ _
          rw [HR.out]
          exact ⟨rfl, HKP.out, hc⟩
        · obtain rfl : z = (k : Int) := by omega
          obtain ⟨x, hx⟩ : ∃ x, T.2.1[k]? = some x := ⟨_, List.getElem?_eq_getElem (by omega)⟩
          obtain ⟨c, hcj⟩ : ∃ c, T.2.2[k]? = some c := ⟨_, List.getElem?_eq_getElem (by have := HKL.out; omega)⟩
          have hcm : c ∈ T.2.2 := List.mem_of_getElem? hcj
          have htj : (T.2.2.map (toL h))[k]? = some (toL h c) := by simp [hcj]
          have hkc := (List.getElem?_eq_some_iff.1 hcj).1
          obtain ⟨l, hn⟩ := (hF.chg hc (fun b o hb h => hFb b hb h)).node hT.root
          have n2 : wr.cell? ⟨rid T, 2, none⟩ = some (.slice (some ⟨l.ib, l.io, none⟩) T.2.1.length l.ic) := hn.c2
          have ik := hn.mkey (j := k) hx
          have hpr := pre_rev hx htj
          have hptl := pre_take_len HML.out htj (by omega)
          rw [hpr] at hrun
          have hp := fun w1 (h : KeptM n ob b2 b3 rb w1 acc') => taker1MD_any x h (by omega)
          have HR := Lib.hid hrun
          have HKP := Lib.hid hkp
          have HCJ := Lib.hid hcj
          have HPTL := Lib.hid hptl
          have i0 : (0 : Int) ≤ (k : Int) := by omega
          have i1 : (k : Int) < (T.2.1.length : Int) := by omega
          have i2 : (k : Int) < (T.2.2.length : Int) := by omega
          clear hrun hkp hpr hx hz htj hcj hptl
          cases hb : contN n (acc' ++ [x])
          all_goals
            rw [hb] at hp
            have HP := Lib.hid hp
            have HB1 := Lib.hid hb
            clear hp hb
            go_wp2_with fail
            refine wp_region_call (fun w' => w'.cell? ⟨rid T, 2, none⟩ = some (.slice (some ⟨l.ib, l.io, none⟩) T.2.1.length l.ic) ∧ w'.cell? ⟨l.ib, l.io + k, none⟩ = some (.int .i64 x.1) ∧ (partAt ⟨l.ib, l.io + k, none⟩ 0 0).run Try.prog w' = .ok ⟨l.ib, l.io + k, none⟩ w')
              17 [0, 1, 2, 3, 4, 5, 6, 7, 8, 9, 10, 11, 12, 13, 14, 15, 16] _ [18] (by kernel_rfl) (by kernel_rfl) (fun _ _ _ _ _ h => h) rfl rfl rfl ⟨n2, ik, (hn.chg (Chg.refl (fun _ _ => False) _).drew (fun _ _ _ h => h)).pz _⟩ ?_
            simp only [pickOps, List.filterMap_cons, List.filterMap_nil, List.getElem?_cons_zero, List.getElem?_cons_succ]
            refine wpSoft_step ?_ rfl ?_ ?_
            rotate_left
            · intro w' hS
              try obtain ⟨a1, a2, a3⟩ := hS
              go_simp
              try with_reducible rfl
            simp only [Act.put, List.setIfInBounds_toArray, List.set_cons_zero, List.set_cons_succ]
            refine wpSoft_step ?_ rfl ?_ ?_
            rotate_left
            · intro w' hS
              try obtain ⟨a1, a2, a3⟩ := hS
              go_simp
              try with_reducible rfl
            simp only [Act.put, List.setIfInBounds_toArray, List.set_cons_zero, List.set_cons_succ]
            refine wpSoft_step ?_ rfl ?_ ?_
            rotate_left
            · intro w' hS
              try obtain ⟨a1, a2, a3⟩ := hS
              go_simp
              try with_reducible rfl
            simp only [Act.put, List.setIfInBounds_toArray, List.set_cons_zero, List.set_cons_succ]
            refine wpSoft_step ?_ rfl ?_ ?_
            rotate_left
            · intro w' hS
              try obtain ⟨a1, a2, a3⟩ := hS
              go_simp
              try with_reducible rfl
            simp only [Act.put, List.setIfInBounds_toArray, List.set_cons_zero, List.set_cons_succ]
            refine wpSoft_step ?_ rfl ?_ ?_
            rotate_left
            · intro w' hS
              try obtain ⟨a1, a2, a3⟩ := hS
              go_simp
              try with_reducible rfl
            simp only [Act.put, List.setIfInBounds_toArray, List.set_cons_zero, List.set_cons_succ]
            refine wpSoft_step ?_ rfl ?_ ?_
            rotate_left
            · intro w' hS
              try obtain ⟨a1, a2, a3⟩ := hS
              go_simp
              try with_reducible rfl
            simp only [Act.put, List.setIfInBounds_toArray, List.set_cons_zero, List.set_cons_succ]
            refine wpSoft_step ?_ rfl ?_ ?_
            rotate_left
            · intro w' hS
              try obtain ⟨a1, a2, a3⟩ := hS
              go_simp
              try with_reducible rfl
            simp only [Act.put, List.setIfInBounds_toArray, List.set_cons_zero, List.set_cons_succ]
            refine wpSoft_step ?_ rfl ?_ ?_
            rotate_left
            · intro w' hS
              try obtain ⟨a1, a2, a3⟩ := hS
              go_simp
              try with_reducible rfl
            simp only [Act.put, List.setIfInBounds_toArray, List.set_cons_zero, List.set_cons_succ]
            refine wpSoft_step ?_ rfl ?_ ?_
            rotate_left
            · intro w' hS
              try obtain ⟨a1, a2, a3⟩ := hS
              go_simp
              try with_reducible rfl
            simp only [Act.put, List.setIfInBounds_toArray, List.set_cons_zero, List.set_cons_succ]
            refine wpSoft_step ?_ rfl ?_ ?_
            rotate_left
            · intro w' hS
              try obtain ⟨a1, a2, a3⟩ := hS
              go_simp
              try with_reducible rfl
            simp only [Act.put, List.setIfInBounds_toArray, List.set_cons_zero, List.set_cons_succ]
            refine wpSoft_step ?_ rfl ?_ ?_
            rotate_left
            · intro w' hS
              try obtain ⟨a1, a2, a3⟩ := hS
              go_simp
              try with_reducible rfl
            simp only [Act.put, List.setIfInBounds_toArray, List.set_cons_zero, List.set_cons_succ]
            refine wpSoft_step ?_ rfl ?_ ?_
            rotate_left
            · intro w' hS
              try obtain ⟨a1, a2, a3⟩ := hS
              go_simp
              try with_reducible rfl
            simp only [Act.put, List.setIfInBounds_toArray, List.set_cons_zero, List.set_cons_succ]
            refine wpSoft_step ?_ rfl ?_ ?_
            rotate_left
            · intro w' hS
              try obtain ⟨a1, a2, a3⟩ := hS
              go_simp
              try with_reducible rfl
            simp only [Act.put, List.setIfInBounds_toArray, List.set_cons_zero, List.set_cons_succ]
            refine wpSoft_step ?_ rfl ?_ ?_
            rotate_left
            · intro w' hS
              try obtain ⟨a1, a2, a3⟩ := hS
              go_simp
              try with_reducible rfl
            simp only [Act.put, List.setIfInBounds_toArray, List.set_cons_zero, List.set_cons_succ]
            refine wpSoft_step ?_ rfl ?_ ?_
            rotate_left
            · intro w' hS
              try obtain ⟨a1, a2, a3⟩ := hS
              go_simp
              try with_reducible rfl
            simp only [Act.put, List.setIfInBounds_toArray, List.set_cons_zero, List.set_cons_succ]
            refine wpSoft_step ?_ rfl ?_ ?_
            rotate_left
            · intro w' hS
              try obtain ⟨a1, a2, a3⟩ := hS
              go_simp
              try with_reducible rfl
            simp only [Act.put, List.setIfInBounds_toArray, List.set_cons_zero, List.set_cons_succ]
            refine wpSoft_step ?_ rfl ?_ ?_
            rotate_left
            · intro w' hS
              try obtain ⟨a1, a2, a3⟩ := hS
              go_simp
              try with_reducible rfl
            simp only [Act.put, List.setIfInBounds_toArray, List.set_cons_zero, List.set_cons_succ]
            refine wpSoft_nil ?_
            refine wp_hide (fun K hK => ?_)
            go_simp
            refine (HP.out _ (KeptM.keep HKP.out (Chg.refl _ _).drew)).mono ?_
            rintro e w4 ⟨rfl, hk4, hc4⟩
            refine hK _ _ ?_
            clear hK K
            refine wpSoft_step ?_ rfl ?_ ?_
            rotate_left
            · intro w' hS
              try obtain ⟨a1⟩ := hS
              go_simp
              try with_reducible rfl
            simp only [Act.put, List.setIfInBounds_toArray, List.set_cons_zero, List.set_cons_succ]
            refine wpSoft_nil ?_
            have hc04 := hc.drew.trans hc4
            have HK4 := Lib.hid hk4
            clear hk4
          · go_wp2
            go_ret
            unfold RunPostM
            show _ = Ending.returned (.bool (runL (contN n) acc (dwn ltM (key, 0) (toL (h + 1) T)).reverse).2) ∧ KeptM n ob b2 b3 rb w4 (runL (contN n) acc (dwn ltM (key, 0) (toL (h + 1) T)).reverse).1 ∧ _
            rw [HR.out, runL_stop HB1.out]
            exact ⟨rfl, HK4.out, hc04⟩
          · obtain ⟨l4, hn4⟩ := (hF.chg hc04 (fun b o hb h => hFb b hb h)).node hT.root
            have n3 := hn4.c3s hk
            have nc := hn4.cc hk
            rw [List.length_map] at nc
            have kc : w4.cell? ⟨l4.cb, l4.co + k, none⟩ = some (.pointer (some ⟨rid c, 0, none⟩)) := hn4.kidc hk (j := k) (o := some (rid c)) (by simp [HCJ.out])
            clear n2 ik
            cases hb2 : (runL (contN n) (acc' ++ [x]) (toL h c).reverse).2
            all_goals
              have hkid := HRV.out c hcm w4 ⟨l4.cb, l4.co + k, none⟩ (acc' ++ [x]) hc04 kc HK4.out (by have := HPTL.out; simp only [List.length_append, List.length_cons, List.length_nil]; omega)
              unfold RunPostM at hkid
              rw [hb2] at hkid
              have HKID := Lib.hid hkid
              have HB2 := Lib.hid hb2
              clear hkid hb2
              go_wp2_with (go_at_call 58; refine (leaf_any _ (some ⟨l4.cc, 0, none⟩) _ ?_).mono ?_; (focus go_simp); rintro e w' ⟨rfl, rfl⟩)
              refine HKID.out.mono ?_
              rintro e w5 ⟨rfl, hk5, hc5⟩
              have hc05 := hc04.trans hc5
              have HK5 := Lib.hid hk5
              clear hk5
            · go_wp2
              go_ret
              unfold RunPostM
              show _ = Ending.returned (.bool (runL (contN n) acc (dwn ltM (key, 0) (toL (h + 1) T)).reverse).2) ∧ KeptM n ob b2 b3 rb w5 (runL (contN n) acc (dwn ltM (key, 0) (toL (h + 1) T)).reverse).1 ∧ _
              rw [HR.out, runL_cons HB1.out, runL_app_false HB2.out, HB2.out]
              exact ⟨rfl, HK5.out, hc05⟩
            · have hrt2 := runL_true _ _ _ HB2.out
              have HRT2 := Lib.hid hrt2
              clear hrt2
              go_wp2
              go_roundw
              case rel => exact ⟨k, (k : Int) - 1, _, by go_num, rfl, by omega, HK5.out, by rw [HR.out, runL_cons HB1.out, runL_app_true HB2.out], by rw [HRT2.out]; have := HPTL.out; simp only [List.length_append, List.length_reverse, List.length_cons, List.length_nil]; omega, hc05⟩
              case measure => simp [intOf]

theorem desc_all : (h : Nat) → DescSpec h
  | 0 => desc_leaf
  | h + 1 => desc_branch (desc_all h)
end Go.Proofs.Ytpgaedmhgchgeaa
