/- nodeAscend over trees of sets. -/
import Derived.Test.YtpgaedmhgchgeaaM4
import Derived.Test.YtpgaedmhgchgeaaM9
import Derived.Test.YtpgaedmhgchgeaaM10
namespace Go.Proofs.Ytpgaedmhgchgeaa.M
set_option linter.unusedSimpArgs false
set_option linter.unusedVariables false
open Go.RowKit

/-- The items that do not come before x. -/
def upp (lt : Int × Int → Int × Int → Bool) (x : Int × Int) (l : List (Int × Int)) : List (Int × Int) := l.dropWhile fun y => lt y x

theorem upp_pre {lt : Int × Int → Int × Int → Bool} {x : Int × Int} : ∀ {A B : List (Int × Int)}, (∀ a ∈ A, lt a x = true) → upp lt x (A ++ B) = upp lt x B
  | [], _, _ => rfl
  | a :: A, B, h => by
    have h1 := h a List.mem_cons_self
    have h2 := upp_pre (B := B) (fun b hb => h b (List.mem_cons_of_mem _ hb))
    unfold upp at h2 ⊢
    rw [List.cons_append, List.dropWhile_cons, h1]
    simpa using h2

theorem upp_stop {lt : Int × Int → Int × Int → Bool} {x : Int × Int} : ∀ {C : List (Int × Int)}, (∀ c ∈ C, lt c x = false) → upp lt x C = C
  | [], _ => rfl
  | c :: C, h => by unfold upp; rw [List.dropWhile_cons, h c List.mem_cons_self]; simp

theorem upp_post {lt : Int × Int → Int × Int → Bool} {x : Int × Int} : ∀ {B C : List (Int × Int)}, (∀ c ∈ C, lt c x = false) → upp lt x (B ++ C) = upp lt x B ++ C
  | [], C, h => upp_stop h
  | b :: B, C, h => by
    have h2 := upp_post (B := B) h
    unfold upp at h2 ⊢
    rw [List.cons_append, List.dropWhile_cons, List.dropWhile_cons, h2]
    split <;> rfl

theorem upp_cut {lt : Int × Int → Int × Int → Bool} {x y : Int × Int} {Q B : List (Int × Int)} (s : Swo lt) (hs : Srt lt (Q ++ y :: B)) (n1 : lt y x = false) (n2 : lt x y = false) : upp lt x (Q ++ y :: B) = y :: B := by
  obtain ⟨_, h2, h3⟩ := List.pairwise_append.1 hs
  obtain ⟨h4, _⟩ := List.pairwise_cons.1 h2
  rw [upp_pre (fun a ha => s.lt_of_lt_of_nlt (h3 a ha y List.mem_cons_self) n2), upp_stop]
  intro c hc
  rcases List.mem_cons.1 hc with rfl | hc
  · exact n1
  · exact s.asymm _ _ (s.lt_of_nlt_of_lt n1 (h4 c hc))

theorem upp_leaf_pos {x : Int × Int} {l : List (Int × Int)} {i : Nat} (h : PosAt ltM l x i) : upp ltM x l = l.drop i := by
  obtain ⟨h1, h2⟩ := pos_mem h
  conv => lhs; rw [← List.take_append_drop i l]
  rw [upp_pre h1, upp_stop (fun c hc => swoM.asymm _ _ (h2 c hc))]

theorem upp_leaf_hit {x y : Int × Int} {l : List (Int × Int)} {i : Nat} (hs : Srt ltM l) (h : HitAt ltM l x i y) : upp ltM x l = l.drop i := by
  have e : l = l.take i ++ y :: l.drop (i + 1) := split_at h.at_
  rw [drop_cons h.at_]
  conv => lhs; rw [e]
  exact upp_cut swoM (by rw [← e]; exact hs) h.n1 h.n2

theorem upp_kid {h : Nat} {T : BT (Int × Int) (h + 1)} {mn mx i : Nat} {c : BT (Int × Int) h} {x : Int × Int} (hs : Sh mn mx (h + 1) T) (hc : T.2.2[i]? = some c) (hsrt : Srt ltM (toL (h + 1) T)) (hp : PosAt ltM T.2.1 x i) :
    upp ltM x (toL (h + 1) T) = upp ltM x (toL h c) ++ post (T.2.1.drop i) ((T.2.2.map (toL h)).drop (i + 1)) := by
  obtain ⟨h1, h2⟩ := around swoM hs hc hsrt hp
  rw [toL_at hs hc, List.append_assoc, upp_pre h1, upp_post (fun c hc => swoM.asymm _ _ (h2 c hc))]

theorem inter_pre {α : Type} : ∀ (xs : List α) (ts : List (List α)) (n : Nat), ts.length = xs.length + 1 → n ≤ xs.length → inter xs ts = pre (xs.take n) (ts.take n) ++ inter (xs.drop n) (ts.drop n)
  | xs, ts, 0, _, _ => by simp [pre]
  | x :: xs, t :: ts, n + 1, h1, h2 => by
    simp only [List.take_succ_cons, List.drop_succ_cons, pre, inter, List.append_assoc, List.cons_append]
    rw [inter_pre xs ts n (by simpa using h1) (by simpa using h2)]
  | [], _, n + 1, _, h2 => by simp at h2
  | x :: xs, [], n + 1, h1, _ => by simp at h1

theorem post_drop {α : Type} {xs : List α} {ts : List (List α)} {k : Nat} {x : α} {t : List α} (hx : xs[k]? = some x) (ht : ts[k + 1]? = some t) : post (xs.drop k) (ts.drop (k + 1)) = x :: (t ++ post (xs.drop (k + 1)) (ts.drop (k + 1 + 1))) := by
  rw [drop_cons hx, drop_cons ht, post]; rfl

theorem post_nil {α : Type} {xs : List α} {ts : List (List α)} {k : Nat} (h : xs.length ≤ k) : post (xs.drop k) (ts.drop (k + 1)) = [] := by
  rw [List.drop_eq_nil_of_le h]; cases ts.drop (k + 1) <;> rfl

theorem upp_hit {h : Nat} {T : BT (Int × Int) (h + 1)} {mn mx i : Nat} {x y : Int × Int} (hs : Sh mn mx (h + 1) T) (hsrt : Srt ltM (toL (h + 1) T)) (hy : HitAt ltM T.2.1 x i y) :
    upp ltM x (toL (h + 1) T) = post (T.2.1.drop i) ((T.2.2.map (toL h)).drop (i + 1)) := by
  have hi := (List.getElem?_eq_some_iff.1 hy.at_).1
  have hml : (T.2.2.map (toL h)).length = T.2.1.length + 1 := by simpa using hs.2.1
  obtain ⟨t, ht⟩ : ∃ t, (T.2.2.map (toL h))[i]? = some t := ⟨_, List.getElem?_eq_getElem (by omega)⟩
  obtain ⟨u, hu⟩ : ∃ u, (T.2.2.map (toL h))[i + 1]? = some u := ⟨_, List.getElem?_eq_getElem (by omega)⟩
  have e : toL (h + 1) T = pre (T.2.1.take i) ((T.2.2.map (toL h)).take i) ++ inter (T.2.1.drop i) ((T.2.2.map (toL h)).drop i) := inter_pre _ _ i hml (by omega)
  have e2 : inter (T.2.1.drop i) ((T.2.2.map (toL h)).drop i) = t ++ post (T.2.1.drop i) ((T.2.2.map (toL h)).drop (i + 1)) := by
    rw [drop_cons ht]
    exact inter_eq _ _ _ (by rw [List.length_drop, List.length_drop]; omega)
  have e4 : toL (h + 1) T = (pre (T.2.1.take i) ((T.2.2.map (toL h)).take i) ++ t) ++ y :: (u ++ post (T.2.1.drop (i + 1)) ((T.2.2.map (toL h)).drop (i + 1 + 1))) := by
    rw [e, e2, post_drop hy.at_ hu, List.append_assoc]
  rw [post_drop hy.at_ hu, e4]
  exact upp_cut swoM (by rw [← e4]; exact hsrt) hy.n1 hy.n2

theorem upp_len (lt : Int × Int → Int × Int → Bool) (x : Int × Int) (l : List (Int × Int)) : (upp lt x l).length ≤ l.length := (List.dropWhile_sublist _).length_le

def AscSpec (h : Nat) : Prop := ∀ (k0 : Int) (mn mx : Nat) (w : World) (F : Nat → Prop) (H : Nat → Option (NodeR (Int × Int))) (T : BT (Int × Int) h) (t : Nat) (pa : Addr) (key : Int × Int) (mt : Bool) (n : Int) (ob b2 b3 cb rb : Nat) (acc : List (Int × Int)),
  Fam (parM k0) w F H → IsT H h T → Sh mn mx h T → 1 ≤ mn → 1 ≤ (its T).length → Srt ltM (toL h T) → mx ≤ 1000 → w.cell? pa = some (.pointer (some ⟨rid T, 0, none⟩)) → MapAt k0 mn mx w t → Kept n ob b2 b3 cb rb w acc → (∀ b, F b → ¬ TakeB ob rb b) → (∀ b, MOwn k0 t b → ¬ TakeB ob rb b) → acc.length + (toL h T).length ≤ 1000000000000 →
  Calls Try.prog 49 #[.pointer (some ⟨t, 0, none⟩), .pointer (some pa), .int .i64 key.1, fnP cb, .bool mt] w (RunPost n ob b2 b3 cb rb acc (upp ltM key (toL h T)) w)


set_option maxRecDepth 100000 in
set_option maxHeartbeats 2000000 in
theorem asc_leaf : AscSpec 0 := by
  intro k0 mn mx w F H T t pa key mt n ob b2 b3 cb rb acc hF hT hs hmn hit hsrt hmx hpa hma hK hFb htb hlen
  obtain ⟨l0, hn0⟩ := hF.node hT.root
  have n0 := hn0.c0
  have hsl : T.2.length ≤ mx := hs.len
  have hlen' : acc.length + T.2.length ≤ 1000000000000 := hlen
  have HK := Lib.hid hK
  have HMA := Lib.hid hma
  clear hK hlen hma
  unfold fnP
  go_enter Try.func49, Try.ntmps49
  go_wp2_with fail
  refine (isoLoad_any t (rid T) k0 pa mt _ hpa n0 HMA.out.c0).mono ?_
  rintro e w1 ⟨rfl, m1, hw1⟩
  have hc1 : Chg (fun _ _ => False) w w1 := by rw [hw1]; exact (Chg.refl _ _).drewN _
  clear hw1 n0 hpa
  have hse := search_node t key (HMA.out.chg hc1 (fun _ _ _ h => h)) (hn0.chg hc1 (fun _ _ _ h => h)) hsrt (by show T.2.length ≤ 1000000; omega)
  have HSE := Lib.hid hse
  clear hse
  go_wp2_with fail
  refine HSE.out.mono ?_
  rintro e w2 ⟨i, f, rfl, hw2, hf⟩
  have hcc0 : Chg (fun _ _ => False) w w2 := hc1.trans hw2
  have hcc : Chg (fun b _ => TakeB ob rb b) w w2 := hcc0.mono (fun _ _ _ h => h.elim)
  have HK2 := Lib.hid (HK.out.keep hcc0)
  clear hw2
  rcases hf with ⟨rfl, y, hy⟩ | ⟨rfl, hp⟩
  · have hdw := upp_leaf_hit (l := T.2) hsrt hy
    have hil : i ≤ T.2.length := Nat.le_of_lt (List.getElem?_eq_some_iff.1 hy.at_).1
    have HDW := Lib.hid hdw
    clear hdw hy
    go_wp2_with fail
    go_loopw [12] (fun i' wr => ∃ (k : Nat) (acc' : List (Int × Int)), i' = .int .i64 k ∧ k ≤ T.2.length ∧ Kept n ob b2 b3 cb rb wr acc' ∧ runL (contN n) acc (upp ltM key T.2) = runL (contN n) acc' (T.2.drop k) ∧ acc'.length + (T.2.length - k) ≤ 1000000000000 ∧ Chg (fun b _ => TakeB ob rb b) w wr) (fun i' _ => T.2.length - (intOf i').toNat)
    case atStart => exact ⟨i, acc, rfl, hil, HK2.out, by rw [HDW.out], by omega, hcc⟩
    case round =>
      obtain ⟨k, acc', rfl, hk, hkp, hrun, hal, hc⟩ := hrel
      obtain ⟨l, hn⟩ := (hF.chg hc (fun b o hb h => hFb b hb h)).node hT.root
      have n2 : wr.cell? ⟨rid T, 2, none⟩ = some (.slice (some ⟨l.ib, l.io, none⟩) T.2.length l.ic) := hn.c2
      by_cases hlt : k < T.2.length
      rotate_left
      · have hnlt : ¬ (k : Int) < (T.2.length : Int) := by omega
        rw [List.drop_eq_nil_of_le (by omega)] at hrun
        have HR := Lib.hid hrun
        have HKP := Lib.hid hkp
        clear hrun hkp
        go_wp2
        go_ret
        unfold RunPost
        show _ = Ending.returned (.bool (runL (contN n) acc (upp ltM key T.2)).2) ∧ Kept n ob b2 b3 cb rb wr (runL (contN n) acc (upp ltM key T.2)).1 ∧ _
        rw [HR.out]
        exact ⟨rfl, HKP.out, hc⟩
      · obtain ⟨x, hx⟩ : ∃ x, T.2[k]? = some x := ⟨_, List.getElem?_eq_getElem (by omega)⟩
        have ik := hn.mkey (j := k) hx
        have iv := hn.mval (j := k) hx
        rw [drop_cons hx] at hrun
        have hp := fun w1 (h : Kept n ob b2 b3 cb rb w1 acc') => pairs1_any x h (by omega)
        have HR := Lib.hid hrun
        have HKP := Lib.hid hkp
        have i0 : (0 : Int) ≤ (k : Int) := by omega
        have i1 : (k : Int) < (T.2.length : Int) := by omega
        clear hrun hkp hx
        cases hb : contN n (acc' ++ [x])
        all_goals
          rw [hb] at hp
          have HP := Lib.hid hp
          have HB := Lib.hid hb
          clear hp hb
          go_wp2_with fail
          refine wp_region_call (fun w' => w'.cell? ⟨rid T, 2, none⟩ = some (.slice (some ⟨l.ib, l.io, none⟩) T.2.length l.ic) ∧ w'.cell? ⟨l.ib, l.io + k * 2 + 1, none⟩ = some (.int .i64 x.1) ∧ w'.cell? ⟨l.ib, l.io + k * 2, none⟩ = some (.int .i64 x.2))
            17 [0, 1, 2, 3, 4, 5, 6, 7, 8, 9, 10, 11, 12, 13, 14, 15, 16] _ [18] (by kernel_rfl) (by kernel_rfl) (fun _ _ _ _ _ h => h) rfl rfl rfl ⟨n2, ik, iv⟩ ?_
          simp only [pickOps, List.filterMap_cons, List.filterMap_nil, List.getElem?_cons_zero, List.getElem?_cons_succ]
          refine wpSoft_step ?_ rfl ?_ ?_
          rotate_left
          · intro w' hS
            try obtain ⟨a1, a2, a3⟩ := hS
            go_simp
            try with_reducible rfl
          simp only [Act.put, List.setIfInBounds_toArray, List.set_cons_zero, List.set_cons_succ]
          refine wpSoft_step ?_ rfl ?_ ?_
          rotate_left
          · intro w' hS
            try obtain ⟨a1, a2, a3⟩ := hS
            go_simp
            try with_reducible rfl
          simp only [Act.put, List.setIfInBounds_toArray, List.set_cons_zero, List.set_cons_succ]
          refine wpSoft_step ?_ rfl ?_ ?_
          rotate_left
          · intro w' hS
            try obtain ⟨a1, a2, a3⟩ := hS
            go_simp
            try with_reducible rfl
          simp only [Act.put, List.setIfInBounds_toArray, List.set_cons_zero, List.set_cons_succ]
          refine wpSoft_step ?_ rfl ?_ ?_
          rotate_left
          · intro w' hS
            try obtain ⟨a1, a2, a3⟩ := hS
            go_simp
            try with_reducible rfl
          simp only [Act.put, List.setIfInBounds_toArray, List.set_cons_zero, List.set_cons_succ]
          refine wpSoft_step ?_ rfl ?_ ?_
          rotate_left
          · intro w' hS
            try obtain ⟨a1, a2, a3⟩ := hS
            go_simp
            try with_reducible rfl
          simp only [Act.put, List.setIfInBounds_toArray, List.set_cons_zero, List.set_cons_succ]
          refine wpSoft_step ?_ rfl ?_ ?_
          rotate_left
          · intro w' hS
            try obtain ⟨a1, a2, a3⟩ := hS
            go_simp
            try with_reducible rfl
          simp only [Act.put, List.setIfInBounds_toArray, List.set_cons_zero, List.set_cons_succ]
          refine wpSoft_step ?_ rfl ?_ ?_
          rotate_left
          · intro w' hS
            try obtain ⟨a1, a2, a3⟩ := hS
            go_simp
            try with_reducible rfl
          simp only [Act.put, List.setIfInBounds_toArray, List.set_cons_zero, List.set_cons_succ]
          refine wpSoft_step ?_ rfl ?_ ?_
          rotate_left
          · intro w' hS
            try obtain ⟨a1, a2, a3⟩ := hS
            go_simp
            try with_reducible rfl
          simp only [Act.put, List.setIfInBounds_toArray, List.set_cons_zero, List.set_cons_succ]
          refine wpSoft_step ?_ rfl ?_ ?_
          rotate_left
          · intro w' hS
            try obtain ⟨a1, a2, a3⟩ := hS
            go_simp
            try with_reducible rfl
          simp only [Act.put, List.setIfInBounds_toArray, List.set_cons_zero, List.set_cons_succ]
          refine wpSoft_step ?_ rfl ?_ ?_
          rotate_left
          · intro w' hS
            try obtain ⟨a1, a2, a3⟩ := hS
            go_simp
            try with_reducible rfl
          simp only [Act.put, List.setIfInBounds_toArray, List.set_cons_zero, List.set_cons_succ]
          refine wpSoft_step ?_ rfl ?_ ?_
          rotate_left
          · intro w' hS
            try obtain ⟨a1, a2, a3⟩ := hS
            go_simp
            try with_reducible rfl
          simp only [Act.put, List.setIfInBounds_toArray, List.set_cons_zero, List.set_cons_succ]
          refine wpSoft_step ?_ rfl ?_ ?_
          rotate_left
          · intro w' hS
            try obtain ⟨a1, a2, a3⟩ := hS
            go_simp
            try with_reducible rfl
          simp only [Act.put, List.setIfInBounds_toArray, List.set_cons_zero, List.set_cons_succ]
          refine wpSoft_step ?_ rfl ?_ ?_
          rotate_left
          · intro w' hS
            try obtain ⟨a1, a2, a3⟩ := hS
            go_simp
            try with_reducible rfl
          simp only [Act.put, List.setIfInBounds_toArray, List.set_cons_zero, List.set_cons_succ]
          refine wpSoft_step ?_ rfl ?_ ?_
          rotate_left
          · intro w' hS
            try obtain ⟨a1, a2, a3⟩ := hS
            go_simp
            try with_reducible rfl
          simp only [Act.put, List.setIfInBounds_toArray, List.set_cons_zero, List.set_cons_succ]
          refine wpSoft_step ?_ rfl ?_ ?_
          rotate_left
          · intro w' hS
            try obtain ⟨a1, a2, a3⟩ := hS
            go_simp
            try with_reducible rfl
          simp only [Act.put, List.setIfInBounds_toArray, List.set_cons_zero, List.set_cons_succ]
          refine wpSoft_step ?_ rfl ?_ ?_
          rotate_left
          · intro w' hS
            try obtain ⟨a1, a2, a3⟩ := hS
            go_simp
            try with_reducible rfl
          simp only [Act.put, List.setIfInBounds_toArray, List.set_cons_zero, List.set_cons_succ]
          refine wpSoft_step ?_ rfl ?_ ?_
          rotate_left
          · intro w' hS
            try obtain ⟨a1, a2, a3⟩ := hS
            go_simp
            try with_reducible rfl
          simp only [Act.put, List.setIfInBounds_toArray, List.set_cons_zero, List.set_cons_succ]
          refine wpSoft_nil ?_
          refine wp_hide (fun K hK => ?_)
          go_simp
          refine (HP.out wr.drew (HKP.out.keep (Chg.refl (fun _ _ => False) wr).drew)).mono ?_
          rintro e w4 ⟨rfl, hk2, hcX⟩
          have hc2 : Chg (fun b _ => TakeB ob rb b) wr w4 := ((Chg.refl _ _).drew).trans hcX
          refine hK _ _ ?_
          clear hK K hcX
          refine wpSoft_step ?_ rfl ?_ ?_
          rotate_left
          · intro w' hS
            try obtain ⟨a1⟩ := hS
            go_simp
            try with_reducible rfl
          simp only [Act.put, List.setIfInBounds_toArray, List.set_cons_zero, List.set_cons_succ]
          refine wpSoft_nil ?_
          have hc02 := hc.trans hc2
        · go_wp2
          go_ret
          unfold RunPost
          show _ = Ending.returned (.bool (runL (contN n) acc (upp ltM key T.2)).2) ∧ Kept n ob b2 b3 cb rb w4 (runL (contN n) acc (upp ltM key T.2)).1 ∧ _
          rw [HR.out, runL_stop HB.out]
          exact ⟨rfl, hk2, hc02⟩
        · obtain ⟨l2, hn2⟩ := (hF.chg hc02 (fun b o hb h => hFb b hb h)).node hT.root
          have n3 := hn2.c3n rfl
          clear n2 ik iv
          go_wp2_with (go_at_call 47; refine (leaf_any _ none _ ?_).mono ?_; (focus go_simp); rintro e w' ⟨rfl, rfl⟩)
          go_roundw
          case rel => exact ⟨k + 1, acc' ++ [x], by go_num, by omega, hk2, by rw [HR.out, runL_cons HB.out], by simp; omega, hc02⟩
          case measure => simp [intOf]; omega
  · have hdw := upp_leaf_pos (l := T.2) hp
    have hil : i ≤ T.2.length := hp.le
    have HDW := Lib.hid hdw
    clear hdw hp
    obtain ⟨l2, hn2⟩ := (hF.chg hcc (fun b o hb h => hFb b hb h)).node hT.root
    have n3 := hn2.c3n rfl
    go_wp2_with (go_at_call 47; refine (leaf_any _ none _ ?_).mono ?_; (focus go_simp); rintro e w' ⟨rfl, rfl⟩)
    clear n3
    go_loopw [12] (fun i' wr => ∃ (k : Nat) (acc' : List (Int × Int)), i' = .int .i64 k ∧ k ≤ T.2.length ∧ Kept n ob b2 b3 cb rb wr acc' ∧ runL (contN n) acc (upp ltM key T.2) = runL (contN n) acc' (T.2.drop k) ∧ acc'.length + (T.2.length - k) ≤ 1000000000000 ∧ Chg (fun b _ => TakeB ob rb b) w wr) (fun i' _ => T.2.length - (intOf i').toNat)
    case atStart => exact ⟨i, acc, rfl, hil, HK2.out, by rw [HDW.out], by omega, hcc⟩
    case round =>
      obtain ⟨k, acc', rfl, hk, hkp, hrun, hal, hc⟩ := hrel
      obtain ⟨l, hn⟩ := (hF.chg hc (fun b o hb h => hFb b hb h)).node hT.root
      have n2 : wr.cell? ⟨rid T, 2, none⟩ = some (.slice (some ⟨l.ib, l.io, none⟩) T.2.length l.ic) := hn.c2
      by_cases hlt : k < T.2.length
      rotate_left
      · have hnlt : ¬ (k : Int) < (T.2.length : Int) := by omega
        rw [List.drop_eq_nil_of_le (by omega)] at hrun
        have HR := Lib.hid hrun
        have HKP := Lib.hid hkp
        clear hrun hkp
        go_wp2
        go_ret
        unfold RunPost
        show _ = Ending.returned (.bool (runL (contN n) acc (upp ltM key T.2)).2) ∧ Kept n ob b2 b3 cb rb wr (runL (contN n) acc (upp ltM key T.2)).1 ∧ _
        rw [HR.out]
        exact ⟨rfl, HKP.out, hc⟩
      · obtain ⟨x, hx⟩ : ∃ x, T.2[k]? = some x := ⟨_, List.getElem?_eq_getElem (by omega)⟩
        have ik := hn.mkey (j := k) hx
        have iv := hn.mval (j := k) hx
        rw [drop_cons hx] at hrun
        have hp := fun w1 (h : Kept n ob b2 b3 cb rb w1 acc') => pairs1_any x h (by omega)
        have HR := Lib.hid hrun
        have HKP := Lib.hid hkp
        have i0 : (0 : Int) ≤ (k : Int) := by omega
        have i1 : (k : Int) < (T.2.length : Int) := by omega
        clear hrun hkp hx
        cases hb : contN n (acc' ++ [x])
        all_goals
          rw [hb] at hp
          have HP := Lib.hid hp
          have HB := Lib.hid hb
          clear hp hb
          go_wp2_with fail
          refine wp_region_call (fun w' => w'.cell? ⟨rid T, 2, none⟩ = some (.slice (some ⟨l.ib, l.io, none⟩) T.2.length l.ic) ∧ w'.cell? ⟨l.ib, l.io + k * 2 + 1, none⟩ = some (.int .i64 x.1) ∧ w'.cell? ⟨l.ib, l.io + k * 2, none⟩ = some (.int .i64 x.2))
            17 [0, 1, 2, 3, 4, 5, 6, 7, 8, 9, 10, 11, 12, 13, 14, 15, 16] _ [18] (by kernel_rfl) (by kernel_rfl) (fun _ _ _ _ _ h => h) rfl rfl rfl ⟨n2, ik, iv⟩ ?_
          simp only [pickOps, List.filterMap_cons, List.filterMap_nil, List.getElem?_cons_zero, List.getElem?_cons_succ]
          refine wpSoft_step ?_ rfl ?_ ?_
          rotate_left
          · intro w' hS
            try obtain ⟨a1, a2, a3⟩ := hS
            go_simp
            try with_reducible rfl
          simp only [Act.put, List.setIfInBounds_toArray, List.set_cons_zero, List.set_cons_succ]
          refine wpSoft_step ?_ rfl ?_ ?_
          rotate_left
          · intro w' hS
            try obtain ⟨a1, a2, a3⟩ := hS
            go_simp
            try with_reducible rfl
          simp only [Act.put, List.setIfInBounds_toArray, List.set_cons_zero, List.set_cons_succ]
          refine wpSoft_step ?_ rfl ?_ ?_
          rotate_left
          · intro w' hS
            try obtain ⟨a1, a2, a3⟩ := hS
            go_simp
            try with_reducible rfl
          simp only [Act.put, List.setIfInBounds_toArray, List.set_cons_zero, List.set_cons_succ]
          refine wpSoft_step ?_ rfl ?_ ?_
          rotate_left
          · intro w' hS
            try obtain ⟨a1, a2, a3⟩ := hS
            go_simp
            try with_reducible rfl
          simp only [Act.put, List.setIfInBounds_toArray, List.set_cons_zero, List.set_cons_succ]
          refine wpSoft_step ?_ rfl ?_ ?_
          rotate_left
          · intro w' hS
            try obtain ⟨a1, a2, a3⟩ := hS
            go_simp
            try with_reducible rfl
          simp only [Act.put, List.setIfInBounds_toArray, List.set_cons_zero, List.set_cons_succ]
          refine wpSoft_step ?_ rfl ?_ ?_
          rotate_left
          · intro w' hS
            try obtain ⟨a1, a2, a3⟩ := hS
            go_simp
            try with_reducible rfl
          simp only [Act.put, List.setIfInBounds_toArray, List.set_cons_zero, List.set_cons_succ]
          refine wpSoft_step ?_ rfl ?_ ?_
          rotate_left
          · intro w' hS
            try obtain ⟨a1, a2, a3⟩ := hS
            go_simp
            try with_reducible rfl
          simp only [Act.put, List.setIfInBounds_toArray, List.set_cons_zero, List.set_cons_succ]
          refine wpSoft_step ?_ rfl ?_ ?_
          rotate_left
          · intro w' hS
            try obtain ⟨a1, a2, a3⟩ := hS
            go_simp
            try with_reducible rfl
          simp only [Act.put, List.setIfInBounds_toArray, List.set_cons_zero, List.set_cons_succ]
          refine wpSoft_step ?_ rfl ?_ ?_
          rotate_left
          · intro w' hS
            try obtain ⟨a1, a2, a3⟩ := hS
            go_simp
            try with_reducible rfl
          simp only [Act.put, List.setIfInBounds_toArray, List.set_cons_zero, List.set_cons_succ]
          refine wpSoft_step ?_ rfl ?_ ?_
          rotate_left
          · intro w' hS
            try obtain ⟨a1, a2, a3⟩ := hS
            go_simp
            try with_reducible rfl
          simp only [Act.put, List.setIfInBounds_toArray, List.set_cons_zero, List.set_cons_succ]
          refine wpSoft_step ?_ rfl ?_ ?_
          rotate_left
          · intro w' hS
            try obtain ⟨a1, a2, a3⟩ := hS
            go_simp
            try with_reducible rfl
          simp only [Act.put, List.setIfInBounds_toArray, List.set_cons_zero, List.set_cons_succ]
          refine wpSoft_step ?_ rfl ?_ ?_
          rotate_left
          · intro w' hS
            try obtain ⟨a1, a2, a3⟩ := hS
            go_simp
            try with_reducible rfl
          simp only [Act.put, List.setIfInBounds_toArray, List.set_cons_zero, List.set_cons_succ]
          refine wpSoft_step ?_ rfl ?_ ?_
          rotate_left
          · intro w' hS
            try obtain ⟨a1, a2, a3⟩ := hS
            go_simp
            try with_reducible rfl
          simp only [Act.put, List.setIfInBounds_toArray, List.set_cons_zero, List.set_cons_succ]
          refine wpSoft_step ?_ rfl ?_ ?_
          rotate_left
          · intro w' hS
            try obtain ⟨a1, a2, a3⟩ := hS
            go_simp
            try with_reducible rfl
          simp only [Act.put, List.setIfInBounds_toArray, List.set_cons_zero, List.set_cons_succ]
          refine wpSoft_step ?_ rfl ?_ ?_
          rotate_left
          · intro w' hS
            try obtain ⟨a1, a2, a3⟩ := hS
            go_simp
            try with_reducible rfl
          simp only [Act.put, List.setIfInBounds_toArray, List.set_cons_zero, List.set_cons_succ]
          refine wpSoft_step ?_ rfl ?_ ?_
          rotate_left
          · intro w' hS
            try obtain ⟨a1, a2, a3⟩ := hS
            go_simp
            try with_reducible rfl
          simp only [Act.put, List.setIfInBounds_toArray, List.set_cons_zero, List.set_cons_succ]
          refine wpSoft_step ?_ rfl ?_ ?_
          rotate_left
          · intro w' hS
            try obtain ⟨a1, a2, a3⟩ := hS
            go_simp
            try with_reducible rfl
          simp only [Act.put, List.setIfInBounds_toArray, List.set_cons_zero, List.set_cons_succ]
          refine wpSoft_nil ?_
          refine wp_hide (fun K hK => ?_)
          go_simp
          refine (HP.out wr.drew (HKP.out.keep (Chg.refl (fun _ _ => False) wr).drew)).mono ?_
          rintro e w4 ⟨rfl, hk2, hcX⟩
          have hc2 : Chg (fun b _ => TakeB ob rb b) wr w4 := ((Chg.refl _ _).drew).trans hcX
          refine hK _ _ ?_
          clear hK K hcX
          refine wpSoft_step ?_ rfl ?_ ?_
          rotate_left
          · intro w' hS
            try obtain ⟨a1⟩ := hS
            go_simp
            try with_reducible rfl
          simp only [Act.put, List.setIfInBounds_toArray, List.set_cons_zero, List.set_cons_succ]
          refine wpSoft_nil ?_
          have hc02 := hc.trans hc2
        · go_wp2
          go_ret
          unfold RunPost
          show _ = Ending.returned (.bool (runL (contN n) acc (upp ltM key T.2)).2) ∧ Kept n ob b2 b3 cb rb w4 (runL (contN n) acc (upp ltM key T.2)).1 ∧ _
          rw [HR.out, runL_stop HB.out]
          exact ⟨rfl, hk2, hc02⟩
        · obtain ⟨l2, hn2⟩ := (hF.chg hc02 (fun b o hb h => hFb b hb h)).node hT.root
          have n3 := hn2.c3n rfl
          clear n2 ik iv
          go_wp2_with (go_at_call 47; refine (leaf_any _ none _ ?_).mono ?_; (focus go_simp); rintro e w' ⟨rfl, rfl⟩)
          go_roundw
          case rel => exact ⟨k + 1, acc' ++ [x], by go_num, by omega, hk2, by rw [HR.out, runL_cons HB.out], by simp; omega, hc02⟩
          case measure => simp [intOf]; omega


set_option maxRecDepth 100000 in
set_option maxHeartbeats 4000000 in
theorem asc_branch {h : Nat} (ih : AscSpec h) : AscSpec (h + 1) := by
  intro k0 mn mx w F H T t pa key mt n ob b2 b3 cb rb acc hF hT hs hmn hit hsrt hmx hpa hma hK hFb htb hlen
  obtain ⟨l0, hn0, hblk⟩ := hF.nodeB hT.root
  have n0 := hn0.c0
  have hk : (recOf (h + 1) T).kids = some (T.2.2.map fun c => some (rid c)) := rfl
  have hsl : T.2.1.length ≤ mx := hs.len
  have hkl : T.2.2.length = T.2.1.length + 1 := hs.2.1
  have hdl := upp_len ltM key (toL (h + 1) T)
  have hits : Srt ltM T.2.1 := its_srt hs hsrt
  have hFt : ∀ b, F b → ¬ TakeB ob rb b := fun b hb h => hFb b hb h
  have htt : ¬ TakeB ob rb t := fun h => htb t MOwn.self h
  have HKL := Lib.hid hkl
  have HLEN := Lib.hid hlen
  have HDL := Lib.hid hdl
  have HK := Lib.hid hK
  have HMA := Lib.hid hma
  have HSRT := Lib.hid hsrt
  have hsc := fun (c : BT (Int × Int) h) (hcm : c ∈ T.2.2) (w1 : World) (pa1 : Addr) (acc1 : List (Int × Int)) (hc1 : Chg (fun b _ => TakeB ob rb b) w w1) (hp1 : w1.cell? pa1 = some (.pointer (some ⟨rid c, 0, none⟩))) (h1 : Kept n ob b2 b3 cb rb w1 acc1) (h2 : acc1.length + (toL h c).length ≤ 1000000000000) =>
    scan_all h k0 mn mx w1 F H c t pa1 mt n ob b2 b3 cb rb acc1 (hF.chg hc1 (fun b o hb h => hFb b hb h)) (hT.kid hcm) (hs.2.2 c hcm).2 hp1 (hc1.cell (a := ⟨t, 0, none⟩) (fun h => htb t MOwn.self h) HMA.out.c0) h1 hFt htt h2
  have hih := fun (i : Nat) (c : BT (Int × Int) h) (hci : T.2.2[i]? = some c) (hcm : c ∈ T.2.2) (w1 : World) (pa1 : Addr) (hc1 : Chg (fun b _ => TakeB ob rb b) w w1) (hp1 : w1.cell? pa1 = some (.pointer (some ⟨rid c, 0, none⟩))) (h1 : Kept n ob b2 b3 cb rb w1 acc) (h2 : acc.length + (toL h c).length ≤ 1000000000000) =>
    ih k0 mn mx w1 F H c t pa1 key mt n ob b2 b3 cb rb acc (hF.chg hc1 (fun b o hb h => hFb b hb h)) (hT.kid hcm) (hs.2.2 c hcm).2 hmn (by have := (hs.2.2 c hcm).1; omega) (sub_srt hs hci HSRT.out) hmx hp1 (HMA.out.chg hc1 (fun b _ hb h => htb b hb h)) h1 hFb htb h2
  unfold fnP at hsc hih
  have HSC := Lib.hid hsc
  have HIH := Lib.hid hih
  clear hK hlen hkl hsc hih hdl hsrt hma
  unfold fnP
  go_enter Try.func49, Try.ntmps49
  go_wp2_with fail
  refine (isoLoad_any t (rid T) k0 pa mt _ hpa n0 HMA.out.c0).mono ?_
  rintro e w1 ⟨rfl, m1, hw1⟩
  have hc1 : Chg (fun _ _ => False) w w1 := by rw [hw1]; exact (Chg.refl _ _).drewN _
  clear hw1 n0 hpa
  have hse := search_node t key (HMA.out.chg hc1 (fun _ _ _ h => h)) (hn0.chg hc1 (fun _ _ _ h => h)) hits (by show T.2.1.length ≤ 1000000; omega)
  have HSE := Lib.hid hse
  clear hse
  go_wp2_with fail
  refine HSE.out.mono ?_
  rintro e w2 ⟨i, f, rfl, hw2, hf⟩
  have hcc0 : Chg (fun _ _ => False) w w2 := hc1.trans hw2
  have hcc : Chg (fun b _ => TakeB ob rb b) w w2 := hcc0.mono (fun _ _ _ h => h.elim)
  have HK2 := Lib.hid (HK.out.keep hcc0)
  clear hw2
  rcases hf with ⟨rfl, y, hy⟩ | ⟨rfl, hp⟩
  · have hdw := upp_hit hs HSRT.out hy
    have hil : i < T.2.1.length := (List.getElem?_eq_some_iff.1 hy.at_).1
    have HDW := Lib.hid hdw
    clear hdw hy
    go_wp2_with fail
    go_loopw [12] (fun i' wr => ∃ (k : Nat) (acc' : List (Int × Int)), i' = .int .i64 k ∧ k ≤ T.2.1.length ∧ Kept n ob b2 b3 cb rb wr acc' ∧ runL (contN n) acc (upp ltM key (toL (h + 1) T)) = runL (contN n) acc' (post (T.2.1.drop k) ((T.2.2.map (toL h)).drop (k + 1))) ∧ acc'.length + (post (T.2.1.drop k) ((T.2.2.map (toL h)).drop (k + 1))).length ≤ 1000000000000 ∧ Chg (fun b _ => TakeB ob rb b) w wr) (fun i' _ => T.2.1.length - (intOf i').toNat)
    case atStart => exact ⟨i, acc, rfl, by omega, HK2.out, by rw [HDW.out], by have := HLEN.out; have h2 := HDL.out; rw [HDW.out] at h2; omega, hcc⟩
    case round =>
      obtain ⟨k, acc', rfl, hkk, hkp, hrun, hal, hc⟩ := hrel
      obtain ⟨l, hn⟩ := (hF.chg hc (fun b o hb h => hFb b hb h)).node hT.root
      have n2 : wr.cell? ⟨rid T, 2, none⟩ = some (.slice (some ⟨l.ib, l.io, none⟩) T.2.1.length l.ic) := hn.c2
      by_cases hlt : k < T.2.1.length
      rotate_left
      · have hnlt : ¬ (k : Int) < (T.2.1.length : Int) := by omega
        rw [post_nil (by omega)] at hrun
        have HR := Lib.hid hrun
        have HKP := Lib.hid hkp
        clear hrun hkp
        go_wp2
        go_ret
        unfold RunPost
        show _ = Ending.returned (.bool (runL (contN n) acc (upp ltM key (toL (h + 1) T))).2) ∧ Kept n ob b2 b3 cb rb wr (runL (contN n) acc (upp ltM key (toL (h + 1) T))).1 ∧ _
        rw [HR.out]
        exact ⟨rfl, HKP.out, hc⟩
      · obtain ⟨x, hx⟩ : ∃ x, T.2.1[k]? = some x := ⟨_, List.getElem?_eq_getElem (by omega)⟩
        obtain ⟨c, hcj⟩ : ∃ c, T.2.2[k + 1]? = some c := ⟨_, List.getElem?_eq_getElem (by have := HKL.out; omega)⟩
        have hcm : c ∈ T.2.2 := List.mem_of_getElem? hcj
        have hkc := (List.getElem?_eq_some_iff.1 hcj).1
        have htj : (T.2.2.map (toL h))[k + 1]? = some (toL h c) := by simp [hcj]
        have ik := hn.mkey (j := k) hx
        have iv := hn.mval (j := k) hx
        rw [post_drop hx htj] at hrun hal
        have hp := fun w1 (h : Kept n ob b2 b3 cb rb w1 acc') => pairs1_any x h (by omega)
        have HR := Lib.hid hrun
        have HKP := Lib.hid hkp
        have HCJ := Lib.hid hcj
        have HAL := Lib.hid hal
        have i0 : (0 : Int) ≤ (k : Int) := by omega
        have i1 : (k : Int) < (T.2.1.length : Int) := by omega
        have i2 : (k : Int) + 1 < (T.2.2.length : Int) := by omega
        have i3 : (0 : Int) ≤ (k : Int) + 1 := by omega
        have i4 : ((k : Int) + 1).toNat = k + 1 := by omega
        have i5 : IntKind.i64.wrap ((k : Int) + 1) = (k : Int) + 1 := IntWalk.i64_in _ (by omega)
        clear hrun hkp hx hcj htj hal
        cases hb : contN n (acc' ++ [x])
        all_goals
          rw [hb] at hp
          have HP := Lib.hid hp
          have HB1 := Lib.hid hb
          clear hp hb
          go_wp2_with fail
          refine wp_region_call (fun w' => w'.cell? ⟨rid T, 2, none⟩ = some (.slice (some ⟨l.ib, l.io, none⟩) T.2.1.length l.ic) ∧ w'.cell? ⟨l.ib, l.io + k * 2 + 1, none⟩ = some (.int .i64 x.1) ∧ w'.cell? ⟨l.ib, l.io + k * 2, none⟩ = some (.int .i64 x.2))
            17 [0, 1, 2, 3, 4, 5, 6, 7, 8, 9, 10, 11, 12, 13, 14, 15, 16] _ [18] (by kernel_rfl) (by kernel_rfl) (fun _ _ _ _ _ h => h) rfl rfl rfl ⟨n2, ik, iv⟩ ?_
          simp only [pickOps, List.filterMap_cons, List.filterMap_nil, List.getElem?_cons_zero, List.getElem?_cons_succ]
          refine wpSoft_step ?_ rfl ?_ ?_
          rotate_left
          · intro w' hS
            try obtain ⟨a1, a2, a3⟩ := hS
            go_simp
            try with_reducible rfl
          simp only [Act.put, List.setIfInBounds_toArray, List.set_cons_zero, List.set_cons_succ]
          refine wpSoft_step ?_ rfl ?_ ?_
          rotate_left
          · intro w' hS
            try obtain ⟨a1, a2, a3⟩ := hS
            go_simp
            try with_reducible rfl
          simp only [Act.put, List.setIfInBounds_toArray, List.set_cons_zero, List.set_cons_succ]
          refine wpSoft_step ?_ rfl ?_ ?_
          rotate_left
          · intro w' hS
            try obtain ⟨a1, a2, a3⟩ := hS
            go_simp
            try with_reducible rfl
          simp only [Act.put, List.setIfInBounds_toArray, List.set_cons_zero, List.set_cons_succ]
          refine wpSoft_step ?_ rfl ?_ ?_
          rotate_left
          · intro w' hS
            try obtain ⟨a1, a2, a3⟩ := hS
            go_simp
            try with_reducible rfl
          simp only [Act.put, List.setIfInBounds_toArray, List.set_cons_zero, List.set_cons_succ]
          refine wpSoft_step ?_ rfl ?_ ?_
          rotate_left
          · intro w' hS
            try obtain ⟨a1, a2, a3⟩ := hS
            go_simp
            try with_reducible rfl
          simp only [Act.put, List.setIfInBounds_toArray, List.set_cons_zero, List.set_cons_succ]
          refine wpSoft_step ?_ rfl ?_ ?_
          rotate_left
          · intro w' hS
            try obtain ⟨a1, a2, a3⟩ := hS
            go_simp
            try with_reducible rfl
          simp only [Act.put, List.setIfInBounds_toArray, List.set_cons_zero, List.set_cons_succ]
          refine wpSoft_step ?_ rfl ?_ ?_
          rotate_left
          · intro w' hS
            try obtain ⟨a1, a2, a3⟩ := hS
            go_simp
            try with_reducible rfl
          simp only [Act.put, List.setIfInBounds_toArray, List.set_cons_zero, List.set_cons_succ]
          refine wpSoft_step ?_ rfl ?_ ?_
          rotate_left
          · intro w' hS
            try obtain ⟨a1, a2, a3⟩ := hS
            go_simp
            try with_reducible rfl
          simp only [Act.put, List.setIfInBounds_toArray, List.set_cons_zero, List.set_cons_succ]
          refine wpSoft_step ?_ rfl ?_ ?_
          rotate_left
          · intro w' hS
            try obtain ⟨a1, a2, a3⟩ := hS
            go_simp
            try with_reducible rfl
          simp only [Act.put, List.setIfInBounds_toArray, List.set_cons_zero, List.set_cons_succ]
          refine wpSoft_step ?_ rfl ?_ ?_
          rotate_left
          · intro w' hS
            try obtain ⟨a1, a2, a3⟩ := hS
            go_simp
            try with_reducible rfl
          simp only [Act.put, List.setIfInBounds_toArray, List.set_cons_zero, List.set_cons_succ]
          refine wpSoft_step ?_ rfl ?_ ?_
          rotate_left
          · intro w' hS
            try obtain ⟨a1, a2, a3⟩ := hS
            go_simp
            try with_reducible rfl
          simp only [Act.put, List.setIfInBounds_toArray, List.set_cons_zero, List.set_cons_succ]
          refine wpSoft_step ?_ rfl ?_ ?_
          rotate_left
          · intro w' hS
            try obtain ⟨a1, a2, a3⟩ := hS
            go_simp
            try with_reducible rfl
          simp only [Act.put, List.setIfInBounds_toArray, List.set_cons_zero, List.set_cons_succ]
          refine wpSoft_step ?_ rfl ?_ ?_
          rotate_left
          · intro w' hS
            try obtain ⟨a1, a2, a3⟩ := hS
            go_simp
            try with_reducible rfl
          simp only [Act.put, List.setIfInBounds_toArray, List.set_cons_zero, List.set_cons_succ]
          refine wpSoft_step ?_ rfl ?_ ?_
          rotate_left
          · intro w' hS
            try obtain ⟨a1, a2, a3⟩ := hS
            go_simp
            try with_reducible rfl
          simp only [Act.put, List.setIfInBounds_toArray, List.set_cons_zero, List.set_cons_succ]
          refine wpSoft_step ?_ rfl ?_ ?_
          rotate_left
          · intro w' hS
            try obtain ⟨a1, a2, a3⟩ := hS
            go_simp
            try with_reducible rfl
          simp only [Act.put, List.setIfInBounds_toArray, List.set_cons_zero, List.set_cons_succ]
          refine wpSoft_step ?_ rfl ?_ ?_
          rotate_left
          · intro w' hS
            try obtain ⟨a1, a2, a3⟩ := hS
            go_simp
            try with_reducible rfl
          simp only [Act.put, List.setIfInBounds_toArray, List.set_cons_zero, List.set_cons_succ]
          refine wpSoft_step ?_ rfl ?_ ?_
          rotate_left
          · intro w' hS
            try obtain ⟨a1, a2, a3⟩ := hS
            go_simp
            try with_reducible rfl
          simp only [Act.put, List.setIfInBounds_toArray, List.set_cons_zero, List.set_cons_succ]
          refine wpSoft_nil ?_
          refine wp_hide (fun K hK => ?_)
          go_simp
          refine (HP.out wr.drew (HKP.out.keep (Chg.refl (fun _ _ => False) wr).drew)).mono ?_
          rintro e w4 ⟨rfl, hk4, hcX⟩
          have hc4 : Chg (fun b _ => TakeB ob rb b) wr w4 := ((Chg.refl _ _).drew).trans hcX
          refine hK _ _ ?_
          clear hK K hcX
          refine wpSoft_step ?_ rfl ?_ ?_
          rotate_left
          · intro w' hS
            try obtain ⟨a1⟩ := hS
            go_simp
            try with_reducible rfl
          simp only [Act.put, List.setIfInBounds_toArray, List.set_cons_zero, List.set_cons_succ]
          refine wpSoft_nil ?_
          have hc04 := hc.trans hc4
          have HK4 := Lib.hid hk4
          clear hk4
        · go_wp2
          go_ret
          unfold RunPost
          show _ = Ending.returned (.bool (runL (contN n) acc (upp ltM key (toL (h + 1) T))).2) ∧ Kept n ob b2 b3 cb rb w4 (runL (contN n) acc (upp ltM key (toL (h + 1) T))).1 ∧ _
          rw [HR.out, runL_stop HB1.out]
          exact ⟨rfl, HK4.out, hc04⟩
        · obtain ⟨l4, hn4⟩ := (hF.chg hc04 (fun b o hb h => hFb b hb h)).node hT.root
          have n3 := hn4.c3s hk
          have nc := hn4.cc hk
          rw [List.length_map] at nc
          have kc : w4.cell? ⟨l4.cb, l4.co + (k + 1), none⟩ = some (.pointer (some ⟨rid c, 0, none⟩)) := hn4.kidc hk (j := k + 1) (o := some (rid c)) (by simp [HCJ.out])
          clear n2 ik iv
          cases hb2 : (runL (contN n) (acc' ++ [x]) (toL h c)).2
          all_goals
            have hkid := HSC.out c hcm w4 ⟨l4.cb, l4.co + (k + 1), none⟩ (acc' ++ [x]) hc04 kc HK4.out (by have := HAL.out; simp only [List.length_append, List.length_cons, List.length_nil] at this ⊢; omega)
            unfold RunPost at hkid
            rw [hb2] at hkid
            have HKID := Lib.hid hkid
            have HB2 := Lib.hid hb2
            clear hkid hb2
            go_wp2_with (go_at_call 47; refine (leaf_any _ (some ⟨l4.cc, 0, none⟩) _ ?_).mono ?_; (focus go_simp); rintro e w' ⟨rfl, rfl⟩)
            refine HKID.out.mono ?_
            rintro e w5 ⟨rfl, hk5, hc5⟩
            have hc05 := hc04.trans hc5
            have HK5 := Lib.hid hk5
            clear hk5
          · go_wp2
            go_ret
            unfold RunPost
            show _ = Ending.returned (.bool (runL (contN n) acc (upp ltM key (toL (h + 1) T))).2) ∧ Kept n ob b2 b3 cb rb w5 (runL (contN n) acc (upp ltM key (toL (h + 1) T))).1 ∧ _
            rw [HR.out, runL_cons HB1.out, runL_app_false HB2.out, HB2.out]
            exact ⟨rfl, HK5.out, hc05⟩
          · have hrt2 := runL_true _ _ _ HB2.out
            have HRT2 := Lib.hid hrt2
            clear hrt2
            go_wp2
            go_roundw
            case rel => exact ⟨k + 1, _, by go_num, by omega, HK5.out, by rw [HR.out, runL_cons HB1.out, runL_app_true HB2.out], by rw [HRT2.out]; have := HAL.out; simp only [List.length_append, List.length_cons, List.length_nil] at this ⊢; omega, hc05⟩
            case measure => simp [intOf]; omega
  · obtain ⟨c, hcj⟩ : ∃ c, T.2.2[i]? = some c := ⟨_, List.getElem?_eq_getElem (by have := HKL.out; have h2 : i ≤ T.2.1.length := hp.le; omega)⟩
    have hcm : c ∈ T.2.2 := List.mem_of_getElem? hcj
    have hkc := (List.getElem?_eq_some_iff.1 hcj).1
    have hdw := upp_kid hs hcj HSRT.out hp
    have hil : i ≤ T.2.1.length := hp.le
    obtain ⟨l2, hn2, hblk2⟩ := (hF.chg hcc (fun b o hb h => hFb b hb h)).nodeB hT.root
    have n3 := hn2.c3s hk
    have nc := hn2.cc hk
    rw [List.length_map] at nc
    have kc : w2.cell? ⟨l2.cb, l2.co + i, none⟩ = some (.pointer (some ⟨rid c, 0, none⟩)) := hn2.kidc hk (j := i) (o := some (rid c)) (by simp [hcj])
    have hrb2 : ¬ TakeB ob rb (rid T) := hFb _ (hblk2 _ (.inl rfl))
    have hcb2 : ¬ TakeB ob rb l2.cc := hFb _ (hblk2 _ (.inr (.inr ⟨by rw [hk]; simp, .inl rfl⟩)))
    have hcl : acc.length + (toL h c).length ≤ 1000000000000 := by
      have h1 := HLEN.out
      have h2 := kid_lt hs hcm hit
      omega
    have hkid0 := HIH.out i c hcj hcm w2 ⟨l2.cb, l2.co + i, none⟩ hcc kc HK2.out hcl
    have HDW := Lib.hid hdw
    have i0 : (0 : Int) ≤ (i : Int) := by omega
    have i1 : (i : Int) < (T.2.2.length : Int) := by omega
    have i2 : (i : Int) ≤ 1000 := by omega
    clear hdw hp hcj hcl
    cases hb0 : (runL (contN n) acc (upp ltM key (toL h c))).2
    all_goals
      have hkid := hkid0
      unfold RunPost at hkid
      rw [hb0] at hkid
      have HKID := Lib.hid hkid
      have HB0 := Lib.hid hb0
      clear hkid hb0 hkid0
      go_wp2_with fail
      refine (leaf_any _ (some ⟨l2.cc, 0, none⟩) _ n3).mono ?_
      rintro e w' ⟨rfl, rfl⟩
      go_wp2_with fail
      refine HKID.out.mono ?_
      rintro e w3 ⟨rfl, hk3, hc3⟩
      have hc03 := hcc.trans hc3
      have HK3 := Lib.hid hk3
      clear hk3 n3 nc kc
    · go_wp2
      go_ret
      unfold RunPost
      show _ = Ending.returned (.bool (runL (contN n) acc (upp ltM key (toL (h + 1) T))).2) ∧ Kept n ob b2 b3 cb rb w3 (runL (contN n) acc (upp ltM key (toL (h + 1) T))).1 ∧ _
      rw [HDW.out, runL_app_false HB0.out, HB0.out]
      exact ⟨rfl, HK3.out, hc03⟩
    · have hrt := runL_true _ _ _ HB0.out
      have HRT := Lib.hid hrt
      clear hrt
      go_wp2
      go_loopw [12] (fun i' wr => ∃ (k : Nat) (acc' : List (Int × Int)), i' = .int .i64 k ∧ k ≤ T.2.1.length ∧ Kept n ob b2 b3 cb rb wr acc' ∧ runL (contN n) acc (upp ltM key (toL (h + 1) T)) = runL (contN n) acc' (post (T.2.1.drop k) ((T.2.2.map (toL h)).drop (k + 1))) ∧ acc'.length + (post (T.2.1.drop k) ((T.2.2.map (toL h)).drop (k + 1))).length ≤ 1000000000000 ∧ Chg (fun b _ => TakeB ob rb b) w wr) (fun i' _ => T.2.1.length - (intOf i').toNat)
      case atStart => exact ⟨i, _, rfl, hil, HK3.out, by rw [HDW.out, runL_app_true HB0.out], by rw [HRT.out]; have h1 := HLEN.out; have h2 := HDL.out; rw [HDW.out] at h2; simp only [List.length_append] at h2 ⊢; omega, hc03⟩
      case round =>
        obtain ⟨k, acc', rfl, hkk, hkp, hrun, hal, hc⟩ := hrel
        obtain ⟨l, hn⟩ := (hF.chg hc (fun b o hb h => hFb b hb h)).node hT.root
        have n2 : wr.cell? ⟨rid T, 2, none⟩ = some (.slice (some ⟨l.ib, l.io, none⟩) T.2.1.length l.ic) := hn.c2
        by_cases hlt : k < T.2.1.length
        rotate_left
        · have hnlt : ¬ (k : Int) < (T.2.1.length : Int) := by omega
          rw [post_nil (by omega)] at hrun
          have HR := Lib.hid hrun
          have HKP := Lib.hid hkp
          clear hrun hkp
          go_wp2
          go_ret
          unfold RunPost
          show _ = Ending.returned (.bool (runL (contN n) acc (upp ltM key (toL (h + 1) T))).2) ∧ Kept n ob b2 b3 cb rb wr (runL (contN n) acc (upp ltM key (toL (h + 1) T))).1 ∧ _
          rw [HR.out]
          exact ⟨rfl, HKP.out, hc⟩
        · obtain ⟨x, hx⟩ : ∃ x, T.2.1[k]? = some x := ⟨_, List.getElem?_eq_getElem (by omega)⟩
          obtain ⟨c, hcj⟩ : ∃ c, T.2.2[k + 1]? = some c := ⟨_, List.getElem?_eq_getElem (by have := HKL.out; omega)⟩
          have hcm : c ∈ T.2.2 := List.mem_of_getElem? hcj
          have hkc := (List.getElem?_eq_some_iff.1 hcj).1
          have htj : (T.2.2.map (toL h))[k + 1]? = some (toL h c) := by simp [hcj]
          have ik := hn.mkey (j := k) hx
          have iv := hn.mval (j := k) hx
          rw [post_drop hx htj] at hrun hal
          have hp := fun w1 (h : Kept n ob b2 b3 cb rb w1 acc') => pairs1_any x h (by omega)
          have HR := Lib.hid hrun
          have HKP := Lib.hid hkp
          have HCJ := Lib.hid hcj
          have HAL := Lib.hid hal
          have i0 : (0 : Int) ≤ (k : Int) := by omega
          have i1 : (k : Int) < (T.2.1.length : Int) := by omega
          have i2 : (k : Int) + 1 < (T.2.2.length : Int) := by omega
          have i3 : (0 : Int) ≤ (k : Int) + 1 := by omega
          have i4 : ((k : Int) + 1).toNat = k + 1 := by omega
          have i5 : IntKind.i64.wrap ((k : Int) + 1) = (k : Int) + 1 := IntWalk.i64_in _ (by omega)
          clear hrun hkp hx hcj htj hal
          cases hb : contN n (acc' ++ [x])
          all_goals
            rw [hb] at hp
            have HP := Lib.hid hp
            have HB1 := Lib.hid hb
            clear hp hb
            go_wp2_with fail
            refine wp_region_call (fun w' => w'.cell? ⟨rid T, 2, none⟩ = some (.slice (some ⟨l.ib, l.io, none⟩) T.2.1.length l.ic) ∧ w'.cell? ⟨l.ib, l.io + k * 2 + 1, none⟩ = some (.int .i64 x.1) ∧ w'.cell? ⟨l.ib, l.io + k * 2, none⟩ = some (.int .i64 x.2))
              17 [0, 1, 2, 3, 4, 5, 6, 7, 8, 9, 10, 11, 12, 13, 14, 15, 16] _ [18] (by kernel_rfl) (by kernel_rfl) (fun _ _ _ _ _ h => h) rfl rfl rfl ⟨n2, ik, iv⟩ ?_
            simp only [pickOps, List.filterMap_cons, List.filterMap_nil, List.getElem?_cons_zero, List.getElem?_cons_succ]
            refine wpSoft_step ?_ rfl ?_ ?_
            rotate_left
            · intro w' hS
              try obtain ⟨a1, a2, a3⟩ := hS
              go_simp
              try with_reducible rfl
            simp only [Act.put, List.setIfInBounds_toArray, List.set_cons_zero, List.set_cons_succ]
            refine wpSoft_step ?_ rfl ?_ ?_
            rotate_left
            · intro w' hS
              try obtain ⟨a1, a2, a3⟩ := hS
              go_simp
              try with_reducible rfl
            simp only [Act.put, List.setIfInBounds_toArray, List.set_cons_zero, List.set_cons_succ]
            refine wpSoft_step ?_ rfl ?_ ?_
            rotate_left
            · intro w' hS
              try obtain ⟨a1, a2, a3⟩ := hS
              go_simp
              try with_reducible rfl
            simp only [Act.put, List.setIfInBounds_toArray, List.set_cons_zero, List.set_cons_succ]
            refine wpSoft_step ?_ rfl ?_ ?_
            rotate_left
            · intro w' hS
              try obtain ⟨a1, a2, a3⟩ := hS
              go_simp
              try with_reducible rfl
            simp only [Act.put, List.setIfInBounds_toArray, List.set_cons_zero, List.set_cons_succ]
            refine wpSoft_step ?_ rfl ?_ ?_
            rotate_left
            · intro w' hS
              try obtain ⟨a1, a2, a3⟩ := hS
              go_simp
              try with_reducible rfl
            simp only [Act.put, List.setIfInBounds_toArray, List.set_cons_zero, List.set_cons_succ]
            refine wpSoft_step ?_ rfl ?_ ?_
            rotate_left
            · intro w' hS
              try obtain ⟨a1, a2, a3⟩ := hS
              go_simp
              try with_reducible rfl
            simp only [Act.put, List.setIfInBounds_toArray, List.set_cons_zero, List.set_cons_succ]
            refine wpSoft_step ?_ rfl ?_ ?_
            rotate_left
            · intro w' hS
              try obtain ⟨a1, a2, a3⟩ := hS
              go_simp
              try with_reducible rfl
            simp only [Act.put, List.setIfInBounds_toArray, List.set_cons_zero, List.set_cons_succ]
            refine wpSoft_step ?_ rfl ?_ ?_
            rotate_left
            · intro w' hS
              try obtain ⟨a1, a2, a3⟩ := hS
              go_simp
              try with_reducible rfl
            simp only [Act.put, List.setIfInBounds_toArray, List.set_cons_zero, List.set_cons_succ]
            refine wpSoft_step ?_ rfl ?_ ?_
            rotate_left
            · intro w' hS
              try obtain ⟨a1, a2, a3⟩ := hS
              go_simp
              try with_reducible rfl
            simp only [Act.put, List.setIfInBounds_toArray, List.set_cons_zero, List.set_cons_succ]
            refine wpSoft_step ?_ rfl ?_ ?_
            rotate_left
            · intro w' hS
              try obtain ⟨a1, a2, a3⟩ := hS
              go_simp
              try with_reducible rfl
            simp only [Act.put, List.setIfInBounds_toArray, List.set_cons_zero, List.set_cons_succ]
            refine wpSoft_step ?_ rfl ?_ ?_
            rotate_left
            · intro w' hS
              try obtain ⟨a1, a2, a3⟩ := hS
              go_simp
              try with_reducible rfl
            simp only [Act.put, List.setIfInBounds_toArray, List.set_cons_zero, List.set_cons_succ]
            refine wpSoft_step ?_ rfl ?_ ?_
            rotate_left
            · intro w' hS
              try obtain ⟨a1, a2, a3⟩ := hS
              go_simp
              try with_reducible rfl
            simp only [Act.put, List.setIfInBounds_toArray, List.set_cons_zero, List.set_cons_succ]
            refine wpSoft_step ?_ rfl ?_ ?_
            rotate_left
            · intro w' hS
              try obtain ⟨a1, a2, a3⟩ := hS
              go_simp
              try with_reducible rfl
            simp only [Act.put, List.setIfInBounds_toArray, List.set_cons_zero, List.set_cons_succ]
            refine wpSoft_step ?_ rfl ?_ ?_
            rotate_left
            · intro w' hS
              try obtain ⟨a1, a2, a3⟩ := hS
              go_simp
              try with_reducible rfl
            simp only [Act.put, List.setIfInBounds_toArray, List.set_cons_zero, List.set_cons_succ]
            refine wpSoft_step ?_ rfl ?_ ?_
            rotate_left
            · intro w' hS
              try obtain ⟨a1, a2, a3⟩ := hS
              go_simp
              try with_reducible rfl
            simp only [Act.put, List.setIfInBounds_toArray, List.set_cons_zero, List.set_cons_succ]
            refine wpSoft_step ?_ rfl ?_ ?_
            rotate_left
            · intro w' hS
              try obtain ⟨a1, a2, a3⟩ := hS
              go_simp
              try with_reducible rfl
            simp only [Act.put, List.setIfInBounds_toArray, List.set_cons_zero, List.set_cons_succ]
            refine wpSoft_step ?_ rfl ?_ ?_
            rotate_left
            · intro w' hS
              try obtain ⟨a1, a2, a3⟩ := hS
              go_simp
              try with_reducible rfl
            simp only [Act.put, List.setIfInBounds_toArray, List.set_cons_zero, List.set_cons_succ]
            refine wpSoft_nil ?_
            refine wp_hide (fun K hK => ?_)
            go_simp
            refine (HP.out wr.drew (HKP.out.keep (Chg.refl (fun _ _ => False) wr).drew)).mono ?_
            rintro e w4 ⟨rfl, hk4, hcX⟩
            have hc4 : Chg (fun b _ => TakeB ob rb b) wr w4 := ((Chg.refl _ _).drew).trans hcX
            refine hK _ _ ?_
            clear hK K hcX
            refine wpSoft_step ?_ rfl ?_ ?_
            rotate_left
            · intro w' hS
              try obtain ⟨a1⟩ := hS
              go_simp
              try with_reducible rfl
            simp only [Act.put, List.setIfInBounds_toArray, List.set_cons_zero, List.set_cons_succ]
            refine wpSoft_nil ?_
            have hc04 := hc.trans hc4
            have HK4 := Lib.hid hk4
            clear hk4
          · go_wp2
            go_ret
            unfold RunPost
            show _ = Ending.returned (.bool (runL (contN n) acc (upp ltM key (toL (h + 1) T))).2) ∧ Kept n ob b2 b3 cb rb w4 (runL (contN n) acc (upp ltM key (toL (h + 1) T))).1 ∧ _
            rw [HR.out, runL_stop HB1.out]
            exact ⟨rfl, HK4.out, hc04⟩
          · obtain ⟨l4, hn4⟩ := (hF.chg hc04 (fun b o hb h => hFb b hb h)).node hT.root
            have n3 := hn4.c3s hk
            have nc := hn4.cc hk
            rw [List.length_map] at nc
            have kc : w4.cell? ⟨l4.cb, l4.co + (k + 1), none⟩ = some (.pointer (some ⟨rid c, 0, none⟩)) := hn4.kidc hk (j := k + 1) (o := some (rid c)) (by simp [HCJ.out])
            clear n2 ik iv
            cases hb2 : (runL (contN n) (acc' ++ [x]) (toL h c)).2
            all_goals
              have hkid := HSC.out c hcm w4 ⟨l4.cb, l4.co + (k + 1), none⟩ (acc' ++ [x]) hc04 kc HK4.out (by have := HAL.out; simp only [List.length_append, List.length_cons, List.length_nil] at this ⊢; omega)
              unfold RunPost at hkid
              rw [hb2] at hkid
              have HKID := Lib.hid hkid
              have HB2 := Lib.hid hb2
              clear hkid hb2
              go_wp2_with (go_at_call 47; refine (leaf_any _ (some ⟨l4.cc, 0, none⟩) _ ?_).mono ?_; (focus go_simp); rintro e w' ⟨rfl, rfl⟩)
              refine HKID.out.mono ?_
              rintro e w5 ⟨rfl, hk5, hc5⟩
              have hc05 := hc04.trans hc5
              have HK5 := Lib.hid hk5
              clear hk5
            · go_wp2
              go_ret
              unfold RunPost
              show _ = Ending.returned (.bool (runL (contN n) acc (upp ltM key (toL (h + 1) T))).2) ∧ Kept n ob b2 b3 cb rb w5 (runL (contN n) acc (upp ltM key (toL (h + 1) T))).1 ∧ _
              rw [HR.out, runL_cons HB1.out, runL_app_false HB2.out, HB2.out]
              exact ⟨rfl, HK5.out, hc05⟩
            · have hrt2 := runL_true _ _ _ HB2.out
              have HRT2 := Lib.hid hrt2
              clear hrt2
              go_wp2
              go_roundw
              case rel => exact ⟨k + 1, _, by go_num, by omega, HK5.out, by rw [HR.out, runL_cons HB1.out, runL_app_true HB2.out], by rw [HRT2.out]; have := HAL.out; simp only [List.length_append, List.length_cons, List.length_nil] at this ⊢; omega, hc05⟩
              case measure => simp [intOf]; omega

theorem asc_all : (h : Nat) → AscSpec h
  | 0 => asc_leaf
  | h + 1 => asc_branch (asc_all h)
end Go.Proofs.Ytpgaedmhgchgeaa.M
