/- BMin, its reference and the law. -/
import Derived.Test.YtilcapfokmpaoaaA9
import Derived.Test.YtilcapfokmpaoaaA11
import Derived.Test.YtilcapfokmpaoaaMo
namespace Go.Proofs.Ytilcapfokmpaoaa
set_option linter.unusedSimpArgs false
set_option linter.unusedVariables false
open Go.RowKit

theorem lock_any (t : Nat) (b : Bool) (w : World) : Calls Try.prog 51 #[.pointer (some ⟨t, 0, none⟩), .bool b] w fun e w' => e = .returned (.bool false) ∧ w = w' := by
  go_enter Try.func51, Try.ntmps51
  go_wp2
  go_ret
  exact ⟨rfl, rfl⟩

theorem first_kid {α : Type} {h : Nat} {T : BT α (h + 1)} {mn mx : Nat} (hs : Sh mn mx (h + 1) T) (h1 : 1 ≤ T.2.1.length) (hmn : 1 ≤ mn) :
    ∃ c, T.2.2[0]? = some c ∧ 1 ≤ (its c).length ∧ Sh mn mx h c ∧ (toL h c).head? = (toL (h + 1) T).head? ∧ (toL h c).length < (toL (h + 1) T).length := by
  have hl := hs.2.1
  obtain ⟨c, hc⟩ : ∃ c, T.2.2[0]? = some c := ⟨_, List.getElem?_eq_getElem (by omega)⟩
  obtain ⟨g1, g2⟩ := hs.2.2 c (List.mem_of_getElem? hc)
  have g3 : 1 ≤ (toL h c).length := its_head g2 (by omega)
  refine ⟨c, hc, by omega, g2, ?_, ?_⟩
  · rw [toL_at hs hc]
    cases e : toL h c with
    | nil => rw [e] at g3; simp at g3
    | cons a l => simp [pre]
  · rw [toL_at hs hc]
    have : 1 ≤ (post (T.2.1.drop 0) ((T.2.2.map (toL h)).drop (0 + 1))).length := by
      match h2 : T.2.1, h3 : T.2.2 with
      | x :: xs, a :: b :: ts => simp [post]
      | [], _ => rw [h2] at h1; simp at h1
      | x :: xs, [] => rw [h2, h3] at hl; simp at hl
      | x :: xs, [a] => rw [h2, h3] at hl; simp at hl
    simp only [List.length_append]
    omega

def endV {ord : List Int} (o : Option (It ord)) : Value := match o with
  | some x => .tuple #[.iface 27 (.agg #[.int .i64 x.1, .int .i64 x.2]), .bool true]
  | none => .tuple #[.nilIface, .bool false]







theorem foundAny_any {ord : List Int} (o : Option (It ord)) (w : World) :
    Calls Try.prog 14 #[optV o] w fun e w' => e = .returned (foundV o) ∧ Chg (fun _ _ => False) w w' := by
  have f1 := asItem
  rcases o with _ | y
  · unfold optV
    go_enter Try.func14, Try.ntmps14
    go_wp2
    refine bodyPost_ret (v := foundV none) (by simp [results, Try.results14, go_sem, foundV]) rfl ?_
    exact ⟨rfl, (Chg.refl _ _).alloc _⟩
  · unfold optV aggM
    go_enter Try.func14, Try.ntmps14
    go_wp2
    refine bodyPost_ret (v := foundV (some y)) (by simp [results, Try.results14, go_sem, foundV]) rfl ?_
    exact ⟨rfl, (Chg.refl _ _).alloc _⟩
end Go.Proofs.Ytilcapfokmpaoaa

namespace Go.Proofs.Ytilcapfokmpaoaa
set_option linter.unusedSimpArgs false
set_option linter.unusedVariables false
open Go.RowKit

set_option maxRecDepth 100000 in
theorem find_any {ord : List Int} {k : Kc ord} {mn mx : Nat} {w : World} {n : Nat} {r : NodeR (It ord)} {l : Lay} (t : Nat) (x : It ord) (dp : Int) (hm : MapAt k mn mx w t) (h : NodeAt (parM k) w n r l) (hs : Srt ltM r.items) (hlen : r.items.length ≤ 1000000) :
    Calls Try.prog 53 #[.pointer (some ⟨t, 0, none⟩), .pointer (some ⟨n, 0, none⟩), aggM x, .pointer none, .int .i64 dp] w (SrchN r.items x w) := by
  have HS := Lib.hid (search_node t x hm h hs hlen)
  clear hm h hs
  unfold aggM at HS ⊢
  unfold SrchN at HS ⊢
  go_enter Try.func53, Try.ntmps53
  go_wp2_with fail
  refine HS.out.mono ?_
  rintro e w2 ⟨i, f, rfl, hc, hf⟩
  go_wp2_with fail
  go_ret2
  exact ⟨i, f, rfl, hc, hf⟩

theorem fnd_kid {α : Type} {lt : α → α → Bool} (s : Swo lt) {h : Nat} {T : BT α (h + 1)} {mn mx i : Nat} {c : BT α h} {x : α} (hs : Sh mn mx (h + 1) T) (hc : T.2.2[i]? = some c) (hsrt : Srt lt (toL (h + 1) T)) (hp : PosAt lt T.2.1 x i) :
    fndL lt x (toL (h + 1) T) = fndL lt x (toL h c) := by
  obtain ⟨h1, h2⟩ := around s hs hc hsrt hp
  rw [toL_at hs hc]
  exact fndL_mid s h1 h2

theorem kid_lt {α : Type} {h : Nat} {T : BT α (h + 1)} {mn mx : Nat} {c : BT α h} (hs : Sh mn mx (h + 1) T) (hc : c ∈ T.2.2) (h1 : 1 ≤ T.2.1.length) : (toL h c).length < (toL (h + 1) T).length := by
  have e := inter_len T.2.1 (T.2.2.map (toL h)) (by simpa using hs.2.1)
  obtain ⟨A, B, hAB⟩ := List.append_of_mem hc
  have e2 : (toL (h + 1) T).length = T.2.1.length + ((T.2.2.map (toL h)).map (·.length)).sum := e
  rw [e2, hAB]
  simp only [List.map_append, List.map_cons, List.sum_append, List.sum_cons]
  omega







end Go.Proofs.Ytilcapfokmpaoaa

namespace Go.Proofs.Ytilcapfokmpaoaa
set_option linter.unusedSimpArgs false
set_option linter.unusedVariables false
open Go.RowKit
theorem drop_cons {α : Type} {l : List α} {k : Nat} {x : α} (h : l[k]? = some x) : l.drop k = x :: l.drop (k + 1) := by
  obtain ⟨h1, rfl⟩ := List.getElem?_eq_some_iff.1 h
  exact List.drop_eq_getElem_cons h1

variable {ord : List Int}

/-- The items that do not come before x. -/
def upp (lt : It ord → It ord → Bool) (x : It ord) (l : List (It ord)) : List (It ord) := l.dropWhile fun y => lt y x

theorem upp_pre {lt : It ord → It ord → Bool} {x : It ord} : ∀ {A B : List (It ord)}, (∀ a ∈ A, lt a x = true) → upp lt x (A ++ B) = upp lt x B
  | [], _, _ => rfl
  | a :: A, B, h => by
    have h1 := h a List.mem_cons_self
    have h2 := upp_pre (B := B) (fun b hb => h b (List.mem_cons_of_mem _ hb))
    unfold upp at h2 ⊢
    rw [List.cons_append, List.dropWhile_cons, h1]
    simpa using h2

theorem upp_stop {lt : It ord → It ord → Bool} {x : It ord} : ∀ {C : List (It ord)}, (∀ c ∈ C, lt c x = false) → upp lt x C = C
  | [], _ => rfl
  | c :: C, h => by unfold upp; rw [List.dropWhile_cons, h c List.mem_cons_self]; simp

theorem upp_post {lt : It ord → It ord → Bool} {x : It ord} : ∀ {B C : List (It ord)}, (∀ c ∈ C, lt c x = false) → upp lt x (B ++ C) = upp lt x B ++ C
  | [], C, h => upp_stop h
  | b :: B, C, h => by
    have h2 := upp_post (B := B) h
    unfold upp at h2 ⊢
    rw [List.cons_append, List.dropWhile_cons, List.dropWhile_cons, h2]
    split <;> rfl

theorem upp_cut {lt : It ord → It ord → Bool} {x y : It ord} {Q B : List (It ord)} (s : Swo lt) (hs : Srt lt (Q ++ y :: B)) (n1 : lt y x = false) (n2 : lt x y = false) : upp lt x (Q ++ y :: B) = y :: B := by
  obtain ⟨_, h2, h3⟩ := List.pairwise_append.1 hs
  obtain ⟨h4, _⟩ := List.pairwise_cons.1 h2
  rw [upp_pre (fun a ha => s.lt_of_lt_of_nlt (h3 a ha y List.mem_cons_self) n2), upp_stop]
  intro c hc
  rcases List.mem_cons.1 hc with rfl | hc
  · exact n1
  · exact s.asymm _ _ (s.lt_of_nlt_of_lt n1 (h4 c hc))

theorem upp_leaf_pos {x : It ord} {l : List (It ord)} {i : Nat} (h : PosAt ltM l x i) : upp ltM x l = l.drop i := by
  obtain ⟨h1, h2⟩ := pos_mem h
  conv => lhs; rw [← List.take_append_drop i l]
  rw [upp_pre h1, upp_stop (fun c hc => swoM.asymm _ _ (h2 c hc))]

theorem upp_leaf_hit {x y : It ord} {l : List (It ord)} {i : Nat} (hs : Srt ltM l) (h : HitAt ltM l x i y) : upp ltM x l = l.drop i := by
  have e : l = l.take i ++ y :: l.drop (i + 1) := split_at h.at_
  rw [drop_cons h.at_]
  conv => lhs; rw [e]
  exact upp_cut swoM (by rw [← e]; exact hs) h.n1 h.n2

theorem upp_kid {h : Nat} {T : BT (It ord) (h + 1)} {mn mx i : Nat} {c : BT (It ord) h} {x : It ord} (hs : Sh mn mx (h + 1) T) (hc : T.2.2[i]? = some c) (hsrt : Srt ltM (toL (h + 1) T)) (hp : PosAt ltM T.2.1 x i) :
    upp ltM x (toL (h + 1) T) = upp ltM x (toL h c) ++ post (T.2.1.drop i) ((T.2.2.map (toL h)).drop (i + 1)) := by
  obtain ⟨h1, h2⟩ := around swoM hs hc hsrt hp
  rw [toL_at hs hc, List.append_assoc, upp_pre h1, upp_post (fun c hc => swoM.asymm _ _ (h2 c hc))]

theorem inter_pre {α : Type} : ∀ (xs : List α) (ts : List (List α)) (n : Nat), ts.length = xs.length + 1 → n ≤ xs.length → inter xs ts = pre (xs.take n) (ts.take n) ++ inter (xs.drop n) (ts.drop n)
  | xs, ts, 0, _, _ => by simp [pre]
  | x :: xs, t :: ts, n + 1, h1, h2 => by
    simp only [List.take_succ_cons, List.drop_succ_cons, pre, inter, List.append_assoc, List.cons_append]
    rw [inter_pre xs ts n (by simpa using h1) (by simpa using h2)]
  | [], _, n + 1, _, h2 => by simp at h2
  | x :: xs, [], n + 1, h1, _ => by simp at h1

theorem post_drop {α : Type} {xs : List α} {ts : List (List α)} {k : Nat} {x : α} {t : List α} (hx : xs[k]? = some x) (ht : ts[k + 1]? = some t) : post (xs.drop k) (ts.drop (k + 1)) = x :: (t ++ post (xs.drop (k + 1)) (ts.drop (k + 1 + 1))) := by
  rw [drop_cons hx, drop_cons ht, post]; rfl

theorem post_nil {α : Type} {xs : List α} {ts : List (List α)} {k : Nat} (h : xs.length ≤ k) : post (xs.drop k) (ts.drop (k + 1)) = [] := by
  rw [List.drop_eq_nil_of_le h]; cases ts.drop (k + 1) <;> rfl

theorem upp_hit {h : Nat} {T : BT (It ord) (h + 1)} {mn mx i : Nat} {x y : It ord} (hs : Sh mn mx (h + 1) T) (hsrt : Srt ltM (toL (h + 1) T)) (hy : HitAt ltM T.2.1 x i y) :
    upp ltM x (toL (h + 1) T) = post (T.2.1.drop i) ((T.2.2.map (toL h)).drop (i + 1)) := by
  have hi := (List.getElem?_eq_some_iff.1 hy.at_).1
  have hml : (T.2.2.map (toL h)).length = T.2.1.length + 1 := by simpa using hs.2.1
  obtain ⟨t, ht⟩ : ∃ t, (T.2.2.map (toL h))[i]? = some t := ⟨_, List.getElem?_eq_getElem (by omega)⟩
  obtain ⟨u, hu⟩ : ∃ u, (T.2.2.map (toL h))[i + 1]? = some u := ⟨_, List.getElem?_eq_getElem (by omega)⟩
  have e : toL (h + 1) T = pre (T.2.1.take i) ((T.2.2.map (toL h)).take i) ++ inter (T.2.1.drop i) ((T.2.2.map (toL h)).drop i) := inter_pre _ _ i hml (by omega)
  have e2 : inter (T.2.1.drop i) ((T.2.2.map (toL h)).drop i) = t ++ post (T.2.1.drop i) ((T.2.2.map (toL h)).drop (i + 1)) := by
    rw [drop_cons ht]
    exact inter_eq _ _ _ (by rw [List.length_drop, List.length_drop]; omega)
  have e4 : toL (h + 1) T = (pre (T.2.1.take i) ((T.2.2.map (toL h)).take i) ++ t) ++ y :: (u ++ post (T.2.1.drop (i + 1)) ((T.2.2.map (toL h)).drop (i + 1 + 1))) := by
    rw [e, e2, post_drop hy.at_ hu, List.append_assoc]
  rw [post_drop hy.at_ hu, e4]
  exact upp_cut swoM (by rw [← e4]; exact hsrt) hy.n1 hy.n2

theorem upp_len (lt : It ord → It ord → Bool) (x : It ord) (l : List (It ord)) : (upp lt x l).length ≤ l.length := (List.dropWhile_sublist _).length_le


theorem height_le {α : Type} {mn mx : Nat} (hmn : 1 ≤ mn) : (h : Nat) → (T : BT α h) → Sh mn mx h T → 1 ≤ (its T).length → h ≤ (toL h T).length
  | 0, _, _, _ => Nat.zero_le _
  | h + 1, T, hs, h1 => by
    obtain ⟨c, hc⟩ : ∃ c, T.2.2[0]? = some c := ⟨_, List.getElem?_eq_getElem (by have := hs.2.1; omega)⟩
    have hcm : c ∈ T.2.2 := List.mem_of_getElem? hc
    have h2 := height_le hmn h c (hs.2.2 c hcm).2 (by have := (hs.2.2 c hcm).1; omega)
    have h3 := kid_lt hs hcm h1
    omega

end Go.Proofs.Ytilcapfokmpaoaa

namespace Go.Proofs.Ytilcapfokmpaoaa
set_option linter.unusedSimpArgs false
set_option linter.unusedVariables false
open Go.RowKit

theorem growL_tree {ord : List Int} (l : List (It ord)) : growL l = treeL (ltR (rkL ord)) l := rfl

theorem fresh_found1 {w w1 : World} (B : Nat) (hB : w.heap.size ≤ B) (hc : Chg (fun _ _ => False) w w1) {u v x : Value} : Chg (fun _ _ => False) w (((w1.setCell ⟨B, 0, none⟩ u).setCell ⟨B, 1, none⟩ v).setCell ⟨B, 2, none⟩ x) := by
  refine hc.trans' (A' := fun b _ => b = B) ?_ (fun _ _ _ h => h) (fun b o hb h => by omega)
  repeat (first | refine Chg.setCell ?_ (.inl rfl) _ | exact Chg.refl _ _)





end Go.Proofs.Ytilcapfokmpaoaa
