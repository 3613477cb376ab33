/- DeleteHint and Delete. -/
import Derived.Deep.Cut
import Derived.Test.YtgdchpinlboejaaA2
import Derived.Test.YtgdchpinlboejaaA6
import Derived.Test.YtgdchpinlboejaaA8
import Derived.Test.YtgdchpinlboejaaA13
import Derived.Test.YtgdchpinlboejaaA14
import Derived.Test.YtgdchpinlboejaaA19
namespace Go.Proofs.Ytgdchpinlboejaa
set_option linter.unusedSimpArgs false
set_option linter.unusedVariables false

section
variable {α : Type}

/-- What equals x is taken out of the list. -/
def delL (lt : α → α → Bool) (x : α) : List α → List α
  | [] => []
  | y :: l => if lt y x then y :: delL lt x l else if lt x y then y :: l else l

theorem delL_pre {lt : α → α → Bool} {x : α} : ∀ {A B : List α}, (∀ a ∈ A, lt a x = true) → delL lt x (A ++ B) = A ++ delL lt x B
  | [], _, _ => rfl
  | a :: A, B, h => by
    rw [List.cons_append, delL, if_pos (h a List.mem_cons_self), delL_pre (fun b hb => h b (List.mem_cons_of_mem _ hb))]; rfl

theorem delL_post {lt : α → α → Bool} (s : Swo lt) {x : α} : ∀ {B C : List α}, (∀ c ∈ C, lt x c = true) → delL lt x (B ++ C) = delL lt x B ++ C
  | [], [], _ => rfl
  | [], c :: C, h => by
    have := h c List.mem_cons_self
    simp [delL, this, s.asymm _ _ this]
  | b :: B, C, h => by
    rw [List.cons_append, delL, delL]
    split
    · rw [delL_post s h]; rfl
    · split <;> rfl

theorem delL_mid {lt : α → α → Bool} (s : Swo lt) {x : α} {A B C : List α} (hA : ∀ a ∈ A, lt a x = true) (hC : ∀ c ∈ C, lt x c = true) : delL lt x (A ++ B ++ C) = A ++ delL lt x B ++ C := by
  rw [List.append_assoc, delL_pre hA, delL_post s hC, List.append_assoc]

theorem delL_hit {lt : α → α → Bool} {x y : α} {P S : List α} (hP : ∀ a ∈ P, lt a x = true) (h1 : lt y x = false) (h2 : lt x y = false) : delL lt x (P ++ y :: S) = P ++ S := by
  rw [delL_pre hP]; simp [delL, h1, h2]

theorem delL_gap {lt : α → α → Bool} (s : Swo lt) {x : α} {A C : List α} (hA : ∀ a ∈ A, lt a x = true) (hC : ∀ c ∈ C, lt x c = true) : delL lt x (A ++ C) = A ++ C := by
  have := delL_mid s (B := []) hA hC
  simpa [delL] using this

theorem delL_sub {lt : α → α → Bool} {x : α} : ∀ l : List α, (delL lt x l).Sublist l
  | [] => List.Sublist.refl _
  | y :: l => by
    rw [delL]
    split
    · exact (delL_sub l).cons_cons y
    · split
      · exact List.Sublist.refl _
      · exact List.sublist_cons_self y l

theorem delL_none {lt : α → α → Bool} {x : α} : ∀ {l : List α}, fndL lt x l = none → delL lt x l = l
  | [], _ => rfl
  | y :: l, h => by
    rw [fndL] at h
    rw [delL]
    split at h
    · rw [if_pos (by assumption), delL_none h]
    · split at h
      · rw [if_neg (by assumption), if_pos (by assumption)]
      · cases h

theorem delL_len {lt : α → α → Bool} {x : α} : ∀ {l : List α} {y : α}, fndL lt x l = some y → (delL lt x l).length + 1 = l.length
  | [], _, h => by simp [fndL] at h
  | z :: l, y, h => by
    rw [fndL] at h
    rw [delL]
    split at h
    · rw [if_pos (by assumption)]
      simp only [List.length_cons, delL_len h]
    · split at h
      · cases h
      · rw [if_neg (by assumption), if_neg (by assumption)]; rfl

/-- What is asked for (an item, or none: the last one), what there was, what is left, what was taken. -/
def Gone (lt : α → α → Bool) (m : Option α) (l l' : List α) (o : Option α) : Prop :=
  match m with
  | some x => o = fndL lt x l ∧ l' = delL lt x l
  | none => ∃ y, o = some y ∧ l = l' ++ [y]

theorem Gone.len {lt : α → α → Bool} {m : Option α} {l l' : List α} {y : α} (h : Gone lt m l l' (some y)) : l'.length + 1 = l.length := by
  match m, h with
  | some x, h => rw [h.2]; exact delL_len h.1.symm
  | none, ⟨_, _, h⟩ => rw [h]; simp

theorem Gone.same {lt : α → α → Bool} {m : Option α} {l l' : List α} (h : Gone lt m l l' none) : l' = l := by
  match m, h with
  | some x, h => rw [h.2]; exact delL_none h.1.symm
  | none, ⟨_, h, _⟩ => cases h

theorem Gone.sub {lt : α → α → Bool} {m : Option α} {l l' : List α} {o : Option α} (h : Gone lt m l l' o) : l'.Sublist l := by
  match m, h with
  | some x, h => rw [h.2]; exact delL_sub l
  | none, ⟨_, _, h⟩ => rw [h]; exact List.sublist_append_left _ _

theorem Gone.mid {lt : α → α → Bool} (s : Swo lt) {x : α} {A B B' C : List α} {o : Option α} (hA : ∀ a ∈ A, lt a x = true) (hC : ∀ c ∈ C, lt x c = true) (h : Gone lt (some x) B B' o) : Gone lt (some x) (A ++ B ++ C) (A ++ B' ++ C) o :=
  ⟨by rw [fndL_mid s hA hC]; exact h.1, by rw [delL_mid s hA hC, h.2]⟩

theorem Gone.last {lt : α → α → Bool} {A B B' : List α} {o : Option α} (h : Gone lt none B B' o) : Gone lt none (A ++ B) (A ++ B') o := by
  obtain ⟨y, h1, h2⟩ := h
  exact ⟨y, h1, by rw [h2, List.append_assoc]⟩

/-- The item that is asked for stands in the branch: the last one of the child ahead of it takes its place. -/
theorem Gone.hit {lt : α → α → Bool} {x y z : α} {A B B' C : List α} (hA : ∀ a ∈ A ++ B, lt a x = true) (h1 : lt y x = false) (h2 : lt x y = false) (h : Gone lt none B B' (some z)) : Gone lt (some x) (A ++ B ++ y :: C) (A ++ B' ++ z :: C) (some y) := by
  obtain ⟨z', e, h⟩ := h
  obtain rfl := Option.some.inj e
  refine ⟨(fndL_hit hA h1 h2).symm, ?_⟩
  rw [delL_hit hA h1 h2, h]; simp

structure DelIn (mn mx : Nat) (H H' : Nat → Option (NodeR α)) (h : Nat) (T T' : BT α h) : Prop where
  isT : IsT H' h T'
  rid' : rid T' = rid T
  nd : (ids h T').Nodup
  sub : ∀ a ∈ ids h T', a ∈ ids h T
  sh : Sh mn mx h T'
  len : (its T).length ≤ (its T').length + 1
  rest : ∀ a, a ∉ ids h T → H' a = H a

theorem DelIn.same {mn mx : Nat} {H : Nat → Option (NodeR α)} {h : Nat} {T : BT α h} (hT : IsT H h T) (hd : (ids h T).Nodup) (hs : Sh mn mx h T) : DelIn mn mx H H h T T :=
  ⟨hT, rfl, hd, fun _ h => h, hs, Nat.le_succ _, fun _ _ => rfl⟩

/-- A branch one of whose children has lost an item; its own items may have changed, but not their number. -/
structure Cut1 (mn mx : Nat) (H H' : Nat → Option (NodeR α)) (h : Nat) (T T1 : BT α (h + 1)) (i : Nat) (c' : BT α h) : Prop where
  isT : IsT H' (h + 1) T1
  rid' : T1.1 = T.1
  nd : (ids (h + 1) T1).Nodup
  sub : ∀ a ∈ ids (h + 1) T1, a ∈ ids (h + 1) T
  its' : T1.2.1.length = T.2.1.length
  kids' : T1.2.2.length = T1.2.1.length + 1
  sh : ∀ c ∈ T1.2.2, Sh mn mx h c
  others : ∀ j d, T1.2.2[j]? = some d → j ≠ i → mn ≤ (its d).length
  kid : T1.2.2[i]? = some c'
  rest : ∀ a, a ∉ ids (h + 1) T → H' a = H a

def cutK {h : Nat} (T : BT α (h + 1)) (xs : List α) (i : Nat) (c' : BT α h) : BT α (h + 1) := (T.1, xs, T.2.2.set i c')

theorem toL_cutK {mn mx : Nat} {h : Nat} {T : BT α (h + 1)} {i : Nat} {c c' : BT α h} {xs : List α} (hs : Sh mn mx (h + 1) T) (hc : T.2.2[i]? = some c) (hx : xs.length = T.2.1.length) :
    toL (h + 1) (cutK T xs i c') = pre (xs.take i) ((T.2.2.map (toL h)).take i) ++ toL h c' ++ post (xs.drop i) ((T.2.2.map (toL h)).drop (i + 1)) := by
  obtain ⟨hi, _⟩ := List.getElem?_eq_some_iff.1 hc
  show inter xs ((T.2.2.set i c').map (toL h)) = _
  rw [inter_split i xs ((T.2.2.set i c').map (toL h)) (toL h c') (by simp [hs.2.1, hx]) (by simp [hi])]
  have e1 : ((T.2.2.set i c').map (toL h)).take i = (T.2.2.map (toL h)).take i := by rw [List.map_set, List.take_set_of_le (Nat.le_refl _)]
  have e2 : ((T.2.2.set i c').map (toL h)).drop (i + 1) = (T.2.2.map (toL h)).drop (i + 1) := by rw [List.map_set, List.drop_set_of_lt (Nat.lt_succ_self _)]
  rw [e1, e2]

theorem cut1_of {mn mx : Nat} {H H1 : Nat → Option (NodeR α)} {h : Nat} {T : BT α (h + 1)} {i : Nat} {c c' : BT α h} {xs : List α} (hT : IsT H (h + 1) T) (hd : (ids (h + 1) T).Nodup) (hs : Sh mn mx (h + 1) T) (hc : T.2.2[i]? = some c) (hi : DelIn mn mx H H1 h c c') (hx : xs.length = T.2.1.length) :
    Cut1 mn mx H (upd H1 (rid T) ⟨((toL (h + 1) (cutK T xs i c')).length : Nat), xs, (recOf (h + 1) T).kids⟩) h T (cutK T xs i c') i c' := by
  have hcm : c ∈ T.2.2 := List.mem_of_getElem? hc
  obtain ⟨hil, _⟩ := List.getElem?_eq_some_iff.1 hc
  have hroot : rid T ∉ ids h c := nodup_root hd hcm
  have hB : ∃ B, ∀ a ∈ ids (h + 1) T, a < B := by
    clear hT hd hs hroot
    generalize ids (h + 1) T = l
    induction l with
    | nil => exact ⟨0, by simp⟩
    | cons a l ih =>
      obtain ⟨B, hB⟩ := ih
      refine ⟨max B (a + 1), fun b hb => ?_⟩
      rcases List.mem_cons.1 hb with rfl | hb
      · omega
      · have := hB b hb; omega
  obtain ⟨B, hB⟩ := hB
  obtain ⟨n1, n2⟩ := ids_setKid (c' := c') hc hd hB (fun a ha => .inl (hi.sub a ha)) hi.nd
  have n3 : ∀ a ∈ ids (h + 1) (setKid T i c'), a ∈ ids (h + 1) T := by
    intro a ha
    have e : ids (h + 1) (setKid T i c') = T.1 :: (T.2.2.set i c').flatMap (ids h) := rfl
    rw [e] at ha
    rcases List.mem_cons.1 ha with rfl | ha
    · exact List.mem_cons_self
    · obtain ⟨d, hd1, hd2⟩ := List.mem_flatMap.1 ha
      rcases mem_set_cases hc hd1 with rfl | hd1
      · exact ids_kid hcm (hi.sub a hd2)
      · exact ids_kid (kid_mem hd1) hd2
  have hkids : (T.2.2.set i c').map (fun c => some (rid c)) = T.2.2.map fun c => some (rid c) := by
    rw [List.map_set, hi.rid']
    exact set_same (by simp [hc])
  have hoff : ∀ a, a ≠ rid T → upd H1 (rid T) (⟨((toL (h + 1) (cutK T xs i c')).length : Nat), xs, (recOf (h + 1) T).kids⟩ : NodeR α) a = H1 a := fun a ha => upd_ne _ _ ha
  refine ⟨⟨?_, fun d hd2 => ?_⟩, rfl, n1, n3, hx, ?_, fun d hd2 => ?_, fun j d hj hji => ?_, ?_, fun a ha => ?_⟩
  · refine (upd_same _ _ _).trans ?_
    show _ = some (⟨((toL (h + 1) (cutK T xs i c')).length : Nat), xs, some ((T.2.2.set i c').map fun c => some (rid c))⟩ : NodeR α)
    rw [hkids]; rfl
  · change d ∈ T.2.2.set i c' at hd2
    rcases mem_set_cases hc hd2 with rfl | hd2
    · exact hi.isT.congr fun a ha => hoff a fun e => hroot (e ▸ hi.sub a ha)
    · have hdm := kid_mem hd2
      refine (hT.2 d hdm).congr fun a ha => ?_
      rw [hoff a fun e => nodup_root hd hdm (e ▸ ha)]
      exact hi.rest a (kid_apart hc hd hd2 ha)
  · show (T.2.2.set i c').length = xs.length + 1
    rw [List.length_set, hx]; exact hs.2.1
  · change d ∈ T.2.2.set i c' at hd2
    rcases mem_set_cases hc hd2 with rfl | hd2
    · exact hi.sh
    · exact (hs.2.2 d (kid_mem hd2)).2
  · change (T.2.2.set i c')[j]? = some d at hj
    rw [List.getElem?_set_ne (Ne.symm hji)] at hj
    exact (hs.2.2 d (List.mem_of_getElem? hj)).1
  · show (T.2.2.set i c')[i]? = some c'
    simp [hil]
  · rw [hoff a fun e => ha (e ▸ rid_mem T)]
    exact hi.rest a fun hm => ha (ids_kid hcm hm)

/-- The child has enough items. -/
theorem Cut1.fine {mn mx : Nat} {H H' : Nat → Option (NodeR α)} {h : Nat} {T T1 : BT α (h + 1)} {i : Nat} {c' : BT α h} (hs : Sh mn mx (h + 1) T) (hq : Cut1 mn mx H H' h T T1 i c') (hm : mn ≤ (its c').length) : DelIn mn mx H H' (h + 1) T T1 := by
  refine ⟨hq.isT, hq.rid', hq.nd, hq.sub, ⟨?_, hq.kids', fun d hd => ⟨?_, hq.sh d hd⟩⟩, ?_, hq.rest⟩
  · rw [hq.its']; exact hs.1
  · obtain ⟨j, hj⟩ := List.mem_iff_getElem?.1 hd
    by_cases hji : j = i
    · subst hji
      rw [hq.kid] at hj
      obtain rfl := Option.some.inj hj
      exact hm
    · exact hq.others j d hj hji
  · show T.2.1.length ≤ T1.2.1.length + 1
    rw [hq.its']; omega

/-- The child has been made fit again. -/
theorem Cut1.reb {mn mx : Nat} {H H2 H' : Nat → Option (NodeR α)} {h : Nat} {T T1 T' : BT α (h + 1)} {i : Nat} {c' : BT α h} (hq : Cut1 mn mx H H2 h T T1 i c') (hr : RebOut mn mx H2 H' h T1 T') : DelIn mn mx H H' (h + 1) T T' := by
  refine ⟨hr.isT, hr.rid'.trans hq.rid', hr.nd, fun a ha => hq.sub a (hr.sub a ha), hr.sh, ?_, fun a ha => ?_⟩
  · have h1 := hr.len
    have h2 : (its T1).length = (its T).length := hq.its'
    omega
  · rw [hr.rest a fun hm => ha (hq.sub a hm)]
    exact hq.rest a ha

/-- A leaf less one item. -/
theorem delIn_leaf {mn mx : Nat} {H : Nat → Option (NodeR α)} {T : BT α 0} {i : Nat} (hd : (ids 0 T).Nodup) (hs : Sh mn mx 0 T) (hi : i < T.2.length) :
    DelIn mn mx H (upd H (rid T) ⟨((T.2.take i ++ T.2.drop (i + 1)).length : Nat), T.2.take i ++ T.2.drop (i + 1), none⟩) 0 T ((T.1, T.2.take i ++ T.2.drop (i + 1)) : BT α 0) := by
  have hl : (T.2.take i ++ T.2.drop (i + 1)).length + 1 = T.2.length := by simp; omega
  have hs' : T.2.length ≤ mx := hs
  refine ⟨upd_same _ _ _, rfl, hd, fun _ h => h, ?_, ?_, fun a ha => upd_ne _ _ fun e => ha (e ▸ rid_mem T)⟩
  · show (T.2.take i ++ T.2.drop (i + 1)).length ≤ mx
    omega
  · show T.2.length ≤ (T.2.take i ++ T.2.drop (i + 1)).length + 1
    omega
end
end Go.Proofs.Ytgdchpinlboejaa

namespace Go.Proofs.Ytgdchpinlboejaa
set_option linter.unusedSimpArgs false
set_option linter.unusedVariables false
open Go.RowKit

variable {ord : List Int}

/-- What a deletion below a node leaves. -/
def DelPost (k : Kc ord) (F : Nat → Prop) (hv : Option Nat) (Z : (Nat → Option (NodeR (It ord))) → Option (It ord) → Prop) (w : World) (e : Ending) (w' : World) : Prop :=
  ∃ H' o, e = .returned (lastV o) ∧ Fam (parM k) w' (grow F w w') H' ∧ Chg (fun b _ => F b ∨ hv = some b) w w' ∧ HintO hv w' ∧ Z H' o

set_option maxRecDepth 100000 in
set_option maxHeartbeats 4000000 in
theorem delete_leaf_hit {k : Kc ord} {mn mx t n d : Nat} {pa : Addr} {x y : It ord} {i : Nat} {r : NodeR (It ord)} {w : World} {F : Nat → Prop} {H : Nat → Option (NodeR (It ord))} {hv : Option Nat} (hF : Fam (parM k) w F H) (ht : MapAt k mn mx w t) (htF : ∀ b, MOwn k t b → ¬ F b) (hn : H n = some r)
    (hpa : w.cell? pa = some (.pointer (some ⟨n, 0, none⟩))) (hs : Srt ltM r.items) (hlen : r.items.length ≤ 1000) (hk : r.kids = none) (hy : HitAt ltM r.items x i y) (hc0 : 0 ≤ r.cnt ∧ r.cnt ≤ 100000000000000)
    (hh : HintO hv w) (hvF : ∀ b, hv = some b → ¬ F b) (hvt : ∀ b, hv = some b → ¬ MOwn k t b) (hd : d ≤ 1000000000000) :
    Calls Try.prog 88 #[.pointer (some ⟨t, 0, none⟩), .pointer (some pa), .bool false, aggM x, hintV hv, .int .i64 d] w (DelPost k F hv (fun H' o => o = some y ∧ H' = upd H n ⟨r.cnt - 1, r.items.take i ++ r.items.drop (i + 1), r.kids⟩) w) := by
  have hpos : 1 ≤ r.items.length := by have := (List.getElem?_eq_some_iff.1 hy.at_).1; omega
  obtain ⟨l0, hn0⟩ := hF.node hn
  have t0 := ht.c0
  have n0 := hn0.c0
  have hpk : (parM k).k = k.iso := rfl
  rw [hpk] at n0
  have nlt : n < w.heap.size := World.block_lt_of_cell? w _ n0
  have tlt : t < w.heap.size := World.block_lt_of_cell? w _ t0
  have plt := World.block_lt_of_cell? w _ hpa
  have hpa2 : ∀ o o', ((w.alloc o).alloc o').cell? pa = some (.pointer (some ⟨n, 0, none⟩)) := fun o o' => by rw [World.cell?_alloc_lt _ _ _ (by simp; omega), World.cell?_alloc_lt w _ _ plt]; exact hpa
  have hn1 : ∀ o o', ((w.alloc o).alloc o').cell? ⟨n, 0, none⟩ = some (.int .u64 k.iso) := fun o o' => ((hn0.chg (((Chg.refl (fun _ _ => False) w).alloc o).alloc o') (fun _ _ _ h => h)).c0)
  have ht1 : ∀ o o', ((w.alloc o).alloc o').cell? ⟨t, 0, none⟩ = some (.int .u64 k.iso) := fun o o' => ((ht.chg (((Chg.refl (fun _ _ => False) w).alloc o).alloc o') (fun _ _ _ h => h)).c0)
  skip
  unfold aggM hintV
  go_enter Try.func88, Try.ntmps88
  go_wp2_with (go_at_call 67; refine (isoLoad_any _ n k _ _ _ ?_ ?_ ?_).mono ?_; (focus go_simp); (focus go_simp); (focus go_simp); rintro e w' ⟨rfl, m, rfl⟩)
  refine name_calls (fun w1 => Chg (fun _ _ => False) w w1 ∧ w1.heap[w.heap.size]? = some (.cells #[.int .i64 x.1, .int .i64 x.2] 30 (0, 0)) ∧ w1.heap[w.heap.size + 1]? = some (.cells #[.int .i64 0, .int .i64 0] 30 (0, 0))) ⟨?_, ?_, ?_⟩ ?_
  · exact (((Chg.refl _ _).alloc _).alloc _).drewN _
  · rw [hd_drewN, ha_lt _ _ (by simp)]; exact ha_at _ _ rfl
  · rw [hd_drewN]; exact ha_at _ _ (by simp)
  rintro w1 ⟨hc1, hb1, hb2⟩
  have hna1 := hn0.chg hc1 (fun _ _ _ h => h)
  have ht1' := ht.chg hc1 (by simp)
  clear hn1 ht1 hpa2 t0 n0 hn0 
  refine (find_o hv t d x ht1' hna1 hs (by omega) hpos (hh.keep hc1) hd).mono ?_
  rintro e w2 ⟨i', f, rfl, hw2, hh2, hf⟩
  have hnv : ∀ b, w.heap.size ≤ b → ¬ hv = some b := fun b hb e => by have := hh.lt e; omega
  have hb1' : w2.heap[w.heap.size]? = some (.cells #[.int .i64 x.1, .int .i64 x.2] 30 (0, 0)) := by rw [hw2.block (heap_lt hb1) (fun _ => hnv _ (Nat.le_refl _))]; exact hb1
  have hb2' : w2.heap[w.heap.size + 1]? = some (.cells #[.int .i64 0, .int .i64 0] 30 (0, 0)) := by rw [hw2.block (heap_lt hb2) (fun _ => hnv _ (Nat.le_add_right _ _))]; exact hb2
  have hcw2 : Chg (fun b _ => hv = some b) w w2 := (hc1.mono (fun _ _ _ h => h.elim)).trans hw2
  have hF2 := hF.chg hcw2 (fun b _ hb e => hvF b e hb)
  have htt2 := ht.chg hcw2 (fun b _ hb e => hvt b e hb)
  have hlw2 := heap_lt hb2'
  have hfi : f = true ∧ i = i' := by
    rcases hf with ⟨h1, y', h2⟩ | ⟨h1, h2⟩
    · exact ⟨h1, (hit_same h2 hy).symm⟩
    · exact absurd hy.n2 (by rw [h2.right i y (hit_le h2 hy) hy.at_]; simp)
  obtain ⟨rfl, rfl⟩ := hfi
  have hi := (List.getElem?_eq_some_iff.1 hy.at_).1
  have HY := Lib.hid hy.at_
  clear hb1 hb2 hb1' hw2 hf ht1' hna1 ht hy
  have nF : ∀ b, w.heap.size ≤ b → ¬ F b := fun b hb h => Nat.lt_irrefl _ (Nat.lt_of_lt_of_le (hF.lt h) hb)
  obtain ⟨l0, hna0⟩ := hF2.node hn
  have n3 := hna0.c3n hk
  have n2 := hna0.c2
  have iv := hna0.mval (j := i) HY.out
  have ik := hna0.mkey (j := i) HY.out
  have j0 : (0 : Int) ≤ (i : Int) := by omega
  have j1 : (i : Int) < (r.items.length : Int) := by omega
  clear hna0
  go_wp2_with (go_at_call 70; refine (leaf_any _ none _ n3).mono ?_; rintro e w' ⟨rfl, rfl⟩)
  refine name_world (fun w3 => Chg (fun _ _ => False) w2 w3 ∧ w2.heap.size < w3.heap.size ∧ w3.heap[w2.heap.size]? = some (.cells #[.int .i64 y.1, .int .i64 y.2] 30 (0, 0))) ⟨(Chg.refl _ _).alloc _, by simp, ha_at _ _ rfl⟩ ?_
  rintro w3 ⟨hc3, hz3, hb3⟩
  have hsz2 := hcw2.size
  have hcw3 : Chg (fun b _ => hv = some b) w w3 := hcw2.trans (hc3.mono (fun _ _ _ h => h.elim))
  have hF3 := hF2.chg hc3 (fun _ _ _ h => h)
  obtain ⟨l, hna, hb, ho, cl⟩ := hF3.work hn
  have HM := Lib.hid (htt2.chg hc3 (fun _ _ _ h => h))
  have HR := Lib.hid (Run.start hna)
  have HB2 := Lib.hid (show w3.heap[w.heap.size + 1]? = some (.cells #[.int .i64 0, .int .i64 0] 30 (0, 0)) by rw [hc3.block hlw2 (fun _ h => h)]; exact hb2')
  have HB3 := Lib.hid hb3
  have HH3 := Lib.hid (hh2.keep hc3)
  have HCW := Lib.hid hcw3
  have HZ := Lib.hid (And.intro hsz2 hz3)
  have HCL := Lib.hid cl
  have HO := Lib.hid ho
  have HBF := Lib.hid hb
  clear n2 n3 iv ik j0 j1 hb3 hz3 hsz2 hcw2 hcw3 hc3 hF2 hF3 hna htt2 hh2 hb2' cl ho
  have N2 : w3.cell? ⟨n, 2, none⟩ = some (.slice (some ⟨l.ib, l.io, none⟩) r.items.length l.ic) := HR.out.at_.c2
  have hlenc : r.items.length ≤ l.ic := HR.out.at_.len
  have s0 : (0 : Int) ≤ (i : Int) := by omega
  have s2 : (0 : Int) ≤ (i : Int) + 1 := by omega
  have s3 : ((i : Int) + 1).toNat = i + 1 := by omega
  have s4 : (i : Int) ≤ (r.items.length : Int) := by omega
  have s5 : (i : Int) + 1 ≤ (r.items.length : Int) := by omega
  have hck2 : ¬ l.ic = i := by omega
  obtain ⟨sp, hif, hsp⟩ : ∃ sp, (if l.ic = i + 1 then some (⟨l.ib, l.io, none⟩ : Addr) else some ⟨l.ib, l.io + (i + 1) * 2, none⟩) = some sp ∧ (i + 1 < r.items.length → sp = ⟨l.ib, l.io + (i + 1) * 2, none⟩) := by
    by_cases h : l.ic = i + 1
    · exact ⟨_, by rw [if_pos h], fun h2 => by omega⟩
    · exact ⟨_, by rw [if_neg h], fun _ => rfl⟩
  have s1 : IntKind.i64.wrap ((i : Int) + 1) = (i : Int) + 1 := IntWalk.i64_in _ (by omega)
  have HSP := Lib.hid hsp
  clear hsp
  go_still_tail 13, (by kernel_rfl)
  refine wpList_down (p := parM k) (by rfl) _ _ _ _ (by rfl) 30 (by kernel_rfl) infoPairSize (HR.out.still ((Chg.refl _ _).drew)) i (l.io + i * 2) _ _ _ _ (show i < r.items.length by omega) (by simp [parM]) (by rfl) sp (by rfl) (by simpa [parM] using HSP.out) (by first | rfl | simp) (by first | rfl | simp) ?_
  intro w8 ys r8 hys1 hys2
  replace hys1 := Lib.hid hys1
  replace hys2 := Lib.hid hys2
  clear s0 s1 s2 s3 s4 s5 hck2 hif N2 hlenc HSP
  go_upto_region 11 with fail
  refine name_world (fun wz => ∃ ys, ys.length = r.items.length ∧ ys.take (r.items.length - 1) = r.items.take i ++ r.items.drop (i + 1) ∧ Run (parM k) w3 n r l wz { r with items := ys } l) ⟨ys, hys1.out, hys2.out, r8⟩ ?_
  clear r8 hys1 hys2 HR
  rintro w4 ⟨y3, hly3, hy3, hR⟩
  replace hly3 := Lib.hid hly3
  replace hy3 := Lib.hid hy3
  have HR := Lib.hid hR
  clear hR
  have hyb : 1 ≤ y3.length ∧ y3.length ≤ 1001 := by rw [hly3.out]; omega
  have N2 : w4.cell? ⟨n, 2, none⟩ = some (.slice (some ⟨l.ib, l.io, none⟩) y3.length l.ic) := HR.out.at_.c2
  have hm1 := HM.out.chg HR.out.chg (fun b o hm h => htF b hm (hb _ h.blk))
  have e4 := hm1.c4
  have e5 := hm1.c5
  have hlenc : y3.length ≤ l.ic := HR.out.at_.len
  have s0 : (0 : Int) ≤ (y3.length : Int) - 1 := by omega
  have s2 : (y3.length : Int) - 1 < (y3.length : Int) := by omega
  have s3 : ((y3.length : Int) - 1).toNat = y3.length - 1 := by omega
  have s1 : IntKind.i64.wrap ((y3.length : Int) - 1) = (y3.length : Int) - 1 := IntWalk.i64_in _ (by omega)
  have hlt : y3.length - 1 < y3.length := by omega
  have z0 := HR.out.at_.ifz (l.io + (y3.length - 1) * 2)
  have z1 := HR.out.at_.ifz (l.io + (y3.length - 1) * 2 + 1)
  obtain ⟨y6, hy6⟩ : ∃ y, y3[y3.length - 1]? = some y := ⟨_, List.getElem?_eq_getElem hlt⟩
  have iv := HR.out.at_.mval (j := y3.length - 1) hy6
  have ik := HR.out.at_.mkey (j := y3.length - 1) hy6
  have r8 := (HR.out.still ((Chg.refl _ _).drew)).setItemM (y3.length - 1) ((0, 0) : Int × Int) hlt
  have HR8 := Lib.hid r8
  clear hm1 hy6 r8
  go_still_tail 14, (by kernel_rfl)
  go_upto_region 12 with fail
  refine name_world (fun wz => ∃ ys, ys.length = y3.length ∧ ys.take (y3.length - 1) = y3.take (y3.length - 1) ∧ Run (parM k) w3 n r l wz { r with items := ys } l) ⟨_, List.length_set, take_set_last _ _ _, HR8.out⟩ ?_
  clear N2 e4 e5 hlenc s0 s1 s2 s3 hlt z0 z1 iv ik HR8 HR y6
  rintro w5 ⟨y4, hly4, hy4, hR⟩
  replace hly4 := Lib.hid hly4
  replace hy4 := Lib.hid hy4
  have HR := Lib.hid hR
  clear hR
  have hyb : 1 ≤ y4.length ∧ y4.length ≤ 1001 := by rw [hly4.out, hly3.out]; omega
  have N2 : w5.cell? ⟨n, 2, none⟩ = some (.slice (some ⟨l.ib, l.io, none⟩) y4.length l.ic) := HR.out.at_.c2
  have z2 := HR.out.at_.fz 2
  have hlenc : y4.length ≤ l.ic := HR.out.at_.len
  have s0 : (0 : Int) ≤ (y4.length : Int) - 1 := by omega
  have s2 : (y4.length : Int) - 1 ≤ (l.ic : Int) := by omega
  have s3 : ((y4.length : Int) - 1).toNat = y4.length - 1 := by omega
  have s1 : IntKind.i64.wrap ((y4.length : Int) - 1) = (y4.length : Int) - 1 := IntWalk.i64_in _ (by omega)
  have ck : ¬ l.ic = 0 := by omega
  have s6 : ¬ ((y4.length : Int) < 1) := by omega
  have s7 : (1 : Int) ≤ (y4.length : Int) := by omega
  have r8 := (HR.out.still ((Chg.refl _ _).drew)).cut 0 (y4.length - 1) l.ic (by show 0 + (y4.length - 1) ≤ y4.length; omega) (by omega) (by omega)
  simp only [Nat.zero_mul, Nat.add_zero, List.drop_zero] at r8
  have HR8 := Lib.hid r8
  clear r8
  go_still_tail 12, (by kernel_rfl)
  go_upto_region 13 with fail
  refine name_world (fun wz => Run (parM k) w3 n r l wz { r with items := y4.take (y4.length - 1) } l) HR8.out ?_
  clear N2 z2 hlenc s0 s1 s2 s3 s6 s7 ck HR8 HR
  rintro w6 hR
  have HR := Lib.hid hR
  clear hR
  have C1 := HR.out.at_.c1
  have z1 := HR.out.at_.fz 1
  have s1 : IntKind.i64.wrap (r.cnt - 1) = r.cnt - 1 := IntWalk.i64_in _ (by omega)
  have hsz := HR.out.chg.size
  have r8 := HR.out.setCnt (r.cnt - 1)
  go_upto_region 14 with fail
  refine name_world (fun wz => Run (parM k) w3 n r l wz ⟨r.cnt - 1, y4.take (y4.length - 1), r.kids⟩ l) r8 ?_
  clear C1 z1 s1 r8 hsz
  rintro w7 hR7
  have hit : y4.take (y4.length - 1) = r.items.take i ++ r.items.drop (i + 1) := by
    have h1 := hy3.out
    have h2 := hy4.out
    rw [← hly3.out, ← h2, ← hly4.out] at h1
    exact h1
  rw [hit] at hR7
  have hc37 := hR7.chg
  have hext : ∀ b o, Ext (parM k) n r l b o → F b := fun b o h => HBF.out b h.blk
  obtain ⟨hz1, hz2⟩ := HZ.out
  have hb12 : w7.heap[w.heap.size + 1]? = some (.cells #[.int .i64 0, .int .i64 0] 30 (0, 0)) := by
    rw [hc37.block (heap_lt HB2.out) (fun o h => nF _ (Nat.le_add_right _ _) (hext _ _ h))]; exact HB2.out
  have hb17 : w7.heap[w2.heap.size]? = some (.cells #[.int .i64 y.1, .int .i64 y.2] 30 (0, 0)) := by
    rw [hc37.block (heap_lt HB3.out) (fun o h => nF _ hz1 (hext _ _ h))]; exact HB3.out
  obtain ⟨f7, g7⟩ := HCL.out _ _ _ hR7
  have hsz37 := hc37.size
  have hl12 := heap_lt HB2.out
  have hh7 : HintO hv w7 := HH3.out.chg g7 (fun b _ e => hvF b e)
  have hc07 : Chg (fun b _ => F b ∨ hv = some b) w w7 := (HCW.out.mono (fun _ _ _ h => .inr h)).trans (g7.mono (fun _ _ _ h => .inl h))
  clear hR7 hc37 hit HR hly3 hly4 hy3 hy4
  have y0 := frozen_of_block hb12 0
  have y1 := frozen_of_block hb12 1
  have p0 := cell_of_block hb12 0
  have p1 := cell_of_block hb12 1
  simp only [List.getElem?_toArray, List.getElem?_cons_zero, List.getElem?_cons_succ] at p0 p1
  have x0 := frozen_of_block hb17 0
  have x1 := frozen_of_block hb17 1
  have r0 := cell_of_block hb17 0
  have r1 := cell_of_block hb17 1
  simp only [List.getElem?_toArray, List.getElem?_cons_zero, List.getElem?_cons_succ] at r0 r1
  go_wp2_with fail
  refine name_prop (fun wl => Chg (fun b _ => b = w.heap.size + 1) w7 wl ∧ wl.heap[w.heap.size + 1]? = some (.cells #[.int .i64 y.1, .int .i64 y.2] 30 (0, 0))) ⟨?_, blk2 hb12 _ _⟩ ?_
  · repeat (first | refine Chg.drew ?_ | refine Chg.drewN ?_ _ | refine Chg.setCell ?_ (.inl rfl) _ | exact Chg.refl _ _)
  clear p0 p1 r0 r1
  rintro wl ⟨hcl, hbl⟩
  have p0 := cell_of_block hbl 0
  have p1 := cell_of_block hbl 1
  simp only [List.getElem?_toArray, List.getElem?_cons_zero, List.getElem?_cons_succ] at p0 p1
  refine bodyPost_ret (v := .tuple #[.agg #[.int .i64 y.1, .int .i64 y.2], .bool true]) (by simp [results, Try.results88, go_sem, p0, p1]) rfl ?_
  have f9 := f7.chg hcl (fun b o hb e => by
    rcases hb with hb | hb
    · exact nF b (by omega) hb
    · have h1 := hb.1; omega)
  refine ⟨_, some y, rfl, f9.mono (fun b hb => ?_) (fun b hb => ?_), hc07.trans' hcl (fun _ _ _ h => h) (fun b o hb e => by omega), hh7.chg hcl (fun b _ e e2 => by have := hh.lt e; omega), rfl, rfl⟩
  · rcases hb with hb | hb
    · exact .inl hb
    · exact .inr ⟨by have := hb.1; omega, Nat.lt_of_lt_of_le hb.2 hcl.size⟩
  · rcases hb with hb | hb
    · exact f9.lt (.inl hb)
    · exact hb.2
end Go.Proofs.Ytgdchpinlboejaa

namespace Go.Proofs.Ytgdchpinlboejaa
set_option linter.unusedSimpArgs false
set_option linter.unusedVariables false
open Go.RowKit

variable {ord : List Int}

set_option maxRecDepth 100000 in
set_option maxHeartbeats 4000000 in
theorem delete_leaf_miss {k : Kc ord} {mn mx t n d : Nat} {pa : Addr} {x : It ord} {i : Nat} {r : NodeR (It ord)} {w : World} {F : Nat → Prop} {H : Nat → Option (NodeR (It ord))} {hv : Option Nat} (hF : Fam (parM k) w F H) (ht : MapAt k mn mx w t) (hn : H n = some r)
    (hpa : w.cell? pa = some (.pointer (some ⟨n, 0, none⟩))) (hs : Srt ltM r.items) (hlen : r.items.length ≤ 1000) (hpos : 1 ≤ r.items.length) (hk : r.kids = none) (hy : PosAt ltM r.items x i)
    (hh : HintO hv w) (hvF : ∀ b, hv = some b → ¬ F b) (hvt : ∀ b, hv = some b → ¬ MOwn k t b) (hd : d ≤ 1000000000000) :
    Calls Try.prog 88 #[.pointer (some ⟨t, 0, none⟩), .pointer (some pa), .bool false, aggM x, hintV hv, .int .i64 d] w (DelPost k F hv (fun H' o => o = none ∧ H' = H) w) := by
  obtain ⟨l0, hn0⟩ := hF.node hn
  have t0 := ht.c0
  have n0 := hn0.c0
  have hpk : (parM k).k = k.iso := rfl
  rw [hpk] at n0
  have nlt : n < w.heap.size := World.block_lt_of_cell? w _ n0
  have tlt : t < w.heap.size := World.block_lt_of_cell? w _ t0
  have plt := World.block_lt_of_cell? w _ hpa
  have hpa2 : ∀ o o', ((w.alloc o).alloc o').cell? pa = some (.pointer (some ⟨n, 0, none⟩)) := fun o o' => by rw [World.cell?_alloc_lt _ _ _ (by simp; omega), World.cell?_alloc_lt w _ _ plt]; exact hpa
  have hn1 : ∀ o o', ((w.alloc o).alloc o').cell? ⟨n, 0, none⟩ = some (.int .u64 k.iso) := fun o o' => ((hn0.chg (((Chg.refl (fun _ _ => False) w).alloc o).alloc o') (fun _ _ _ h => h)).c0)
  have ht1 : ∀ o o', ((w.alloc o).alloc o').cell? ⟨t, 0, none⟩ = some (.int .u64 k.iso) := fun o o' => ((ht.chg (((Chg.refl (fun _ _ => False) w).alloc o).alloc o') (fun _ _ _ h => h)).c0)
  skip
  unfold aggM hintV
  go_enter Try.func88, Try.ntmps88
  go_wp2_with (go_at_call 67; refine (isoLoad_any _ n k _ _ _ ?_ ?_ ?_).mono ?_; (focus go_simp); (focus go_simp); (focus go_simp); rintro e w' ⟨rfl, m, rfl⟩)
  refine name_calls (fun w1 => Chg (fun _ _ => False) w w1 ∧ w1.heap[w.heap.size]? = some (.cells #[.int .i64 x.1, .int .i64 x.2] 30 (0, 0)) ∧ w1.heap[w.heap.size + 1]? = some (.cells #[.int .i64 0, .int .i64 0] 30 (0, 0))) ⟨?_, ?_, ?_⟩ ?_
  · exact (((Chg.refl _ _).alloc _).alloc _).drewN _
  · rw [hd_drewN, ha_lt _ _ (by simp)]; exact ha_at _ _ rfl
  · rw [hd_drewN]; exact ha_at _ _ (by simp)
  rintro w1 ⟨hc1, hb1, hb2⟩
  have hna1 := hn0.chg hc1 (fun _ _ _ h => h)
  have ht1' := ht.chg hc1 (by simp)
  clear hn1 ht1 hpa2 t0 n0 hn0 
  refine (find_o hv t d x ht1' hna1 hs (by omega) hpos (hh.keep hc1) hd).mono ?_
  rintro e w2 ⟨i', f, rfl, hw2, hh2, hf⟩
  have hnv : ∀ b, w.heap.size ≤ b → ¬ hv = some b := fun b hb e => by have := hh.lt e; omega
  have hb1' : w2.heap[w.heap.size]? = some (.cells #[.int .i64 x.1, .int .i64 x.2] 30 (0, 0)) := by rw [hw2.block (heap_lt hb1) (fun _ => hnv _ (Nat.le_refl _))]; exact hb1
  have hb2' : w2.heap[w.heap.size + 1]? = some (.cells #[.int .i64 0, .int .i64 0] 30 (0, 0)) := by rw [hw2.block (heap_lt hb2) (fun _ => hnv _ (Nat.le_add_right _ _))]; exact hb2
  have hcw2 : Chg (fun b _ => hv = some b) w w2 := (hc1.mono (fun _ _ _ h => h.elim)).trans hw2
  have hF2 := hF.chg hcw2 (fun b _ hb e => hvF b e hb)
  have htt2 := ht.chg hcw2 (fun b _ hb e => hvt b e hb)
  have hlw2 := heap_lt hb2'
  have hfi : f = false := by
    rcases hf with ⟨h1, y', h2⟩ | ⟨h1, h2⟩
    · exact absurd h2.n2 (by rw [hy.right i' y' (hit_le hy h2) h2.at_]; simp)
    · exact h1
  obtain rfl := hfi
  obtain ⟨l, hna⟩ := hF2.node hn
  have n3 := hna.c3n hk
  have e4 := htt2.c4
  have e5 := htt2.c5
  have hh3 := Lib.hid hh2
  have HB2 := Lib.hid hb2'
  have y0 := frozen_of_block hb2' 0
  have y1 := frozen_of_block hb2' 1
  have p0 := cell_of_block hb2' 0
  have p1 := cell_of_block hb2' 1
  simp only [List.getElem?_toArray, List.getElem?_cons_zero, List.getElem?_cons_succ] at p0 p1
  clear hb1 hb2 hb1' hb2' hw2 hf ht1' hna1 ht hy hna htt2 hh2
  go_wp2_with (go_at_call 70; refine (leaf_any _ none _ n3).mono ?_; rintro e w' ⟨rfl, rfl⟩)
  refine name_prop (fun wl => Chg (fun b _ => b = w.heap.size + 1) w2 wl ∧ wl.heap[w.heap.size + 1]? = some (.cells #[.int .i64 0, .int .i64 0] 30 (0, 0))) ⟨?_, blk2 HB2.out _ _⟩ ?_
  · repeat (first | refine Chg.drew ?_ | refine Chg.drewN ?_ _ | refine Chg.setCell ?_ (.inl rfl) _ | exact Chg.refl _ _)
  clear p0 p1
  rintro wl ⟨hcl, hbl⟩
  have p0 := cell_of_block hbl 0
  have p1 := cell_of_block hbl 1
  simp only [List.getElem?_toArray, List.getElem?_cons_zero, List.getElem?_cons_succ] at p0 p1
  refine bodyPost_ret (v := .tuple #[.agg #[.int .i64 0, .int .i64 0], .bool false]) (by simp [results, Try.results88, go_sem, p0, p1]) rfl ?_
  have f9 := (hF2.chg hcl (fun b o hb e => by have := hF.lt hb; omega)).mono (F' := grow F w wl) (fun _ h => .inl h) (fun b hb => ?_)
  · exact ⟨H, none, rfl, f9, (hcw2.mono (fun _ _ _ h => .inr h)).trans' hcl (fun _ _ _ h => h) (fun b o hb e => by omega), hh3.out.chg hcl (fun b _ e e2 => by have := hh.lt e; omega), rfl, rfl⟩
  · rcases hb with hb | hb
    · exact Nat.lt_of_lt_of_le (hF.lt hb) (hcw2.trans' hcl (B := fun _ _ => True) (fun _ _ _ _ => trivial) (fun _ _ _ _ => trivial)).size
    · exact hb.2

set_option maxRecDepth 100000 in
set_option maxHeartbeats 4000000 in
theorem delete_leaf_max {k : Kc ord} {mn mx t n : Nat} {pa : Addr} {y : It ord} {i : Nat} {r : NodeR (It ord)} {w : World} {F : Nat → Prop} {H : Nat → Option (NodeR (It ord))} (hF : Fam (parM k) w F H) (ht : MapAt k mn mx w t) (htF : ∀ b, MOwn k t b → ¬ F b) (hn : H n = some r)
    (hpa : w.cell? pa = some (.pointer (some ⟨n, 0, none⟩))) (hlen : r.items.length ≤ 1000) (hk : r.kids = none) (hy : r.items[i]? = some y) (hil : r.items.length = i + 1) (hc0 : 0 ≤ r.cnt ∧ r.cnt ≤ 100000000000000) :
    Calls Try.prog 88 #[.pointer (some ⟨t, 0, none⟩), .pointer (some pa), .bool true, .agg #[.int .i64 0, .int .i64 0], .pointer none, .int .i64 0] w (DelPost k F none (fun H' o => o = some y ∧ H' = upd H n ⟨r.cnt - 1, r.items.take i ++ r.items.drop (i + 1), r.kids⟩) w) := by
  have hi : i < r.items.length := by omega
  obtain ⟨l0, hn0⟩ := hF.node hn
  have t0 := ht.c0
  have n0 := hn0.c0
  have hpk : (parM k).k = k.iso := rfl
  rw [hpk] at n0
  have nlt : n < w.heap.size := World.block_lt_of_cell? w _ n0
  have tlt : t < w.heap.size := World.block_lt_of_cell? w _ t0
  have plt := World.block_lt_of_cell? w _ hpa
  have hpa2 : ∀ o o', ((w.alloc o).alloc o').cell? pa = some (.pointer (some ⟨n, 0, none⟩)) := fun o o' => by rw [World.cell?_alloc_lt _ _ _ (by simp; omega), World.cell?_alloc_lt w _ _ plt]; exact hpa
  have hn1 : ∀ o o', ((w.alloc o).alloc o').cell? ⟨n, 0, none⟩ = some (.int .u64 k.iso) := fun o o' => ((hn0.chg (((Chg.refl (fun _ _ => False) w).alloc o).alloc o') (fun _ _ _ h => h)).c0)
  have ht1 : ∀ o o', ((w.alloc o).alloc o').cell? ⟨t, 0, none⟩ = some (.int .u64 k.iso) := fun o o' => ((ht.chg (((Chg.refl (fun _ _ => False) w).alloc o).alloc o') (fun _ _ _ h => h)).c0)
  have hn2 : ∀ o o', ((w.alloc o).alloc o').cell? ⟨n, 2, none⟩ = some (.slice (some ⟨l0.ib, l0.io, none⟩) r.items.length l0.ic) := fun o o' => ((hn0.chg (((Chg.refl (fun _ _ => False) w).alloc o).alloc o') (fun _ _ _ h => h)).c2); have s1 : IntKind.i64.wrap ((r.items.length : Int) - 1) = (i : Int) := (by rw [IntWalk.i64_in _ (by omega)]; omega); replace hil := Lib.hid hil
  skip
  go_enter Try.func88, Try.ntmps88
  go_wp2_with (go_at_call 67; refine (isoLoad_any _ n k _ _ _ ?_ ?_ ?_).mono ?_; (focus go_simp); (focus go_simp); (focus go_simp); rintro e w' ⟨rfl, m, rfl⟩)
  refine name_calls (fun w1 => Chg (fun _ _ => False) w w1 ∧ w1.heap[w.heap.size]? = some (.cells #[.int .i64 0, .int .i64 0] 30 (0, 0)) ∧ w1.heap[w.heap.size + 1]? = some (.cells #[.int .i64 0, .int .i64 0] 30 (0, 0))) ⟨?_, ?_, ?_⟩ ?_
  · exact (((Chg.refl _ _).alloc _).alloc _).drewN _
  · rw [hd_drewN, ha_lt _ _ (by simp)]; exact ha_at _ _ rfl
  · rw [hd_drewN]; exact ha_at _ _ (by simp)
  rintro w2 ⟨hc1, hb1, hb2⟩
  have hna1 := hn0.chg hc1 (fun _ _ _ h => h)
  have ht1' := ht.chg hc1 (by simp)
  clear hn1 ht1 hpa2 t0 n0 hn0 hn2 s1
  have hh : HintO none w := HintO.none w
  have hvF : ∀ b, (none : Option Nat) = some b → ¬ F b := fun b e => by cases e
  have hcw2 : Chg (fun b _ => (none : Option Nat) = some b) w w2 := hc1.mono (fun _ _ _ h => h.elim)
  have hF2 := hF.chg hc1 (fun _ _ _ h => h)
  have htt2 := ht.chg hc1 (fun _ _ _ h => h)
  have hb2' := hb2
  have hlw2 := heap_lt hb2
  have hh2 := hh.keep hc1
  have HY := Lib.hid hy
  have HT := Lib.hid ht1'
  clear hb1 hb2 ht1' hna1 hy hc1
  have nF : ∀ b, w.heap.size ≤ b → ¬ F b := fun b hb h => Nat.lt_irrefl _ (Nat.lt_of_lt_of_le (hF.lt h) hb)
  obtain ⟨l0, hna0⟩ := hF2.node hn
  have n3 := hna0.c3n hk
  have n2 := hna0.c2
  have iv := hna0.mval (j := i) HY.out
  have ik := hna0.mkey (j := i) HY.out
  have j0 : (0 : Int) ≤ (i : Int) := by omega
  have j1 : (i : Int) < (r.items.length : Int) := by omega
  clear hna0
  go_wp2_with (go_at_call 70; refine (leaf_any _ none _ n3).mono ?_; rintro e w' ⟨rfl, rfl⟩)
  refine name_world (fun w3 => Chg (fun _ _ => False) w2 w3 ∧ w2.heap.size < w3.heap.size ∧ w3.heap[w2.heap.size]? = some (.cells #[.int .i64 y.1, .int .i64 y.2] 30 (0, 0))) ⟨(Chg.refl _ _).alloc _, by simp, ha_at _ _ rfl⟩ ?_
  rintro w3 ⟨hc3, hz3, hb3⟩
  have hsz2 := hcw2.size
  have hcw3 : Chg (fun b _ => (none : Option Nat) = some b) w w3 := hcw2.trans (hc3.mono (fun _ _ _ h => h.elim))
  have hF3 := hF2.chg hc3 (fun _ _ _ h => h)
  obtain ⟨l, hna, hb, ho, cl⟩ := hF3.work hn
  have HM := Lib.hid (htt2.chg hc3 (fun _ _ _ h => h))
  have HR := Lib.hid (Run.start hna)
  have HB2 := Lib.hid (show w3.heap[w.heap.size + 1]? = some (.cells #[.int .i64 0, .int .i64 0] 30 (0, 0)) by rw [hc3.block hlw2 (fun _ h => h)]; exact hb2')
  have HB3 := Lib.hid hb3
  have HH3 := Lib.hid (hh2.keep hc3)
  have HCW := Lib.hid hcw3
  have HZ := Lib.hid (And.intro hsz2 hz3)
  have HCL := Lib.hid cl
  have HO := Lib.hid ho
  have HBF := Lib.hid hb
  clear n2 n3 iv ik j0 j1 hb3 hz3 hsz2 hcw2 hcw3 hc3 hF2 hF3 hna htt2 hh2 hb2' cl ho
  have N2 : w3.cell? ⟨n, 2, none⟩ = some (.slice (some ⟨l.ib, l.io, none⟩) r.items.length l.ic) := HR.out.at_.c2
  have hlenc : r.items.length ≤ l.ic := HR.out.at_.len
  have s0 : (0 : Int) ≤ (i : Int) := by omega
  have s2 : (0 : Int) ≤ (i : Int) + 1 := by omega
  have s3 : ((i : Int) + 1).toNat = i + 1 := by omega
  have s4 : (i : Int) ≤ (r.items.length : Int) := by omega
  have s5 : (i : Int) + 1 ≤ (r.items.length : Int) := by omega
  have hck2 : ¬ l.ic = i := by omega
  obtain ⟨sp, hif, hsp⟩ : ∃ sp, (if l.ic = i + 1 then some (⟨l.ib, l.io, none⟩ : Addr) else some ⟨l.ib, l.io + (i + 1) * 2, none⟩) = some sp ∧ (i + 1 < r.items.length → sp = ⟨l.ib, l.io + (i + 1) * 2, none⟩) := by
    by_cases h : l.ic = i + 1
    · exact ⟨_, by rw [if_pos h], fun h2 => by omega⟩
    · exact ⟨_, by rw [if_neg h], fun _ => rfl⟩
  have s1 : IntKind.i64.wrap ((i : Int) + 1) = (i : Int) + 1 := IntWalk.i64_in _ (by omega)
  have HSP := Lib.hid hsp
  clear hsp
  go_still_tail 13, (by kernel_rfl)
  refine wpList_down (p := parM k) (by rfl) _ _ _ _ (by rfl) 30 (by kernel_rfl) infoPairSize (HR.out.still ((Chg.refl _ _).drew)) i (l.io + i * 2) _ _ _ _ (show i < r.items.length by omega) (by simp [parM]) (by rfl) sp (by rfl) (by simpa [parM] using HSP.out) (by first | rfl | simp) (by first | rfl | simp) ?_
  intro w8 ys r8 hys1 hys2
  replace hys1 := Lib.hid hys1
  replace hys2 := Lib.hid hys2
  clear s0 s1 s2 s3 s4 s5 hck2 hif N2 hlenc HSP
  go_upto_region 11 with fail
  refine name_world (fun wz => ∃ ys, ys.length = r.items.length ∧ ys.take (r.items.length - 1) = r.items.take i ++ r.items.drop (i + 1) ∧ Run (parM k) w3 n r l wz { r with items := ys } l) ⟨ys, hys1.out, hys2.out, r8⟩ ?_
  clear r8 hys1 hys2 HR
  rintro w4 ⟨y3, hly3, hy3, hR⟩
  replace hly3 := Lib.hid hly3
  replace hy3 := Lib.hid hy3
  have HR := Lib.hid hR
  clear hR
  have hyb : 1 ≤ y3.length ∧ y3.length ≤ 1001 := by rw [hly3.out]; omega
  have N2 : w4.cell? ⟨n, 2, none⟩ = some (.slice (some ⟨l.ib, l.io, none⟩) y3.length l.ic) := HR.out.at_.c2
  have hm1 := HM.out.chg HR.out.chg (fun b o hm h => htF b hm (hb _ h.blk))
  have e4 := hm1.c4
  have e5 := hm1.c5
  have hlenc : y3.length ≤ l.ic := HR.out.at_.len
  have s0 : (0 : Int) ≤ (y3.length : Int) - 1 := by omega
  have s2 : (y3.length : Int) - 1 < (y3.length : Int) := by omega
  have s3 : ((y3.length : Int) - 1).toNat = y3.length - 1 := by omega
  have s1 : IntKind.i64.wrap ((y3.length : Int) - 1) = (y3.length : Int) - 1 := IntWalk.i64_in _ (by omega)
  have hlt : y3.length - 1 < y3.length := by omega
  have z0 := HR.out.at_.ifz (l.io + (y3.length - 1) * 2)
  have z1 := HR.out.at_.ifz (l.io + (y3.length - 1) * 2 + 1)
  obtain ⟨y6, hy6⟩ : ∃ y, y3[y3.length - 1]? = some y := ⟨_, List.getElem?_eq_getElem hlt⟩
  have iv := HR.out.at_.mval (j := y3.length - 1) hy6
  have ik := HR.out.at_.mkey (j := y3.length - 1) hy6
  have r8 := (HR.out.still ((Chg.refl _ _).drew)).setItemM (y3.length - 1) ((0, 0) : Int × Int) hlt
  have HR8 := Lib.hid r8
  clear hm1 hy6 r8
  go_still_tail 14, (by kernel_rfl)
  go_upto_region 12 with fail
  refine name_world (fun wz => ∃ ys, ys.length = y3.length ∧ ys.take (y3.length - 1) = y3.take (y3.length - 1) ∧ Run (parM k) w3 n r l wz { r with items := ys } l) ⟨_, List.length_set, take_set_last _ _ _, HR8.out⟩ ?_
  clear N2 e4 e5 hlenc s0 s1 s2 s3 hlt z0 z1 iv ik HR8 HR y6
  rintro w5 ⟨y4, hly4, hy4, hR⟩
  replace hly4 := Lib.hid hly4
  replace hy4 := Lib.hid hy4
  have HR := Lib.hid hR
  clear hR
  have hyb : 1 ≤ y4.length ∧ y4.length ≤ 1001 := by rw [hly4.out, hly3.out]; omega
  have N2 : w5.cell? ⟨n, 2, none⟩ = some (.slice (some ⟨l.ib, l.io, none⟩) y4.length l.ic) := HR.out.at_.c2
  have z2 := HR.out.at_.fz 2
  have hlenc : y4.length ≤ l.ic := HR.out.at_.len
  have s0 : (0 : Int) ≤ (y4.length : Int) - 1 := by omega
  have s2 : (y4.length : Int) - 1 ≤ (l.ic : Int) := by omega
  have s3 : ((y4.length : Int) - 1).toNat = y4.length - 1 := by omega
  have s1 : IntKind.i64.wrap ((y4.length : Int) - 1) = (y4.length : Int) - 1 := IntWalk.i64_in _ (by omega)
  have ck : ¬ l.ic = 0 := by omega
  have s6 : ¬ ((y4.length : Int) < 1) := by omega
  have s7 : (1 : Int) ≤ (y4.length : Int) := by omega
  have r8 := (HR.out.still ((Chg.refl _ _).drew)).cut 0 (y4.length - 1) l.ic (by show 0 + (y4.length - 1) ≤ y4.length; omega) (by omega) (by omega)
  simp only [Nat.zero_mul, Nat.add_zero, List.drop_zero] at r8
  have HR8 := Lib.hid r8
  clear r8
  go_still_tail 12, (by kernel_rfl)
  go_upto_region 13 with fail
  refine name_world (fun wz => Run (parM k) w3 n r l wz { r with items := y4.take (y4.length - 1) } l) HR8.out ?_
  clear N2 z2 hlenc s0 s1 s2 s3 s6 s7 ck HR8 HR
  rintro w6 hR
  have HR := Lib.hid hR
  clear hR
  have C1 := HR.out.at_.c1
  have z1 := HR.out.at_.fz 1
  have s1 : IntKind.i64.wrap (r.cnt - 1) = r.cnt - 1 := IntWalk.i64_in _ (by omega)
  have hsz := HR.out.chg.size
  have r8 := HR.out.setCnt (r.cnt - 1)
  go_upto_region 14 with fail
  refine name_world (fun wz => Run (parM k) w3 n r l wz ⟨r.cnt - 1, y4.take (y4.length - 1), r.kids⟩ l) r8 ?_
  clear C1 z1 s1 r8 hsz
  rintro w7 hR7
  have hit : y4.take (y4.length - 1) = r.items.take i ++ r.items.drop (i + 1) := by
    have h1 := hy3.out
    have h2 := hy4.out
    rw [← hly3.out, ← h2, ← hly4.out] at h1
    exact h1
  rw [hit] at hR7
  have hc37 := hR7.chg
  have hext : ∀ b o, Ext (parM k) n r l b o → F b := fun b o h => HBF.out b h.blk
  obtain ⟨hz1, hz2⟩ := HZ.out
  have hb12 : w7.heap[w.heap.size + 1]? = some (.cells #[.int .i64 0, .int .i64 0] 30 (0, 0)) := by
    rw [hc37.block (heap_lt HB2.out) (fun o h => nF _ (Nat.le_add_right _ _) (hext _ _ h))]; exact HB2.out
  have hb17 : w7.heap[w2.heap.size]? = some (.cells #[.int .i64 y.1, .int .i64 y.2] 30 (0, 0)) := by
    rw [hc37.block (heap_lt HB3.out) (fun o h => nF _ hz1 (hext _ _ h))]; exact HB3.out
  obtain ⟨f7, g7⟩ := HCL.out _ _ _ hR7
  have hsz37 := hc37.size
  have hl12 := heap_lt HB2.out
  have hh7 : HintO (none : Option Nat) w7 := HH3.out.chg g7 (fun b _ e => hvF b e)
  have hc07 : Chg (fun b _ => F b ∨ (none : Option Nat) = some b) w w7 := (HCW.out.mono (fun _ _ _ h => .inr h)).trans (g7.mono (fun _ _ _ h => .inl h))
  clear hR7 hc37 hit HR hly3 hly4 hy3 hy4
  have y0 := frozen_of_block hb12 0
  have y1 := frozen_of_block hb12 1
  have p0 := cell_of_block hb12 0
  have p1 := cell_of_block hb12 1
  simp only [List.getElem?_toArray, List.getElem?_cons_zero, List.getElem?_cons_succ] at p0 p1
  have x0 := frozen_of_block hb17 0
  have x1 := frozen_of_block hb17 1
  have r0 := cell_of_block hb17 0
  have r1 := cell_of_block hb17 1
  simp only [List.getElem?_toArray, List.getElem?_cons_zero, List.getElem?_cons_succ] at r0 r1
  go_wp2_with fail
  refine name_prop (fun wl => Chg (fun b _ => b = w.heap.size + 1) w7 wl ∧ wl.heap[w.heap.size + 1]? = some (.cells #[.int .i64 y.1, .int .i64 y.2] 30 (0, 0))) ⟨?_, blk2 hb12 _ _⟩ ?_
  · repeat (first | refine Chg.drew ?_ | refine Chg.drewN ?_ _ | refine Chg.setCell ?_ (.inl rfl) _ | exact Chg.refl _ _)
  clear p0 p1 r0 r1
  rintro wl ⟨hcl, hbl⟩
  have p0 := cell_of_block hbl 0
  have p1 := cell_of_block hbl 1
  simp only [List.getElem?_toArray, List.getElem?_cons_zero, List.getElem?_cons_succ] at p0 p1
  refine bodyPost_ret (v := .tuple #[.agg #[.int .i64 y.1, .int .i64 y.2], .bool true]) (by simp [results, Try.results88, go_sem, p0, p1]) rfl ?_
  have f9 := f7.chg hcl (fun b o hb e => by
    rcases hb with hb | hb
    · exact nF b (by omega) hb
    · have h1 := hb.1; omega)
  refine ⟨_, some y, rfl, f9.mono (fun b hb => ?_) (fun b hb => ?_), hc07.trans' hcl (fun _ _ _ h => h) (fun b o hb e => by omega), hh7.chg hcl (fun b _ e e2 => by have := hh.lt e; omega), rfl, rfl⟩
  · rcases hb with hb | hb
    · exact .inl hb
    · exact .inr ⟨by have := hb.1; omega, Nat.lt_of_lt_of_le hb.2 hcl.size⟩
  · rcases hb with hb | hb
    · exact f9.lt (.inl hb)
    · exact hb.2
end Go.Proofs.Ytgdchpinlboejaa

namespace Go.Proofs.Ytgdchpinlboejaa
set_option linter.unusedSimpArgs false
set_option linter.unusedVariables false
open Go.RowKit

variable {ord : List Int}

theorem Fam.mono' {p : Par (It ord)} {w w0 : World} {F F' : Nat → Prop} {H H0 : Nat → Option (NodeR (It ord))} (h : Fam p w F H) (h1 : ∀ b, F b → F' b) (h2 : Fam p w0 F' H0) (h3 : w0.heap.size ≤ w.heap.size) : Fam p w F' H :=
  h.mono h1 (fun b hb => Nat.lt_of_lt_of_le (h2.lt hb) h3)

/-- What nodeRebalance leaves. -/
def RebPost' (k : Kc ord) (F : Nat → Prop) (Z : (Nat → Option (NodeR (It ord))) → Prop) (w : World) (e : Ending) (w' : World) : Prop :=
  e = .returned (.tuple #[]) ∧ ∃ H', Fam (parM k) w' (grow F w w') H' ∧ Chg (fun b _ => F b) w w' ∧ Z H'

set_option maxRecDepth 100000 in
set_option maxHeartbeats 4000000 in
theorem delete_kid {k : Kc ord} {mn mx t n d c : Nat} {pa : Addr} {x : It ord} {i : Nat} {r : NodeR (It ord)} {w : World} {F : Nat → Prop} {H : Nat → Option (NodeR (It ord))} {hv : Option Nat} {kl : List Nat} (hF : Fam (parM k) w F H) (ht : MapAt k mn mx w t) (htF : ∀ b, MOwn k t b → ¬ F b) (hn : H n = some r)
    (hpa : w.cell? pa = some (.pointer (some ⟨n, 0, none⟩))) (hs : Srt ltM r.items) (hlen : r.items.length ≤ 1000) (hpos : 1 ≤ r.items.length) (hk : r.kids = some (kl.map some)) (hc : kl[i]? = some c) (hcn : c ≠ n) (hy : PosAt ltM r.items x i) (hc0 : 0 ≤ r.cnt ∧ r.cnt ≤ 100000000000000)
    (hh : HintO hv w) (hvF : ∀ b, hv = some b → ¬ F b) (hvt : ∀ b, hv = some b → ¬ MOwn k t b) (hd : d ≤ 1000000000000)
    (Z Z2 : (Nat → Option (NodeR (It ord))) → Option (It ord) → Prop)
    (hcall : ∀ w1 pa1, Chg (fun b _ => hv = some b) w w1 → Fam (parM k) w1 F H → MapAt k mn mx w1 t → HintO hv w1 → w1.cell? pa1 = some (.pointer (some ⟨c, 0, none⟩)) → Calls Try.prog 88 #[.pointer (some ⟨t, 0, none⟩), .pointer (some pa1), .bool false, aggM x, hintV hv, .int .i64 ((d : Int) + 1)] w1 (DelPost k F hv Z w1))
    (hZ : ∀ H' o, Z H' o → H' n = some r ∧ ∃ rc, H' c = some rc ∧ rc.items.length ≤ 1000)
    (hno : ∀ H', Z H' none → Z2 H' none)
    (hok : ∀ H' y rc, Z H' (some y) → H' c = some rc → mn ≤ rc.items.length → Z2 (upd H' n ⟨r.cnt - 1, r.items, r.kids⟩) (some y))
    (hreb : ∀ H' y rc w1 F1, Z H' (some y) → H' c = some rc → rc.items.length < mn → Fam (parM k) w1 F1 (upd H' n ⟨r.cnt - 1, r.items, r.kids⟩) → MapAt k mn mx w1 t → (∀ b, MOwn k t b → ¬ F1 b) → Calls Try.prog 98 #[.pointer (some ⟨t, 0, none⟩), .pointer (some ⟨n, 0, none⟩), .int .i64 i] w1 (RebPost' k F1 (fun H'' => Z2 H'' (some y)) w1)) :
    Calls Try.prog 88 #[.pointer (some ⟨t, 0, none⟩), .pointer (some pa), .bool false, aggM x, hintV hv, .int .i64 d] w (DelPost k F hv Z2 w) := by
  obtain ⟨l0, hn0⟩ := hF.node hn
  have t0 := ht.c0
  have n0 := hn0.c0
  have hpk : (parM k).k = k.iso := rfl
  rw [hpk] at n0
  have nlt : n < w.heap.size := World.block_lt_of_cell? w _ n0
  have tlt : t < w.heap.size := World.block_lt_of_cell? w _ t0
  have plt := World.block_lt_of_cell? w _ hpa
  have hpa2 : ∀ o o', ((w.alloc o).alloc o').cell? pa = some (.pointer (some ⟨n, 0, none⟩)) := fun o o' => by rw [World.cell?_alloc_lt _ _ _ (by simp; omega), World.cell?_alloc_lt w _ _ plt]; exact hpa
  have hn1 : ∀ o o', ((w.alloc o).alloc o').cell? ⟨n, 0, none⟩ = some (.int .u64 k.iso) := fun o o' => ((hn0.chg (((Chg.refl (fun _ _ => False) w).alloc o).alloc o') (fun _ _ _ h => h)).c0)
  have ht1 : ∀ o o', ((w.alloc o).alloc o').cell? ⟨t, 0, none⟩ = some (.int .u64 k.iso) := fun o o' => ((ht.chg (((Chg.refl (fun _ _ => False) w).alloc o).alloc o') (fun _ _ _ h => h)).c0)
  skip
  unfold aggM hintV
  go_enter Try.func88, Try.ntmps88
  go_wp2_with (go_at_call 67; refine (isoLoad_any _ n k _ _ _ ?_ ?_ ?_).mono ?_; (focus go_simp); (focus go_simp); (focus go_simp); rintro e w' ⟨rfl, m, rfl⟩)
  refine name_calls (fun w1 => Chg (fun _ _ => False) w w1 ∧ w1.heap[w.heap.size]? = some (.cells #[.int .i64 x.1, .int .i64 x.2] 30 (0, 0)) ∧ w1.heap[w.heap.size + 1]? = some (.cells #[.int .i64 0, .int .i64 0] 30 (0, 0))) ⟨?_, ?_, ?_⟩ ?_
  · exact (((Chg.refl _ _).alloc _).alloc _).drewN _
  · rw [hd_drewN, ha_lt _ _ (by simp)]; exact ha_at _ _ rfl
  · rw [hd_drewN]; exact ha_at _ _ (by simp)
  rintro w1 ⟨hc1, hb1, hb2⟩
  have hna1 := hn0.chg hc1 (fun _ _ _ h => h)
  have ht1' := ht.chg hc1 (by simp)
  clear hn1 ht1 hpa2 t0 n0 hn0 
  refine (find_o hv t d x ht1' hna1 hs (by omega) hpos (hh.keep hc1) hd).mono ?_
  rintro e w2 ⟨i', f, rfl, hw2, hh2, hf⟩
  have hnv : ∀ b, w.heap.size ≤ b → ¬ hv = some b := fun b hb e => by have := hh.lt e; omega
  have hb1' : w2.heap[w.heap.size]? = some (.cells #[.int .i64 x.1, .int .i64 x.2] 30 (0, 0)) := by rw [hw2.block (heap_lt hb1) (fun _ => hnv _ (Nat.le_refl _))]; exact hb1
  have hb2' : w2.heap[w.heap.size + 1]? = some (.cells #[.int .i64 0, .int .i64 0] 30 (0, 0)) := by rw [hw2.block (heap_lt hb2) (fun _ => hnv _ (Nat.le_add_right _ _))]; exact hb2
  have hcw2 : Chg (fun b _ => hv = some b) w w2 := (hc1.mono (fun _ _ _ h => h.elim)).trans hw2
  have hF2 := hF.chg hcw2 (fun b _ hb e => hvF b e hb)
  have htt2 := ht.chg hcw2 (fun b _ hb e => hvt b e hb)
  have hlw2 := heap_lt hb2'
  have hfi : f = false ∧ i = i' := by
    rcases hf with ⟨h1, y', h2⟩ | ⟨h1, h2⟩
    · exact absurd h2.n2 (by rw [hy.right i' y' (hit_le hy h2) h2.at_]; simp)
    · exact ⟨h1, (pos_same h2 hy swoM).symm⟩
  obtain ⟨rfl, rfl⟩ := hfi
  have hil := hy.le
  clear hb1 hb2 hw2 hf ht1' hna1 hy
  obtain ⟨l, hna, hbl, ho, cl⟩ := hF2.work hn
  have HB1 := Lib.hid hb1'
  have HB2 := Lib.hid hb2'
  have HH2 := Lib.hid hh2
  have q0 := cell_of_block hb1' 0
  have q1 := cell_of_block hb1' 1
  simp only [List.getElem?_toArray, List.getElem?_cons_zero, List.getElem?_cons_succ] at q0 q1
  have n3 := hna.c3s hk
  have hkl := (List.getElem?_eq_some_iff.1 hc).1
  have g1 := hna.cc hk
  rw [List.length_map] at g1
  have g2 := hna.kidc hk (j := i) (o := some c) (by simp [hc])
  clear hna hb1' hb2' hh2
  go_wp2_with (go_at_call 70; refine (leaf_any _ (some ⟨l.cc, 0, none⟩) _ ?_).mono ?_; (focus go_simp); rintro e w' ⟨rfl, rfl⟩)
  refine name_world (fun w3 => Chg (fun _ _ => False) w2 w3 ∧ w3.heap[w2.heap.size]? = some (.cells #[.int .i64 0, .int .i64 0] 30 (0, 0))) ⟨(Chg.refl _ _).alloc _, ha_at _ _ rfl⟩ ?_
  rintro w3 ⟨hc3, hb18⟩
  replace q0 := hc3.cell (fun h => h) q0
  replace q1 := hc3.cell (fun h => h) q1
  replace n3 := hc3.cell (fun h => h) n3
  replace g1 := hc3.cell (fun h => h) g1
  replace g2 := hc3.cell (fun h => h) g2
  have hcw3 := hcw2.trans (hc3.mono (fun _ _ _ h => h.elim))
  have j0 : (0 : Int) ≤ (i : Int) := by omega
  have j1 : (i : Int) < (kl.length : Int) := by omega
  have HB18 := Lib.hid hb18
  have hl18 := heap_lt hb18
  clear hb18
  have s1 : IntKind.i64.wrap ((d : Int) + 1) = (d : Int) + 1 := IntWalk.i64_in _ (by omega)
  refine wp_region_callt (fun w' => w'.cell? ⟨w.heap.size, 0, none⟩ = some (.int .i64 x.1) ∧ w'.cell? ⟨w.heap.size, 1, none⟩ = some (.int .i64 x.2) ∧ w'.cell? ⟨n, 3, none⟩ = some (.pointer (some ⟨l.cc, 0, none⟩)) ∧ w'.cell? ⟨l.cc, 0, none⟩ = some (.slice (some ⟨l.cb, l.co, none⟩) kl.length l.ck))
    14 [0, 1, 2, 3, 4, 5, 6, 7, 8, 9, 10, 11, 12, 13] _ [(15, true), (16, true), (17, true), (18, false), (19, true)] (by kernel_rfl) (by kernel_rfl) (fun _ _ _ _ _ h => h) rfl rfl ⟨q0, q1, n3, g1⟩ ?_
  simp only [pickOps, List.filterMap_cons, List.filterMap_nil, List.getElem?_cons_zero, List.getElem?_cons_succ]
  refine wpSoft_step ?_ rfl ?_ ?_
  rotate_left
  · intro w' hS
    try obtain ⟨a1, a2, a3, a4⟩ := hS
    go_simp
    try with_reducible rfl
  simp only [Act.put, List.setIfInBounds_toArray, List.set_cons_zero, List.set_cons_succ]
  refine wpSoft_step ?_ rfl ?_ ?_
  rotate_left
  · intro w' hS
    try obtain ⟨a1, a2, a3, a4⟩ := hS
    go_simp
    try with_reducible rfl
  simp only [Act.put, List.setIfInBounds_toArray, List.set_cons_zero, List.set_cons_succ]
  refine wpSoft_step ?_ rfl ?_ ?_
  rotate_left
  · intro w' hS
    try obtain ⟨a1, a2, a3, a4⟩ := hS
    go_simp
    try with_reducible rfl
  simp only [Act.put, List.setIfInBounds_toArray, List.set_cons_zero, List.set_cons_succ]
  refine wpSoft_step ?_ rfl ?_ ?_
  rotate_left
  · intro w' hS
    try obtain ⟨a1, a2, a3, a4⟩ := hS
    go_simp
    try with_reducible rfl
  simp only [Act.put, List.setIfInBounds_toArray, List.set_cons_zero, List.set_cons_succ]
  refine wpSoft_step ?_ rfl ?_ ?_
  rotate_left
  · intro w' hS
    try obtain ⟨a1, a2, a3, a4⟩ := hS
    go_simp
    try with_reducible rfl
  simp only [Act.put, List.setIfInBounds_toArray, List.set_cons_zero, List.set_cons_succ]
  refine wpSoft_step ?_ rfl ?_ ?_
  rotate_left
  · intro w' hS
    try obtain ⟨a1, a2, a3, a4⟩ := hS
    go_simp
    try with_reducible rfl
  simp only [Act.put, List.setIfInBounds_toArray, List.set_cons_zero, List.set_cons_succ]
  refine wpSoft_step ?_ rfl ?_ ?_
  rotate_left
  · intro w' hS
    try obtain ⟨a1, a2, a3, a4⟩ := hS
    go_simp
    try with_reducible rfl
  simp only [Act.put, List.setIfInBounds_toArray, List.set_cons_zero, List.set_cons_succ]
  refine wpSoft_step ?_ rfl ?_ ?_
  rotate_left
  · intro w' hS
    try obtain ⟨a1, a2, a3, a4⟩ := hS
    go_simp
    try with_reducible rfl
  simp only [Act.put, List.setIfInBounds_toArray, List.set_cons_zero, List.set_cons_succ]
  refine wpSoft_step ?_ rfl ?_ ?_
  rotate_left
  · intro w' hS
    try obtain ⟨a1, a2, a3, a4⟩ := hS
    go_simp
    try with_reducible rfl
  simp only [Act.put, List.setIfInBounds_toArray, List.set_cons_zero, List.set_cons_succ]
  refine wpSoft_step ?_ rfl ?_ ?_
  rotate_left
  · intro w' hS
    try obtain ⟨a1, a2, a3, a4⟩ := hS
    go_simp
    try with_reducible rfl
  simp only [Act.put, List.setIfInBounds_toArray, List.set_cons_zero, List.set_cons_succ]
  refine wpSoft_step ?_ rfl ?_ ?_
  rotate_left
  · intro w' hS
    try obtain ⟨a1, a2, a3, a4⟩ := hS
    go_simp
    try with_reducible rfl
  simp only [Act.put, List.setIfInBounds_toArray, List.set_cons_zero, List.set_cons_succ]
  refine wpSoft_step ?_ rfl ?_ ?_
  rotate_left
  · intro w' hS
    try obtain ⟨a1, a2, a3, a4⟩ := hS
    go_simp
    try with_reducible rfl
  simp only [Act.put, List.setIfInBounds_toArray, List.set_cons_zero, List.set_cons_succ]
  refine wpSoft_step ?_ rfl ?_ ?_
  rotate_left
  · intro w' hS
    try obtain ⟨a1, a2, a3, a4⟩ := hS
    go_simp
    try with_reducible rfl
  simp only [Act.put, List.setIfInBounds_toArray, List.set_cons_zero, List.set_cons_succ]
  refine wpSoft_step ?_ rfl ?_ ?_
  rotate_left
  · intro w' hS
    try obtain ⟨a1, a2, a3, a4⟩ := hS
    go_simp
    try with_reducible rfl
  simp only [Act.put, List.setIfInBounds_toArray, List.set_cons_zero, List.set_cons_succ]
  refine wpSoft_nil ?_
  refine wp_hide (fun K hK => ?_)
  go_simp
  go_at_call 88
  have hc13 := hcw3.drew
  refine (hcall _ _ hc13 (hF.chg hc13 (fun b _ hb e => hvF b e hb)) (ht.chg hc13 (fun b _ hb e => hvt b e hb)) ((HH2.out.keep hc3).keep (Chg.refl _ _).drew) g2).mono ?_
  rintro e w4 ⟨H', o, rfl, hF4, hc4', hh4, hz4⟩
  have hc4 : Chg (fun b _ => F b ∨ hv = some b) w3 w4 := ((Chg.refl _ _).drew).trans hc4'
  clear hc4' q0 q1 n3 g1 g2 j0 j1 s1
  have nF : ∀ b, w.heap.size ≤ b → ¬ F b := fun b hb h => Nat.lt_irrefl _ (Nat.lt_of_lt_of_le (hF.lt h) hb)
  have hsz2 := hcw2.size
  have hsz3 := hc3.size
  have hb18 : w4.heap[w2.heap.size]? = some (.cells #[.int .i64 0, .int .i64 0] 30 (0, 0)) := by
    rw [hc4.block (by simpa using hl18) (fun _ h => by
      rcases h with h | h
      · exact nF _ hsz2 h
      · exact hnv _ hsz2 h)]
    exact HB18.out
  have y0 := frozen_of_block hb18 0
  have y1 := frozen_of_block hb18 1
  have p0 := cell_of_block hb18 0
  have p1 := cell_of_block hb18 1
  simp only [List.getElem?_toArray, List.getElem?_cons_zero, List.getElem?_cons_succ] at p0 p1
  have HB18' := Lib.hid hb18
  have HF4 := Lib.hid hF4
  have HC4 := Lib.hid hc4
  clear hb18 HB18 hF4 hc4
  refine hK _ _ ?_
  clear hK K
  rcases o with _ | y
  · unfold lastV
    refine script_soft (by rfl) ?_ (by simp [Region.wanted, yielded]) ?_ ?_
    rotate_left
    · intro w' hS
      try obtain ⟨a1⟩ := hS
      go_simp
      try with_reducible rfl
    simp only [Act.put, List.setIfInBounds_toArray, List.set_cons_zero, List.set_cons_succ]
    refine script_soft (by rfl) ?_ (by simp [Region.wanted, yielded]) ?_ ?_
    rotate_left
    · intro w' hS
      try obtain ⟨a1⟩ := hS
      go_simp
      try with_reducible rfl
    simp only [Act.put, List.setIfInBounds_toArray, List.set_cons_zero, List.set_cons_succ]
    refine script_soft (by rfl) ?_ (by simp [Region.wanted, yielded]) ?_ ?_
    rotate_left
    · intro w' hS
      try obtain ⟨a1⟩ := hS
      go_simp
      try with_reducible rfl
    simp only [Act.put, List.setIfInBounds_toArray, List.set_cons_zero, List.set_cons_succ]
    refine script_hard (by rfl) (by simp [Region.wanted, yielded]) (fun K hK => ?_)
    go_simp
    refine hK _ _ (fun _ => trivial) ?_
    clear hK K
    refine script_soft (by rfl) ?_ (by simp [Region.wanted, yielded]) ?_ ?_
    rotate_left
    · intro w' hS
      try obtain ⟨a1⟩ := hS
      go_simp
      try with_reducible rfl
    simp only [Act.put, List.setIfInBounds_toArray, List.set_cons_zero, List.set_cons_succ]
    refine script_nil ?_
    refine name_prop (fun w5 => Chg (fun b _ => b = w2.heap.size) w4 w5 ∧ w5.heap[w2.heap.size]? = some (.cells #[.int .i64 0, .int .i64 0] 30 (0, 0))) ⟨?_, blk2 HB18'.out _ _⟩ ?_
    · repeat (first | refine Chg.drew ?_ | refine Chg.drewN ?_ _ | refine Chg.setCell ?_ (.inl rfl) _ | exact Chg.refl _ _)
    clear p0 p1 y0 y1 HB18'
    rintro w5 ⟨hc5, hb18⟩
    have hsz4 := HC4.out.size
    have hszd : w3.drew.heap.size = w3.heap.size := rfl
    have hc05 : Chg (fun b _ => F b ∨ hv = some b) w w5 := ((hcw3.mono (fun _ _ _ h => .inr h)).trans (HC4.out.mono (fun _ _ _ h => h))).trans' hc5 (fun _ _ _ h => h) (fun b o hb e => by omega)
    have hF5 := HF4.out.chg hc5 (fun b o hb e => by
      rcases hb with hb | hb
      · exact nF b (by omega) hb
      · have h1 := hb.1; omega)
    have hh5 : HintO hv w5 := hh4.chg hc5 (fun b _ e e2 => by have := hh.lt e; omega)
    have ht5 := ht.chg hc05 (fun b _ hm e => by
      rcases e with e | e
      · exact htF b hm e
      · exact hvt b e hm)
    have hb12 : w5.heap[w.heap.size + 1]? = some (.cells #[.int .i64 0, .int .i64 0] 30 (0, 0)) := by
      rw [hc5.block (by omega) (fun _ e => by omega), HC4.out.block (by omega) (fun _ h => by
        rcases h with h | h
        · exact nF _ (Nat.le_add_right _ _) h
        · exact hnv _ (Nat.le_add_right _ _) h), hc3.block hlw2 (fun _ h => h)]
      exact HB2.out
    have e4 := ht5.c4
    have e5 := ht5.c5
    have HB12 := Lib.hid hb12
    have HF5 := Lib.hid hF5
    have HH5 := Lib.hid hh5
    have HC05 := Lib.hid hc05
    have y0 := frozen_of_block hb12 0
    have y1 := frozen_of_block hb12 1
    have p0 := cell_of_block hb12 0
    have p1 := cell_of_block hb12 1
    simp only [List.getElem?_toArray, List.getElem?_cons_zero, List.getElem?_cons_succ] at p0 p1
    clear hb12 hb18 hF5 hh5 hc05 ht5
    go_wp2_with fail
    refine name_prop (fun wl => Chg (fun b _ => b = w.heap.size + 1) w5 wl ∧ wl.heap[w.heap.size + 1]? = some (.cells #[.int .i64 0, .int .i64 0] 30 (0, 0))) ⟨?_, blk2 HB12.out _ _⟩ ?_
    · repeat (first | refine Chg.drew ?_ | refine Chg.drewN ?_ _ | refine Chg.setCell ?_ (.inl rfl) _ | exact Chg.refl _ _)
    clear p0 p1
    rintro wl ⟨hcl, hbl⟩
    have p0 := cell_of_block hbl 0
    have p1 := cell_of_block hbl 1
    simp only [List.getElem?_toArray, List.getElem?_cons_zero, List.getElem?_cons_succ] at p0 p1
    refine bodyPost_ret (v := .tuple #[.agg #[.int .i64 0, .int .i64 0], .bool false]) (by simp [results, Try.results88, go_sem, p0, p1]) rfl ?_
    have f9 := HF5.out.chg hcl (fun b o hb e => by
      rcases hb with hb | hb
      · exact nF b (by omega) hb
      · have h1 := hb.1; omega)
    refine ⟨H', none, rfl, f9.mono (fun b hb => ?_) (fun b hb => ?_), HC05.out.trans' hcl (fun _ _ _ h => h) (fun b o hb e => by omega), HH5.out.chg hcl (fun b _ e e2 => by have := hh.lt e; omega), hno H' hz4⟩
    · have hbl := f9.lt hb
      rcases hb with hb | hb
      · exact .inl hb
      · exact .inr ⟨by have := hb.1; omega, hbl⟩
    · rcases hb with hb | hb
      · exact Nat.lt_of_lt_of_le (hF.lt hb) (HC05.out.trans' hcl (B := fun _ _ => True) (fun _ _ _ _ => trivial) (fun _ _ _ _ => trivial)).size
      · exact hb.2
  · unfold lastV
    refine script_soft (by rfl) ?_ (by simp [Region.wanted, yielded]) ?_ ?_
    rotate_left
    · intro w' hS
      try obtain ⟨a1⟩ := hS
      go_simp
      try with_reducible rfl
    simp only [Act.put, List.setIfInBounds_toArray, List.set_cons_zero, List.set_cons_succ]
    refine script_soft (by rfl) ?_ (by simp [Region.wanted, yielded]) ?_ ?_
    rotate_left
    · intro w' hS
      try obtain ⟨a1⟩ := hS
      go_simp
      try with_reducible rfl
    simp only [Act.put, List.setIfInBounds_toArray, List.set_cons_zero, List.set_cons_succ]
    refine script_soft (by rfl) ?_ (by simp [Region.wanted, yielded]) ?_ ?_
    rotate_left
    · intro w' hS
      try obtain ⟨a1⟩ := hS
      go_simp
      try with_reducible rfl
    simp only [Act.put, List.setIfInBounds_toArray, List.set_cons_zero, List.set_cons_succ]
    refine script_hard (by rfl) (by simp [Region.wanted, yielded]) (fun K hK => ?_)
    go_simp
    refine hK _ _ (fun _ => trivial) ?_
    clear hK K
    refine script_soft (by rfl) ?_ (by simp [Region.wanted, yielded]) ?_ ?_
    rotate_left
    · intro w' hS
      try obtain ⟨a1⟩ := hS
      go_simp
      try with_reducible rfl
    simp only [Act.put, List.setIfInBounds_toArray, List.set_cons_zero, List.set_cons_succ]
    refine script_nil ?_
    refine name_prop (fun w5 => Chg (fun b _ => b = w2.heap.size) w4 w5 ∧ w5.heap[w2.heap.size]? = some (.cells #[.int .i64 y.1, .int .i64 y.2] 30 (0, 0))) ⟨?_, blk2 HB18'.out _ _⟩ ?_
    · repeat (first | refine Chg.drew ?_ | refine Chg.drewN ?_ _ | refine Chg.setCell ?_ (.inl rfl) _ | exact Chg.refl _ _)
    clear p0 p1 y0 y1 HB18'
    rintro w5 ⟨hc5, hb18⟩
    have hsz4 := HC4.out.size
    have hszd : w3.drew.heap.size = w3.heap.size := rfl
    have hc05 : Chg (fun b _ => F b ∨ hv = some b) w w5 := ((hcw3.mono (fun _ _ _ h => .inr h)).trans (HC4.out.mono (fun _ _ _ h => h))).trans' hc5 (fun _ _ _ h => h) (fun b o hb e => by omega)
    have hF5 := HF4.out.chg hc5 (fun b o hb e => by
      rcases hb with hb | hb
      · exact nF b (by omega) hb
      · have h1 := hb.1; omega)
    have hh5 : HintO hv w5 := hh4.chg hc5 (fun b _ e e2 => by have := hh.lt e; omega)
    have ht5 := ht.chg hc05 (fun b _ hm e => by
      rcases e with e | e
      · exact htF b hm e
      · exact hvt b e hm)
    have hb12 : w5.heap[w.heap.size + 1]? = some (.cells #[.int .i64 0, .int .i64 0] 30 (0, 0)) := by
      rw [hc5.block (by omega) (fun _ e => by omega), HC4.out.block (by omega) (fun _ h => by
        rcases h with h | h
        · exact nF _ (Nat.le_add_right _ _) h
        · exact hnv _ (Nat.le_add_right _ _) h), hc3.block hlw2 (fun _ h => h)]
      exact HB2.out
    have hGo : ∀ b, b < w3.heap.size → w.heap.size ≤ b → ¬ (grow F w3.drew w4) b := fun b h1 h2 h => by
      rcases h with h | h
      · exact nF b h2 h
      · have h3 := h.1; skip; omega
    have hG0 : ∀ b, (grow F w3.drew w4) b → F b ∨ w.heap.size ≤ b := fun b h => by
      rcases h with h | h
      · exact .inl h
      · exact .inr (by have h3 := h.1; skip; omega)
    obtain ⟨hn4, rc, hrc, hrl⟩ := hZ _ _ hz4
    obtain ⟨l4, hna4, hb4, ho4, cl4⟩ := hF5.work hn4
    have C1 := hna4.c1
    have z1 := hna4.fz 1
    have s1 : IntKind.i64.wrap (r.cnt - 1) = r.cnt - 1 := IntWalk.i64_in _ (by omega)
    have r8 := (Run.start hna4).setCnt (r.cnt - 1)
    have HB12 := Lib.hid hb12
    have HB18 := Lib.hid hb18
    have HC05 := Lib.hid hc05
    have HH5 := Lib.hid hh5
    have HT5 := Lib.hid ht5
    have hl12 := heap_lt hb12
    have hl5 := heap_lt hb18
    clear hb12 hb18 hc05 hh5 ht5 hna4
    go_upto_region 30 with fail
    refine name_world (fun w6 => w6.heap.size = w5.heap.size ∧ Fam (parM k) w6 (grow (grow F w3.drew w4) w5 w6) (upd H' n ⟨r.cnt - 1, r.items, r.kids⟩) ∧ Chg (fun b _ => (grow F w3.drew w4) b) w5 w6) ⟨by simp, (cl4 _ _ _ r8).1, (cl4 _ _ _ r8).2⟩ ?_
    clear C1 z1 s1 r8 cl4 ho4 hb4
    rintro w6 ⟨hz6, hF6, hc6⟩
    have hb12 : w6.heap[w.heap.size + 1]? = some (.cells #[.int .i64 0, .int .i64 0] 30 (0, 0)) := by rw [hc6.block hl12 (fun _ h => hGo _ (by omega) (Nat.le_add_right _ _) h)]; exact HB12.out
    have hb18 : w6.heap[w2.heap.size]? = some (.cells #[.int .i64 y.1, .int .i64 y.2] 30 (0, 0)) := by rw [hc6.block hl5 (fun _ h => hGo _ hl18 hsz2 h)]; exact HB18.out
    have hc06 : Chg (fun b _ => F b ∨ hv = some b) w w6 := HC05.out.trans' hc6 (fun _ _ _ h => h) (fun b o hb h => (hG0 b h).elim .inl (fun h => by omega))
    have hh6 : HintO hv w6 := HH5.out.chg hc6 (fun b _ e h => (hG0 b h).elim (hvF b e) (fun h => by have := hh.lt e; omega))
    have ht6 := ht.chg hc06 (fun b _ hm e => by
      rcases e with e | e
      · exact htF b hm e
      · exact hvt b e hm)
    have hF7 : Fam (parM k) w6 (grow F w3.drew w4) (upd H' n ⟨r.cnt - 1, r.items, r.kids⟩) := hF6.mono' (fun b h => by rcases h with h | h; exact h; have h1 := h.1; have h2 := h.2; omega) hF5 (by omega)
    obtain ⟨ln, hn6⟩ := hF7.node (upd_same _ _ _)
    obtain ⟨lc, hc6'⟩ := hF7.node ((upd_ne _ _ hcn).trans hrc)
    have n3 := hn6.c3s hk
    have g1 := hn6.cc hk
    rw [List.length_map] at g1
    have g2 := hn6.kidc hk (j := i) (o := some c) (by simp [hc])
    have d2 := hc6'.c2
    have e9 := ht6.c6
    have j0 : (0 : Int) ≤ (i : Int) := by omega
    have j1 : (i : Int) < (kl.length : Int) := by omega
    have HB12' := Lib.hid hb12
    have HB18' := Lib.hid hb18
    have HH6 := Lib.hid hh6
    have HC06 := Lib.hid hc06
    have HT6 := Lib.hid ht6
    have HF7 := Lib.hid hF7
    clear hb12 hb18 hh6 hc06 ht6 hF7 hF6 hn6 hc6' hF5 HB12 HB18 HC05 HH5 HT5 hc6
    refine wp_region_scr (fun w' => w'.cell? ⟨n, 3, none⟩ = some (.pointer (some ⟨ln.cc, 0, none⟩)) ∧ w'.cell? ⟨ln.cc, 0, none⟩ = some (.slice (some ⟨ln.cb, ln.co, none⟩) kl.length ln.ck) ∧ w'.cell? ⟨ln.cb, ln.co + i, none⟩ = some (.pointer (some ⟨c, 0, none⟩)) ∧ w'.cell? ⟨c, 2, none⟩ = some (.slice (some ⟨lc.ib, lc.io, none⟩) rc.items.length lc.ic) ∧ w'.cell? ⟨t, 10, none⟩ = some (.int .i64 mn)) (.soft 0 (.soft 1 (.soft 2 (.soft 3 (.soft 4 (.soft 5 (.soft 6 (.soft 7 (.soft 8 (.soft 9 (.soft 10 (.soft 11 (.soft 12 (.soft 13 (.soft 14 (.soft 15 (.soft 16 (.soft 17 .nil)))))))))))))))))) (by kernel_rfl) (by kernel_rfl) (fun _ _ _ _ _ h => h) ⟨n3, g1, g2, d2, e9⟩ ?_
    repeat
      first
      | (refine scr_soft (by rfl) ?_ ?_ ?_ ?_
         rotate_left
         · simp [Region.wanted, yielded]; done
         · intro w' hS
           try obtain ⟨a1, a2, a3, a4, a5⟩ := hS
           go_simp
           try with_reducible rfl
         simp only [Act.put, List.setIfInBounds_toArray, List.set_cons_zero, List.set_cons_succ])
      | (refine scr_skip (by rfl) ?_ ?_
         · simp [Region.wanted, yielded]; done
         simp only [Act.put, List.setIfInBounds_toArray, List.set_cons_zero, List.set_cons_succ])
    refine scr_nil ?_
    clear n3 g1 g2 d2 e9
    by_cases hlt : rc.items.length < mn
    · have hlt' : (rc.items.length : Int) < (mn : Int) := by omega
      have hGM : ∀ b, MOwn k t b → ¬ (grow F w3.drew w4) b := fun b hm h => (hG0 b h).elim (htF b hm) (fun h => by have := ht.lt hm; omega)
      have HRB := Lib.hid (hreb _ _ _ _ _ hz4 hrc hlt (HF7.out.chg ((Chg.refl (fun _ _ => False) w6).drew) (fun _ _ _ h => h)) (HT6.out.chg ((Chg.refl (fun _ _ => False) w6).drew) (fun _ _ _ h => h)) hGM)
      go_wp2_with fail
      refine HRB.out.mono ?_
      rintro e w8 ⟨rfl, H'', f8, g8, z8⟩
      have hszd6 : w6.drew.heap.size = w6.heap.size := rfl
      have hsz8 := g8.size
      have hb12 : w8.heap[w.heap.size + 1]? = some (.cells #[.int .i64 0, .int .i64 0] 30 (0, 0)) := by rw [g8.block (by omega) (fun _ h => hGo _ (by omega) (Nat.le_add_right _ _) h), hd_drew]; exact HB12'.out
      have hb18 : w8.heap[w2.heap.size]? = some (.cells #[.int .i64 y.1, .int .i64 y.2] 30 (0, 0)) := by rw [g8.block (by omega) (fun _ h => hGo _ hl18 hsz2 h), hd_drew]; exact HB18'.out
      have y0 := frozen_of_block hb12 0
      have y1 := frozen_of_block hb12 1
      have p0 := cell_of_block hb12 0
      have p1 := cell_of_block hb12 1
      simp only [List.getElem?_toArray, List.getElem?_cons_zero, List.getElem?_cons_succ] at p0 p1
      have x0 := frozen_of_block hb18 0
      have x1 := frozen_of_block hb18 1
      have r0 := cell_of_block hb18 0
      have r1 := cell_of_block hb18 1
      simp only [List.getElem?_toArray, List.getElem?_cons_zero, List.getElem?_cons_succ] at r0 r1
      have hc08 : Chg (fun b _ => F b ∨ hv = some b) w w8 := HC06.out.drew.trans' g8 (fun _ _ _ h => h) (fun b o hb h => (hG0 b h).elim .inl (fun h => by omega))
      have hh8 : HintO hv w8 := (HH6.out.keep ((Chg.refl (fun _ _ => False) w6).drew)).chg g8 (fun b _ e h => (hG0 b h).elim (hvF b e) (fun h => by have := hh.lt e; omega))
      have HF8 := Lib.hid f8
      have HC08 := Lib.hid hc08
      have HH8 := Lib.hid hh8
      have HZ8 := Lib.hid z8
      have HBB := Lib.hid hb12
      clear f8 g8 hc08 hh8 z8 hb12 hb18 HRB
      go_wp2_with fail
      refine name_prop (fun wl => Chg (fun b _ => b = w.heap.size + 1) w8 wl ∧ wl.heap[w.heap.size + 1]? = some (.cells #[.int .i64 y.1, .int .i64 y.2] 30 (0, 0))) ⟨?_, blk2 HBB.out _ _⟩ ?_
      · repeat (first | refine Chg.drew ?_ | refine Chg.drewN ?_ _ | refine Chg.setCell ?_ (.inl rfl) _ | exact Chg.refl _ _)
      clear p0 p1 r0 r1
      rintro wl ⟨hcl, hbl⟩
      have p0 := cell_of_block hbl 0
      have p1 := cell_of_block hbl 1
      simp only [List.getElem?_toArray, List.getElem?_cons_zero, List.getElem?_cons_succ] at p0 p1
      refine bodyPost_ret (v := .tuple #[.agg #[.int .i64 y.1, .int .i64 y.2], .bool true]) (by simp [results, Try.results88, go_sem, p0, p1]) rfl ?_
      have f9 := HF8.out.chg hcl (fun b o hb e => by
        rcases hb with hb | hb
        · exact hGo b (by omega) (by omega) hb
        · have h1 := hb.1; omega)
      refine ⟨H'', some y, rfl, f9.mono (fun b hb => ?_) (fun b hb => ?_), HC08.out.trans' hcl (fun _ _ _ h => h) (fun b o hb e => by omega), HH8.out.chg hcl (fun b _ e e2 => by have := hh.lt e; omega), HZ8.out⟩
      · have hbl := Nat.lt_of_lt_of_le (HF8.out.lt hb) hcl.size
        rcases hb with hb | hb
        · exact (hG0 b hb).elim .inl (fun h => .inr ⟨h, hbl⟩)
        · exact .inr ⟨by have := hb.1; omega, hbl⟩
      · rcases hb with hb | hb
        · exact Nat.lt_of_lt_of_le (hF.lt hb) (HC08.out.trans' hcl (B := fun _ _ => True) (fun _ _ _ _ => trivial) (fun _ _ _ _ => trivial)).size
        · exact hb.2
    · have hlt' : ¬ (rc.items.length : Int) < (mn : Int) := by omega
      have HOK := Lib.hid (hok _ _ _ hz4 hrc (by omega))
      have y0 := frozen_of_block HB12'.out 0
      have y1 := frozen_of_block HB12'.out 1
      have p0 := cell_of_block HB12'.out 0
      have p1 := cell_of_block HB12'.out 1
      simp only [List.getElem?_toArray, List.getElem?_cons_zero, List.getElem?_cons_succ] at p0 p1
      have x0 := frozen_of_block HB18'.out 0
      have x1 := frozen_of_block HB18'.out 1
      have r0 := cell_of_block HB18'.out 0
      have r1 := cell_of_block HB18'.out 1
      simp only [List.getElem?_toArray, List.getElem?_cons_zero, List.getElem?_cons_succ] at r0 r1
      go_wp2_with fail
      refine name_prop (fun wl => Chg (fun b _ => b = w.heap.size + 1) w6 wl ∧ wl.heap[w.heap.size + 1]? = some (.cells #[.int .i64 y.1, .int .i64 y.2] 30 (0, 0))) ⟨?_, blk2 HB12'.out _ _⟩ ?_
      · repeat (first | refine Chg.drew ?_ | refine Chg.drewN ?_ _ | refine Chg.setCell ?_ (.inl rfl) _ | exact Chg.refl _ _)
      clear p0 p1 r0 r1
      rintro wl ⟨hcl, hbl⟩
      have p0 := cell_of_block hbl 0
      have p1 := cell_of_block hbl 1
      simp only [List.getElem?_toArray, List.getElem?_cons_zero, List.getElem?_cons_succ] at p0 p1
      refine bodyPost_ret (v := .tuple #[.agg #[.int .i64 y.1, .int .i64 y.2], .bool true]) (by simp [results, Try.results88, go_sem, p0, p1]) rfl ?_
      have f9 := HF7.out.chg hcl (fun b o hb e => hGo b (by omega) (by omega) hb)
      refine ⟨_, some y, rfl, f9.mono (fun b hb => ?_) (fun b hb => ?_), HC06.out.trans' hcl (fun _ _ _ h => h) (fun b o hb e => by omega), HH6.out.chg hcl (fun b _ e e2 => by have := hh.lt e; omega), HOK.out⟩
      · have hbl := f9.lt hb
        exact (hG0 b hb).elim .inl (fun h => .inr ⟨h, hbl⟩)
      · rcases hb with hb | hb
        · exact Nat.lt_of_lt_of_le (hF.lt hb) (HC06.out.trans' hcl (B := fun _ _ => True) (fun _ _ _ _ => trivial) (fun _ _ _ _ => trivial)).size
        · exact hb.2
end Go.Proofs.Ytgdchpinlboejaa

namespace Go.Proofs.Ytgdchpinlboejaa
set_option linter.unusedSimpArgs false
set_option linter.unusedVariables false
open Go.RowKit

variable {ord : List Int}

set_option maxRecDepth 100000 in
set_option maxHeartbeats 4000000 in
theorem delete_kid_max {k : Kc ord} {mn mx t n c : Nat} {pa : Addr} {j i : Nat} {r : NodeR (It ord)} {w : World} {F : Nat → Prop} {H : Nat → Option (NodeR (It ord))} {kl : List Nat} (hF : Fam (parM k) w F H) (ht : MapAt k mn mx w t) (htF : ∀ b, MOwn k t b → ¬ F b) (hn : H n = some r)
    (hpa : w.cell? pa = some (.pointer (some ⟨n, 0, none⟩))) (hlen : r.items.length ≤ 1000) (hil : r.items.length = j + 1) (hij : i = j + 1) (hk : r.kids = some (kl.map some)) (hc : kl[i]? = some c) (hcn : c ≠ n) (hc0 : 0 ≤ r.cnt ∧ r.cnt ≤ 100000000000000)
    (Z Z2 : (Nat → Option (NodeR (It ord))) → Option (It ord) → Prop)
    (hcall : ∀ w1 pa1, Chg (fun _ _ => False) w w1 → Fam (parM k) w1 F H → MapAt k mn mx w1 t → w1.cell? pa1 = some (.pointer (some ⟨c, 0, none⟩)) → Calls Try.prog 88 #[.pointer (some ⟨t, 0, none⟩), .pointer (some pa1), .bool true, .agg #[.int .i64 0, .int .i64 0], .pointer none, .int .i64 0] w1 (DelPost k F none Z w1))
    (hZ : ∀ H' o, Z H' o → H' n = some r ∧ ∃ rc, H' c = some rc ∧ rc.items.length ≤ 1000)
    (hZ0 : ∀ H', ¬ Z H' none)
    (hok : ∀ H' y rc, Z H' (some y) → H' c = some rc → mn ≤ rc.items.length → Z2 (upd H' n ⟨r.cnt - 1, r.items, r.kids⟩) (some y))
    (hreb : ∀ H' y rc w1 F1, Z H' (some y) → H' c = some rc → rc.items.length < mn → Fam (parM k) w1 F1 (upd H' n ⟨r.cnt - 1, r.items, r.kids⟩) → MapAt k mn mx w1 t → (∀ b, MOwn k t b → ¬ F1 b) → Calls Try.prog 98 #[.pointer (some ⟨t, 0, none⟩), .pointer (some ⟨n, 0, none⟩), .int .i64 i] w1 (RebPost' k F1 (fun H'' => Z2 H'' (some y)) w1)) :
    Calls Try.prog 88 #[.pointer (some ⟨t, 0, none⟩), .pointer (some pa), .bool true, .agg #[.int .i64 0, .int .i64 0], .pointer none, .int .i64 0] w (DelPost k F none Z2 w) := by
  obtain ⟨hv, hvn⟩ : ∃ hv : Option Nat, hv = none := ⟨_, rfl⟩
  have e : DelPost k F none Z2 w = DelPost k F hv Z2 w := by rw [hvn]
  rw [e]
  clear e
  have hh : HintO hv w := by rw [hvn]; exact HintO.none w
  have hvF : ∀ b, hv = some b → ¬ F b := fun b e => by rw [hvn] at e; cases e
  have hvt : ∀ b, hv = some b → ¬ MOwn k t b := fun b e => by rw [hvn] at e; cases e
  replace hvn := Lib.hid hvn
  have s2 : IntKind.i64.wrap ((j : Int) + 1) = (i : Int) := (by rw [IntWalk.i64_in _ (by omega)]; omega)
  have hkl0 := (List.getElem?_eq_some_iff.1 hc).1
  replace hij := Lib.hid hij
  obtain ⟨l0, hn0⟩ := hF.node hn
  have t0 := ht.c0
  have n0 := hn0.c0
  have hpk : (parM k).k = k.iso := rfl
  rw [hpk] at n0
  have nlt : n < w.heap.size := World.block_lt_of_cell? w _ n0
  have tlt : t < w.heap.size := World.block_lt_of_cell? w _ t0
  have plt := World.block_lt_of_cell? w _ hpa
  have hpa2 : ∀ o o', ((w.alloc o).alloc o').cell? pa = some (.pointer (some ⟨n, 0, none⟩)) := fun o o' => by rw [World.cell?_alloc_lt _ _ _ (by simp; omega), World.cell?_alloc_lt w _ _ plt]; exact hpa
  have hn1 : ∀ o o', ((w.alloc o).alloc o').cell? ⟨n, 0, none⟩ = some (.int .u64 k.iso) := fun o o' => ((hn0.chg (((Chg.refl (fun _ _ => False) w).alloc o).alloc o') (fun _ _ _ h => h)).c0)
  have ht1 : ∀ o o', ((w.alloc o).alloc o').cell? ⟨t, 0, none⟩ = some (.int .u64 k.iso) := fun o o' => ((ht.chg (((Chg.refl (fun _ _ => False) w).alloc o).alloc o') (fun _ _ _ h => h)).c0)
  have hn2 : ∀ o o', ((w.alloc o).alloc o').cell? ⟨n, 2, none⟩ = some (.slice (some ⟨l0.ib, l0.io, none⟩) r.items.length l0.ic) := fun o o' => ((hn0.chg (((Chg.refl (fun _ _ => False) w).alloc o).alloc o') (fun _ _ _ h => h)).c2); have s1 : IntKind.i64.wrap ((r.items.length : Int) - 1) = (j : Int) := (by rw [IntWalk.i64_in _ (by omega)]; omega); replace hil := Lib.hid hil
  skip
  go_enter Try.func88, Try.ntmps88
  go_wp2_with (go_at_call 67; refine (isoLoad_any _ n k _ _ _ ?_ ?_ ?_).mono ?_; (focus go_simp); (focus go_simp); (focus go_simp); rintro e w' ⟨rfl, m, rfl⟩)
  refine name_calls (fun w1 => Chg (fun _ _ => False) w w1 ∧ w1.heap[w.heap.size]? = some (.cells #[.int .i64 0, .int .i64 0] 30 (0, 0)) ∧ w1.heap[w.heap.size + 1]? = some (.cells #[.int .i64 0, .int .i64 0] 30 (0, 0))) ⟨?_, ?_, ?_⟩ ?_
  · exact (((Chg.refl _ _).alloc _).alloc _).drewN _
  · rw [hd_drewN, ha_lt _ _ (by simp)]; exact ha_at _ _ rfl
  · rw [hd_drewN]; exact ha_at _ _ (by simp)
  rintro w2 ⟨hc1, hb1, hb2⟩
  have hna1 := hn0.chg hc1 (fun _ _ _ h => h)
  have ht1' := ht.chg hc1 (by simp)
  clear hn1 ht1 hpa2 t0 n0 hn0 hn2 s1
  have hcw2 : Chg (fun b _ => hv = some b) w w2 := hc1.mono (fun _ _ _ h => h.elim)
  have hF2 := hF.chg hc1 (fun _ _ _ h => h)
  have htt2 := ht.chg hc1 (fun _ _ _ h => h)
  have hb1' := hb1
  have hb2' := hb2
  have hlw2 := heap_lt hb2
  have hh2 := hh.keep hc1
  have hcn2 := hc1
  have hnv : ∀ b, w.heap.size ≤ b → ¬ hv = some b := fun b hb e => by have := hh.lt e; omega
  clear hb1 hb2 ht1' hna1 hc1
  obtain ⟨l, hna, hbl, ho, cl⟩ := hF2.work hn
  have HB1 := Lib.hid hb1'
  have HB2 := Lib.hid hb2'
  have HH2 := Lib.hid hh2
  have q0 := cell_of_block hb1' 0
  have q1 := cell_of_block hb1' 1
  simp only [List.getElem?_toArray, List.getElem?_cons_zero, List.getElem?_cons_succ] at q0 q1
  have n3 := hna.c3s hk
  have hkl := (List.getElem?_eq_some_iff.1 hc).1
  have g1 := hna.cc hk
  rw [List.length_map] at g1
  have g2 := hna.kidc hk (j := i) (o := some c) (by simp [hc])
  clear hna hb1' hb2' hh2
  go_wp2_with (go_at_call 70; refine (leaf_any _ (some ⟨l.cc, 0, none⟩) _ ?_).mono ?_; (focus go_simp); rintro e w' ⟨rfl, rfl⟩)
  refine name_world (fun w3 => Chg (fun _ _ => False) w2 w3 ∧ w3.heap[w2.heap.size]? = some (.cells #[.int .i64 0, .int .i64 0] 30 (0, 0))) ⟨(Chg.refl _ _).alloc _, ha_at _ _ rfl⟩ ?_
  rintro w3 ⟨hc3, hb18⟩
  replace q0 := hc3.cell (fun h => h) q0
  replace q1 := hc3.cell (fun h => h) q1
  replace n3 := hc3.cell (fun h => h) n3
  replace g1 := hc3.cell (fun h => h) g1
  replace g2 := hc3.cell (fun h => h) g2
  have hcw3 := hcw2.trans (hc3.mono (fun _ _ _ h => h.elim))
  have j0 : (0 : Int) ≤ (i : Int) := by omega
  have j1 : (i : Int) < (kl.length : Int) := by omega
  have HB18 := Lib.hid hb18
  have hl18 := heap_lt hb18
  clear hb18
  have ht3 := htt2.chg hc3 (fun _ _ _ h => h)
  have e4 := ht3.c4
  have e5 := ht3.c5
  refine wp_region_callt (fun w' => w'.cell? ⟨t, 7, none⟩ = some (.int .i64 0) ∧ w'.cell? ⟨t, 8, none⟩ = some (.int .i64 0) ∧ w'.cell? ⟨n, 3, none⟩ = some (.pointer (some ⟨l.cc, 0, none⟩)) ∧ w'.cell? ⟨l.cc, 0, none⟩ = some (.slice (some ⟨l.cb, l.co, none⟩) kl.length l.ck))
    13 [0, 1, 2, 3, 4, 5, 6, 7, 8, 9, 10, 11, 12] _ [(14, true), (15, true), (16, true), (17, false), (18, true)] (by kernel_rfl) (by kernel_rfl) (fun _ _ _ _ _ h => h) rfl rfl ⟨e4, e5, n3, g1⟩ ?_
  simp only [pickOps, List.filterMap_cons, List.filterMap_nil, List.getElem?_cons_zero, List.getElem?_cons_succ]
  refine wpSoft_step ?_ rfl ?_ ?_
  rotate_left
  · intro w' hS
    try obtain ⟨a1, a2, a3, a4⟩ := hS
    go_simp
    try with_reducible rfl
  simp only [Act.put, List.setIfInBounds_toArray, List.set_cons_zero, List.set_cons_succ]
  refine wpSoft_step ?_ rfl ?_ ?_
  rotate_left
  · intro w' hS
    try obtain ⟨a1, a2, a3, a4⟩ := hS
    go_simp
    try with_reducible rfl
  simp only [Act.put, List.setIfInBounds_toArray, List.set_cons_zero, List.set_cons_succ]
  refine wpSoft_step ?_ rfl ?_ ?_
  rotate_left
  · intro w' hS
    try obtain ⟨a1, a2, a3, a4⟩ := hS
    go_simp
    try with_reducible rfl
  simp only [Act.put, List.setIfInBounds_toArray, List.set_cons_zero, List.set_cons_succ]
  refine wpSoft_step ?_ rfl ?_ ?_
  rotate_left
  · intro w' hS
    try obtain ⟨a1, a2, a3, a4⟩ := hS
    go_simp
    try with_reducible rfl
  simp only [Act.put, List.setIfInBounds_toArray, List.set_cons_zero, List.set_cons_succ]
  refine wpSoft_step ?_ rfl ?_ ?_
  rotate_left
  · intro w' hS
    try obtain ⟨a1, a2, a3, a4⟩ := hS
    go_simp
    try with_reducible rfl
  simp only [Act.put, List.setIfInBounds_toArray, List.set_cons_zero, List.set_cons_succ]
  refine wpSoft_step ?_ rfl ?_ ?_
  rotate_left
  · intro w' hS
    try obtain ⟨a1, a2, a3, a4⟩ := hS
    go_simp
    try with_reducible rfl
  simp only [Act.put, List.setIfInBounds_toArray, List.set_cons_zero, List.set_cons_succ]
  refine wpSoft_step ?_ rfl ?_ ?_
  rotate_left
  · intro w' hS
    try obtain ⟨a1, a2, a3, a4⟩ := hS
    go_simp
    try with_reducible rfl
  simp only [Act.put, List.setIfInBounds_toArray, List.set_cons_zero, List.set_cons_succ]
  refine wpSoft_step ?_ rfl ?_ ?_
  rotate_left
  · intro w' hS
    try obtain ⟨a1, a2, a3, a4⟩ := hS
    go_simp
    try with_reducible rfl
  simp only [Act.put, List.setIfInBounds_toArray, List.set_cons_zero, List.set_cons_succ]
  refine wpSoft_step ?_ rfl ?_ ?_
  rotate_left
  · intro w' hS
    try obtain ⟨a1, a2, a3, a4⟩ := hS
    go_simp
    try with_reducible rfl
  simp only [Act.put, List.setIfInBounds_toArray, List.set_cons_zero, List.set_cons_succ]
  refine wpSoft_step ?_ rfl ?_ ?_
  rotate_left
  · intro w' hS
    try obtain ⟨a1, a2, a3, a4⟩ := hS
    go_simp
    try with_reducible rfl
  simp only [Act.put, List.setIfInBounds_toArray, List.set_cons_zero, List.set_cons_succ]
  refine wpSoft_step ?_ rfl ?_ ?_
  rotate_left
  · intro w' hS
    try obtain ⟨a1, a2, a3, a4⟩ := hS
    go_simp
    try with_reducible rfl
  simp only [Act.put, List.setIfInBounds_toArray, List.set_cons_zero, List.set_cons_succ]
  refine wpSoft_step ?_ rfl ?_ ?_
  rotate_left
  · intro w' hS
    try obtain ⟨a1, a2, a3, a4⟩ := hS
    go_simp
    try with_reducible rfl
  simp only [Act.put, List.setIfInBounds_toArray, List.set_cons_zero, List.set_cons_succ]
  refine wpSoft_step ?_ rfl ?_ ?_
  rotate_left
  · intro w' hS
    try obtain ⟨a1, a2, a3, a4⟩ := hS
    go_simp
    try with_reducible rfl
  simp only [Act.put, List.setIfInBounds_toArray, List.set_cons_zero, List.set_cons_succ]
  refine wpSoft_nil ?_
  refine wp_hide (fun K hK => ?_)
  go_simp
  go_at_call 88
  have hcn3 := (hcn2.trans hc3).drew
  refine (hcall _ _ hcn3 (hF.chg hcn3 (fun _ _ _ h => h)) (ht.chg hcn3 (fun _ _ _ h => h)) g2).mono ?_
  rintro e w4 ⟨H', o, rfl, hF4, hc4', _, hz4⟩
  have hc4 : Chg (fun b _ => F b ∨ hv = some b) w3 w4 := ((Chg.refl _ _).drew).trans (hc4'.mono (fun _ _ _ h => h.elim .inl (fun e => by cases e)))
  have hh4 : HintO hv w4 := by rw [hvn.out]; exact HintO.none w4
  clear hc4' q0 q1 n3 g1 g2 j0 j1 e4 e5 ht3
  have nF : ∀ b, w.heap.size ≤ b → ¬ F b := fun b hb h => Nat.lt_irrefl _ (Nat.lt_of_lt_of_le (hF.lt h) hb)
  have hsz2 := hcw2.size
  have hsz3 := hc3.size
  have hb18 : w4.heap[w2.heap.size]? = some (.cells #[.int .i64 0, .int .i64 0] 30 (0, 0)) := by
    rw [hc4.block (by simpa using hl18) (fun _ h => by
      rcases h with h | h
      · exact nF _ hsz2 h
      · exact hnv _ hsz2 h)]
    exact HB18.out
  have y0 := frozen_of_block hb18 0
  have y1 := frozen_of_block hb18 1
  have p0 := cell_of_block hb18 0
  have p1 := cell_of_block hb18 1
  simp only [List.getElem?_toArray, List.getElem?_cons_zero, List.getElem?_cons_succ] at p0 p1
  have HB18' := Lib.hid hb18
  have HF4 := Lib.hid hF4
  have HC4 := Lib.hid hc4
  clear hb18 HB18 hF4 hc4
  refine hK _ _ ?_
  clear hK K
  rcases o with _ | y
  · exact absurd hz4 (hZ0 H')
  · unfold lastV
    refine script_soft (by rfl) ?_ (by simp [Region.wanted, yielded]) ?_ ?_
    rotate_left
    · intro w' hS
      try obtain ⟨a1⟩ := hS
      go_simp
      try with_reducible rfl
    simp only [Act.put, List.setIfInBounds_toArray, List.set_cons_zero, List.set_cons_succ]
    refine script_soft (by rfl) ?_ (by simp [Region.wanted, yielded]) ?_ ?_
    rotate_left
    · intro w' hS
      try obtain ⟨a1⟩ := hS
      go_simp
      try with_reducible rfl
    simp only [Act.put, List.setIfInBounds_toArray, List.set_cons_zero, List.set_cons_succ]
    refine script_soft (by rfl) ?_ (by simp [Region.wanted, yielded]) ?_ ?_
    rotate_left
    · intro w' hS
      try obtain ⟨a1⟩ := hS
      go_simp
      try with_reducible rfl
    simp only [Act.put, List.setIfInBounds_toArray, List.set_cons_zero, List.set_cons_succ]
    refine script_hard (by rfl) (by simp [Region.wanted, yielded]) (fun K hK => ?_)
    go_simp
    refine hK _ _ (fun _ => trivial) ?_
    clear hK K
    refine script_soft (by rfl) ?_ (by simp [Region.wanted, yielded]) ?_ ?_
    rotate_left
    · intro w' hS
      try obtain ⟨a1⟩ := hS
      go_simp
      try with_reducible rfl
    simp only [Act.put, List.setIfInBounds_toArray, List.set_cons_zero, List.set_cons_succ]
    refine script_nil ?_
    refine name_prop (fun w5 => Chg (fun b _ => b = w2.heap.size) w4 w5 ∧ w5.heap[w2.heap.size]? = some (.cells #[.int .i64 y.1, .int .i64 y.2] 30 (0, 0))) ⟨?_, blk2 HB18'.out _ _⟩ ?_
    · repeat (first | refine Chg.drew ?_ | refine Chg.drewN ?_ _ | refine Chg.setCell ?_ (.inl rfl) _ | exact Chg.refl _ _)
    clear p0 p1 y0 y1 HB18'
    rintro w5 ⟨hc5, hb18⟩
    have hsz4 := HC4.out.size
    have hszd : w3.drew.heap.size = w3.heap.size := rfl
    have hc05 : Chg (fun b _ => F b ∨ hv = some b) w w5 := ((hcw3.mono (fun _ _ _ h => .inr h)).trans (HC4.out.mono (fun _ _ _ h => h))).trans' hc5 (fun _ _ _ h => h) (fun b o hb e => by omega)
    have hF5 := HF4.out.chg hc5 (fun b o hb e => by
      rcases hb with hb | hb
      · exact nF b (by omega) hb
      · have h1 := hb.1; omega)
    have hh5 : HintO hv w5 := hh4.chg hc5 (fun b _ e e2 => by have := hh.lt e; omega)
    have ht5 := ht.chg hc05 (fun b _ hm e => by
      rcases e with e | e
      · exact htF b hm e
      · exact hvt b e hm)
    have hb12 : w5.heap[w.heap.size + 1]? = some (.cells #[.int .i64 0, .int .i64 0] 30 (0, 0)) := by
      rw [hc5.block (by omega) (fun _ e => by omega), HC4.out.block (by omega) (fun _ h => by
        rcases h with h | h
        · exact nF _ (Nat.le_add_right _ _) h
        · exact hnv _ (Nat.le_add_right _ _) h), hc3.block hlw2 (fun _ h => h)]
      exact HB2.out
    have hGo : ∀ b, b < w3.heap.size → w.heap.size ≤ b → ¬ (grow F w3.drew w4) b := fun b h1 h2 h => by
      rcases h with h | h
      · exact nF b h2 h
      · have h3 := h.1; skip; omega
    have hG0 : ∀ b, (grow F w3.drew w4) b → F b ∨ w.heap.size ≤ b := fun b h => by
      rcases h with h | h
      · exact .inl h
      · exact .inr (by have h3 := h.1; skip; omega)
    obtain ⟨hn4, rc, hrc, hrl⟩ := hZ _ _ hz4
    obtain ⟨l4, hna4, hb4, ho4, cl4⟩ := hF5.work hn4
    have C1 := hna4.c1
    have z1 := hna4.fz 1
    have s1 : IntKind.i64.wrap (r.cnt - 1) = r.cnt - 1 := IntWalk.i64_in _ (by omega)
    have r8 := (Run.start hna4).setCnt (r.cnt - 1)
    have HB12 := Lib.hid hb12
    have HB18 := Lib.hid hb18
    have HC05 := Lib.hid hc05
    have HH5 := Lib.hid hh5
    have HT5 := Lib.hid ht5
    have hl12 := heap_lt hb12
    have hl5 := heap_lt hb18
    clear hb12 hb18 hc05 hh5 ht5 hna4
    go_upto_region 30 with fail
    refine name_world (fun w6 => w6.heap.size = w5.heap.size ∧ Fam (parM k) w6 (grow (grow F w3.drew w4) w5 w6) (upd H' n ⟨r.cnt - 1, r.items, r.kids⟩) ∧ Chg (fun b _ => (grow F w3.drew w4) b) w5 w6) ⟨by simp, (cl4 _ _ _ r8).1, (cl4 _ _ _ r8).2⟩ ?_
    clear C1 z1 s1 r8 cl4 ho4 hb4
    rintro w6 ⟨hz6, hF6, hc6⟩
    have hb12 : w6.heap[w.heap.size + 1]? = some (.cells #[.int .i64 0, .int .i64 0] 30 (0, 0)) := by rw [hc6.block hl12 (fun _ h => hGo _ (by omega) (Nat.le_add_right _ _) h)]; exact HB12.out
    have hb18 : w6.heap[w2.heap.size]? = some (.cells #[.int .i64 y.1, .int .i64 y.2] 30 (0, 0)) := by rw [hc6.block hl5 (fun _ h => hGo _ hl18 hsz2 h)]; exact HB18.out
    have hc06 : Chg (fun b _ => F b ∨ hv = some b) w w6 := HC05.out.trans' hc6 (fun _ _ _ h => h) (fun b o hb h => (hG0 b h).elim .inl (fun h => by omega))
    have hh6 : HintO hv w6 := HH5.out.chg hc6 (fun b _ e h => (hG0 b h).elim (hvF b e) (fun h => by have := hh.lt e; omega))
    have ht6 := ht.chg hc06 (fun b _ hm e => by
      rcases e with e | e
      · exact htF b hm e
      · exact hvt b e hm)
    have hF7 : Fam (parM k) w6 (grow F w3.drew w4) (upd H' n ⟨r.cnt - 1, r.items, r.kids⟩) := hF6.mono' (fun b h => by rcases h with h | h; exact h; have h1 := h.1; have h2 := h.2; omega) hF5 (by omega)
    obtain ⟨ln, hn6⟩ := hF7.node (upd_same _ _ _)
    obtain ⟨lc, hc6'⟩ := hF7.node ((upd_ne _ _ hcn).trans hrc)
    have n3 := hn6.c3s hk
    have g1 := hn6.cc hk
    rw [List.length_map] at g1
    have g2 := hn6.kidc hk (j := i) (o := some c) (by simp [hc])
    have d2 := hc6'.c2
    have e9 := ht6.c6
    have j0 : (0 : Int) ≤ (i : Int) := by omega
    have j1 : (i : Int) < (kl.length : Int) := by omega
    have HB12' := Lib.hid hb12
    have HB18' := Lib.hid hb18
    have HH6 := Lib.hid hh6
    have HC06 := Lib.hid hc06
    have HT6 := Lib.hid ht6
    have HF7 := Lib.hid hF7
    clear hb12 hb18 hh6 hc06 ht6 hF7 hF6 hn6 hc6' hF5 HB12 HB18 HC05 HH5 HT5 hc6
    refine wp_region_scr (fun w' => w'.cell? ⟨n, 3, none⟩ = some (.pointer (some ⟨ln.cc, 0, none⟩)) ∧ w'.cell? ⟨ln.cc, 0, none⟩ = some (.slice (some ⟨ln.cb, ln.co, none⟩) kl.length ln.ck) ∧ w'.cell? ⟨ln.cb, ln.co + i, none⟩ = some (.pointer (some ⟨c, 0, none⟩)) ∧ w'.cell? ⟨c, 2, none⟩ = some (.slice (some ⟨lc.ib, lc.io, none⟩) rc.items.length lc.ic) ∧ w'.cell? ⟨t, 10, none⟩ = some (.int .i64 mn)) (.soft 0 (.soft 1 (.soft 2 (.soft 3 (.soft 4 (.soft 5 (.soft 6 (.soft 7 (.soft 8 (.soft 9 (.soft 10 (.soft 11 (.soft 12 (.soft 13 (.soft 14 (.soft 15 (.soft 16 (.soft 17 .nil)))))))))))))))))) (by kernel_rfl) (by kernel_rfl) (fun _ _ _ _ _ h => h) ⟨n3, g1, g2, d2, e9⟩ ?_
    repeat
      first
      | (refine scr_soft (by rfl) ?_ ?_ ?_ ?_
         rotate_left
         · simp [Region.wanted, yielded]; done
         · intro w' hS
           try obtain ⟨a1, a2, a3, a4, a5⟩ := hS
           go_simp
           try with_reducible rfl
         simp only [Act.put, List.setIfInBounds_toArray, List.set_cons_zero, List.set_cons_succ])
      | (refine scr_skip (by rfl) ?_ ?_
         · simp [Region.wanted, yielded]; done
         simp only [Act.put, List.setIfInBounds_toArray, List.set_cons_zero, List.set_cons_succ])
    refine scr_nil ?_
    clear n3 g1 g2 d2 e9
    by_cases hlt : rc.items.length < mn
    · have hlt' : (rc.items.length : Int) < (mn : Int) := by omega
      have hGM : ∀ b, MOwn k t b → ¬ (grow F w3.drew w4) b := fun b hm h => (hG0 b h).elim (htF b hm) (fun h => by have := ht.lt hm; omega)
      have HRB := Lib.hid (hreb _ _ _ _ _ hz4 hrc hlt (HF7.out.chg ((Chg.refl (fun _ _ => False) w6).drew) (fun _ _ _ h => h)) (HT6.out.chg ((Chg.refl (fun _ _ => False) w6).drew) (fun _ _ _ h => h)) hGM)
      go_wp2_with fail
      refine HRB.out.mono ?_
      rintro e w8 ⟨rfl, H'', f8, g8, z8⟩
      have hszd6 : w6.drew.heap.size = w6.heap.size := rfl
      have hsz8 := g8.size
      have hb12 : w8.heap[w.heap.size + 1]? = some (.cells #[.int .i64 0, .int .i64 0] 30 (0, 0)) := by rw [g8.block (by omega) (fun _ h => hGo _ (by omega) (Nat.le_add_right _ _) h), hd_drew]; exact HB12'.out
      have hb18 : w8.heap[w2.heap.size]? = some (.cells #[.int .i64 y.1, .int .i64 y.2] 30 (0, 0)) := by rw [g8.block (by omega) (fun _ h => hGo _ hl18 hsz2 h), hd_drew]; exact HB18'.out
      have y0 := frozen_of_block hb12 0
      have y1 := frozen_of_block hb12 1
      have p0 := cell_of_block hb12 0
      have p1 := cell_of_block hb12 1
      simp only [List.getElem?_toArray, List.getElem?_cons_zero, List.getElem?_cons_succ] at p0 p1
      have x0 := frozen_of_block hb18 0
      have x1 := frozen_of_block hb18 1
      have r0 := cell_of_block hb18 0
      have r1 := cell_of_block hb18 1
      simp only [List.getElem?_toArray, List.getElem?_cons_zero, List.getElem?_cons_succ] at r0 r1
      have hc08 : Chg (fun b _ => F b ∨ hv = some b) w w8 := HC06.out.drew.trans' g8 (fun _ _ _ h => h) (fun b o hb h => (hG0 b h).elim .inl (fun h => by omega))
      have hh8 : HintO hv w8 := (HH6.out.keep ((Chg.refl (fun _ _ => False) w6).drew)).chg g8 (fun b _ e h => (hG0 b h).elim (hvF b e) (fun h => by have := hh.lt e; omega))
      have HF8 := Lib.hid f8
      have HC08 := Lib.hid hc08
      have HH8 := Lib.hid hh8
      have HZ8 := Lib.hid z8
      have HBB := Lib.hid hb12
      clear f8 g8 hc08 hh8 z8 hb12 hb18 HRB
      go_wp2_with fail
      refine name_prop (fun wl => Chg (fun b _ => b = w.heap.size + 1) w8 wl ∧ wl.heap[w.heap.size + 1]? = some (.cells #[.int .i64 y.1, .int .i64 y.2] 30 (0, 0))) ⟨?_, blk2 HBB.out _ _⟩ ?_
      · repeat (first | refine Chg.drew ?_ | refine Chg.drewN ?_ _ | refine Chg.setCell ?_ (.inl rfl) _ | exact Chg.refl _ _)
      clear p0 p1 r0 r1
      rintro wl ⟨hcl, hbl⟩
      have p0 := cell_of_block hbl 0
      have p1 := cell_of_block hbl 1
      simp only [List.getElem?_toArray, List.getElem?_cons_zero, List.getElem?_cons_succ] at p0 p1
      refine bodyPost_ret (v := .tuple #[.agg #[.int .i64 y.1, .int .i64 y.2], .bool true]) (by simp [results, Try.results88, go_sem, p0, p1]) rfl ?_
      have f9 := HF8.out.chg hcl (fun b o hb e => by
        rcases hb with hb | hb
        · exact hGo b (by omega) (by omega) hb
        · have h1 := hb.1; omega)
      refine ⟨H'', some y, rfl, f9.mono (fun b hb => ?_) (fun b hb => ?_), HC08.out.trans' hcl (fun _ _ _ h => h) (fun b o hb e => by omega), HH8.out.chg hcl (fun b _ e e2 => by have := hh.lt e; omega), HZ8.out⟩
      · have hbl := Nat.lt_of_lt_of_le (HF8.out.lt hb) hcl.size
        rcases hb with hb | hb
        · exact (hG0 b hb).elim .inl (fun h => .inr ⟨h, hbl⟩)
        · exact .inr ⟨by have := hb.1; omega, hbl⟩
      · rcases hb with hb | hb
        · exact Nat.lt_of_lt_of_le (hF.lt hb) (HC08.out.trans' hcl (B := fun _ _ => True) (fun _ _ _ _ => trivial) (fun _ _ _ _ => trivial)).size
        · exact hb.2
    · have hlt' : ¬ (rc.items.length : Int) < (mn : Int) := by omega
      have HOK := Lib.hid (hok _ _ _ hz4 hrc (by omega))
      have y0 := frozen_of_block HB12'.out 0
      have y1 := frozen_of_block HB12'.out 1
      have p0 := cell_of_block HB12'.out 0
      have p1 := cell_of_block HB12'.out 1
      simp only [List.getElem?_toArray, List.getElem?_cons_zero, List.getElem?_cons_succ] at p0 p1
      have x0 := frozen_of_block HB18'.out 0
      have x1 := frozen_of_block HB18'.out 1
      have r0 := cell_of_block HB18'.out 0
      have r1 := cell_of_block HB18'.out 1
      simp only [List.getElem?_toArray, List.getElem?_cons_zero, List.getElem?_cons_succ] at r0 r1
      go_wp2_with fail
      refine name_prop (fun wl => Chg (fun b _ => b = w.heap.size + 1) w6 wl ∧ wl.heap[w.heap.size + 1]? = some (.cells #[.int .i64 y.1, .int .i64 y.2] 30 (0, 0))) ⟨?_, blk2 HB12'.out _ _⟩ ?_
      · repeat (first | refine Chg.drew ?_ | refine Chg.drewN ?_ _ | refine Chg.setCell ?_ (.inl rfl) _ | exact Chg.refl _ _)
      clear p0 p1 r0 r1
      rintro wl ⟨hcl, hbl⟩
      have p0 := cell_of_block hbl 0
      have p1 := cell_of_block hbl 1
      simp only [List.getElem?_toArray, List.getElem?_cons_zero, List.getElem?_cons_succ] at p0 p1
      refine bodyPost_ret (v := .tuple #[.agg #[.int .i64 y.1, .int .i64 y.2], .bool true]) (by simp [results, Try.results88, go_sem, p0, p1]) rfl ?_
      have f9 := HF7.out.chg hcl (fun b o hb e => hGo b (by omega) (by omega) hb)
      refine ⟨_, some y, rfl, f9.mono (fun b hb => ?_) (fun b hb => ?_), HC06.out.trans' hcl (fun _ _ _ h => h) (fun b o hb e => by omega), HH6.out.chg hcl (fun b _ e e2 => by have := hh.lt e; omega), HOK.out⟩
      · have hbl := f9.lt hb
        exact (hG0 b hb).elim .inl (fun h => .inr ⟨h, hbl⟩)
      · rcases hb with hb | hb
        · exact Nat.lt_of_lt_of_le (hF.lt hb) (HC06.out.trans' hcl (B := fun _ _ => True) (fun _ _ _ _ => trivial) (fun _ _ _ _ => trivial)).size
        · exact hb.2
end Go.Proofs.Ytgdchpinlboejaa

namespace Go.Proofs.Ytgdchpinlboejaa
set_option linter.unusedSimpArgs false
set_option linter.unusedVariables false
open Go.RowKit

variable {ord : List Int}

theorem infoPairZero : (Try.prog.info? 30).map (·.zero) = some (some (.agg #[.int .i64 0, .int .i64 0])) := by kernel_rfl

set_option maxRecDepth 100000 in
set_option maxHeartbeats 8000000 in
theorem delete_kid_hit {k : Kc ord} {mn mx t n d c : Nat} {pa : Addr} {x y : It ord} {i : Nat} {r : NodeR (It ord)} {w : World} {F : Nat → Prop} {H : Nat → Option (NodeR (It ord))} {hv : Option Nat} {kl : List Nat} (hF : Fam (parM k) w F H) (ht : MapAt k mn mx w t) (htF : ∀ b, MOwn k t b → ¬ F b) (hn : H n = some r)
    (hpa : w.cell? pa = some (.pointer (some ⟨n, 0, none⟩))) (hs : Srt ltM r.items) (hlen : r.items.length ≤ 1000) (hk : r.kids = some (kl.map some)) (hc : kl[i]? = some c) (hcn : c ≠ n) (hy : HitAt ltM r.items x i y) (hc0 : 0 ≤ r.cnt ∧ r.cnt ≤ 100000000000000)
    (hh : HintO hv w) (hvF : ∀ b, hv = some b → ¬ F b) (hvt : ∀ b, hv = some b → ¬ MOwn k t b) (hd : d ≤ 1000000000000)
    (Z Z2 : (Nat → Option (NodeR (It ord))) → Option (It ord) → Prop)
    (hcall : ∀ w1 pa1, Chg (fun b _ => hv = some b) w w1 → Fam (parM k) w1 F H → MapAt k mn mx w1 t → w1.cell? pa1 = some (.pointer (some ⟨c, 0, none⟩)) → Calls Try.prog 88 #[.pointer (some ⟨t, 0, none⟩), .pointer (some pa1), .bool true, .agg #[.int .i64 0, .int .i64 0], .pointer none, .int .i64 0] w1 (DelPost k F none Z w1))
    (hZ : ∀ H' o, Z H' o → H' n = some r ∧ ∃ rc, H' c = some rc ∧ rc.items.length ≤ 1000)
    (hZ0 : ∀ H', ¬ Z H' none)
    (hok : ∀ H' z rc, Z H' (some z) → H' c = some rc → mn ≤ rc.items.length → Z2 (upd (upd H' n ⟨r.cnt, r.items.set i z, r.kids⟩) n ⟨r.cnt - 1, r.items.set i z, r.kids⟩) (some y))
    (hreb : ∀ H' z rc w1 F1, Z H' (some z) → H' c = some rc → rc.items.length < mn → Fam (parM k) w1 F1 (upd (upd H' n ⟨r.cnt, r.items.set i z, r.kids⟩) n ⟨r.cnt - 1, r.items.set i z, r.kids⟩) → MapAt k mn mx w1 t → (∀ b, MOwn k t b → ¬ F1 b) → Calls Try.prog 98 #[.pointer (some ⟨t, 0, none⟩), .pointer (some ⟨n, 0, none⟩), .int .i64 i] w1 (RebPost' k F1 (fun H'' => Z2 H'' (some y)) w1)) :
    Calls Try.prog 88 #[.pointer (some ⟨t, 0, none⟩), .pointer (some pa), .bool false, aggM x, hintV hv, .int .i64 d] w (DelPost k F hv Z2 w) := by
  have hpos : 1 ≤ r.items.length := by have := (List.getElem?_eq_some_iff.1 hy.at_).1; omega
  obtain ⟨l0, hn0⟩ := hF.node hn
  have t0 := ht.c0
  have n0 := hn0.c0
  have hpk : (parM k).k = k.iso := rfl
  rw [hpk] at n0
  have nlt : n < w.heap.size := World.block_lt_of_cell? w _ n0
  have tlt : t < w.heap.size := World.block_lt_of_cell? w _ t0
  have plt := World.block_lt_of_cell? w _ hpa
  have hpa2 : ∀ o o', ((w.alloc o).alloc o').cell? pa = some (.pointer (some ⟨n, 0, none⟩)) := fun o o' => by rw [World.cell?_alloc_lt _ _ _ (by simp; omega), World.cell?_alloc_lt w _ _ plt]; exact hpa
  have hn1 : ∀ o o', ((w.alloc o).alloc o').cell? ⟨n, 0, none⟩ = some (.int .u64 k.iso) := fun o o' => ((hn0.chg (((Chg.refl (fun _ _ => False) w).alloc o).alloc o') (fun _ _ _ h => h)).c0)
  have ht1 : ∀ o o', ((w.alloc o).alloc o').cell? ⟨t, 0, none⟩ = some (.int .u64 k.iso) := fun o o' => ((ht.chg (((Chg.refl (fun _ _ => False) w).alloc o).alloc o') (fun _ _ _ h => h)).c0)
  skip
  unfold aggM hintV
  go_enter Try.func88, Try.ntmps88
  go_wp2_with (go_at_call 67; refine (isoLoad_any _ n k _ _ _ ?_ ?_ ?_).mono ?_; (focus go_simp); (focus go_simp); (focus go_simp); rintro e w' ⟨rfl, m, rfl⟩)
  refine name_calls (fun w1 => Chg (fun _ _ => False) w w1 ∧ w1.heap[w.heap.size]? = some (.cells #[.int .i64 x.1, .int .i64 x.2] 30 (0, 0)) ∧ w1.heap[w.heap.size + 1]? = some (.cells #[.int .i64 0, .int .i64 0] 30 (0, 0))) ⟨?_, ?_, ?_⟩ ?_
  · exact (((Chg.refl _ _).alloc _).alloc _).drewN _
  · rw [hd_drewN, ha_lt _ _ (by simp)]; exact ha_at _ _ rfl
  · rw [hd_drewN]; exact ha_at _ _ (by simp)
  rintro w1 ⟨hc1, hb1, hb2⟩
  have hna1 := hn0.chg hc1 (fun _ _ _ h => h)
  have ht1' := ht.chg hc1 (by simp)
  clear hn1 ht1 hpa2 t0 n0 hn0 
  refine (find_o hv t d x ht1' hna1 hs (by omega) hpos (hh.keep hc1) hd).mono ?_
  rintro e w2 ⟨i', f, rfl, hw2, hh2, hf⟩
  have hnv : ∀ b, w.heap.size ≤ b → ¬ hv = some b := fun b hb e => by have := hh.lt e; omega
  have hb1' : w2.heap[w.heap.size]? = some (.cells #[.int .i64 x.1, .int .i64 x.2] 30 (0, 0)) := by rw [hw2.block (heap_lt hb1) (fun _ => hnv _ (Nat.le_refl _))]; exact hb1
  have hb2' : w2.heap[w.heap.size + 1]? = some (.cells #[.int .i64 0, .int .i64 0] 30 (0, 0)) := by rw [hw2.block (heap_lt hb2) (fun _ => hnv _ (Nat.le_add_right _ _))]; exact hb2
  have hcw2 : Chg (fun b _ => hv = some b) w w2 := (hc1.mono (fun _ _ _ h => h.elim)).trans hw2
  have hF2 := hF.chg hcw2 (fun b _ hb e => hvF b e hb)
  have htt2 := ht.chg hcw2 (fun b _ hb e => hvt b e hb)
  have hlw2 := heap_lt hb2'
  have hfi : f = true ∧ i = i' := by
    rcases hf with ⟨h1, y', h2⟩ | ⟨h1, h2⟩
    · exact ⟨h1, (hit_same h2 hy).symm⟩
    · exact absurd hy.n2 (by rw [h2.right i y (hit_le h2 hy) hy.at_]; simp)
  obtain ⟨rfl, rfl⟩ := hfi
  have hi := (List.getElem?_eq_some_iff.1 hy.at_).1
  have HI := Lib.hid hi
  have hyi := hy.at_
  have HYI := Lib.hid hyi
  obtain ⟨l0, hna0⟩ := hF2.node hn
  have n2 := hna0.c2
  have iv := hna0.mval (j := i) hyi
  have ik := hna0.mkey (j := i) hyi
  have nlt2 : n < w2.heap.size := World.block_lt_of_cell? _ _ n2
  have iblt2 : l0.ib < w2.heap.size := World.block_lt_of_cell? _ _ iv
  have i0 : (0 : Int) ≤ (i : Int) := by omega
  have i1 : (i : Int) < (r.items.length : Int) := by omega
  clear hb1 hb2 hw2 hf ht1' hna1 hy hyi hna0
  obtain ⟨l, hna, hbl, ho, cl⟩ := hF2.work hn
  have HB1 := Lib.hid hb1'
  have HB2 := Lib.hid hb2'
  have HH2 := Lib.hid hh2
  have q0 := cell_of_block hb1' 0
  have q1 := cell_of_block hb1' 1
  simp only [List.getElem?_toArray, List.getElem?_cons_zero, List.getElem?_cons_succ] at q0 q1
  have n3 := hna.c3s hk
  have hkl := (List.getElem?_eq_some_iff.1 hc).1
  have g1 := hna.cc hk
  rw [List.length_map] at g1
  have g2 := hna.kidc hk (j := i) (o := some c) (by simp [hc])
  clear hna hb1' hb2' hh2
  go_wp2_with (go_at_call 70; refine (leaf_any _ (some ⟨l.cc, 0, none⟩) _ ?_).mono ?_; (focus go_simp); rintro e w' ⟨rfl, rfl⟩)
  refine name_world (fun w3 => Chg (fun _ _ => False) w2 w3 ∧ w3.heap[w2.heap.size]? = some (.cells #[.int .i64 y.1, .int .i64 y.2] 30 (0, 0))) ⟨(Chg.refl _ _).alloc _, ha_at _ _ rfl⟩ ?_
  rintro w3 ⟨hc3, hb18⟩
  replace q0 := hc3.cell (fun h => h) q0
  replace q1 := hc3.cell (fun h => h) q1
  replace n3 := hc3.cell (fun h => h) n3
  replace g1 := hc3.cell (fun h => h) g1
  replace g2 := hc3.cell (fun h => h) g2
  have hcw3 := hcw2.trans (hc3.mono (fun _ _ _ h => h.elim))
  have j0 : (0 : Int) ≤ (i : Int) := by omega
  have j1 : (i : Int) < (kl.length : Int) := by omega
  have HB18 := Lib.hid hb18
  have hl18 := heap_lt hb18
  clear hb18
  clear n2 iv ik i0 i1
  have ht3 := htt2.chg hc3 (fun _ _ _ h => h)
  have e4 := ht3.c4
  have e5 := ht3.c5
  refine wp_region_callb (fun w' => w'.cell? ⟨t, 7, none⟩ = some (.int .i64 0) ∧ w'.cell? ⟨t, 8, none⟩ = some (.int .i64 0) ∧ w'.cell? ⟨n, 3, none⟩ = some (.pointer (some ⟨l.cc, 0, none⟩)) ∧ w'.cell? ⟨l.cc, 0, none⟩ = some (.slice (some ⟨l.cb, l.co, none⟩) kl.length l.ck))
    13 17 [0, 1, 2, 3, 4, 5, 6, 7, 8, 9, 10, 11, 12] (.fork 13 17 (.soft 14 (.soft 15 (.soft 16 (.hard 17 (.hard 18 (.soft 19 .nil)))))) (.hard 13 (.soft 14 (.soft 15 (.soft 16 (.hard 18 (.soft 19 .nil))))))) (by kernel_rfl) (by kernel_rfl) (fun _ _ _ _ _ h => h) rfl (by rfl) (by rfl) (by rfl) infoPairZero
    (fun w' o h => by
      obtain ⟨a1, a2, a3, a4⟩ := h
      have hca := (Chg.refl (fun _ _ => False) w').alloc o
      exact ⟨hca.cell (fun h => h) a1, hca.cell (fun h => h) a2, hca.cell (fun h => h) a3, hca.cell (fun h => h) a4⟩) ⟨e4, e5, n3, g1⟩ ?_
  simp only [pickOps, List.filterMap_cons, List.filterMap_nil, List.getElem?_cons_zero, List.getElem?_cons_succ]
  refine wpSoft_step ?_ rfl ?_ ?_
  rotate_left
  · intro w' hS
    try obtain ⟨a1, a2, a3, a4⟩ := hS
    go_simp
    try with_reducible rfl
  simp only [Act.put, List.setIfInBounds_toArray, List.set_cons_zero, List.set_cons_succ]
  refine wpSoft_step ?_ rfl ?_ ?_
  rotate_left
  · intro w' hS
    try obtain ⟨a1, a2, a3, a4⟩ := hS
    go_simp
    try with_reducible rfl
  simp only [Act.put, List.setIfInBounds_toArray, List.set_cons_zero, List.set_cons_succ]
  refine wpSoft_step ?_ rfl ?_ ?_
  rotate_left
  · intro w' hS
    try obtain ⟨a1, a2, a3, a4⟩ := hS
    go_simp
    try with_reducible rfl
  simp only [Act.put, List.setIfInBounds_toArray, List.set_cons_zero, List.set_cons_succ]
  refine wpSoft_step ?_ rfl ?_ ?_
  rotate_left
  · intro w' hS
    try obtain ⟨a1, a2, a3, a4⟩ := hS
    go_simp
    try with_reducible rfl
  simp only [Act.put, List.setIfInBounds_toArray, List.set_cons_zero, List.set_cons_succ]
  refine wpSoft_step ?_ rfl ?_ ?_
  rotate_left
  · intro w' hS
    try obtain ⟨a1, a2, a3, a4⟩ := hS
    go_simp
    try with_reducible rfl
  simp only [Act.put, List.setIfInBounds_toArray, List.set_cons_zero, List.set_cons_succ]
  refine wpSoft_step ?_ rfl ?_ ?_
  rotate_left
  · intro w' hS
    try obtain ⟨a1, a2, a3, a4⟩ := hS
    go_simp
    try with_reducible rfl
  simp only [Act.put, List.setIfInBounds_toArray, List.set_cons_zero, List.set_cons_succ]
  refine wpSoft_step ?_ rfl ?_ ?_
  rotate_left
  · intro w' hS
    try obtain ⟨a1, a2, a3, a4⟩ := hS
    go_simp
    try with_reducible rfl
  simp only [Act.put, List.setIfInBounds_toArray, List.set_cons_zero, List.set_cons_succ]
  refine wpSoft_step ?_ rfl ?_ ?_
  rotate_left
  · intro w' hS
    try obtain ⟨a1, a2, a3, a4⟩ := hS
    go_simp
    try with_reducible rfl
  simp only [Act.put, List.setIfInBounds_toArray, List.set_cons_zero, List.set_cons_succ]
  refine wpSoft_step ?_ rfl ?_ ?_
  rotate_left
  · intro w' hS
    try obtain ⟨a1, a2, a3, a4⟩ := hS
    go_simp
    try with_reducible rfl
  simp only [Act.put, List.setIfInBounds_toArray, List.set_cons_zero, List.set_cons_succ]
  refine wpSoft_step ?_ rfl ?_ ?_
  rotate_left
  · intro w' hS
    try obtain ⟨a1, a2, a3, a4⟩ := hS
    go_simp
    try with_reducible rfl
  simp only [Act.put, List.setIfInBounds_toArray, List.set_cons_zero, List.set_cons_succ]
  refine wpSoft_step ?_ rfl ?_ ?_
  rotate_left
  · intro w' hS
    try obtain ⟨a1, a2, a3, a4⟩ := hS
    go_simp
    try with_reducible rfl
  simp only [Act.put, List.setIfInBounds_toArray, List.set_cons_zero, List.set_cons_succ]
  refine wpSoft_step ?_ rfl ?_ ?_
  rotate_left
  · intro w' hS
    try obtain ⟨a1, a2, a3, a4⟩ := hS
    go_simp
    try with_reducible rfl
  simp only [Act.put, List.setIfInBounds_toArray, List.set_cons_zero, List.set_cons_succ]
  refine wpSoft_step ?_ rfl ?_ ?_
  rotate_left
  · intro w' hS
    try obtain ⟨a1, a2, a3, a4⟩ := hS
    go_simp
    try with_reducible rfl
  simp only [Act.put, List.setIfInBounds_toArray, List.set_cons_zero, List.set_cons_succ]
  refine wpSoft_nil ?_
  have nF : ∀ b, w.heap.size ≤ b → ¬ F b := fun b hb h => Nat.lt_irrefl _ (Nat.lt_of_lt_of_le (hF.lt h) hb)
  have hsz2 := hcw2.size
  have hsz3 := hc3.size
  have hc13 := hcw3.drew
  have hh3 := (HH2.out.keep hc3).keep ((Chg.refl (fun _ _ => False) w3).drew)
  have hszd : w3.drew.heap.size = w3.heap.size := rfl
  clear n3 q0 q1 e4 e5 j0 j1
  refine scr_fork (by rfl) (by rfl) rfl rfl (fun K hK => ?_) (fun K hK => ?_)
  · go_simp
    go_at_call 88
    refine (hcall _ _ hc13 (hF.chg hc13 (fun b _ hb e => hvF b e hb)) (ht.chg hc13 (fun b _ hb e => hvt b e hb)) g2).mono ?_
    rintro e w4 ⟨H', o, rfl, hF4, hc4', _, hz4⟩
    rcases o with _ | z
    · exact absurd hz4 (hZ0 H')
    unfold lastV
    have hc4 : Chg (fun b _ => F b) w3 w4 := ((Chg.refl _ _).drew).trans (hc4'.mono (fun _ _ _ h => h.elim id (fun e => by cases e)))
    have hh4 : HintO hv w4 := hh3.chg hc4' (fun b _ e h => h.elim (hvF b e) (fun e => by cases e))
    have hsz4 := hc4.size
    clear hc4' g1 g2
    refine hK _ _ trivial ?_
    clear hK K
    repeat
      first
      | (refine scr_soft (by rfl) ?_ ?_ ?_ ?_
         rotate_left
         · simp [Region.wanted, yielded]; done
         · intro w' hS
           try obtain ⟨a1⟩ := hS
           go_simp
           try with_reducible rfl
         simp only [Act.put, List.setIfInBounds_toArray, List.set_cons_zero, List.set_cons_succ])
      | (refine scr_skip (by rfl) ?_ ?_
         · simp [Region.wanted, yielded]; done
         simp only [Act.put, List.setIfInBounds_toArray, List.set_cons_zero, List.set_cons_succ])
    refine scr_hard (by rfl) (by simp [Region.wanted, yielded]) (fun K hK => ?_)
    go_simp
    refine hK _ _ trivial ?_
    clear hK K
    refine scr_hard (by rfl) (by simp [Region.wanted, yielded]) (fun K hK => ?_)
    go_simp
    refine hK _ _ trivial ?_
    clear hK K
    repeat
      first
      | (refine scr_soft (by rfl) ?_ ?_ ?_ ?_
         rotate_left
         · simp [Region.wanted, yielded]; done
         · intro w' hS
           try obtain ⟨a1⟩ := hS
           go_simp
           try with_reducible rfl
         simp only [Act.put, List.setIfInBounds_toArray, List.set_cons_zero, List.set_cons_succ])
      | (refine scr_skip (by rfl) ?_ ?_
         · simp [Region.wanted, yielded]; done
         simp only [Act.put, List.setIfInBounds_toArray, List.set_cons_zero, List.set_cons_succ])
    refine scr_nil ?_
    refine name_prop (fun w45 => Chg (fun _ _ => False) w4 w45 ∧ w45.heap[w4.heap.size]? = some (.cells #[.int .i64 z.1, .int .i64 z.2] 30 (0, 0))) ⟨?_, by first | exact ha_at _ _ rfl | exact blk2 (ha_at _ _ rfl) _ _⟩ ?_
    · repeat (first | refine Chg.drew ?_ | refine Chg.drewN ?_ _ | refine Chg.setCell ?_ (.inr (Nat.le_refl _)) _ | refine Chg.alloc ?_ _ | exact Chg.refl _ _)
    rintro w45 ⟨hc45, hb20⟩
    have hF45 := hF4.chg hc45 (fun _ _ _ h => h)
    have hh45 := hh4.keep hc45
    have hc045 : Chg (fun b _ => F b ∨ hv = some b) w w45 := (hcw3.mono (fun _ _ _ h => .inr h)).trans ((hc4.mono (fun _ _ _ h => .inl h)).trans (hc45.mono (fun _ _ _ h => h.elim)))
    have hb12 : w45.heap[w.heap.size + 1]? = some (.cells #[.int .i64 0, .int .i64 0] 30 (0, 0)) := by
      rw [hc45.block (by omega) (fun _ h => h), hc4.block (by omega) (fun _ h => nF _ (Nat.le_add_right _ _) h), hc3.block hlw2 (fun _ h => h)]; exact HB2.out
    have hb18 : w45.heap[w2.heap.size]? = some (.cells #[.int .i64 y.1, .int .i64 y.2] 30 (0, 0)) := by
      rw [hc45.block (by omega) (fun _ h => h), hc4.block hl18 (fun _ h => nF _ hsz2 h)]; exact HB18.out
    have hGo : ∀ b, b < w3.heap.size → w.heap.size ≤ b → ¬ (grow F w3.drew w4) b := fun b h1 h2 h => by
      rcases h with h | h
      · exact nF b h2 h
      · have h3 := h.1; skip; omega
    have hG0 : ∀ b, (grow F w3.drew w4) b → F b ∨ w.heap.size ≤ b := fun b h => by
      rcases h with h | h
      · exact .inl h
      · exact .inr (by have h3 := h.1; skip; omega)
    clear hF4 hc4 hh4 hc45
    obtain ⟨hn0, rc0, hrc0, hrl0⟩ := hZ _ _ hz4
    obtain ⟨l5, hna5, hbk5, ho5, cl5⟩ := hF45.work hn0
    have n2 := hna5.c2
    have z0 := hna5.ifz (l5.io + i * 2)
    have z1 := hna5.ifz (l5.io + i * 2 + 1)
    have iv := hna5.mval (j := i) HYI.out
    have ik := hna5.mkey (j := i) HYI.out
    have u0 := cell_of_block hb20 0
    have u1 := cell_of_block hb20 1
    simp only [List.getElem?_toArray, List.getElem?_cons_zero, List.getElem?_cons_succ] at u0 u1
    have hit : i < r.items.length := HI.out
    have k0 : (0 : Int) ≤ (i : Int) := by omega
    have k1 : (i : Int) < (r.items.length : Int) := by omega
    have r8 := ((Run.start hna5).still ((Chg.refl _ _).drew)).setItemM i z hit
    have HR8 := Lib.hid r8
    have HCL5 := Lib.hid cl5
    have HZ45 := Lib.hid (heap_lt hb18)
    have HZ45' := Lib.hid (heap_lt hb12)
    have HB12 := Lib.hid hb12
    have HB18 := Lib.hid hb18
    have HC45 := Lib.hid hc045
    have HH45 := Lib.hid hh45
    have HF45 := Lib.hid hF45
    clear hna5 r8 cl5 ho5 hbk5 hb12 hb18 hb20 hc045 hh45 hF45
    go_wp2_with fail
    go_still_tail 6, (by kernel_rfl)
    go_upto_region 29 with fail
    refine name_world (fun w5 => w5.heap.size = w45.heap.size ∧ Fam (parM k) w5 (grow (grow F w3.drew w4) w45 w5) (upd H' n ⟨r.cnt, r.items.set i z, r.kids⟩) ∧ Chg (fun b _ => (grow F w3.drew w4) b) w45 w5) ⟨by simp, (HCL5.out _ _ _ HR8.out).1, (HCL5.out _ _ _ HR8.out).2⟩ ?_
    clear n2 z0 z1 u0 u1 k0 k1 iv ik HR8 HCL5
    rintro w5 ⟨hz5, hF5', hc5⟩
    have hl45 := HZ45.out
    have hl45' := HZ45'.out
    have hF5 : Fam (parM k) w5 (grow F w3.drew w4) (upd H' n ⟨r.cnt, r.items.set i z, r.kids⟩) := hF5'.mono' (fun b h => by rcases h with h | h; exact h; have h1 := h.1; have h2 := h.2; omega) HF45.out (by omega)
    have hb12 : w5.heap[w.heap.size + 1]? = some (.cells #[.int .i64 0, .int .i64 0] 30 (0, 0)) := by rw [hc5.block hl45' (fun _ h => hGo _ (by omega) (Nat.le_add_right _ _) h)]; exact HB12.out
    have hb18 : w5.heap[w2.heap.size]? = some (.cells #[.int .i64 y.1, .int .i64 y.2] 30 (0, 0)) := by rw [hc5.block hl45 (fun _ h => hGo _ hl18 hsz2 h)]; exact HB18.out
    have hc05 : Chg (fun b _ => F b ∨ hv = some b) w w5 := HC45.out.trans' hc5 (fun _ _ _ h => h) (fun b o hb h => (hG0 b h).elim .inl (fun h => by omega))
    have hh5 : HintO hv w5 := HH45.out.chg hc5 (fun b _ e h => (hG0 b h).elim (hvF b e) (fun h => by have := hh.lt e; omega))
    have ht5 := ht.chg hc05 (fun b _ hm e => by
      rcases e with e | e
      · exact htF b hm e
      · exact hvt b e hm)
    clear hc5 hF5' HB12 HB18 HC45 HH45 HF45 HZ45 HZ45'
    obtain ⟨hn4, rc, hrc, hrl⟩ := (show (upd H' n ⟨r.cnt, r.items.set i z, r.kids⟩) n = some ⟨r.cnt, r.items.set i z, r.kids⟩ ∧ ∃ rc, (upd H' n ⟨r.cnt, r.items.set i z, r.kids⟩) c = some rc ∧ rc.items.length ≤ 1000 from ⟨upd_same _ _ _, rc0, (upd_ne _ _ hcn).trans hrc0, hrl0⟩)
    obtain ⟨l4, hna4, hb4, ho4, cl4⟩ := hF5.work hn4
    have C1 := hna4.c1
    have z1 := hna4.fz 1
    have s1 : IntKind.i64.wrap (r.cnt - 1) = r.cnt - 1 := IntWalk.i64_in _ (by omega)
    have r8 := (Run.start hna4).setCnt (r.cnt - 1)
    have HB12 := Lib.hid hb12
    have HB18 := Lib.hid hb18
    have HC05 := Lib.hid hc05
    have HH5 := Lib.hid hh5
    have HT5 := Lib.hid ht5
    have hl12 := heap_lt hb12
    have hl5 := heap_lt hb18
    clear hb12 hb18 hc05 hh5 ht5 hna4
    go_upto_region 30 with fail
    refine name_world (fun w6 => w6.heap.size = w5.heap.size ∧ Fam (parM k) w6 (grow (grow F w3.drew w4) w5 w6) (upd (upd H' n ⟨r.cnt, r.items.set i z, r.kids⟩) n ⟨r.cnt - 1, r.items.set i z, r.kids⟩) ∧ Chg (fun b _ => (grow F w3.drew w4) b) w5 w6) ⟨by simp, (cl4 _ _ _ r8).1, (cl4 _ _ _ r8).2⟩ ?_
    clear C1 z1 s1 r8 cl4 ho4 hb4
    rintro w6 ⟨hz6, hF6, hc6⟩
    have hb12 : w6.heap[w.heap.size + 1]? = some (.cells #[.int .i64 0, .int .i64 0] 30 (0, 0)) := by rw [hc6.block hl12 (fun _ h => hGo _ (by omega) (Nat.le_add_right _ _) h)]; exact HB12.out
    have hb18 : w6.heap[w2.heap.size]? = some (.cells #[.int .i64 y.1, .int .i64 y.2] 30 (0, 0)) := by rw [hc6.block hl5 (fun _ h => hGo _ hl18 hsz2 h)]; exact HB18.out
    have hc06 : Chg (fun b _ => F b ∨ hv = some b) w w6 := HC05.out.trans' hc6 (fun _ _ _ h => h) (fun b o hb h => (hG0 b h).elim .inl (fun h => by omega))
    have hh6 : HintO hv w6 := HH5.out.chg hc6 (fun b _ e h => (hG0 b h).elim (hvF b e) (fun h => by have := hh.lt e; omega))
    have ht6 := ht.chg hc06 (fun b _ hm e => by
      rcases e with e | e
      · exact htF b hm e
      · exact hvt b e hm)
    have hF7 : Fam (parM k) w6 (grow F w3.drew w4) (upd (upd H' n ⟨r.cnt, r.items.set i z, r.kids⟩) n ⟨r.cnt - 1, r.items.set i z, r.kids⟩) := hF6.mono' (fun b h => by rcases h with h | h; exact h; have h1 := h.1; have h2 := h.2; omega) hF5 (by omega)
    obtain ⟨ln, hn6⟩ := hF7.node (upd_same _ _ _)
    obtain ⟨lc, hc6'⟩ := hF7.node ((upd_ne _ _ hcn).trans hrc)
    have n3 := hn6.c3s hk
    have g1 := hn6.cc hk
    rw [List.length_map] at g1
    have g2 := hn6.kidc hk (j := i) (o := some c) (by simp [hc])
    have d2 := hc6'.c2
    have e9 := ht6.c6
    have j0 : (0 : Int) ≤ (i : Int) := by omega
    have j1 : (i : Int) < (kl.length : Int) := by omega
    have HB12' := Lib.hid hb12
    have HB18' := Lib.hid hb18
    have HH6 := Lib.hid hh6
    have HC06 := Lib.hid hc06
    have HT6 := Lib.hid ht6
    have HF7 := Lib.hid hF7
    clear hb12 hb18 hh6 hc06 ht6 hF7 hF6 hn6 hc6' hF5 HB12 HB18 HC05 HH5 HT5 hc6
    refine wp_region_scr (fun w' => w'.cell? ⟨n, 3, none⟩ = some (.pointer (some ⟨ln.cc, 0, none⟩)) ∧ w'.cell? ⟨ln.cc, 0, none⟩ = some (.slice (some ⟨ln.cb, ln.co, none⟩) kl.length ln.ck) ∧ w'.cell? ⟨ln.cb, ln.co + i, none⟩ = some (.pointer (some ⟨c, 0, none⟩)) ∧ w'.cell? ⟨c, 2, none⟩ = some (.slice (some ⟨lc.ib, lc.io, none⟩) rc.items.length lc.ic) ∧ w'.cell? ⟨t, 10, none⟩ = some (.int .i64 mn)) (.soft 0 (.soft 1 (.soft 2 (.soft 3 (.soft 4 (.soft 5 (.soft 6 (.soft 7 (.soft 8 (.soft 9 (.soft 10 (.soft 11 (.soft 12 (.soft 13 (.soft 14 (.soft 15 (.soft 16 (.soft 17 .nil)))))))))))))))))) (by kernel_rfl) (by kernel_rfl) (fun _ _ _ _ _ h => h) ⟨n3, g1, g2, d2, e9⟩ ?_
    repeat
      first
      | (refine scr_soft (by rfl) ?_ ?_ ?_ ?_
         rotate_left
         · simp [Region.wanted, yielded]; done
         · intro w' hS
           try obtain ⟨a1, a2, a3, a4, a5⟩ := hS
           go_simp
           try with_reducible rfl
         simp only [Act.put, List.setIfInBounds_toArray, List.set_cons_zero, List.set_cons_succ])
      | (refine scr_skip (by rfl) ?_ ?_
         · simp [Region.wanted, yielded]; done
         simp only [Act.put, List.setIfInBounds_toArray, List.set_cons_zero, List.set_cons_succ])
    refine scr_nil ?_
    clear n3 g1 g2 d2 e9
    by_cases hlt : rc.items.length < mn
    · have hlt' : (rc.items.length : Int) < (mn : Int) := by omega
      have hGM : ∀ b, MOwn k t b → ¬ (grow F w3.drew w4) b := fun b hm h => (hG0 b h).elim (htF b hm) (fun h => by have := ht.lt hm; omega)
      have HRB := Lib.hid (hreb _ _ _ _ _ hz4 ((upd_ne _ _ hcn).symm.trans hrc) hlt (HF7.out.chg ((Chg.refl (fun _ _ => False) w6).drew) (fun _ _ _ h => h)) (HT6.out.chg ((Chg.refl (fun _ _ => False) w6).drew) (fun _ _ _ h => h)) hGM)
      go_wp2_with fail
      refine HRB.out.mono ?_
      rintro e w8 ⟨rfl, H'', f8, g8, z8⟩
      have hszd6 : w6.drew.heap.size = w6.heap.size := rfl
      have hsz8 := g8.size
      have hb12 : w8.heap[w.heap.size + 1]? = some (.cells #[.int .i64 0, .int .i64 0] 30 (0, 0)) := by rw [g8.block (by omega) (fun _ h => hGo _ (by omega) (Nat.le_add_right _ _) h), hd_drew]; exact HB12'.out
      have hb18 : w8.heap[w2.heap.size]? = some (.cells #[.int .i64 y.1, .int .i64 y.2] 30 (0, 0)) := by rw [g8.block (by omega) (fun _ h => hGo _ hl18 hsz2 h), hd_drew]; exact HB18'.out
      have y0 := frozen_of_block hb12 0
      have y1 := frozen_of_block hb12 1
      have p0 := cell_of_block hb12 0
      have p1 := cell_of_block hb12 1
      simp only [List.getElem?_toArray, List.getElem?_cons_zero, List.getElem?_cons_succ] at p0 p1
      have x0 := frozen_of_block hb18 0
      have x1 := frozen_of_block hb18 1
      have r0 := cell_of_block hb18 0
      have r1 := cell_of_block hb18 1
      simp only [List.getElem?_toArray, List.getElem?_cons_zero, List.getElem?_cons_succ] at r0 r1
      have hc08 : Chg (fun b _ => F b ∨ hv = some b) w w8 := HC06.out.drew.trans' g8 (fun _ _ _ h => h) (fun b o hb h => (hG0 b h).elim .inl (fun h => by omega))
      have hh8 : HintO hv w8 := (HH6.out.keep ((Chg.refl (fun _ _ => False) w6).drew)).chg g8 (fun b _ e h => (hG0 b h).elim (hvF b e) (fun h => by have := hh.lt e; omega))
      have HF8 := Lib.hid f8
      have HC08 := Lib.hid hc08
      have HH8 := Lib.hid hh8
      have HZ8 := Lib.hid z8
      have HBB := Lib.hid hb12
      clear f8 g8 hc08 hh8 z8 hb12 hb18 HRB
      go_wp2_with fail
      refine name_prop (fun wl => Chg (fun b _ => b = w.heap.size + 1) w8 wl ∧ wl.heap[w.heap.size + 1]? = some (.cells #[.int .i64 y.1, .int .i64 y.2] 30 (0, 0))) ⟨?_, blk2 HBB.out _ _⟩ ?_
      · repeat (first | refine Chg.drew ?_ | refine Chg.drewN ?_ _ | refine Chg.setCell ?_ (.inl rfl) _ | exact Chg.refl _ _)
      clear p0 p1 r0 r1
      rintro wl ⟨hcl, hbl⟩
      have p0 := cell_of_block hbl 0
      have p1 := cell_of_block hbl 1
      simp only [List.getElem?_toArray, List.getElem?_cons_zero, List.getElem?_cons_succ] at p0 p1
      refine bodyPost_ret (v := .tuple #[.agg #[.int .i64 y.1, .int .i64 y.2], .bool true]) (by simp [results, Try.results88, go_sem, p0, p1]) rfl ?_
      have f9 := HF8.out.chg hcl (fun b o hb e => by
        rcases hb with hb | hb
        · exact hGo b (by omega) (by omega) hb
        · have h1 := hb.1; omega)
      refine ⟨H'', some y, rfl, f9.mono (fun b hb => ?_) (fun b hb => ?_), HC08.out.trans' hcl (fun _ _ _ h => h) (fun b o hb e => by omega), HH8.out.chg hcl (fun b _ e e2 => by have := hh.lt e; omega), HZ8.out⟩
      · have hbl := Nat.lt_of_lt_of_le (HF8.out.lt hb) hcl.size
        rcases hb with hb | hb
        · exact (hG0 b hb).elim .inl (fun h => .inr ⟨h, hbl⟩)
        · exact .inr ⟨by have := hb.1; omega, hbl⟩
      · rcases hb with hb | hb
        · exact Nat.lt_of_lt_of_le (hF.lt hb) (HC08.out.trans' hcl (B := fun _ _ => True) (fun _ _ _ _ => trivial) (fun _ _ _ _ => trivial)).size
        · exact hb.2
    · have hlt' : ¬ (rc.items.length : Int) < (mn : Int) := by omega
      have HOK := Lib.hid (hok _ _ _ hz4 ((upd_ne _ _ hcn).symm.trans hrc) (by omega))
      have y0 := frozen_of_block HB12'.out 0
      have y1 := frozen_of_block HB12'.out 1
      have p0 := cell_of_block HB12'.out 0
      have p1 := cell_of_block HB12'.out 1
      simp only [List.getElem?_toArray, List.getElem?_cons_zero, List.getElem?_cons_succ] at p0 p1
      have x0 := frozen_of_block HB18'.out 0
      have x1 := frozen_of_block HB18'.out 1
      have r0 := cell_of_block HB18'.out 0
      have r1 := cell_of_block HB18'.out 1
      simp only [List.getElem?_toArray, List.getElem?_cons_zero, List.getElem?_cons_succ] at r0 r1
      go_wp2_with fail
      refine name_prop (fun wl => Chg (fun b _ => b = w.heap.size + 1) w6 wl ∧ wl.heap[w.heap.size + 1]? = some (.cells #[.int .i64 y.1, .int .i64 y.2] 30 (0, 0))) ⟨?_, blk2 HB12'.out _ _⟩ ?_
      · repeat (first | refine Chg.drew ?_ | refine Chg.drewN ?_ _ | refine Chg.setCell ?_ (.inl rfl) _ | exact Chg.refl _ _)
      clear p0 p1 r0 r1
      rintro wl ⟨hcl, hbl⟩
      have p0 := cell_of_block hbl 0
      have p1 := cell_of_block hbl 1
      simp only [List.getElem?_toArray, List.getElem?_cons_zero, List.getElem?_cons_succ] at p0 p1
      refine bodyPost_ret (v := .tuple #[.agg #[.int .i64 y.1, .int .i64 y.2], .bool true]) (by simp [results, Try.results88, go_sem, p0, p1]) rfl ?_
      have f9 := HF7.out.chg hcl (fun b o hb e => hGo b (by omega) (by omega) hb)
      refine ⟨_, some y, rfl, f9.mono (fun b hb => ?_) (fun b hb => ?_), HC06.out.trans' hcl (fun _ _ _ h => h) (fun b o hb e => by omega), HH6.out.chg hcl (fun b _ e e2 => by have := hh.lt e; omega), HOK.out⟩
      · have hbl := f9.lt hb
        exact (hG0 b hb).elim .inl (fun h => .inr ⟨h, hbl⟩)
      · rcases hb with hb | hb
        · exact Nat.lt_of_lt_of_le (hF.lt hb) (HC06.out.trans' hcl (B := fun _ _ => True) (fun _ _ _ _ => trivial) (fun _ _ _ _ => trivial)).size
        · exact hb.2
  · go_simp
    refine hK _ _ trivial ?_
    clear hK K
    refine scr_hard (by rfl) (by simp [Region.wanted, yielded]) (fun K hK => ?_)
    go_simp
    go_at_call 88
    have hc13a := hc13.alloc (.cells #[.int .i64 0, .int .i64 0] 30)
    have hca3 := (Chg.refl (fun _ _ => False) w3.drew).alloc (.cells #[.int .i64 0, .int .i64 0] 30)
    refine (hcall _ _ hc13a (hF.chg hc13a (fun b _ hb e => hvF b e hb)) (ht.chg hc13a (fun b _ hb e => hvt b e hb)) (hca3.cell (fun h => h) g2)).mono ?_
    rintro e w4 ⟨H', o, rfl, hF4, hc4', _, hz4⟩
    rcases o with _ | z
    · exact absurd hz4 (hZ0 H')
    unfold lastV
    have hc4 : Chg (fun b _ => F b) (w3.drew.alloc (.cells #[.int .i64 0, .int .i64 0] 30)) w4 := hc4'.mono (fun _ _ _ h => h.elim id (fun e => by cases e))
    have hh4 : HintO hv w4 := (hh3.keep hca3).chg hc4' (fun b _ e h => h.elim (hvF b e) (fun e => by cases e))
    have hsza : (w3.drew.alloc (.cells #[.int .i64 0, .int .i64 0] 30)).heap.size = w3.heap.size + 1 := by simp
    have hsz4 := hc4.size
    have hb20 : w4.heap[w3.heap.size]? = some (.cells #[.int .i64 0, .int .i64 0] 30 (0, 0)) := by
      rw [hc4.block (by omega) (fun _ h => nF _ (by omega) h)]; exact ha_at _ _ (by simp)
    have y0 := frozen_of_block hb20 0
    have y1 := frozen_of_block hb20 1
    have p0 := cell_of_block hb20 0
    have p1 := cell_of_block hb20 1
    simp only [List.getElem?_toArray, List.getElem?_cons_zero, List.getElem?_cons_succ] at p0 p1
    have HB20 := Lib.hid hb20
    clear hc4' g1 g2 hb20
    refine hK _ _ trivial ?_
    clear hK K
    repeat
      first
      | (refine scr_soft (by rfl) ?_ ?_ ?_ ?_
         rotate_left
         · simp [Region.wanted, yielded]; done
         · intro w' hS
           try obtain ⟨a1⟩ := hS
           go_simp
           try with_reducible rfl
         simp only [Act.put, List.setIfInBounds_toArray, List.set_cons_zero, List.set_cons_succ])
      | (refine scr_skip (by rfl) ?_ ?_
         · simp [Region.wanted, yielded]; done
         simp only [Act.put, List.setIfInBounds_toArray, List.set_cons_zero, List.set_cons_succ])
    refine scr_hard (by rfl) (by simp [Region.wanted, yielded]) (fun K hK => ?_)
    go_simp
    refine hK _ _ trivial ?_
    clear hK K
    repeat
      first
      | (refine scr_soft (by rfl) ?_ ?_ ?_ ?_
         rotate_left
         · simp [Region.wanted, yielded]; done
         · intro w' hS
           try obtain ⟨a1⟩ := hS
           go_simp
           try with_reducible rfl
         simp only [Act.put, List.setIfInBounds_toArray, List.set_cons_zero, List.set_cons_succ])
      | (refine scr_skip (by rfl) ?_ ?_
         · simp [Region.wanted, yielded]; done
         simp only [Act.put, List.setIfInBounds_toArray, List.set_cons_zero, List.set_cons_succ])
    refine scr_nil ?_
    refine name_prop (fun w45 => Chg (fun b _ => b = w3.heap.size) w4 w45 ∧ w45.heap[w3.heap.size]? = some (.cells #[.int .i64 z.1, .int .i64 z.2] 30 (0, 0))) ⟨?_, blk2 HB20.out _ _⟩ ?_
    · repeat (first | refine Chg.drew ?_ | refine Chg.drewN ?_ _ | refine Chg.setCell ?_ (.inl rfl) _ | exact Chg.refl _ _)
    clear p0 p1 y0 y1 HB20
    rintro w45 ⟨hc45, hb20⟩
    have hGo : ∀ b, b < w3.heap.size → w.heap.size ≤ b → ¬ (grow F (w3.drew.alloc (.cells #[.int .i64 0, .int .i64 0] 30)) w4) b := fun b h1 h2 h => by
      rcases h with h | h
      · exact nF b h2 h
      · have h3 := h.1; simp at h3; omega
    have hG0 : ∀ b, (grow F (w3.drew.alloc (.cells #[.int .i64 0, .int .i64 0] 30)) w4) b → F b ∨ w.heap.size ≤ b := fun b h => by
      rcases h with h | h
      · exact .inl h
      · exact .inr (by have h3 := h.1; simp at h3; omega)
    have hF45 := hF4.chg hc45 (fun b _ hb e => by
      rcases hb with hb | hb
      · exact nF b (by omega) hb
      · have h1 := hb.1; omega)
    have hh45 : HintO hv w45 := hh4.chg hc45 (fun b _ e e2 => by have := hh.lt e; omega)
    have hc045 : Chg (fun b _ => F b ∨ hv = some b) w w45 := ((hc13a.mono (fun _ _ _ h => .inr h)).trans (hc4.mono (fun _ _ _ h => .inl h))).trans' hc45 (fun _ _ _ h => h) (fun b o hb e => by omega)
    have hb12 : w45.heap[w.heap.size + 1]? = some (.cells #[.int .i64 0, .int .i64 0] 30 (0, 0)) := by
      rw [hc45.block (by omega) (fun _ e => by omega), hc4.block (by omega) (fun _ h => nF _ (Nat.le_add_right _ _) h), ha_lt _ _ (by omega), hd_drew, hc3.block hlw2 (fun _ h => h)]; exact HB2.out
    have hb18 : w45.heap[w2.heap.size]? = some (.cells #[.int .i64 y.1, .int .i64 y.2] 30 (0, 0)) := by
      rw [hc45.block (by omega) (fun _ e => by omega), hc4.block (by omega) (fun _ h => nF _ hsz2 h), ha_lt _ _ (by omega), hd_drew]; exact HB18.out
    clear hF4 hc4 hh4 hc45
    obtain ⟨hn0, rc0, hrc0, hrl0⟩ := hZ _ _ hz4
    obtain ⟨l5, hna5, hbk5, ho5, cl5⟩ := hF45.work hn0
    have n2 := hna5.c2
    have z0 := hna5.ifz (l5.io + i * 2)
    have z1 := hna5.ifz (l5.io + i * 2 + 1)
    have iv := hna5.mval (j := i) HYI.out
    have ik := hna5.mkey (j := i) HYI.out
    have u0 := cell_of_block hb20 0
    have u1 := cell_of_block hb20 1
    simp only [List.getElem?_toArray, List.getElem?_cons_zero, List.getElem?_cons_succ] at u0 u1
    have hit : i < r.items.length := HI.out
    have k0 : (0 : Int) ≤ (i : Int) := by omega
    have k1 : (i : Int) < (r.items.length : Int) := by omega
    have r8 := ((Run.start hna5).still ((Chg.refl _ _).drew)).setItemM i z hit
    have HR8 := Lib.hid r8
    have HCL5 := Lib.hid cl5
    have HZ45 := Lib.hid (heap_lt hb18)
    have HZ45' := Lib.hid (heap_lt hb12)
    have HB12 := Lib.hid hb12
    have HB18 := Lib.hid hb18
    have HC45 := Lib.hid hc045
    have HH45 := Lib.hid hh45
    have HF45 := Lib.hid hF45
    clear hna5 r8 cl5 ho5 hbk5 hb12 hb18 hb20 hc045 hh45 hF45
    go_wp2_with fail
    go_still_tail 6, (by kernel_rfl)
    go_upto_region 29 with fail
    refine name_world (fun w5 => w5.heap.size = w45.heap.size ∧ Fam (parM k) w5 (grow (grow F (w3.drew.alloc (.cells #[.int .i64 0, .int .i64 0] 30)) w4) w45 w5) (upd H' n ⟨r.cnt, r.items.set i z, r.kids⟩) ∧ Chg (fun b _ => (grow F (w3.drew.alloc (.cells #[.int .i64 0, .int .i64 0] 30)) w4) b) w45 w5) ⟨by simp, (HCL5.out _ _ _ HR8.out).1, (HCL5.out _ _ _ HR8.out).2⟩ ?_
    clear n2 z0 z1 u0 u1 k0 k1 iv ik HR8 HCL5
    rintro w5 ⟨hz5, hF5', hc5⟩
    have hl45 := HZ45.out
    have hl45' := HZ45'.out
    have hF5 : Fam (parM k) w5 (grow F (w3.drew.alloc (.cells #[.int .i64 0, .int .i64 0] 30)) w4) (upd H' n ⟨r.cnt, r.items.set i z, r.kids⟩) := hF5'.mono' (fun b h => by rcases h with h | h; exact h; have h1 := h.1; have h2 := h.2; omega) HF45.out (by omega)
    have hb12 : w5.heap[w.heap.size + 1]? = some (.cells #[.int .i64 0, .int .i64 0] 30 (0, 0)) := by rw [hc5.block hl45' (fun _ h => hGo _ (by omega) (Nat.le_add_right _ _) h)]; exact HB12.out
    have hb18 : w5.heap[w2.heap.size]? = some (.cells #[.int .i64 y.1, .int .i64 y.2] 30 (0, 0)) := by rw [hc5.block hl45 (fun _ h => hGo _ hl18 hsz2 h)]; exact HB18.out
    have hc05 : Chg (fun b _ => F b ∨ hv = some b) w w5 := HC45.out.trans' hc5 (fun _ _ _ h => h) (fun b o hb h => (hG0 b h).elim .inl (fun h => by omega))
    have hh5 : HintO hv w5 := HH45.out.chg hc5 (fun b _ e h => (hG0 b h).elim (hvF b e) (fun h => by have := hh.lt e; omega))
    have ht5 := ht.chg hc05 (fun b _ hm e => by
      rcases e with e | e
      · exact htF b hm e
      · exact hvt b e hm)
    clear hc5 hF5' HB12 HB18 HC45 HH45 HF45 HZ45 HZ45'
    obtain ⟨hn4, rc, hrc, hrl⟩ := (show (upd H' n ⟨r.cnt, r.items.set i z, r.kids⟩) n = some ⟨r.cnt, r.items.set i z, r.kids⟩ ∧ ∃ rc, (upd H' n ⟨r.cnt, r.items.set i z, r.kids⟩) c = some rc ∧ rc.items.length ≤ 1000 from ⟨upd_same _ _ _, rc0, (upd_ne _ _ hcn).trans hrc0, hrl0⟩)
    obtain ⟨l4, hna4, hb4, ho4, cl4⟩ := hF5.work hn4
    have C1 := hna4.c1
    have z1 := hna4.fz 1
    have s1 : IntKind.i64.wrap (r.cnt - 1) = r.cnt - 1 := IntWalk.i64_in _ (by omega)
    have r8 := (Run.start hna4).setCnt (r.cnt - 1)
    have HB12 := Lib.hid hb12
    have HB18 := Lib.hid hb18
    have HC05 := Lib.hid hc05
    have HH5 := Lib.hid hh5
    have HT5 := Lib.hid ht5
    have hl12 := heap_lt hb12
    have hl5 := heap_lt hb18
    clear hb12 hb18 hc05 hh5 ht5 hna4
    go_upto_region 30 with fail
    refine name_world (fun w6 => w6.heap.size = w5.heap.size ∧ Fam (parM k) w6 (grow (grow F (w3.drew.alloc (.cells #[.int .i64 0, .int .i64 0] 30)) w4) w5 w6) (upd (upd H' n ⟨r.cnt, r.items.set i z, r.kids⟩) n ⟨r.cnt - 1, r.items.set i z, r.kids⟩) ∧ Chg (fun b _ => (grow F (w3.drew.alloc (.cells #[.int .i64 0, .int .i64 0] 30)) w4) b) w5 w6) ⟨by simp, (cl4 _ _ _ r8).1, (cl4 _ _ _ r8).2⟩ ?_
    clear C1 z1 s1 r8 cl4 ho4 hb4
    rintro w6 ⟨hz6, hF6, hc6⟩
    have hb12 : w6.heap[w.heap.size + 1]? = some (.cells #[.int .i64 0, .int .i64 0] 30 (0, 0)) := by rw [hc6.block hl12 (fun _ h => hGo _ (by omega) (Nat.le_add_right _ _) h)]; exact HB12.out
    have hb18 : w6.heap[w2.heap.size]? = some (.cells #[.int .i64 y.1, .int .i64 y.2] 30 (0, 0)) := by rw [hc6.block hl5 (fun _ h => hGo _ hl18 hsz2 h)]; exact HB18.out
    have hc06 : Chg (fun b _ => F b ∨ hv = some b) w w6 := HC05.out.trans' hc6 (fun _ _ _ h => h) (fun b o hb h => (hG0 b h).elim .inl (fun h => by omega))
    have hh6 : HintO hv w6 := HH5.out.chg hc6 (fun b _ e h => (hG0 b h).elim (hvF b e) (fun h => by have := hh.lt e; omega))
    have ht6 := ht.chg hc06 (fun b _ hm e => by
      rcases e with e | e
      · exact htF b hm e
      · exact hvt b e hm)
    have hF7 : Fam (parM k) w6 (grow F (w3.drew.alloc (.cells #[.int .i64 0, .int .i64 0] 30)) w4) (upd (upd H' n ⟨r.cnt, r.items.set i z, r.kids⟩) n ⟨r.cnt - 1, r.items.set i z, r.kids⟩) := hF6.mono' (fun b h => by rcases h with h | h; exact h; have h1 := h.1; have h2 := h.2; omega) hF5 (by omega)
    obtain ⟨ln, hn6⟩ := hF7.node (upd_same _ _ _)
    obtain ⟨lc, hc6'⟩ := hF7.node ((upd_ne _ _ hcn).trans hrc)
    have n3 := hn6.c3s hk
    have g1 := hn6.cc hk
    rw [List.length_map] at g1
    have g2 := hn6.kidc hk (j := i) (o := some c) (by simp [hc])
    have d2 := hc6'.c2
    have e9 := ht6.c6
    have j0 : (0 : Int) ≤ (i : Int) := by omega
    have j1 : (i : Int) < (kl.length : Int) := by omega
    have HB12' := Lib.hid hb12
    have HB18' := Lib.hid hb18
    have HH6 := Lib.hid hh6
    have HC06 := Lib.hid hc06
    have HT6 := Lib.hid ht6
    have HF7 := Lib.hid hF7
    clear hb12 hb18 hh6 hc06 ht6 hF7 hF6 hn6 hc6' hF5 HB12 HB18 HC05 HH5 HT5 hc6
    refine wp_region_scr (fun w' => w'.cell? ⟨n, 3, none⟩ = some (.pointer (some ⟨ln.cc, 0, none⟩)) ∧ w'.cell? ⟨ln.cc, 0, none⟩ = some (.slice (some ⟨ln.cb, ln.co, none⟩) kl.length ln.ck) ∧ w'.cell? ⟨ln.cb, ln.co + i, none⟩ = some (.pointer (some ⟨c, 0, none⟩)) ∧ w'.cell? ⟨c, 2, none⟩ = some (.slice (some ⟨lc.ib, lc.io, none⟩) rc.items.length lc.ic) ∧ w'.cell? ⟨t, 10, none⟩ = some (.int .i64 mn)) (.soft 0 (.soft 1 (.soft 2 (.soft 3 (.soft 4 (.soft 5 (.soft 6 (.soft 7 (.soft 8 (.soft 9 (.soft 10 (.soft 11 (.soft 12 (.soft 13 (.soft 14 (.soft 15 (.soft 16 (.soft 17 .nil)))))))))))))))))) (by kernel_rfl) (by kernel_rfl) (fun _ _ _ _ _ h => h) ⟨n3, g1, g2, d2, e9⟩ ?_
    repeat
      first
      | (refine scr_soft (by rfl) ?_ ?_ ?_ ?_
         rotate_left
         · simp [Region.wanted, yielded]; done
         · intro w' hS
           try obtain ⟨a1, a2, a3, a4, a5⟩ := hS
           go_simp
           try with_reducible rfl
         simp only [Act.put, List.setIfInBounds_toArray, List.set_cons_zero, List.set_cons_succ])
      | (refine scr_skip (by rfl) ?_ ?_
         · simp [Region.wanted, yielded]; done
         simp only [Act.put, List.setIfInBounds_toArray, List.set_cons_zero, List.set_cons_succ])
    refine scr_nil ?_
    clear n3 g1 g2 d2 e9
    by_cases hlt : rc.items.length < mn
    · have hlt' : (rc.items.length : Int) < (mn : Int) := by omega
      have hGM : ∀ b, MOwn k t b → ¬ (grow F (w3.drew.alloc (.cells #[.int .i64 0, .int .i64 0] 30)) w4) b := fun b hm h => (hG0 b h).elim (htF b hm) (fun h => by have := ht.lt hm; omega)
      have HRB := Lib.hid (hreb _ _ _ _ _ hz4 ((upd_ne _ _ hcn).symm.trans hrc) hlt (HF7.out.chg ((Chg.refl (fun _ _ => False) w6).drew) (fun _ _ _ h => h)) (HT6.out.chg ((Chg.refl (fun _ _ => False) w6).drew) (fun _ _ _ h => h)) hGM)
      go_wp2_with fail
      refine HRB.out.mono ?_
      rintro e w8 ⟨rfl, H'', f8, g8, z8⟩
      have hszd6 : w6.drew.heap.size = w6.heap.size := rfl
      have hsz8 := g8.size
      have hb12 : w8.heap[w.heap.size + 1]? = some (.cells #[.int .i64 0, .int .i64 0] 30 (0, 0)) := by rw [g8.block (by omega) (fun _ h => hGo _ (by omega) (Nat.le_add_right _ _) h), hd_drew]; exact HB12'.out
      have hb18 : w8.heap[w2.heap.size]? = some (.cells #[.int .i64 y.1, .int .i64 y.2] 30 (0, 0)) := by rw [g8.block (by omega) (fun _ h => hGo _ hl18 hsz2 h), hd_drew]; exact HB18'.out
      have y0 := frozen_of_block hb12 0
      have y1 := frozen_of_block hb12 1
      have p0 := cell_of_block hb12 0
      have p1 := cell_of_block hb12 1
      simp only [List.getElem?_toArray, List.getElem?_cons_zero, List.getElem?_cons_succ] at p0 p1
      have x0 := frozen_of_block hb18 0
      have x1 := frozen_of_block hb18 1
      have r0 := cell_of_block hb18 0
      have r1 := cell_of_block hb18 1
      simp only [List.getElem?_toArray, List.getElem?_cons_zero, List.getElem?_cons_succ] at r0 r1
      have hc08 : Chg (fun b _ => F b ∨ hv = some b) w w8 := HC06.out.drew.trans' g8 (fun _ _ _ h => h) (fun b o hb h => (hG0 b h).elim .inl (fun h => by omega))
      have hh8 : HintO hv w8 := (HH6.out.keep ((Chg.refl (fun _ _ => False) w6).drew)).chg g8 (fun b _ e h => (hG0 b h).elim (hvF b e) (fun h => by have := hh.lt e; omega))
      have HF8 := Lib.hid f8
      have HC08 := Lib.hid hc08
      have HH8 := Lib.hid hh8
      have HZ8 := Lib.hid z8
      have HBB := Lib.hid hb12
      clear f8 g8 hc08 hh8 z8 hb12 hb18 HRB
      go_wp2_with fail
      refine name_prop (fun wl => Chg (fun b _ => b = w.heap.size + 1) w8 wl ∧ wl.heap[w.heap.size + 1]? = some (.cells #[.int .i64 y.1, .int .i64 y.2] 30 (0, 0))) ⟨?_, blk2 HBB.out _ _⟩ ?_
      · repeat (first | refine Chg.drew ?_ | refine Chg.drewN ?_ _ | refine Chg.setCell ?_ (.inl rfl) _ | exact Chg.refl _ _)
      clear p0 p1 r0 r1
      rintro wl ⟨hcl, hbl⟩
      have p0 := cell_of_block hbl 0
      have p1 := cell_of_block hbl 1
      simp only [List.getElem?_toArray, List.getElem?_cons_zero, List.getElem?_cons_succ] at p0 p1
      refine bodyPost_ret (v := .tuple #[.agg #[.int .i64 y.1, .int .i64 y.2], .bool true]) (by simp [results, Try.results88, go_sem, p0, p1]) rfl ?_
      have f9 := HF8.out.chg hcl (fun b o hb e => by
        rcases hb with hb | hb
        · exact hGo b (by omega) (by omega) hb
        · have h1 := hb.1; omega)
      refine ⟨H'', some y, rfl, f9.mono (fun b hb => ?_) (fun b hb => ?_), HC08.out.trans' hcl (fun _ _ _ h => h) (fun b o hb e => by omega), HH8.out.chg hcl (fun b _ e e2 => by have := hh.lt e; omega), HZ8.out⟩
      · have hbl := Nat.lt_of_lt_of_le (HF8.out.lt hb) hcl.size
        rcases hb with hb | hb
        · exact (hG0 b hb).elim .inl (fun h => .inr ⟨h, hbl⟩)
        · exact .inr ⟨by have := hb.1; omega, hbl⟩
      · rcases hb with hb | hb
        · exact Nat.lt_of_lt_of_le (hF.lt hb) (HC08.out.trans' hcl (B := fun _ _ => True) (fun _ _ _ _ => trivial) (fun _ _ _ _ => trivial)).size
        · exact hb.2
    · have hlt' : ¬ (rc.items.length : Int) < (mn : Int) := by omega
      have HOK := Lib.hid (hok _ _ _ hz4 ((upd_ne _ _ hcn).symm.trans hrc) (by omega))
      have y0 := frozen_of_block HB12'.out 0
      have y1 := frozen_of_block HB12'.out 1
      have p0 := cell_of_block HB12'.out 0
      have p1 := cell_of_block HB12'.out 1
      simp only [List.getElem?_toArray, List.getElem?_cons_zero, List.getElem?_cons_succ] at p0 p1
      have x0 := frozen_of_block HB18'.out 0
      have x1 := frozen_of_block HB18'.out 1
      have r0 := cell_of_block HB18'.out 0
      have r1 := cell_of_block HB18'.out 1
      simp only [List.getElem?_toArray, List.getElem?_cons_zero, List.getElem?_cons_succ] at r0 r1
      go_wp2_with fail
      refine name_prop (fun wl => Chg (fun b _ => b = w.heap.size + 1) w6 wl ∧ wl.heap[w.heap.size + 1]? = some (.cells #[.int .i64 y.1, .int .i64 y.2] 30 (0, 0))) ⟨?_, blk2 HB12'.out _ _⟩ ?_
      · repeat (first | refine Chg.drew ?_ | refine Chg.drewN ?_ _ | refine Chg.setCell ?_ (.inl rfl) _ | exact Chg.refl _ _)
      clear p0 p1 r0 r1
      rintro wl ⟨hcl, hbl⟩
      have p0 := cell_of_block hbl 0
      have p1 := cell_of_block hbl 1
      simp only [List.getElem?_toArray, List.getElem?_cons_zero, List.getElem?_cons_succ] at p0 p1
      refine bodyPost_ret (v := .tuple #[.agg #[.int .i64 y.1, .int .i64 y.2], .bool true]) (by simp [results, Try.results88, go_sem, p0, p1]) rfl ?_
      have f9 := HF7.out.chg hcl (fun b o hb e => hGo b (by omega) (by omega) hb)
      refine ⟨_, some y, rfl, f9.mono (fun b hb => ?_) (fun b hb => ?_), HC06.out.trans' hcl (fun _ _ _ h => h) (fun b o hb e => by omega), HH6.out.chg hcl (fun b _ e e2 => by have := hh.lt e; omega), HOK.out⟩
      · have hbl := f9.lt hb
        exact (hG0 b hb).elim .inl (fun h => .inr ⟨h, hbl⟩)
      · rcases hb with hb | hb
        · exact Nat.lt_of_lt_of_le (hF.lt hb) (HC06.out.trans' hcl (B := fun _ _ => True) (fun _ _ _ _ => trivial) (fun _ _ _ _ => trivial)).size
        · exact hb.2
end Go.Proofs.Ytgdchpinlboejaa

namespace Go.Proofs.Ytgdchpinlboejaa
set_option linter.unusedSimpArgs false
set_option linter.unusedVariables false
open Go.RowKit

variable {ord : List Int}

/-- What a deletion leaves of a tree. -/
def DelT (mn mx : Nat) (H : Nat → Option (NodeR (It ord))) (h : Nat) (T : BT (It ord) h) (m : Option (It ord)) (H' : Nat → Option (NodeR (It ord))) (o : Option (It ord)) : Prop :=
  (∃ T', DelIn mn mx H H' h T T' ∧ Gone ltM m (toL h T) (toL h T') o) ∧ (o = none → H' = H)

def DelMax (ord : List Int) (h : Nat) : Prop := ∀ (k : Kc ord) (mn mx t : Nat) (pa : Addr) (w : World) (F : Nat → Prop) (H : Nat → Option (NodeR (It ord))) (T : BT (It ord) h), TreeIn k mn mx w F H t h T → 1 ≤ mn → 1 ≤ (its T).length →
  w.cell? pa = some (.pointer (some ⟨rid T, 0, none⟩)) →
  Calls Try.prog 88 #[.pointer (some ⟨t, 0, none⟩), .pointer (some pa), .bool true, .agg #[.int .i64 0, .int .i64 0], .pointer none, .int .i64 0] w (DelPost k F none (DelT mn mx H h T none) w)

def DelKey (ord : List Int) (h : Nat) : Prop := ∀ (k : Kc ord) (mn mx t d : Nat) (pa : Addr) (x : It ord) (w : World) (F : Nat → Prop) (H : Nat → Option (NodeR (It ord))) (hv : Option Nat) (T : BT (It ord) h), TreeIn k mn mx w F H t h T → 1 ≤ mn → 1 ≤ (its T).length →
  HintO hv w → (∀ b, hv = some b → ¬ F b) → (∀ b, hv = some b → ¬ MOwn k t b) → d + h ≤ 1000000000000 → w.cell? pa = some (.pointer (some ⟨rid T, 0, none⟩)) →
  Calls Try.prog 88 #[.pointer (some ⟨t, 0, none⟩), .pointer (some pa), .bool false, aggM x, hintV hv, .int .i64 d] w (DelPost k F hv (DelT mn mx H h T (some x)) w)

theorem DelPost.mono {k : Kc ord} {F : Nat → Prop} {hv : Option Nat} {Z Z2 : (Nat → Option (NodeR (It ord))) → Option (It ord) → Prop} {w w' : World} {e : Ending} (h : DelPost k F hv Z w e w') (hz : ∀ H' o, Z H' o → Z2 H' o) : DelPost k F hv Z2 w e w' := by
  obtain ⟨H', o, h1, h2, h3, h4, h5⟩ := h
  exact ⟨H', o, h1, h2, h3, h4, hz _ _ h5⟩

theorem upd_upd {α : Type} (H : Nat → Option (NodeR α)) (n : Nat) (r s : NodeR α) : upd (upd H n r) n s = upd H n s := by
  funext m
  by_cases h : m = n
  · subst h; rw [upd_same, upd_same]
  · rw [upd_ne _ _ h, upd_ne _ _ h, upd_ne _ _ h]

theorem leaf_recs {H : Nat → Option (NodeR (It ord))} {T : BT (It ord) 0} {i : Nat} (hi : i < T.2.length) :
    upd H (rid T) ⟨(recOf 0 T).cnt - 1, (recOf 0 T).items.take i ++ (recOf 0 T).items.drop (i + 1), (recOf 0 T).kids⟩ = upd H (rid T) ⟨((T.2.take i ++ T.2.drop (i + 1)).length : Nat), T.2.take i ++ T.2.drop (i + 1), none⟩ := by
  congr 1
  show (⟨(T.2.length : Int) - 1, T.2.take i ++ T.2.drop (i + 1), none⟩ : NodeR (It ord)) = _
  congr 1
  simp only [List.length_append, List.length_take, List.length_drop]
  omega

theorem delMax0 : DelMax ord 0 := by
  intro k mn mx t pa w F H T hI hmn h1 hpa
  have hl : T.2.length ≤ mx := hI.sh
  have hm := hI.m1000
  have h1' : 1 ≤ T.2.length := h1
  obtain ⟨i, hil⟩ : ∃ i, T.2.length = i + 1 := ⟨T.2.length - 1, by omega⟩
  have hi : i < T.2.length := by omega
  obtain ⟨y, hy⟩ : ∃ y, T.2[i]? = some y := ⟨_, List.getElem?_eq_getElem hi⟩
  refine (delete_leaf_max (r := recOf 0 T) hI.fam hI.map hI.out hI.isT.root hpa (by show T.2.length ≤ 1000; omega) rfl hy hil (by show (0 : Int) ≤ (T.2.length : Nat) ∧ ((T.2.length : Nat) : Int) ≤ _; omega)).mono fun e w' h => h.mono ?_
  rintro H' o ⟨rfl, rfl⟩
  rw [leaf_recs hi]
  refine ⟨⟨_, delIn_leaf hI.nd hI.sh hi, y, rfl, ?_⟩, fun e => by cases e⟩
  show T.2 = (T.2.take i ++ T.2.drop (i + 1)) ++ [y]
  have e0 : T.2.drop (i + 1) = [] := List.drop_eq_nil_of_le (by omega)
  have e := split_at hy
  rw [e0] at e ⊢
  rw [List.append_nil]
  exact e

theorem delKey0 : DelKey ord 0 := by
  intro k mn mx t d pa x w F H hv T hI hmn h1 hh hvF hvt hd hpa
  have hl : T.2.length ≤ mx := hI.sh
  have hm := hI.m1000
  have h1' : 1 ≤ T.2.length := h1
  rcases pos_or_hit swoM (x := x) (its_srt hI.sh hI.srt) with ⟨i, hp⟩ | ⟨i, y, hy⟩
  · refine (delete_leaf_miss (r := recOf 0 T) hI.fam hI.map hI.isT.root hpa hI.srt (by show T.2.length ≤ 1000; omega) h1' rfl hp hh hvF hvt (by omega)).mono fun e w' h => h.mono ?_
    rintro H' o ⟨rfl, rfl⟩
    refine ⟨⟨T, DelIn.same hI.isT hI.nd hI.sh, ?_⟩, fun _ => rfl⟩
    have e2 := (pos_gap swoM (xs := T.2) hp).2
    exact ⟨e2.symm, (delL_none e2).symm⟩
  · have hi := (List.getElem?_eq_some_iff.1 hy.at_).1
    have hi' : i < T.2.length := hi
    refine (delete_leaf_hit (r := recOf 0 T) hI.fam hI.map hI.out hI.isT.root hpa hI.srt (by show T.2.length ≤ 1000; omega) rfl hy (by show (0 : Int) ≤ (T.2.length : Nat) ∧ ((T.2.length : Nat) : Int) ≤ _; omega) hh hvF hvt (by omega)).mono fun e w' h => h.mono ?_
    rintro H' o ⟨rfl, rfl⟩
    rw [leaf_recs hi']
    have e := split_at hy.at_
    have e1 : its T = T.2 := rfl
    rw [e1] at e
    have hA : ∀ a ∈ T.2.take i, ltM a x = true := fun a ha => by
      obtain ⟨j, hj, e⟩ := mem_take_get ha
      exact hy.left j a hj e
    refine ⟨⟨_, delIn_leaf hI.nd hI.sh hi', ?_, ?_⟩, fun e => by cases e⟩
    · show some y = fndL ltM x T.2
      rw [e]
      exact (fndL_hit hA hy.n1 hy.n2).symm
    · show T.2.take i ++ T.2.drop (i + 1) = delL ltM x T.2
      conv => rhs; rw [e]
      exact (delL_hit hA hy.n1 hy.n2).symm

/-- From the child's loss to the branch's: the record, and the rebalancing. -/
theorem kid_close {k : Kc ord} {mn mx t h : Nat} {w : World} {F : Nat → Prop} {H H1 : Nat → Option (NodeR (It ord))} {T : BT (It ord) (h + 1)} (hI : TreeIn k mn mx w F H t (h + 1) T) (h1 : 1 ≤ (its T).length) {i : Nat} {c c' : BT (It ord) h} {xs : List (It ord)} (hc : T.2.2[i]? = some c)
    (hd : DelIn mn mx H H1 h c c') (hx : xs.length = T.2.1.length) (hcnt : (toL (h + 1) (cutK T xs i c')).length + 1 = (toL (h + 1) T).length) {m : Option (It ord)} {y : It ord} (hg : Gone ltM m (toL (h + 1) T) (toL (h + 1) (cutK T xs i c')) (some y)) :
    (∀ rc, H1 (rid c) = some rc → rc = recOf h c') ∧
    (mn ≤ (its c').length → DelT mn mx H (h + 1) T m (upd H1 (rid T) ⟨(recOf (h + 1) T).cnt - 1, xs, (recOf (h + 1) T).kids⟩) (some y)) ∧
    (∀ w1 F1, (its c').length < mn → Fam (parM k) w1 F1 (upd H1 (rid T) ⟨(recOf (h + 1) T).cnt - 1, xs, (recOf (h + 1) T).kids⟩) → MapAt k mn mx w1 t → (∀ b, MOwn k t b → ¬ F1 b) →
      Calls Try.prog 98 #[.pointer (some ⟨t, 0, none⟩), .pointer (some ⟨rid T, 0, none⟩), .int .i64 i] w1 (RebPost' k F1 (fun H'' => DelT mn mx H (h + 1) T m H'' (some y)) w1)) := by
  have hcm : c ∈ T.2.2 := List.mem_of_getElem? hc
  have q := cut1_of hI.isT hI.nd hI.sh hc hd hx
  have e : (⟨(recOf (h + 1) T).cnt - 1, xs, (recOf (h + 1) T).kids⟩ : NodeR (It ord)) = ⟨((toL (h + 1) (cutK T xs i c')).length : Nat), xs, (recOf (h + 1) T).kids⟩ := by
    congr 1
    rw [recOf_cnt]; omega
  rw [e]
  refine ⟨fun rc hrc => ?_, fun hm => ⟨⟨_, q.fine hI.sh hm, hg⟩, fun e => by cases e⟩, fun w1 F1 hlt hF1 hM1 hout => ?_⟩
  · have := hd.isT.root
    rw [hd.rid', hrc] at this
    exact Option.some.inj this
  · have hcl := (hI.sh.2.2 c hcm).1
    have hl := hd.len
    have hxT : T.2.1.length ≤ mx := hI.sh.1
    have hbig := hI.big
    have hmh := hI.mh
    refine (reb_any (j := i) (T := cutK T xs i c') (c0 := c') hF1 hM1 hout q.isT q.nd (by rw [q.its']; exact h1) (by rw [q.its']; exact hxT) q.kids' q.sh q.others q.kid (by omega) (by omega) hI.m1000 (by omega)).mono ?_
    rintro e' w' ⟨rfl, H', T', f1, f2, f3⟩
    exact ⟨rfl, H', f1, f2, ⟨T', q.reb f3, by rw [f3.list]; exact hg⟩, fun e => by cases e⟩

theorem TreeIn.at {k : Kc ord} {mn mx t h : Nat} {w w1 : World} {F : Nat → Prop} {H : Nat → Option (NodeR (It ord))} {T : BT (It ord) h} (hI : TreeIn k mn mx w F H t h T) (hf : Fam (parM k) w1 F H) (hm : MapAt k mn mx w1 t) : TreeIn k mn mx w1 F H t h T :=
  ⟨hf, hm, hI.out, hI.isT, hI.nd, hI.sh, hI.srt, hI.big, hI.m3, hI.m1000, hI.mh, hI.mh2⟩

/-- What the walk asks of the child's loss. -/
theorem kid_facts {k : Kc ord} {mn mx t h : Nat} {w : World} {F : Nat → Prop} {H : Nat → Option (NodeR (It ord))} {T : BT (It ord) (h + 1)} (hI : TreeIn k mn mx w F H t (h + 1) T) {i : Nat} {c : BT (It ord) h} (hc : T.2.2[i]? = some c) {m : Option (It ord)} :
    ∀ H' o, DelT mn mx H h c m H' o → H' (rid T) = some (recOf (h + 1) T) ∧ ∃ rc, H' (rid c) = some rc ∧ rc.items.length ≤ 1000 := by
  rintro H' o ⟨⟨c', hd, hg⟩, _⟩
  have hcm : c ∈ T.2.2 := List.mem_of_getElem? hc
  have hm := hI.m1000
  refine ⟨(hd.rest _ (nodup_root hI.nd hcm)).trans hI.isT.root, recOf h c', ?_, ?_⟩
  · rw [← hd.rid']; exact hd.isT.root
  · rw [recOf_items]
    have := hd.sh.len
    omega

theorem kl_get {h : Nat} {T : BT (It ord) (h + 1)} {i : Nat} {c : BT (It ord) h} (hc : T.2.2[i]? = some c) : (T.2.2.map rid)[i]? = some (rid c) := by rw [List.getElem?_map, hc]; rfl

theorem recOf_kids' {h : Nat} (T : BT (It ord) (h + 1)) : (recOf (h + 1) T).kids = some ((T.2.2.map rid).map some) := by
  show some (T.2.2.map fun c => some (rid c)) = _
  rw [List.map_map]; rfl

theorem delMaxS {h : Nat} (ih : DelMax ord h) : DelMax ord (h + 1) := by
  intro k mn mx t pa w F H T hI hmn h1 hpa
  have hl : T.2.1.length ≤ mx := hI.sh.1
  have hm := hI.m1000
  have h1' : 1 ≤ T.2.1.length := h1
  have hkl : T.2.2.length = T.2.1.length + 1 := hI.sh.2.1
  have hbig := hI.big
  obtain ⟨j, hil⟩ : ∃ j, T.2.1.length = j + 1 := ⟨T.2.1.length - 1, by omega⟩
  obtain ⟨c, hc⟩ : ∃ c, T.2.2[j + 1]? = some c := ⟨_, List.getElem?_eq_getElem (by omega)⟩
  have hcm : c ∈ T.2.2 := List.mem_of_getElem? hc
  have hcn : rid c ≠ rid T := fun e => nodup_root hI.nd hcm (e ▸ rid_mem c)
  have hgone : ∀ c' o, Gone ltM none (toL h c) (toL h c') o → Gone ltM none (toL (h + 1) T) (toL (h + 1) (cutK T T.2.1 (j + 1) c')) o := by
    intro c' o hg
    rw [toL_at hI.sh hc, toL_cutK hI.sh hc rfl]
    have e : T.2.1.drop (j + 1) = [] := List.drop_eq_nil_of_le (by omega)
    rw [e]
    have e2 : ∀ us, post ([] : List (It ord)) us = [] := fun us => by cases us <;> rfl
    rw [e2, List.append_nil, List.append_nil]
    exact hg.last
  refine delete_kid_max (r := recOf (h + 1) T) (kl := T.2.2.map rid) (c := rid c) (j := j) (i := j + 1) hI.fam hI.map hI.out hI.isT.root hpa (by show T.2.1.length ≤ 1000; omega) hil rfl (recOf_kids' T) (kl_get hc) hcn (by rw [recOf_cnt]; omega)
    (DelT mn mx H h c none) (DelT mn mx H (h + 1) T none) (fun w1 pa1 hc1 hf1 hm1 hp1 => ih k mn mx t pa1 w1 F H c (hI.kid hc1 hf1 hm1 hc) hmn (Nat.le_trans hmn (hI.sh.2.2 c hcm).1) hp1) (kid_facts hI hc) ?_ ?_ ?_
  · rintro H' ⟨⟨c', _, y, e, _⟩, _⟩
    cases e
  · rintro H' y rc ⟨⟨c', hd, hg⟩, _⟩ hrc hmr
    have hg2 := hgone c' _ hg
    obtain ⟨q1, q2, _⟩ := kid_close hI h1 hc hd rfl hg2.len hg2
    have e := q1 rc hrc
    refine q2 ?_
    rw [e, recOf_items] at hmr; exact hmr
  · rintro H' y rc w1 F1 ⟨⟨c', hd, hg⟩, _⟩ hrc hmr hF1 hM1 ho1
    have hg2 := hgone c' _ hg
    obtain ⟨q1, _, q3⟩ := kid_close hI h1 hc hd rfl hg2.len hg2
    have e := q1 rc hrc
    rw [e, recOf_items] at hmr
    exact q3 w1 F1 hmr hF1 hM1 ho1

theorem delMax : ∀ h, DelMax ord h
  | 0 => delMax0
  | h + 1 => delMaxS (delMax h)

theorem delKeyS {h : Nat} (ih : DelKey ord h) : DelKey ord (h + 1) := by
  intro k mn mx t d pa x w F H hv T hI hmn h1 hh hvF hvt hd hpa
  have hl : T.2.1.length ≤ mx := hI.sh.1
  have hm := hI.m1000
  have h1' : 1 ≤ T.2.1.length := h1
  have hkl : T.2.2.length = T.2.1.length + 1 := hI.sh.2.1
  have hbig := hI.big
  have hits := its_srt hI.sh hI.srt
  have hcnt : 0 ≤ (recOf (h + 1) T).cnt ∧ (recOf (h + 1) T).cnt ≤ 100000000000000 := by rw [recOf_cnt]; omega
  have hfch : ∀ w1, Chg (fun b _ => hv = some b) w w1 → Fam (parM k) w1 F H := fun w1 c => hI.fam.chg c (fun b _ hb e => hvF b e hb)
  rcases pos_or_hit swoM (x := x) hits with ⟨i, hp⟩ | ⟨i, y, hy⟩
  · have hip : i ≤ T.2.1.length := hp.le
    obtain ⟨c, hc⟩ : ∃ c, T.2.2[i]? = some c := ⟨_, List.getElem?_eq_getElem (by omega)⟩
    have hcm : c ∈ T.2.2 := List.mem_of_getElem? hc
    have hcn : rid c ≠ rid T := fun e => nodup_root hI.nd hcm (e ▸ rid_mem c)
    obtain ⟨hA, hC⟩ := around swoM hI.sh hc hI.srt hp
    have hgone : ∀ c' o, Gone ltM (some x) (toL h c) (toL h c') o → Gone ltM (some x) (toL (h + 1) T) (toL (h + 1) (cutK T T.2.1 i c')) o := by
      intro c' o hg
      rw [toL_at hI.sh hc, toL_cutK hI.sh hc rfl]
      exact hg.mid swoM hA hC
    refine delete_kid (r := recOf (h + 1) T) (kl := T.2.2.map rid) (c := rid c) (i := i) hI.fam hI.map hI.out hI.isT.root hpa hits (by show T.2.1.length ≤ 1000; omega) h1' (recOf_kids' T) (kl_get hc) hcn hp hcnt hh hvF hvt (by omega)
      (DelT mn mx H h c (some x)) (DelT mn mx H (h + 1) T (some x)) (fun w1 pa1 hc1 hf1 hm1 hh1 hp1 => ?_) (kid_facts hI hc) ?_ ?_ ?_
    · exact ih k mn mx t (d + 1) pa1 x w1 F H hv c ((hI.at hf1 hm1).kid (Chg.refl _ _) hf1 hm1 hc) hmn (Nat.le_trans hmn (hI.sh.2.2 c hcm).1) hh1 hvF hvt (by omega) hp1
    · rintro H' ⟨⟨c', hd2, hg⟩, he⟩
      obtain rfl := he rfl
      refine ⟨⟨T, DelIn.same hI.isT hI.nd hI.sh, ?_⟩, fun _ => rfl⟩
      have e : none = fndL ltM x (toL (h + 1) T) := (hgone c' none hg).1
      exact ⟨e, (delL_none e.symm).symm⟩
    · rintro H' y rc ⟨⟨c', hd2, hg⟩, _⟩ hrc hmr
      have hg2 := hgone c' _ hg
      obtain ⟨q1, q2, _⟩ := kid_close hI h1 hc hd2 rfl hg2.len hg2
      have e := q1 rc hrc
      refine q2 ?_
      rw [e, recOf_items] at hmr; exact hmr
    · rintro H' y rc w1 F1 ⟨⟨c', hd2, hg⟩, _⟩ hrc hmr hF1 hM1 ho1
      have hg2 := hgone c' _ hg
      obtain ⟨q1, _, q3⟩ := kid_close hI h1 hc hd2 rfl hg2.len hg2
      have e := q1 rc hrc
      rw [e, recOf_items] at hmr
      exact q3 w1 F1 hmr hF1 hM1 ho1
  · have hyi : T.2.1[i]? = some y := hy.at_
    have hip : i < T.2.1.length := (List.getElem?_eq_some_iff.1 hyi).1
    obtain ⟨c, hc⟩ : ∃ c, T.2.2[i]? = some c := ⟨_, List.getElem?_eq_getElem (by omega)⟩
    have hcm : c ∈ T.2.2 := List.mem_of_getElem? hc
    have hcn : rid c ≠ rid T := fun e => nodup_root hI.nd hcm (e ▸ rid_mem c)
    have hgone : ∀ c' z, Gone ltM none (toL h c) (toL h c') (some z) → Gone ltM (some x) (toL (h + 1) T) (toL (h + 1) (cutK T (T.2.1.set i z) i c')) (some y) := by
      intro c' z hg
      rw [toL_at hI.sh hc, toL_cutK hI.sh hc (by rw [List.length_set])]
      have e1 : (T.2.1.set i z).take i = T.2.1.take i := List.take_set_of_le (Nat.le_refl _)
      have e2 : (T.2.1.set i z).drop i = z :: T.2.1.drop (i + 1) := by
        rw [List.drop_eq_getElem_cons (by rw [List.length_set]; exact hip), List.drop_set_of_lt (Nat.lt_succ_self _)]
        simp
      have e3 : T.2.1.drop i = y :: T.2.1.drop (i + 1) := by
        obtain ⟨g1, g2⟩ := List.getElem?_eq_some_iff.1 hyi
        rw [List.drop_eq_getElem_cons g1, g2]
      obtain ⟨u, us, e4⟩ : ∃ u us, (T.2.2.map (toL h)).drop (i + 1) = u :: us := by
        have hlt : i + 1 < (T.2.2.map (toL h)).length := by rw [List.length_map]; omega
        exact ⟨_, _, List.drop_eq_getElem_cons hlt⟩
      rw [e1, e2, e3, e4]
      have hsrt := hI.srt
      rw [toL_at hI.sh hc, e3, e4] at hsrt
      show Gone ltM (some x) (_ ++ toL h c ++ y :: (u ++ post (T.2.1.drop (i + 1)) us)) (_ ++ toL h c' ++ z :: (u ++ post (T.2.1.drop (i + 1)) us)) (some y)
      refine Gone.hit (fun a ha => ?_) hy.n1 hy.n2 hg
      exact swoM.lt_of_lt_of_nlt ((List.pairwise_append.1 hsrt).2.2 a ha y List.mem_cons_self) hy.n2
    refine delete_kid_hit (r := recOf (h + 1) T) (kl := T.2.2.map rid) (c := rid c) (i := i) hI.fam hI.map hI.out hI.isT.root hpa hits (by show T.2.1.length ≤ 1000; omega) (recOf_kids' T) (kl_get hc) hcn hy hcnt hh hvF hvt (by omega)
      (DelT mn mx H h c none) (DelT mn mx H (h + 1) T (some x)) (fun w1 pa1 hc1 hf1 hm1 hp1 => ?_) (kid_facts hI hc) ?_ ?_ ?_
    · exact delMax h k mn mx t pa1 w1 F H c ((hI.at hf1 hm1).kid (Chg.refl _ _) hf1 hm1 hc) hmn (Nat.le_trans hmn (hI.sh.2.2 c hcm).1) hp1
    · rintro H' ⟨⟨c', _, y, e, _⟩, _⟩
      cases e
    · rintro H' z rc ⟨⟨c', hd2, hg⟩, _⟩ hrc hmr
      have hg2 := hgone c' _ hg
      obtain ⟨q1, q2, _⟩ := kid_close hI h1 hc hd2 (by rw [List.length_set]) hg2.len hg2
      have e := q1 rc hrc
      rw [upd_upd]
      refine q2 ?_
      rw [e, recOf_items] at hmr; exact hmr
    · rintro H' z rc w1 F1 ⟨⟨c', hd2, hg⟩, _⟩ hrc hmr hF1 hM1 ho1
      have hg2 := hgone c' _ hg
      obtain ⟨q1, _, q3⟩ := kid_close hI h1 hc hd2 (by rw [List.length_set]) hg2.len hg2
      have e := q1 rc hrc
      rw [e, recOf_items] at hmr
      rw [upd_upd] at hF1
      exact q3 w1 F1 hmr hF1 hM1 ho1

theorem delKey : ∀ h, DelKey ord h
  | 0 => delKey0
  | h + 1 => delKeyS (delKey h)
end Go.Proofs.Ytgdchpinlboejaa

namespace Go.Proofs.Ytgdchpinlboejaa
set_option linter.unusedSimpArgs false
set_option linter.unusedVariables false
open Go.RowKit

variable {ord : List Int}

/-- A deletion from a tree: what it gives, and what is left. -/
def DelAns (k : Kc ord) (mn mx : Nat) (hv : Option Nat) (w : World) (F : Nat → Prop) (t : Nat) (l : List (It ord)) (x : It ord) (e : Ending) (w' : World) : Prop :=
  SetRet l x e ∧ ∃ F', MapIn k mn mx w' F' t (delL ltM x l) ∧ Chg (fun b _ => (F b ∨ b = t) ∨ hv = some b) w w' ∧ (∀ b, F' b → F b ∨ w.heap.size ≤ b) ∧ HintO hv w'

theorem setRet_last {l : List (It ord)} {x : It ord} {o : Option (It ord)} (h : o = fndL ltM x l) : SetRet l x (.returned (lastV o)) := by
  cases o with
  | none => exact .inr ⟨h.symm, rfl⟩
  | some y => exact .inl ⟨y, h.symm, rfl⟩

theorem hgt_le {α : Type} {mn mx : Nat} (hmn : 1 ≤ mn) : (h : Nat) → (T : BT α h) → Sh mn mx h T → 1 ≤ (its T).length → h ≤ (toL h T).length
  | 0, _, _, _ => Nat.zero_le _
  | h + 1, T, hs, h1 => by
    obtain ⟨c, hc⟩ : ∃ c, T.2.2[0]? = some c := ⟨_, List.getElem?_eq_getElem (by have := hs.2.1; omega)⟩
    have hcm : c ∈ T.2.2 := List.mem_of_getElem? hc
    have h2 := hgt_le hmn h c (hs.2.2 c hcm).2 (by have := (hs.2.2 c hcm).1; omega)
    have h3 := kid_lt hs hcm h1
    omega

set_option maxRecDepth 100000 in
set_option maxHeartbeats 4000000 in
theorem deleteHint_empty {k : Kc ord} {mn mx : Nat} {w : World} {F : Nat → Prop} {t : Nat} {hv : Option Nat} (x : It ord) (hB : MapBlk k mn mx w t none 0) (hF : ∀ b, ¬ F b) (hh : HintO hv w) :
    Calls Try.prog 69 #[.pointer (some ⟨t, 0, none⟩), aggM x, hintV hv] w (DelAns k mn mx hv w F t [] x) := by
  have c2 : w.cell? ⟨t, 2, none⟩ = some (.pointer none) := hB.c2
  have tlt := hB.lt
  have tlt1 : t < w.heap.size + 1 := by omega
  have tlt2 : t < w.heap.size + 1 + 1 := by omega
  obtain ⟨c7, c8⟩ := hB.empty
  have HB := Lib.hid hB
  clear hB
  unfold aggM hintV
  go_enter Try.func69, Try.ntmps69
  go_wp2_with fail
  refine name_prop (fun wl => Chg (fun _ _ => False) w wl ∧ wl.heap[w.heap.size + 1]? = some (.cells #[.int .i64 0, .int .i64 0] 30 (0, 0))) ⟨?_, by first | exact ha_at _ _ (by simp) | exact blk2 (ha_at _ _ (by simp)) _ _⟩ ?_
  · repeat (first | refine Chg.drew ?_ | refine Chg.drewN ?_ _ | refine Chg.setCell ?_ (.inr (by simp)) _ | refine Chg.alloc ?_ _ | exact Chg.refl _ _)
  rintro wl ⟨hcl, hbl⟩
  have p0 := cell_of_block hbl 0
  have p1 := cell_of_block hbl 1
  simp only [List.getElem?_toArray, List.getElem?_cons_zero, List.getElem?_cons_succ] at p0 p1
  refine bodyPost_ret (v := .tuple #[.agg #[.int .i64 0, .int .i64 0], .bool false]) (by simp [results, Try.results69, go_sem, p0, p1]) rfl ?_
  exact ⟨.inr ⟨rfl, rfl⟩, F, .inl ⟨rfl, hF, HB.out.chg hcl (fun _ _ _ h => h)⟩, hcl.mono (fun _ _ _ h => h.elim), fun _ h => .inl h, hh.keep hcl⟩

set_option maxRecDepth 100000 in
set_option maxHeartbeats 4000000 in
theorem deleteHint_tree {k : Kc ord} {mn mx : Nat} {w : World} {F : Nat → Prop} {H : Nat → Option (NodeR (It ord))} {t h : Nat} {T : BT (It ord) h} {hv : Option Nat} (x : It ord) (hI : TreeIn k mn mx w F H t h T) (hB : MapBlk k mn mx w t (some (rid T)) (toL h T).length) (h1 : 1 ≤ (its T).length) (hmn : 1 ≤ mn)
    (hh : HintO hv w) (hvF : ∀ b, hv = some b → ¬ F b) (hvt : ∀ b, hv = some b → ¬ MOwn k t b) (hsz : (toL h T).length ≤ 1000000000000) :
    Calls Try.prog 69 #[.pointer (some ⟨t, 0, none⟩), aggM x, hintV hv] w (DelAns k mn mx hv w F t (toL h T) x) := by
  have c2 : w.cell? ⟨t, 2, none⟩ = some (.pointer (some ⟨rid T, 0, none⟩)) := hB.c2
  have tlt := hB.lt
  have tlt1 : t < w.heap.size + 1 := by omega
  have hgt := hgt_le hmn h T hI.sh h1
  have hnv : ∀ b, w.heap.size ≤ b → ¬ hv = some b := fun b hb e => by have := hh.lt e; omega
  have nF : ∀ b, w.heap.size ≤ b → ¬ F b := fun b hb hf => Nat.lt_irrefl _ (Nat.lt_of_lt_of_le (hI.fam.lt hf) hb)
  have hdel := fun (w1 : World) (c : Chg (fun _ _ => False) w w1) => delKey (ord := ord) h k mn mx t 0 ⟨t, 2, none⟩ x w1 F H hv T (hI.at (hI.fam.chg c (fun _ _ _ h => h)) (hI.map.chg c (fun _ _ _ h => h))) hmn h1 (hh.keep c) hvF hvt (by omega) (c.cell (fun h => h) hB.c2)
  rw [show ((0 : Nat) : Int) = 0 from rfl] at hdel
  unfold aggM hintV at hdel
  have HDEL := Lib.hid hdel
  clear hdel
  unfold aggM hintV
  go_enter Try.func69, Try.ntmps69
  go_wp2_with fail
  refine name_world (fun w1 => Chg (fun _ _ => False) w w1 ∧ w1.heap[w.heap.size]? = some (.cells #[.int .i64 x.1, .int .i64 x.2] 30 (0, 0)) ∧ w1.heap[w.heap.size + 1]? = some (.cells #[.int .i64 0, .int .i64 0] 30 (0, 0))) ⟨((Chg.refl _ _).alloc _).alloc _, ?_, ha_at _ _ (by simp)⟩ ?_
  · rw [ha_lt _ _ (by simp)]; exact ha_at _ _ rfl
  rintro w1 ⟨hc1, hb4, hb6⟩
  have q0 := cell_of_block hb4 0
  have q1 := cell_of_block hb4 1
  simp only [List.getElem?_toArray, List.getElem?_cons_zero, List.getElem?_cons_succ] at q0 q1
  have hl6 := heap_lt hb6
  have HB6 := Lib.hid hb6
  have hsz1 := hc1.size
  clear hb4 hb6 c2
  refine wp_region_scr (fun w' => w'.cell? ⟨w.heap.size, 0, none⟩ = some (.int .i64 x.1) ∧ w'.cell? ⟨w.heap.size, 1, none⟩ = some (.int .i64 x.2)) (.soft 0 (.soft 1 (.soft 2 (.soft 3 (.soft 4 (.soft 5 (.fork 6 10 (.soft 7 (.soft 8 (.soft 9 (.hard 10 (.hard 11 (.soft 12 .nil)))))) (.hard 6 (.soft 7 (.soft 8 (.soft 9 (.hard 11 (.soft 12 .nil))))))))))))) (by kernel_rfl) (by kernel_rfl) (fun _ _ _ _ _ h => h) ⟨q0, q1⟩ ?_
  repeat
    first
    | (refine scr_soft (by rfl) ?_ ?_ ?_ ?_
       rotate_left
       · simp [Region.wanted, yielded]; done
       · intro w' hS
         try obtain ⟨a1, a2⟩ := hS
         go_simp
         try with_reducible rfl
       simp only [Act.put, List.setIfInBounds_toArray, List.set_cons_zero, List.set_cons_succ])
    | (refine scr_skip (by rfl) ?_ ?_
       · simp [Region.wanted, yielded]; done
       simp only [Act.put, List.setIfInBounds_toArray, List.set_cons_zero, List.set_cons_succ])
  refine scr_fork (by rfl) (by rfl) rfl rfl (fun K hK => ?_) (fun K hK => ?_)
  · go_simp
    refine (HDEL.out _ hc1.drew).mono ?_
    rintro e w2 ⟨H', o, rfl, hF2, hc2, hh2, hz⟩
    have hno : ∀ b, w.heap.size ≤ b → ¬ (F b ∨ hv = some b) := fun b hb h => h.elim (nF b hb) (hnv b hb)
    refine hK _ _ ⟨hc2.cell (hno _ (Nat.le_refl _)) (by simpa using q0), hc2.cell (hno _ (Nat.le_refl _)) (by simpa using q1)⟩ ?_
    clear hK K
    have hsz2 := hc2.size
    have hszd : w1.drew.heap.size = w1.heap.size := rfl
    obtain ⟨vx, vb, hov, hvo⟩ : ∃ (vx : It ord) (vb : Bool), lastV o = .tuple #[.agg #[.int .i64 vx.1, .int .i64 vx.2], .bool vb] ∧ ((o = none ∧ vx = (0, 0) ∧ vb = false) ∨ (o = some vx ∧ vb = true)) := by
      rcases o with _ | y
      · exact ⟨(0, 0), false, rfl, .inl ⟨rfl, rfl, rfl⟩⟩
      · exact ⟨y, true, rfl, .inr ⟨rfl, rfl⟩⟩
    rw [hov]
    have HVO := Lib.hid hvo
    have q0' := hc2.cell (hno _ (Nat.le_refl _)) (show w1.drew.cell? ⟨w.heap.size, 0, none⟩ = some (.int .i64 x.1) by simpa using q0)
    have q1' := hc2.cell (hno _ (Nat.le_refl _)) (show w1.drew.cell? ⟨w.heap.size, 1, none⟩ = some (.int .i64 x.2) by simpa using q1)
    clear hov hvo
    repeat
      first
      | (refine scr_soft (by rfl) ?_ ?_ ?_ ?_
         rotate_left
         · simp [Region.wanted, yielded]; done
         · intro w' hS
           try obtain ⟨a1, a2⟩ := hS
           go_simp
           try with_reducible rfl
         simp only [Act.put, List.setIfInBounds_toArray, List.set_cons_zero, List.set_cons_succ])
      | (refine scr_skip (by rfl) ?_ ?_
         · simp [Region.wanted, yielded]; done
         simp only [Act.put, List.setIfInBounds_toArray, List.set_cons_zero, List.set_cons_succ])
    refine scr_hard (by rfl) (by simp [Region.wanted, yielded]) (fun K hK => ?_)
    go_simp
    have hca := (Chg.refl (fun _ _ => False) w2).alloc (.cells #[.int .i64 0, .int .i64 0] 30)
    refine hK _ _ ⟨hca.cell (fun h => h) q0', hca.cell (fun h => h) q1'⟩ ?_
    clear hK K
    refine scr_hard (by rfl) (by simp [Region.wanted, yielded]) (fun K hK => ?_)
    go_simp
    refine hK _ _ ⟨Chg.cell (A := fun _ _ => False) ?_ (fun h => h) q0', Chg.cell (A := fun _ _ => False) ?_ (fun h => h) q1'⟩ ?_
    · repeat (first | refine Chg.drew ?_ | refine Chg.drewN ?_ _ | refine Chg.setCell ?_ (.inr (by simp)) _ | refine Chg.alloc ?_ _ | exact Chg.refl _ _)
    · repeat (first | refine Chg.drew ?_ | refine Chg.drewN ?_ _ | refine Chg.setCell ?_ (.inr (by simp)) _ | refine Chg.alloc ?_ _ | exact Chg.refl _ _)
    clear hK K
    repeat
      first
      | (refine scr_soft (by rfl) ?_ ?_ ?_ ?_
         rotate_left
         · simp [Region.wanted, yielded]; done
         · intro w' hS
           try obtain ⟨a1, a2⟩ := hS
           go_simp
           try with_reducible rfl
         simp only [Act.put, List.setIfInBounds_toArray, List.set_cons_zero, List.set_cons_succ])
      | (refine scr_skip (by rfl) ?_ ?_
         · simp [Region.wanted, yielded]; done
         simp only [Act.put, List.setIfInBounds_toArray, List.set_cons_zero, List.set_cons_succ])
    refine scr_nil ?_
    refine name_prop (fun w3 => Chg (fun _ _ => False) w2 w3 ∧ w3.heap[w2.heap.size]? = some (.cells #[.int .i64 vx.1, .int .i64 vx.2] 30 (0, 0))) ⟨?_, by first | exact ha_at _ _ rfl | exact blk2 (ha_at _ _ rfl) _ _⟩ ?_
    · repeat (first | refine Chg.drew ?_ | refine Chg.drewN ?_ _ | refine Chg.setCell ?_ (.inr (by simp)) _ | refine Chg.alloc ?_ _ | exact Chg.refl _ _)
    rintro w3 ⟨hc23, hb8⟩
    obtain ⟨G, hGd⟩ : ∃ G, G = grow F w1.drew w2 := ⟨_, rfl⟩
    have hc03 : Chg (fun b _ => F b ∨ hv = some b) w w3 := ((hc1.drew.mono (fun _ _ _ h => h.elim)).trans hc2).trans (hc23.mono (fun _ _ _ h => h.elim))
    have hF3 : Fam (parM k) w3 G H' := by rw [hGd]; exact hF2.chg hc23 (fun _ _ _ h => h)
    have hB3 := hB.chg hc03 (fun b _ hm h => h.elim (hI.out b hm) (fun e => hvt b e hm))
    have hh3 : HintO hv w3 := hh2.keep hc23
    have hb6 : w3.heap[w.heap.size + 1]? = some (.cells #[.int .i64 0, .int .i64 0] 30 (0, 0)) := by
      rw [hc23.block (by omega) (fun _ h => h), hc2.block (by omega) (fun _ h => hno _ (Nat.le_add_right _ _) h), hd_drew]; exact HB6.out
    have hG0 : ∀ b, G b → F b ∨ w.heap.size ≤ b := fun b h => by
      rw [hGd] at h
      rcases h with h | h
      · exact .inl h
      · exact .inr (by have := h.1; omega)
    have hGo : ∀ b, (b = w.heap.size + 1 ∨ b = w2.heap.size) → ¬ G b := fun b hb h => by
      rw [hGd] at h
      rcases h with h | h
      · exact nF b (by omega) h
      · have h3 := h.1; have h4 := h.2; omega
    clear q0' q1' q0 q1 hF2 hc2 hh2 hc23 hGd
    have e30 := hB3.c3
    have z32 := hB3.fz 2
    have z33 := hB3.fz 3
    have c2 : w3.cell? ⟨t, 2, none⟩ = some (.pointer (some ⟨rid T, 0, none⟩)) := hB3.c2
    obtain ⟨e7, e8⟩ := hB3.empty
    have HB3 := Lib.hid hB3
    have HF3 := Lib.hid hF3
    have HC03 := Lib.hid hc03
    have HH3 := Lib.hid hh3
    have HG0 := Lib.hid hG0
    have HGo := Lib.hid hGo
    have HB6 := Lib.hid hb6
    have HB8 := Lib.hid hb8
    have HOT := Lib.hid hI.out
    have HSRT := Lib.hid hI.srt
    have HBIG := Lib.hid hI.big
    have hs4 := Lib.hid (show _ ∧ _ ∧ _ ∧ _ from ⟨hI.m3, hI.m1000, hI.mh, hI.mh2⟩)
    have mlt : ∀ b, MOwn k t b → b < w.heap.size := fun b hm => hI.map.lt hm
    have HML := Lib.hid mlt
    have hl8 := heap_lt hb8
    obtain ⟨⟨T', hd, hg⟩, hsame⟩ := hz
    have HD := Lib.hid hd
    have HGN := Lib.hid hg
    have hfl : o = fndL ltM x (toL h T) := hg.1
    have hle : toL h T' = delL ltM x (toL h T) := hg.2
    have HFL := Lib.hid hfl
    have HLE := Lib.hid hle
    have hout3 : ∀ b, MOwn k t b → ¬ G b := fun b hm h => (HG0.out b h).elim (HOT.out b hm) (fun h => by have := HML.out b hm; omega)
    have HO3 := Lib.hid hout3
    clear hd hg hfl hle hB3 hF3 hc03 hh3 hG0 hGo hb6 hb8 mlt hout3
    rcases HVO.out with ⟨rfl, rfl, rfl⟩ | ⟨rfl, rfl⟩
    · obtain rfl := hsame rfl
      have hdl := Lib.hid (delL_none HFL.out.symm)
      have y0 := frozen_of_block HB6.out 0
      have y1 := frozen_of_block HB6.out 1
      have p0 := cell_of_block HB6.out 0
      have p1 := cell_of_block HB6.out 1
      simp only [List.getElem?_toArray, List.getElem?_cons_zero, List.getElem?_cons_succ] at p0 p1
      clear z32 z33 e30 c2
      go_wp2_with fail
      refine name_prop (fun wl => Chg (fun b _ => b = w.heap.size + 1) (w3) wl ∧ wl.heap[w.heap.size + 1]? = some (.cells #[.int .i64 0, .int .i64 0] 30 (0, 0))) ⟨?_, blk2 HB6.out _ _⟩ ?_
      · repeat (first | refine Chg.drew ?_ | refine Chg.drewN ?_ _ | refine Chg.setCell ?_ (.inl rfl) _ | exact Chg.refl _ _)
      clear p0 p1
      rintro wl ⟨hcl, hbl⟩
      have p0 := cell_of_block hbl 0
      have p1 := cell_of_block hbl 1
      simp only [List.getElem?_toArray, List.getElem?_cons_zero, List.getElem?_cons_succ] at p0 p1
      refine bodyPost_ret (v := .tuple #[.agg #[.int .i64 0, .int .i64 0], .bool false]) (by simp [results, Try.results69, go_sem, p0, p1]) rfl ?_
      have hbw : w.heap.size + 1 ≠ t := fun e => by have := HML.out t MOwn.self; omega
      have hB9 := HB3.out.chg hcl (fun b _ hm e => by have := HML.out b hm; omega)
      have hF9 := HF3.out.chg hcl (fun b _ hb e => HGo.out b (.inl e) hb)
      refine ⟨setRet_last HFL.out, G, .inr ⟨H', h, T, ⟨hF9, hB9.at_, HO3.out, hI.isT, hI.nd, hI.sh, hI.srt, hI.big, hI.m3, hI.m1000, hI.mh, hI.mh2⟩, hB9, hdl.out.symm, h1⟩, ?_, HG0.out, HH3.out.chg hcl (fun b _ e e2 => by have := hh.lt e; omega)⟩
      exact (HC03.out.mono (fun b _ _ h => h.elim (fun h => .inl (.inl h)) .inr)).trans' hcl (fun _ _ _ h => h) (fun b o hb e => by omega)
    · have hroot : H' (rid T) = some (recOf h T') := by rw [← HD.out.rid']; exact HD.out.isT.root
      obtain ⟨ln, hnr⟩ := HF3.out.node hroot
      have n2 := hnr.c2
      rw [recOf_items] at n2
      have hlen := HGN.out.len
      have hsl := HD.out.sh.len
      have hbg := HBIG.out
      have h1000 := hs4.out.2.1
      have s1 : IntKind.i64.wrap (((toL h T).length : Int) - 1) = ((toL h T').length : Int) := (by rw [IntWalk.i64_in _ (by omega)]; omega)
      have srt' : Srt ltM (toL h T') := HSRT.out.sublist HGN.out.sub
      have HS' := Lib.hid srt'
      replace hlen := Lib.hid hlen
      have fin : ∀ w9 (wf : World) (F9 : Nat → Prop), Chg (fun b _ => b = t) w3 w9 → Chg (fun b _ => b = w.heap.size + 1) w9 wf → MapIn k mn mx w9 F9 t (toL h T') → (∀ b, F9 b → G b) → DelAns k mn mx hv w F t (toL h T) x (.returned (.tuple #[.agg #[.int .i64 vx.1, .int .i64 vx.2], .bool true])) wf := by
        intro w9 wf F9 c1 c2 hM hFG
        refine ⟨setRet_last HFL.out, F9, ?_, ?_, fun b hb => HG0.out b (hFG b hb), (HH3.out.chg c1 (fun b _ e e2 => hvt b e (e2 ▸ MOwn.self))).chg c2 (fun b _ e e2 => by have := hh.lt e; omega)⟩
        · rw [← HLE.out]
          exact hM.chgA c2 (fun b _ hb e => HGo.out b (.inl e) (hFG b hb)) (fun b _ hm e => by have := HML.out b hm; omega)
        · exact ((HC03.out.mono (fun b _ _ h => h.elim (fun h => .inl (.inl h)) .inr)).trans (c1.mono (fun b _ _ h => .inl (.inr h)))).trans' c2 (fun _ _ _ h => h) (fun b o hb e => by omega)
      have FIN := Lib.hid fin
      have y0 := frozen_of_block HB6.out 0
      have y1 := frozen_of_block HB6.out 1
      have p0 := cell_of_block HB6.out 0
      have p1 := cell_of_block HB6.out 1
      simp only [List.getElem?_toArray, List.getElem?_cons_zero, List.getElem?_cons_succ] at p0 p1
      have x0 := frozen_of_block HB8.out 0
      have x1 := frozen_of_block HB8.out 1
      have r0 := cell_of_block HB8.out 0
      have r1 := cell_of_block HB8.out 1
      simp only [List.getElem?_toArray, List.getElem?_cons_zero, List.getElem?_cons_succ] at r0 r1
      clear srt' fin
      have u1 : ¬ w.heap.size + 1 = t := fun e => by have := HML.out t MOwn.self; omega
      have u2 : ¬ t = w.heap.size + 1 := fun e => u1 e.symm
      have u3 : ¬ t = w2.heap.size := fun e => by have := HML.out t MOwn.self; omega
      have u4 : ¬ w2.heap.size = t := fun e => u3 e.symm
      by_cases h0 : 1 ≤ (its T').length
      · have g0 : (((its T').length : Int) == 0) = false := beq_eq_false_iff_ne.2 (by omega)
        have hp := its_head HD.out.sh h0
        have g1 : (((toL h T').length : Int) == 0) = false := beq_eq_false_iff_ne.2 (by omega)
        clear hp
        have hB9 := HB3.out.setCnt ((toL h T').length : Int)
        have HB9 := Lib.hid hB9
        have hc9 : Chg (fun b _ => b = t) w3 (w3.setCell ⟨t, 3, none⟩ (.int .i64 ((toL h T').length : Int))) := (Chg.refl _ _).setCell (.inl rfl) _
        have HC9 := Lib.hid hc9
        have hb9 : (w3.setCell ⟨t, 3, none⟩ (.int .i64 ((toL h T').length : Int))).heap[w.heap.size + 1]? = some (.cells #[.int .i64 0, .int .i64 0] 30 (0, 0)) := by rw [hc9.block (heap_lt HB6.out) (fun _ e => u1 e)]; exact HB6.out
        have HBL9 := Lib.hid hb9
        clear hB9 hc9 hb9
        go_wp2_with fail
        refine name_prop (fun wl => Chg (fun b _ => b = w.heap.size + 1) (w3.setCell ⟨t, 3, none⟩ (.int .i64 ((toL h T').length : Int))) wl ∧ wl.heap[w.heap.size + 1]? = some (.cells #[.int .i64 vx.1, .int .i64 vx.2] 30 (0, 0))) ⟨?_, blk2 HBL9.out _ _⟩ ?_
        · repeat (first | refine Chg.drew ?_ | refine Chg.drewN ?_ _ | refine Chg.setCell ?_ (.inl rfl) _ | exact Chg.refl _ _)
        clear p0 p1 r0 r1
        rintro wl ⟨hcl, hbl⟩
        have p0 := cell_of_block hbl 0
        have p1 := cell_of_block hbl 1
        simp only [List.getElem?_toArray, List.getElem?_cons_zero, List.getElem?_cons_succ] at p0 p1
        refine bodyPost_ret (v := .tuple #[.agg #[.int .i64 vx.1, .int .i64 vx.2], .bool true]) (by simp [results, Try.results69, go_sem, p0, p1]) rfl ?_
        refine FIN.out _ _ G HC9.out hcl (.inr ⟨H', h, T', ⟨HF3.out.chg HC9.out (fun b _ hb e => HO3.out t MOwn.self (e ▸ hb)), HB9.out.at_, HO3.out, HD.out.isT, HD.out.nd, HD.out.sh, HS'.out, by have := hlen.out; omega, hs4.out.1, hs4.out.2.1, hs4.out.2.2.1, hs4.out.2.2.2⟩, ?_, rfl, h0⟩) (fun _ h => h)
        rw [HD.out.rid']; exact HB9.out
      · have hnil : its T' = [] := List.eq_nil_of_length_eq_zero (by omega)
        have g0 : (((its T').length : Int) == 0) = true := beq_iff_eq.2 (by omega)
        have hp1 : (toL h T).length = (toL h T).length := rfl
        rcases h with _ | h
        · have ht0 : toL 0 T' = [] := hnil
          have g1 : (((toL 0 T').length : Int) == 0) = true := by rw [ht0]; rfl
          have n3 := hnr.c3n rfl
          have hB9 := (HB3.out.setCnt ((toL 0 T').length : Int)).setRoot none
          have hB9' : MapBlk k mn mx ((w3.setCell ⟨t, 3, none⟩ (.int .i64 ((toL 0 T').length : Int))).setCell ⟨t, 2, none⟩ (.pointer none)) t none 0 := by
            have e : ((toL 0 T').length : Int) = 0 := by rw [ht0]; rfl
            have h2 := hB9
            rw [e] at h2 ⊢
            exact h2
          have HB9 := Lib.hid hB9'
          have hc9 : Chg (fun b _ => b = t) w3 ((w3.setCell ⟨t, 3, none⟩ (.int .i64 ((toL 0 T').length : Int))).setCell ⟨t, 2, none⟩ (.pointer none)) := ((Chg.refl _ _).setCell (.inl rfl) _).setCell (.inl rfl) _
          have HC9 := Lib.hid hc9
          have hb9 : ((w3.setCell ⟨t, 3, none⟩ (.int .i64 ((toL 0 T').length : Int))).setCell ⟨t, 2, none⟩ (.pointer none)).heap[w.heap.size + 1]? = some (.cells #[.int .i64 0, .int .i64 0] 30 (0, 0)) := by rw [hc9.block (heap_lt HB6.out) (fun _ e => u1 e)]; exact HB6.out
          have HBL9 := Lib.hid hb9
          have HT0 := Lib.hid ht0
          clear hB9 hB9' hc9 hb9 ht0 hnil hnr
          go_wp2_with (go_at_call 70; refine (leaf_any _ none _ ?_).mono ?_; (focus go_simp); rintro e w' ⟨rfl, rfl⟩)
          refine name_prop (fun wl => Chg (fun b _ => b = w.heap.size + 1) (((w3.setCell ⟨t, 3, none⟩ (.int .i64 ((toL 0 T').length : Int))).setCell ⟨t, 2, none⟩ (.pointer none))) wl ∧ wl.heap[w.heap.size + 1]? = some (.cells #[.int .i64 vx.1, .int .i64 vx.2] 30 (0, 0))) ⟨?_, blk2 HBL9.out _ _⟩ ?_
          · repeat (first | refine Chg.drew ?_ | refine Chg.drewN ?_ _ | refine Chg.setCell ?_ (.inl rfl) _ | exact Chg.refl _ _)
          clear p0 p1 r0 r1
          rintro wl ⟨hcl, hbl⟩
          have p0 := cell_of_block hbl 0
          have p1 := cell_of_block hbl 1
          simp only [List.getElem?_toArray, List.getElem?_cons_zero, List.getElem?_cons_succ] at p0 p1
          refine bodyPost_ret (v := .tuple #[.agg #[.int .i64 vx.1, .int .i64 vx.2], .bool true]) (by simp [results, Try.results69, go_sem, p0, p1]) rfl ?_
          exact FIN.out _ _ (fun _ => False) HC9.out hcl (.inl ⟨HT0.out, fun _ h => h, HB9.out⟩) (fun _ h => h.elim)
        · have hk1 : T'.2.2.length = 1 := by have := HD.out.sh.2.1; have e : T'.2.1 = [] := hnil; rw [e] at this; exact this
          obtain ⟨c, hc⟩ : ∃ c, T'.2.2 = [c] := by
            match h2 : T'.2.2, hk1 with
            | [c], _ => exact ⟨c, rfl⟩
          have hcm : c ∈ T'.2.2 := by rw [hc]; exact List.mem_singleton.2 rfl
          have ht1 : toL (h + 1) T' = toL h c := by
            show inter T'.2.1 (T'.2.2.map (toL h)) = toL h c
            have e : T'.2.1 = [] := hnil
            rw [e, hc]
            exact inter_last _
          obtain ⟨hcm1, hcs⟩ := HD.out.sh.2.2 c hcm
          have hc1' : 1 ≤ (its c).length := by omega
          have hp := its_head hcs hc1'
          have hkk : (recOf (h + 1) T').kids = some [some (rid c)] := by
            show some (T'.2.2.map fun c => some (rid c)) = _
            rw [hc]; rfl
          have n3 := hnr.c3s hkk
          have nc : w3.cell? ⟨ln.cc, 0, none⟩ = some (.slice (some ⟨ln.cb, ln.co, none⟩) 1 ln.ck) := hnr.cc hkk
          have k0 : w3.cell? ⟨ln.cb, ln.co, none⟩ = some (.pointer (some ⟨rid c, 0, none⟩)) := by
            have := hnr.kidc hkk (j := 0) (o := some (rid c)) rfl
            rw [Nat.add_zero] at this
            exact this
          rw [ht1] at s1
          have g1 : (((toL h c).length : Int) == 0) = false := beq_eq_false_iff_ne.2 (by omega)
          have hB9 := (HB3.out.setRoot (some (rid c))).setCnt ((toL h c).length : Int)
          have HB9 := Lib.hid hB9
          have hc9 : Chg (fun b _ => b = t) w3 ((w3.setCell ⟨t, 2, none⟩ (.pointer (some ⟨rid c, 0, none⟩))).setCell ⟨t, 3, none⟩ (.int .i64 ((toL h c).length : Int))) := ((Chg.refl _ _).setCell (.inl rfl) _).setCell (.inl rfl) _
          have HC9 := Lib.hid hc9
          have hb9 : ((w3.setCell ⟨t, 2, none⟩ (.pointer (some ⟨rid c, 0, none⟩))).setCell ⟨t, 3, none⟩ (.int .i64 ((toL h c).length : Int))).heap[w.heap.size + 1]? = some (.cells #[.int .i64 0, .int .i64 0] 30 (0, 0)) := by rw [hc9.block (heap_lt HB6.out) (fun _ e => u1 e)]; exact HB6.out
          have HBL9 := Lib.hid hb9
          have HT1 := Lib.hid ht1
          have HCM := Lib.hid hcm
          have HP := Lib.hid (And.intro hcs hc1')
          clear hB9 hc9 hb9 ht1 hnil hnr hc hk1 hcm hcs hc1' hp hcm1 hkk
          go_wp2_with (go_at_call 70; refine (leaf_any _ (some ⟨ln.cc, 0, none⟩) _ ?_).mono ?_; (focus go_simp); rintro e w' ⟨rfl, rfl⟩)
          refine name_prop (fun wl => Chg (fun b _ => b = w.heap.size + 1) (((w3.setCell ⟨t, 2, none⟩ (.pointer (some ⟨rid c, 0, none⟩))).setCell ⟨t, 3, none⟩ (.int .i64 ((toL h c).length : Int)))) wl ∧ wl.heap[w.heap.size + 1]? = some (.cells #[.int .i64 vx.1, .int .i64 vx.2] 30 (0, 0))) ⟨?_, blk2 HBL9.out _ _⟩ ?_
          · repeat (first | refine Chg.drew ?_ | refine Chg.drewN ?_ _ | refine Chg.setCell ?_ (.inl rfl) _ | exact Chg.refl _ _)
          clear p0 p1 r0 r1
          rintro wl ⟨hcl, hbl⟩
          have p0 := cell_of_block hbl 0
          have p1 := cell_of_block hbl 1
          simp only [List.getElem?_toArray, List.getElem?_cons_zero, List.getElem?_cons_succ] at p0 p1
          refine bodyPost_ret (v := .tuple #[.agg #[.int .i64 vx.1, .int .i64 vx.2], .bool true]) (by simp [results, Try.results69, go_sem, p0, p1]) rfl ?_
          have hs2 := HS'.out
          rw [HT1.out] at hs2
          refine FIN.out _ _ G HC9.out hcl (.inr ⟨H', h, c, ⟨HF3.out.chg HC9.out (fun b _ hb e => HO3.out t MOwn.self (e ▸ hb)), HB9.out.at_, HO3.out, HD.out.isT.kid HCM.out, nodup_kid HD.out.nd HCM.out, HP.out.1, hs2, by have := hlen.out; rw [HT1.out] at this; omega, hs4.out.1, hs4.out.2.1, hs4.out.2.2.1, hs4.out.2.2.2⟩, HB9.out, HT1.out.symm, HP.out.2⟩) (fun _ h => h)
  · go_simp
    have hca1 := (Chg.refl (fun _ _ => False) w1.drew).alloc (.cells #[.int .i64 0, .int .i64 0] 30)
    have q0' : (w1.drew.alloc (.cells #[.int .i64 0, .int .i64 0] 30)).cell? ⟨w.heap.size, 0, none⟩ = some (.int .i64 x.1) := hca1.cell (fun h => h) (by simpa using q0)
    have q1' : (w1.drew.alloc (.cells #[.int .i64 0, .int .i64 0] 30)).cell? ⟨w.heap.size, 1, none⟩ = some (.int .i64 x.2) := hca1.cell (fun h => h) (by simpa using q1)
    refine hK _ _ ⟨q0', q1'⟩ ?_
    clear hK K
    refine scr_hard (by rfl) (by simp [Region.wanted, yielded]) (fun K hK => ?_)
    go_simp
    have hc1a := hc1.drew.alloc (.cells #[.int .i64 0, .int .i64 0] 30)
    refine (HDEL.out _ hc1a).mono ?_
    rintro e w2 ⟨H', o, rfl, hF2, hc2, hh2, hz⟩
    have hno : ∀ b, w.heap.size ≤ b → ¬ (F b ∨ hv = some b) := fun b hb h => h.elim (nF b hb) (hnv b hb)
    replace q0' := hc2.cell (hno _ (Nat.le_refl _)) q0'
    replace q1' := hc2.cell (hno _ (Nat.le_refl _)) q1'
    refine hK _ _ ⟨q0', q1'⟩ ?_
    clear hK K
    have hsza : (w1.drew.alloc (.cells #[.int .i64 0, .int .i64 0] 30)).heap.size = w1.heap.size + 1 := by simp
    have hsz2 := hc2.size
    obtain ⟨vx, vb, hov, hvo⟩ : ∃ (vx : It ord) (vb : Bool), lastV o = .tuple #[.agg #[.int .i64 vx.1, .int .i64 vx.2], .bool vb] ∧ ((o = none ∧ vx = (0, 0) ∧ vb = false) ∨ (o = some vx ∧ vb = true)) := by
      rcases o with _ | y
      · exact ⟨(0, 0), false, rfl, .inl ⟨rfl, rfl, rfl⟩⟩
      · exact ⟨y, true, rfl, .inr ⟨rfl, rfl⟩⟩
    rw [hov]
    have HVO := Lib.hid hvo
    have hb8 : w2.heap[w1.heap.size]? = some (.cells #[.int .i64 0, .int .i64 0] 30 (0, 0)) := by
      rw [hc2.block (by omega) (fun _ h => hno _ (by omega) h)]; exact ha_at _ _ (by simp)
    have y0 := frozen_of_block hb8 0
    have y1 := frozen_of_block hb8 1
    have p0 := cell_of_block hb8 0
    have p1 := cell_of_block hb8 1
    simp only [List.getElem?_toArray, List.getElem?_cons_zero, List.getElem?_cons_succ] at p0 p1
    have HB8' := Lib.hid hb8
    clear hov hvo hb8
    repeat
      first
      | (refine scr_soft (by rfl) ?_ ?_ ?_ ?_
         rotate_left
         · simp [Region.wanted, yielded]; done
         · intro w' hS
           try obtain ⟨a1, a2⟩ := hS
           go_simp
           try with_reducible rfl
         simp only [Act.put, List.setIfInBounds_toArray, List.set_cons_zero, List.set_cons_succ])
      | (refine scr_skip (by rfl) ?_ ?_
         · simp [Region.wanted, yielded]; done
         simp only [Act.put, List.setIfInBounds_toArray, List.set_cons_zero, List.set_cons_succ])
    refine scr_hard (by rfl) (by simp [Region.wanted, yielded]) (fun K hK => ?_)
    go_simp
    refine hK _ _ ⟨Chg.cell (A := fun b _ => b = w1.heap.size) ?_ (fun h => by simp at h; omega) q0', Chg.cell (A := fun b _ => b = w1.heap.size) ?_ (fun h => by simp at h; omega) q1'⟩ ?_
    · repeat (first | refine Chg.drew ?_ | refine Chg.drewN ?_ _ | refine Chg.setCell ?_ (.inl rfl) _ | exact Chg.refl _ _)
    · repeat (first | refine Chg.drew ?_ | refine Chg.drewN ?_ _ | refine Chg.setCell ?_ (.inl rfl) _ | exact Chg.refl _ _)
    clear hK K
    repeat
      first
      | (refine scr_soft (by rfl) ?_ ?_ ?_ ?_
         rotate_left
         · simp [Region.wanted, yielded]; done
         · intro w' hS
           try obtain ⟨a1, a2⟩ := hS
           go_simp
           try with_reducible rfl
         simp only [Act.put, List.setIfInBounds_toArray, List.set_cons_zero, List.set_cons_succ])
      | (refine scr_skip (by rfl) ?_ ?_
         · simp [Region.wanted, yielded]; done
         simp only [Act.put, List.setIfInBounds_toArray, List.set_cons_zero, List.set_cons_succ])
    refine scr_nil ?_
    refine name_prop (fun w3 => Chg (fun b _ => b = w1.heap.size) w2 w3 ∧ w3.heap[w1.heap.size]? = some (.cells #[.int .i64 vx.1, .int .i64 vx.2] 30 (0, 0))) ⟨?_, blk2 HB8'.out _ _⟩ ?_
    · repeat (first | refine Chg.drew ?_ | refine Chg.drewN ?_ _ | refine Chg.setCell ?_ (.inl rfl) _ | exact Chg.refl _ _)
    clear p0 p1 y0 y1 HB8'
    rintro w3 ⟨hc23, hb8⟩
    obtain ⟨G, hGd⟩ : ∃ G, G = grow F (w1.drew.alloc (.cells #[.int .i64 0, .int .i64 0] 30)) w2 := ⟨_, rfl⟩
    have hG0 : ∀ b, G b → F b ∨ w.heap.size ≤ b := fun b h => by
      rw [hGd] at h
      rcases h with h | h
      · exact .inl h
      · exact .inr (by have := h.1; omega)
    have hGo : ∀ b, (b = w.heap.size + 1 ∨ b = w1.heap.size) → ¬ G b := fun b hb h => by
      rw [hGd] at h
      rcases h with h | h
      · exact nF b (by omega) h
      · have h3 := h.1; have h4 := h.2; omega
    have hc03 : Chg (fun b _ => F b ∨ hv = some b) w w3 := ((hc1a.mono (fun _ _ _ h => h.elim)).trans hc2).trans' hc23 (fun _ _ _ h => h) (fun b o hb e => by omega)
    have hF3 : Fam (parM k) w3 G H' := by
      have h2 := hF2.chg hc23 (fun b _ hb e => hGo b (.inr e) (by rw [hGd]; exact hb))
      rw [hGd]; exact h2
    have hB3 := hB.chg hc03 (fun b _ hm h => h.elim (hI.out b hm) (fun e => hvt b e hm))
    have hh3 : HintO hv w3 := hh2.chg hc23 (fun b _ e e2 => by have := hh.lt e; omega)
    have hb6 : w3.heap[w.heap.size + 1]? = some (.cells #[.int .i64 0, .int .i64 0] 30 (0, 0)) := by
      rw [hc23.block (by omega) (fun _ e => by omega), hc2.block (by omega) (fun _ h => hno _ (Nat.le_add_right _ _) h), ha_lt _ _ (by simp; omega), hd_drew]; exact HB6.out
    clear q0' q1' q0 q1 hF2 hc2 hh2 hc23 hGd
    have e30 := hB3.c3
    have z32 := hB3.fz 2
    have z33 := hB3.fz 3
    have c2 : w3.cell? ⟨t, 2, none⟩ = some (.pointer (some ⟨rid T, 0, none⟩)) := hB3.c2
    obtain ⟨e7, e8⟩ := hB3.empty
    have HB3 := Lib.hid hB3
    have HF3 := Lib.hid hF3
    have HC03 := Lib.hid hc03
    have HH3 := Lib.hid hh3
    have HG0 := Lib.hid hG0
    have HGo := Lib.hid hGo
    have HB6 := Lib.hid hb6
    have HB8 := Lib.hid hb8
    have HOT := Lib.hid hI.out
    have HSRT := Lib.hid hI.srt
    have HBIG := Lib.hid hI.big
    have hs4 := Lib.hid (show _ ∧ _ ∧ _ ∧ _ from ⟨hI.m3, hI.m1000, hI.mh, hI.mh2⟩)
    have mlt : ∀ b, MOwn k t b → b < w.heap.size := fun b hm => hI.map.lt hm
    have HML := Lib.hid mlt
    have hl8 := heap_lt hb8
    obtain ⟨⟨T', hd, hg⟩, hsame⟩ := hz
    have HD := Lib.hid hd
    have HGN := Lib.hid hg
    have hfl : o = fndL ltM x (toL h T) := hg.1
    have hle : toL h T' = delL ltM x (toL h T) := hg.2
    have HFL := Lib.hid hfl
    have HLE := Lib.hid hle
    have hout3 : ∀ b, MOwn k t b → ¬ G b := fun b hm h => (HG0.out b h).elim (HOT.out b hm) (fun h => by have := HML.out b hm; omega)
    have HO3 := Lib.hid hout3
    clear hd hg hfl hle hB3 hF3 hc03 hh3 hG0 hGo hb6 hb8 mlt hout3
    rcases HVO.out with ⟨rfl, rfl, rfl⟩ | ⟨rfl, rfl⟩
    · obtain rfl := hsame rfl
      have hdl := Lib.hid (delL_none HFL.out.symm)
      have y0 := frozen_of_block HB6.out 0
      have y1 := frozen_of_block HB6.out 1
      have p0 := cell_of_block HB6.out 0
      have p1 := cell_of_block HB6.out 1
      simp only [List.getElem?_toArray, List.getElem?_cons_zero, List.getElem?_cons_succ] at p0 p1
      clear z32 z33 e30 c2
      go_wp2_with fail
      refine name_prop (fun wl => Chg (fun b _ => b = w.heap.size + 1) (w3) wl ∧ wl.heap[w.heap.size + 1]? = some (.cells #[.int .i64 0, .int .i64 0] 30 (0, 0))) ⟨?_, blk2 HB6.out _ _⟩ ?_
      · repeat (first | refine Chg.drew ?_ | refine Chg.drewN ?_ _ | refine Chg.setCell ?_ (.inl rfl) _ | exact Chg.refl _ _)
      clear p0 p1
      rintro wl ⟨hcl, hbl⟩
      have p0 := cell_of_block hbl 0
      have p1 := cell_of_block hbl 1
      simp only [List.getElem?_toArray, List.getElem?_cons_zero, List.getElem?_cons_succ] at p0 p1
      refine bodyPost_ret (v := .tuple #[.agg #[.int .i64 0, .int .i64 0], .bool false]) (by simp [results, Try.results69, go_sem, p0, p1]) rfl ?_
      have hbw : w.heap.size + 1 ≠ t := fun e => by have := HML.out t MOwn.self; omega
      have hB9 := HB3.out.chg hcl (fun b _ hm e => by have := HML.out b hm; omega)
      have hF9 := HF3.out.chg hcl (fun b _ hb e => HGo.out b (.inl e) hb)
      refine ⟨setRet_last HFL.out, G, .inr ⟨H', h, T, ⟨hF9, hB9.at_, HO3.out, hI.isT, hI.nd, hI.sh, hI.srt, hI.big, hI.m3, hI.m1000, hI.mh, hI.mh2⟩, hB9, hdl.out.symm, h1⟩, ?_, HG0.out, HH3.out.chg hcl (fun b _ e e2 => by have := hh.lt e; omega)⟩
      exact (HC03.out.mono (fun b _ _ h => h.elim (fun h => .inl (.inl h)) .inr)).trans' hcl (fun _ _ _ h => h) (fun b o hb e => by omega)
    · have hroot : H' (rid T) = some (recOf h T') := by rw [← HD.out.rid']; exact HD.out.isT.root
      obtain ⟨ln, hnr⟩ := HF3.out.node hroot
      have n2 := hnr.c2
      rw [recOf_items] at n2
      have hlen := HGN.out.len
      have hsl := HD.out.sh.len
      have hbg := HBIG.out
      have h1000 := hs4.out.2.1
      have s1 : IntKind.i64.wrap (((toL h T).length : Int) - 1) = ((toL h T').length : Int) := (by rw [IntWalk.i64_in _ (by omega)]; omega)
      have srt' : Srt ltM (toL h T') := HSRT.out.sublist HGN.out.sub
      have HS' := Lib.hid srt'
      replace hlen := Lib.hid hlen
      have fin : ∀ w9 (wf : World) (F9 : Nat → Prop), Chg (fun b _ => b = t) w3 w9 → Chg (fun b _ => b = w.heap.size + 1) w9 wf → MapIn k mn mx w9 F9 t (toL h T') → (∀ b, F9 b → G b) → DelAns k mn mx hv w F t (toL h T) x (.returned (.tuple #[.agg #[.int .i64 vx.1, .int .i64 vx.2], .bool true])) wf := by
        intro w9 wf F9 c1 c2 hM hFG
        refine ⟨setRet_last HFL.out, F9, ?_, ?_, fun b hb => HG0.out b (hFG b hb), (HH3.out.chg c1 (fun b _ e e2 => hvt b e (e2 ▸ MOwn.self))).chg c2 (fun b _ e e2 => by have := hh.lt e; omega)⟩
        · rw [← HLE.out]
          exact hM.chgA c2 (fun b _ hb e => HGo.out b (.inl e) (hFG b hb)) (fun b _ hm e => by have := HML.out b hm; omega)
        · exact ((HC03.out.mono (fun b _ _ h => h.elim (fun h => .inl (.inl h)) .inr)).trans (c1.mono (fun b _ _ h => .inl (.inr h)))).trans' c2 (fun _ _ _ h => h) (fun b o hb e => by omega)
      have FIN := Lib.hid fin
      have y0 := frozen_of_block HB6.out 0
      have y1 := frozen_of_block HB6.out 1
      have p0 := cell_of_block HB6.out 0
      have p1 := cell_of_block HB6.out 1
      simp only [List.getElem?_toArray, List.getElem?_cons_zero, List.getElem?_cons_succ] at p0 p1
      have x0 := frozen_of_block HB8.out 0
      have x1 := frozen_of_block HB8.out 1
      have r0 := cell_of_block HB8.out 0
      have r1 := cell_of_block HB8.out 1
      simp only [List.getElem?_toArray, List.getElem?_cons_zero, List.getElem?_cons_succ] at r0 r1
      clear srt' fin
      have u1 : ¬ w.heap.size + 1 = t := fun e => by have := HML.out t MOwn.self; omega
      have u2 : ¬ t = w.heap.size + 1 := fun e => u1 e.symm
      have u3 : ¬ t = w1.heap.size := fun e => by have := HML.out t MOwn.self; omega
      have u4 : ¬ w1.heap.size = t := fun e => u3 e.symm
      by_cases h0 : 1 ≤ (its T').length
      · have g0 : (((its T').length : Int) == 0) = false := beq_eq_false_iff_ne.2 (by omega)
        have hp := its_head HD.out.sh h0
        have g1 : (((toL h T').length : Int) == 0) = false := beq_eq_false_iff_ne.2 (by omega)
        clear hp
        have hB9 := HB3.out.setCnt ((toL h T').length : Int)
        have HB9 := Lib.hid hB9
        have hc9 : Chg (fun b _ => b = t) w3 (w3.setCell ⟨t, 3, none⟩ (.int .i64 ((toL h T').length : Int))) := (Chg.refl _ _).setCell (.inl rfl) _
        have HC9 := Lib.hid hc9
        have hb9 : (w3.setCell ⟨t, 3, none⟩ (.int .i64 ((toL h T').length : Int))).heap[w.heap.size + 1]? = some (.cells #[.int .i64 0, .int .i64 0] 30 (0, 0)) := by rw [hc9.block (heap_lt HB6.out) (fun _ e => u1 e)]; exact HB6.out
        have HBL9 := Lib.hid hb9
        clear hB9 hc9 hb9
        go_wp2_with fail
        refine name_prop (fun wl => Chg (fun b _ => b = w.heap.size + 1) (w3.setCell ⟨t, 3, none⟩ (.int .i64 ((toL h T').length : Int))) wl ∧ wl.heap[w.heap.size + 1]? = some (.cells #[.int .i64 vx.1, .int .i64 vx.2] 30 (0, 0))) ⟨?_, blk2 HBL9.out _ _⟩ ?_
        · repeat (first | refine Chg.drew ?_ | refine Chg.drewN ?_ _ | refine Chg.setCell ?_ (.inl rfl) _ | exact Chg.refl _ _)
        clear p0 p1 r0 r1
        rintro wl ⟨hcl, hbl⟩
        have p0 := cell_of_block hbl 0
        have p1 := cell_of_block hbl 1
        simp only [List.getElem?_toArray, List.getElem?_cons_zero, List.getElem?_cons_succ] at p0 p1
        refine bodyPost_ret (v := .tuple #[.agg #[.int .i64 vx.1, .int .i64 vx.2], .bool true]) (by simp [results, Try.results69, go_sem, p0, p1]) rfl ?_
        refine FIN.out _ _ G HC9.out hcl (.inr ⟨H', h, T', ⟨HF3.out.chg HC9.out (fun b _ hb e => HO3.out t MOwn.self (e ▸ hb)), HB9.out.at_, HO3.out, HD.out.isT, HD.out.nd, HD.out.sh, HS'.out, by have := hlen.out; omega, hs4.out.1, hs4.out.2.1, hs4.out.2.2.1, hs4.out.2.2.2⟩, ?_, rfl, h0⟩) (fun _ h => h)
        rw [HD.out.rid']; exact HB9.out
      · have hnil : its T' = [] := List.eq_nil_of_length_eq_zero (by omega)
        have g0 : (((its T').length : Int) == 0) = true := beq_iff_eq.2 (by omega)
        have hp1 : (toL h T).length = (toL h T).length := rfl
        rcases h with _ | h
        · have ht0 : toL 0 T' = [] := hnil
          have g1 : (((toL 0 T').length : Int) == 0) = true := by rw [ht0]; rfl
          have n3 := hnr.c3n rfl
          have hB9 := (HB3.out.setCnt ((toL 0 T').length : Int)).setRoot none
          have hB9' : MapBlk k mn mx ((w3.setCell ⟨t, 3, none⟩ (.int .i64 ((toL 0 T').length : Int))).setCell ⟨t, 2, none⟩ (.pointer none)) t none 0 := by
            have e : ((toL 0 T').length : Int) = 0 := by rw [ht0]; rfl
            have h2 := hB9
            rw [e] at h2 ⊢
            exact h2
          have HB9 := Lib.hid hB9'
          have hc9 : Chg (fun b _ => b = t) w3 ((w3.setCell ⟨t, 3, none⟩ (.int .i64 ((toL 0 T').length : Int))).setCell ⟨t, 2, none⟩ (.pointer none)) := ((Chg.refl _ _).setCell (.inl rfl) _).setCell (.inl rfl) _
          have HC9 := Lib.hid hc9
          have hb9 : ((w3.setCell ⟨t, 3, none⟩ (.int .i64 ((toL 0 T').length : Int))).setCell ⟨t, 2, none⟩ (.pointer none)).heap[w.heap.size + 1]? = some (.cells #[.int .i64 0, .int .i64 0] 30 (0, 0)) := by rw [hc9.block (heap_lt HB6.out) (fun _ e => u1 e)]; exact HB6.out
          have HBL9 := Lib.hid hb9
          have HT0 := Lib.hid ht0
          clear hB9 hB9' hc9 hb9 ht0 hnil hnr
          go_wp2_with (go_at_call 70; refine (leaf_any _ none _ ?_).mono ?_; (focus go_simp); rintro e w' ⟨rfl, rfl⟩)
          refine name_prop (fun wl => Chg (fun b _ => b = w.heap.size + 1) (((w3.setCell ⟨t, 3, none⟩ (.int .i64 ((toL 0 T').length : Int))).setCell ⟨t, 2, none⟩ (.pointer none))) wl ∧ wl.heap[w.heap.size + 1]? = some (.cells #[.int .i64 vx.1, .int .i64 vx.2] 30 (0, 0))) ⟨?_, blk2 HBL9.out _ _⟩ ?_
          · repeat (first | refine Chg.drew ?_ | refine Chg.drewN ?_ _ | refine Chg.setCell ?_ (.inl rfl) _ | exact Chg.refl _ _)
          clear p0 p1 r0 r1
          rintro wl ⟨hcl, hbl⟩
          have p0 := cell_of_block hbl 0
          have p1 := cell_of_block hbl 1
          simp only [List.getElem?_toArray, List.getElem?_cons_zero, List.getElem?_cons_succ] at p0 p1
          refine bodyPost_ret (v := .tuple #[.agg #[.int .i64 vx.1, .int .i64 vx.2], .bool true]) (by simp [results, Try.results69, go_sem, p0, p1]) rfl ?_
          exact FIN.out _ _ (fun _ => False) HC9.out hcl (.inl ⟨HT0.out, fun _ h => h, HB9.out⟩) (fun _ h => h.elim)
        · have hk1 : T'.2.2.length = 1 := by have := HD.out.sh.2.1; have e : T'.2.1 = [] := hnil; rw [e] at this; exact this
          obtain ⟨c, hc⟩ : ∃ c, T'.2.2 = [c] := by
            match h2 : T'.2.2, hk1 with
            | [c], _ => exact ⟨c, rfl⟩
          have hcm : c ∈ T'.2.2 := by rw [hc]; exact List.mem_singleton.2 rfl
          have ht1 : toL (h + 1) T' = toL h c := by
            show inter T'.2.1 (T'.2.2.map (toL h)) = toL h c
            have e : T'.2.1 = [] := hnil
            rw [e, hc]
            exact inter_last _
          obtain ⟨hcm1, hcs⟩ := HD.out.sh.2.2 c hcm
          have hc1' : 1 ≤ (its c).length := by omega
          have hp := its_head hcs hc1'
          have hkk : (recOf (h + 1) T').kids = some [some (rid c)] := by
            show some (T'.2.2.map fun c => some (rid c)) = _
            rw [hc]; rfl
          have n3 := hnr.c3s hkk
          have nc : w3.cell? ⟨ln.cc, 0, none⟩ = some (.slice (some ⟨ln.cb, ln.co, none⟩) 1 ln.ck) := hnr.cc hkk
          have k0 : w3.cell? ⟨ln.cb, ln.co, none⟩ = some (.pointer (some ⟨rid c, 0, none⟩)) := by
            have := hnr.kidc hkk (j := 0) (o := some (rid c)) rfl
            rw [Nat.add_zero] at this
            exact this
          rw [ht1] at s1
          have g1 : (((toL h c).length : Int) == 0) = false := beq_eq_false_iff_ne.2 (by omega)
          have hB9 := (HB3.out.setRoot (some (rid c))).setCnt ((toL h c).length : Int)
          have HB9 := Lib.hid hB9
          have hc9 : Chg (fun b _ => b = t) w3 ((w3.setCell ⟨t, 2, none⟩ (.pointer (some ⟨rid c, 0, none⟩))).setCell ⟨t, 3, none⟩ (.int .i64 ((toL h c).length : Int))) := ((Chg.refl _ _).setCell (.inl rfl) _).setCell (.inl rfl) _
          have HC9 := Lib.hid hc9
          have hb9 : ((w3.setCell ⟨t, 2, none⟩ (.pointer (some ⟨rid c, 0, none⟩))).setCell ⟨t, 3, none⟩ (.int .i64 ((toL h c).length : Int))).heap[w.heap.size + 1]? = some (.cells #[.int .i64 0, .int .i64 0] 30 (0, 0)) := by rw [hc9.block (heap_lt HB6.out) (fun _ e => u1 e)]; exact HB6.out
          have HBL9 := Lib.hid hb9
          have HT1 := Lib.hid ht1
          have HCM := Lib.hid hcm
          have HP := Lib.hid (And.intro hcs hc1')
          clear hB9 hc9 hb9 ht1 hnil hnr hc hk1 hcm hcs hc1' hp hcm1 hkk
          go_wp2_with (go_at_call 70; refine (leaf_any _ (some ⟨ln.cc, 0, none⟩) _ ?_).mono ?_; (focus go_simp); rintro e w' ⟨rfl, rfl⟩)
          refine name_prop (fun wl => Chg (fun b _ => b = w.heap.size + 1) (((w3.setCell ⟨t, 2, none⟩ (.pointer (some ⟨rid c, 0, none⟩))).setCell ⟨t, 3, none⟩ (.int .i64 ((toL h c).length : Int)))) wl ∧ wl.heap[w.heap.size + 1]? = some (.cells #[.int .i64 vx.1, .int .i64 vx.2] 30 (0, 0))) ⟨?_, blk2 HBL9.out _ _⟩ ?_
          · repeat (first | refine Chg.drew ?_ | refine Chg.drewN ?_ _ | refine Chg.setCell ?_ (.inl rfl) _ | exact Chg.refl _ _)
          clear p0 p1 r0 r1
          rintro wl ⟨hcl, hbl⟩
          have p0 := cell_of_block hbl 0
          have p1 := cell_of_block hbl 1
          simp only [List.getElem?_toArray, List.getElem?_cons_zero, List.getElem?_cons_succ] at p0 p1
          refine bodyPost_ret (v := .tuple #[.agg #[.int .i64 vx.1, .int .i64 vx.2], .bool true]) (by simp [results, Try.results69, go_sem, p0, p1]) rfl ?_
          have hs2 := HS'.out
          rw [HT1.out] at hs2
          refine FIN.out _ _ G HC9.out hcl (.inr ⟨H', h, c, ⟨HF3.out.chg HC9.out (fun b _ hb e => HO3.out t MOwn.self (e ▸ hb)), HB9.out.at_, HO3.out, HD.out.isT.kid HCM.out, nodup_kid HD.out.nd HCM.out, HP.out.1, hs2, by have := hlen.out; rw [HT1.out] at this; omega, hs4.out.1, hs4.out.2.1, hs4.out.2.2.1, hs4.out.2.2.2⟩, HB9.out, HT1.out.symm, HP.out.2⟩) (fun _ h => h)
end Go.Proofs.Ytgdchpinlboejaa

namespace Go.Proofs.Ytgdchpinlboejaa
set_option linter.unusedSimpArgs false
set_option linter.unusedVariables false
open Go.RowKit

variable {ord : List Int}

theorem deleteHint_any {k : Kc ord} {mn mx : Nat} {w : World} {F : Nat → Prop} {t : Nat} {l : List (It ord)} {hv : Option Nat} (x : It ord) (hM : MapIn k mn mx w F t l) (hmn : 1 ≤ mn) (hh : HintO hv w) (hvF : ∀ b, hv = some b → ¬ F b) (hvt : ∀ b, hv = some b → ¬ MOwn k t b) (hl : l.length ≤ 1000000000000) :
    Calls Try.prog 69 #[.pointer (some ⟨t, 0, none⟩), aggM x, hintV hv] w (DelAns k mn mx hv w F t l x) := by
  rcases hM with ⟨rfl, hF, hB⟩ | ⟨H, h, T, hI, hB, rfl, h1⟩
  · exact deleteHint_empty x hB hF hh
  · exact deleteHint_tree x hI hB h1 hmn hh hvF hvt hl

set_option maxRecDepth 100000 in
set_option maxHeartbeats 1000000 in
theorem DeleteHint_any {k : Kc ord} {mn mx : Nat} {w : World} {F : Nat → Prop} {t : Nat} {l : List (It ord)} {hv : Option Nat} (x : It ord) (hM : MapIn k mn mx w F t l) (hmn : 1 ≤ mn) (hh : HintO hv w) (hvF : ∀ b, hv = some b → ¬ F b) (hvt : ∀ b, hv = some b → ¬ MOwn k t b) (hl : l.length ≤ 1000000000000) :
    Calls Try.prog 60 #[.pointer (some ⟨t, 0, none⟩), aggM x, hintV hv] w (DelAns k mn mx hv w F t l x) := by
  have hmlt := fun b (hb : MOwn k t b) => hM.own hb
  have hflt := fun b (hb : F b) => hM.famLt hb
  have hcall := fun w1 (c : Chg (fun _ _ => False) w w1) => deleteHint_any x (hM.chg c) hmn (hh.keep c) hvF hvt hl
  have HC := Lib.hid hcall
  clear hcall
  unfold aggM hintV at HC ⊢
  go_enter Try.func60, Try.ntmps60
  go_wp2_with (go_at_call 65; refine (lock_any t true _).mono ?_; rintro e w' ⟨rfl, rfl⟩)
  refine name_calls (fun w1 => Chg (fun _ _ => False) w w1 ∧ w1.heap[w.heap.size + 1]? = some (.cells #[.int .i64 0, .int .i64 0] 30 (0, 0))) ⟨((Chg.refl _ _).alloc _).alloc _, ha_at _ _ (by simp)⟩ ?_
  rintro w1 ⟨hc1, hbp⟩
  have hlp := heap_lt hbp
  refine (HC.out w1 hc1).mono ?_
  rintro e w2 ⟨hret, F', hM2, hc2, hF2, hh2⟩
  have htl := hmlt t MOwn.self
  have hbp2 : w2.heap[w.heap.size + 1]? = some (.cells #[.int .i64 0, .int .i64 0] 30 (0, 0)) := by
    rw [hc2.block hlp (fun _ h => by
      rcases h with (h | h) | h
      · have := hflt _ h; omega
      · omega
      · have := hh.lt h; omega)]
    exact hbp
  have p0 := cell_of_block hbp2 0
  have p1 := cell_of_block hbp2 1
  have pf0 := frozen_of_block hbp2 0
  have pf1 := frozen_of_block hbp2 1
  simp only [List.getElem?_toArray, List.getElem?_cons_zero, List.getElem?_cons_succ] at p0 p1
  have hsz1 := hc1.size
  have hres : ∀ wl, Chg (fun b _ => b = w.heap.size + 1) w2 wl → DelAns k mn mx (hv) w F t l x e wl := by
    intro wl hcl
    refine ⟨hret, F', hM2.chgA hcl (fun b _ hb e => ?_) (fun b _ hb e => by have := hmlt b hb; omega), ?_, fun b hb => ?_, hh2.chg hcl (fun b _ e e2 => by have := hh.lt e; omega)⟩
    · rcases hF2 b hb with h | h
      · have := hflt _ h; omega
      · omega
    · refine (hc1.trans' hc2 (B := fun b _ => (F b ∨ b = t) ∨ (hv) = some b) (fun _ _ _ h => h.elim) (fun _ _ _ h => h)).trans' hcl (fun _ _ _ h => h) (fun b o hb e => by omega)
    · rcases hF2 b hb with h | h
      · exact .inl h
      · exact .inr (by omega)
  have HRES := Lib.hid hres
  have HBP2 := Lib.hid hbp2
  clear hres hbp hbp2 HC
  have hret2 := hret
  rcases hret2 with ⟨y, _, rfl⟩ | ⟨_, rfl⟩
  · go_wp2_with fail
    refine name_prop (fun wl => Chg (fun b _ => b = w.heap.size + 1) w2 wl ∧ wl.heap[w.heap.size + 1]? = some (.cells #[.int .i64 y.1, .int .i64 y.2] 30 (0, 0))) ⟨?_, blk2 HBP2.out _ _⟩ ?_
    · repeat (first | refine Chg.drew ?_ | refine Chg.drewN ?_ _ | refine Chg.setCell ?_ (.inl rfl) _ | exact Chg.refl _ _)
    clear p0 p1 pf0 pf1
    rintro wl ⟨hcl, hbl⟩
    have p0 := cell_of_block hbl 0
    have p1 := cell_of_block hbl 1
    simp only [List.getElem?_toArray, List.getElem?_cons_zero, List.getElem?_cons_succ] at p0 p1
    refine bodyPost_ret (v := .tuple #[.agg #[.int .i64 y.1, .int .i64 y.2], .bool true]) (by simp [results, Try.results60, go_sem, p0, p1]) rfl ?_
    exact HRES.out _ hcl
  · go_wp2_with fail
    refine name_prop (fun wl => Chg (fun b _ => b = w.heap.size + 1) w2 wl ∧ wl.heap[w.heap.size + 1]? = some (.cells #[.int .i64 0, .int .i64 0] 30 (0, 0))) ⟨?_, blk2 HBP2.out _ _⟩ ?_
    · repeat (first | refine Chg.drew ?_ | refine Chg.drewN ?_ _ | refine Chg.setCell ?_ (.inl rfl) _ | exact Chg.refl _ _)
    clear p0 p1 pf0 pf1
    rintro wl ⟨hcl, hbl⟩
    have p0 := cell_of_block hbl 0
    have p1 := cell_of_block hbl 1
    simp only [List.getElem?_toArray, List.getElem?_cons_zero, List.getElem?_cons_succ] at p0 p1
    refine bodyPost_ret (v := .tuple #[.agg #[.int .i64 0, .int .i64 0], .bool false]) (by simp [results, Try.results60, go_sem, p0, p1]) rfl ?_
    exact HRES.out _ hcl

set_option maxRecDepth 100000 in
set_option maxHeartbeats 1000000 in
theorem Delete_ans {k : Kc ord} {mn mx : Nat} {w : World} {F : Nat → Prop} {t : Nat} {l : List (It ord)} (x : It ord) (hM : MapIn k mn mx w F t l) (hmn : 1 ≤ mn) (hl : l.length ≤ 1000000000000) :
    Calls Try.prog 36 #[.pointer (some ⟨t, 0, none⟩), aggM x] w (DelAns k mn mx none w F t l x) := by
  have hh : HintO none w := HintO.none w
  have hmlt := fun b (hb : MOwn k t b) => hM.own hb
  have hflt := fun b (hb : F b) => hM.famLt hb
  have hcall := fun w1 (c : Chg (fun _ _ => False) w w1) => DeleteHint_any (hv := none) x (hM.chg c) hmn (hh.keep c) (fun b e => by cases e) (fun b e => by cases e) hl
  have HC := Lib.hid hcall
  clear hcall
  unfold aggM hintV at HC; unfold aggM; simp only [Option.map_none] at HC
  go_enter Try.func36, Try.ntmps36
  go_wp2_with fail
  refine name_calls (fun w1 => Chg (fun _ _ => False) w w1 ∧ w1.heap[w.heap.size + 1]? = some (.cells #[.int .i64 0, .int .i64 0] 30 (0, 0))) ⟨((Chg.refl _ _).alloc _).alloc _, ha_at _ _ (by simp)⟩ ?_
  rintro w1 ⟨hc1, hbp⟩
  have hlp := heap_lt hbp
  refine (HC.out w1 hc1).mono ?_
  rintro e w2 ⟨hret, F', hM2, hc2, hF2, hh2⟩
  have htl := hmlt t MOwn.self
  have hbp2 : w2.heap[w.heap.size + 1]? = some (.cells #[.int .i64 0, .int .i64 0] 30 (0, 0)) := by
    rw [hc2.block hlp (fun _ h => by
      rcases h with (h | h) | h
      · have := hflt _ h; omega
      · omega
      · have := hh.lt h; omega)]
    exact hbp
  have p0 := cell_of_block hbp2 0
  have p1 := cell_of_block hbp2 1
  have pf0 := frozen_of_block hbp2 0
  have pf1 := frozen_of_block hbp2 1
  simp only [List.getElem?_toArray, List.getElem?_cons_zero, List.getElem?_cons_succ] at p0 p1
  have hsz1 := hc1.size
  have hres : ∀ wl, Chg (fun b _ => b = w.heap.size + 1) w2 wl → DelAns k mn mx ((none : Option Nat)) w F t l x e wl := by
    intro wl hcl
    refine ⟨hret, F', hM2.chgA hcl (fun b _ hb e => ?_) (fun b _ hb e => by have := hmlt b hb; omega), ?_, fun b hb => ?_, hh2.chg hcl (fun b _ e e2 => by have := hh.lt e; omega)⟩
    · rcases hF2 b hb with h | h
      · have := hflt _ h; omega
      · omega
    · refine (hc1.trans' hc2 (B := fun b _ => (F b ∨ b = t) ∨ ((none : Option Nat)) = some b) (fun _ _ _ h => h.elim) (fun _ _ _ h => h)).trans' hcl (fun _ _ _ h => h) (fun b o hb e => by omega)
    · rcases hF2 b hb with h | h
      · exact .inl h
      · exact .inr (by omega)
  have HRES := Lib.hid hres
  have HBP2 := Lib.hid hbp2
  clear hres hbp hbp2 HC
  have hret2 := hret
  rcases hret2 with ⟨y, _, rfl⟩ | ⟨_, rfl⟩
  · go_wp2_with fail
    refine name_prop (fun wl => Chg (fun b _ => b = w.heap.size + 1) w2 wl ∧ wl.heap[w.heap.size + 1]? = some (.cells #[.int .i64 y.1, .int .i64 y.2] 30 (0, 0))) ⟨?_, blk2 HBP2.out _ _⟩ ?_
    · repeat (first | refine Chg.drew ?_ | refine Chg.drewN ?_ _ | refine Chg.setCell ?_ (.inl rfl) _ | exact Chg.refl _ _)
    clear p0 p1 pf0 pf1
    rintro wl ⟨hcl, hbl⟩
    have p0 := cell_of_block hbl 0
    have p1 := cell_of_block hbl 1
    simp only [List.getElem?_toArray, List.getElem?_cons_zero, List.getElem?_cons_succ] at p0 p1
    refine bodyPost_ret (v := .tuple #[.agg #[.int .i64 y.1, .int .i64 y.2], .bool true]) (by simp [results, Try.results36, go_sem, p0, p1]) rfl ?_
    exact HRES.out _ hcl
  · go_wp2_with fail
    refine name_prop (fun wl => Chg (fun b _ => b = w.heap.size + 1) w2 wl ∧ wl.heap[w.heap.size + 1]? = some (.cells #[.int .i64 0, .int .i64 0] 30 (0, 0))) ⟨?_, blk2 HBP2.out _ _⟩ ?_
    · repeat (first | refine Chg.drew ?_ | refine Chg.drewN ?_ _ | refine Chg.setCell ?_ (.inl rfl) _ | exact Chg.refl _ _)
    clear p0 p1 pf0 pf1
    rintro wl ⟨hcl, hbl⟩
    have p0 := cell_of_block hbl 0
    have p1 := cell_of_block hbl 1
    simp only [List.getElem?_toArray, List.getElem?_cons_zero, List.getElem?_cons_succ] at p0 p1
    refine bodyPost_ret (v := .tuple #[.agg #[.int .i64 0, .int .i64 0], .bool false]) (by simp [results, Try.results36, go_sem, p0, p1]) rfl ?_
    exact HRES.out _ hcl

/-- The answer of Delete, as the loop over the keys asks for it. -/
theorem Delete_any {k : Kc ord} {mn mx : Nat} {w : World} {F : Nat → Prop} {t : Nat} {l : List (It ord)} (hM : MapIn k mn mx w F t l) (x : It ord) (hl : l.length ≤ 1000000000000) (hmn : 1 ≤ mn) :
    Calls Try.prog 36 #[.pointer (some ⟨t, 0, none⟩), aggM x] w (fun e w' => SetRet l x e ∧ ∃ F', MapIn k mn mx w' F' t (delL ltM x l) ∧ Chg (fun b _ => F b ∨ b = t) w w' ∧ ∀ b, F' b → F b ∨ w.heap.size ≤ b) := by
  refine (Delete_ans x hM hmn hl).mono ?_
  rintro e w' ⟨h1, F', h2, h3, h4, _⟩
  exact ⟨h1, F', h2, h3.mono (fun b _ _ h => h.elim id (fun e => by cases e)), h4⟩
end Go.Proofs.Ytgdchpinlboejaa
