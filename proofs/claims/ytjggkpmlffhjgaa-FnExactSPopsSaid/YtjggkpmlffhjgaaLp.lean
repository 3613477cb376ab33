/- Counts along a road down a tree, raised for a while; an item put behind the last one. No program in sight. -/
import Derived.Test.YtjggkpmlffhjgaaA8
import Derived.Test.YtjggkpmlffhjgaaKn
namespace Go.Proofs.Ytjggkpmlffhjgaa
set_option linter.unusedSimpArgs false
set_option linter.unusedVariables false
open Go.RowKit

section
variable {α : Type}

/-- The counts of the nodes S changed by δ. -/
def bmp (H : Nat → Option (NodeR α)) (S : List Nat) (δ : Int) : Nat → Option (NodeR α) := fun m => if m ∈ S then (H m).map (fun r => { r with cnt := r.cnt + δ }) else H m

theorem bmp_nil (H : Nat → Option (NodeR α)) (δ : Int) : bmp H [] δ = H := by funext m; simp [bmp]
theorem bmp_out {H : Nat → Option (NodeR α)} {S : List Nat} {δ : Int} {m : Nat} (h : m ∉ S) : bmp H S δ m = H m := if_neg h
theorem bmp_in {H : Nat → Option (NodeR α)} {S : List Nat} {δ : Int} {m : Nat} {r : NodeR α} (h : m ∈ S) (hr : H m = some r) : bmp H S δ m = some { r with cnt := r.cnt + δ } := by simp [bmp, h, hr]

theorem bmp_snoc {H : Nat → Option (NodeR α)} {S : List Nat} {δ : Int} {n : Nat} {r : NodeR α} (hr : H n = some r) : upd (bmp H S δ) n { r with cnt := r.cnt + δ } = bmp H (S ++ [n]) δ := by
  funext m
  by_cases e : m = n
  · subst e; rw [upd_same, bmp_in (by simp) hr]
  · rw [upd_ne _ _ e]; unfold bmp; simp [e]

theorem bmp_cons {H : Nat → Option (NodeR α)} {S : List Nat} {δ : Int} {n : Nat} {r : NodeR α} (hn : n ∉ S) (hr : H n = some r) : upd (bmp H (n :: S) δ) n r = bmp H S δ := by
  funext m
  by_cases e : m = n
  · subst e; rw [upd_same, bmp_out hn, hr]
  · rw [upd_ne _ _ e]; unfold bmp; simp [e]

/-- A count is set. -/
theorem Fam.setCnt {p : Par α} {w : World} {F : Nat → Prop} {H : Nat → Option (NodeR α)} (h : Fam p w F H) {n : Nat} {r : NodeR α} (hn : H n = some r) (c : Int) : Fam p (w.setCell ⟨n, 1, none⟩ (.int .i64 c)) F (upd H n { r with cnt := c }) ∧ Chg (fun b _ => F b) w (w.setCell ⟨n, 1, none⟩ (.int .i64 c)) := by
  obtain ⟨l, h1, _, _, h4⟩ := h.work hn
  obtain ⟨g1, g2⟩ := h4 _ _ _ ((Run.start h1).setCnt c)
  refine ⟨g1.mono (fun b hb => ?_) (fun b hb => ?_), g2⟩
  · rcases hb with hb | ⟨hb1, hb2⟩
    · exact hb
    · have h3 : (w.setCell ⟨n, 1, none⟩ (.int .i64 c)).heap.size = w.heap.size := by simp
      omega
  · have h3 : (w.setCell ⟨n, 1, none⟩ (.int .i64 c)).heap.size = w.heap.size := by simp
    have := h.lt hb
    omega

/-- The nodes on the road along the last children. -/
def spineR : (h : Nat) → BT α h → List Nat
  | 0, t => [t.1]
  | h + 1, t => t.1 :: (match t.2.2.getLast? with | some c => spineR h c | none => [])

theorem spineR_cons {h : Nat} {t : BT α (h + 1)} {c : BT α h} (hc : t.2.2.getLast? = some c) : spineR (h + 1) t = rid t :: spineR h c := by
  show t.1 :: (match t.2.2.getLast? with | some c => spineR h c | none => []) = _
  rw [hc]; rfl

theorem spineR_sub : {h : Nat} → {t : BT α h} → ∀ a ∈ spineR h t, a ∈ ids h t
  | 0, t, a, ha => ha
  | h + 1, t, a, ha => by
    change a ∈ t.1 :: (match t.2.2.getLast? with | some c => spineR h c | none => []) at ha
    rcases List.mem_cons.1 ha with rfl | ha
    · exact List.mem_cons_self
    · cases hg : t.2.2.getLast? with
      | none => rw [hg] at ha; simp at ha
      | some c =>
        rw [hg] at ha
        exact ids_kid (List.mem_of_getLast? hg) (spineR_sub a ha)

theorem spineR_head {h : Nat} {t : BT α (h + 1)} {c : BT α h} (hd : (ids (h + 1) t).Nodup) (hc : t.2.2.getLast? = some c) : rid t ∉ spineR h c := fun hm =>
  nodup_root hd (List.mem_of_getLast? hc) (spineR_sub _ hm)

/-- x has come behind the last item of the subtree. -/
structure AppIn (mn mx : Nat) (H : Nat → Option (NodeR α)) (h : Nat) (T : BT α h) (x : α) (T' : BT α h) : Prop where
  isT : IsT H h T'
  rid' : rid T' = rid T
  ids' : ids h T' = ids h T
  sh : Sh mn mx h T'
  len : (its T).length ≤ (its T').length
  list : toL h T' = toL h T ++ [x]

theorem app_leaf {mn mx : Nat} {H : Nat → Option (NodeR α)} {T : BT α 0} {x : α} (hl : T.2.length < mx) (hr : H (rid T) = some ⟨(T.2.length : Int) + 1, T.2 ++ [x], none⟩) : AppIn mn mx H 0 T x ((T.1, T.2 ++ [x]) : BT α 0) := by
  refine ⟨?_, rfl, rfl, ?_, ?_, rfl⟩
  · show H (rid T) = some (⟨((T.2 ++ [x]).length : Nat), T.2 ++ [x], none⟩ : NodeR α)
    rw [hr]; simp
  · show (T.2 ++ [x]).length ≤ mx
    simp; omega
  · show T.2.length ≤ (T.2 ++ [x]).length
    simp

theorem app_step {mn mx : Nat} {H H' : Nat → Option (NodeR α)} {h : Nat} {T : BT α (h + 1)} {c c' : BT α h} {x : α} (hT : IsT H (h + 1) T) (hd : (ids (h + 1) T).Nodup) (hs : Sh mn mx (h + 1) T) (hc : T.2.2.getLast? = some c) (hA : AppIn mn mx H' h c x c')
    (hr : H' (rid T) = some { recOf (h + 1) T with cnt := (recOf (h + 1) T).cnt + 1 }) (ho : ∀ a, a ∈ ids (h + 1) T → a ∉ ids h c → a ≠ rid T → H' a = H a) : ∃ T', AppIn mn mx H' (h + 1) T x T' := by
  obtain ⟨n, xs, ts⟩ := T
  obtain ⟨L, rfl⟩ : ∃ L, ts = L ++ [c] := by
    have hc' : ts.getLast? = some c := hc
    obtain ⟨L, hL⟩ := List.getLast?_eq_some_iff.1 hc'
    exact ⟨L, hL⟩
  obtain ⟨h1, h2, h3⟩ := hs
  change xs.length ≤ mx at h1
  change (L ++ [c]).length = xs.length + 1 at h2
  have hlL : L.length = xs.length := by simpa using h2
  have e1 : toL (h + 1) ((n, xs, L ++ [c]) : BT α (h + 1)) = pre xs (L.map (toL h)) ++ toL h c := by
    show inter xs ((L ++ [c]).map (toL h)) = _
    rw [inter_split L.length xs _ (toL h c) (by simpa using h2) (by simp)]
    rw [hlL, List.take_length, List.drop_length]
    simp [post, ← hlL, List.take_append_of_le_length]
  have e2 : toL (h + 1) ((n, xs, L ++ [c']) : BT α (h + 1)) = toL (h + 1) ((n, xs, L ++ [c]) : BT α (h + 1)) ++ [x] := by
    rw [e1]
    show inter xs ((L ++ [c']).map (toL h)) = _
    rw [inter_split L.length xs _ (toL h c') (by simp [hlL]) (by simp)]
    rw [hlL, List.take_length, List.drop_length, hA.list]
    simp [post, ← hlL, List.take_append_of_le_length]
  refine ⟨(n, xs, L ++ [c']), ⟨?_, fun d hdm => ?_⟩, rfl, ?_, ⟨h1, ?_, fun d hdm => ?_⟩, Nat.le_refl _, e2⟩
  · show H' n = some (⟨((toL (h + 1) ((n, xs, L ++ [c']) : BT α (h + 1))).length : Nat), xs, some ((L ++ [c']).map fun c => some (rid c))⟩ : NodeR α)
    rw [e2]
    have hr' : H' n = some (⟨((toL (h + 1) ((n, xs, L ++ [c]) : BT α (h + 1))).length : Nat) + 1, xs, some ((L ++ [c]).map fun c => some (rid c))⟩ : NodeR α) := hr
    rw [hr']
    simp [hA.rid']
  · change d ∈ L ++ [c'] at hdm
    rcases List.mem_append.1 hdm with hdL | hdm
    · refine (hT.2 d (List.mem_append.2 (.inl hdL))).congr fun a ha => ?_
      have ap := fun {a : Nat} (ha : a ∈ ids h c) => nodup_apart (n := n) (xs := xs) (L := L) (R := []) (c := c) hd ha
      refine ho a (ids_kid (List.mem_append.2 (.inl hdL)) ha) (fun hac => (ap hac).2.1 (List.mem_flatMap.2 ⟨d, hdL, ha⟩)) (fun e => ?_)
      exact nodup_root hd (List.mem_append.2 (.inl hdL) : d ∈ ((n, xs, L ++ [c]) : BT α (h + 1)).2.2) (e ▸ ha)
    · rw [List.mem_singleton.1 hdm]; exact hA.isT
  · show n :: (L ++ [c']).flatMap (ids h) = n :: (L ++ [c]).flatMap (ids h)
    simp [hA.ids']
  · show (L ++ [c']).length = xs.length + 1
    simpa using h2
  · change d ∈ L ++ [c'] at hdm
    rcases List.mem_append.1 hdm with hdL | hdm
    · exact h3 d (List.mem_append.2 (.inl hdL))
    · rw [List.mem_singleton.1 hdm]
      have := h3 c (List.mem_append.2 (.inr (List.mem_singleton.2 rfl)))
      exact ⟨Nat.le_trans this.1 hA.len, hA.sh⟩

/-- The item behind all others. -/
theorem insL_last {lt : α → α → Bool} {x : α} {l : List α} (h : ∀ a ∈ l, lt a x = true) : insL lt x l = l ++ [x] ∧ fndL lt x l = none := by
  have h1 := insL_pre (lt := lt) (x := x) (A := l) (B := []) h
  have h2 := fndL_pre (lt := lt) (x := x) (A := l) (B := []) h
  rw [List.append_nil] at h1 h2
  exact ⟨by rw [h1]; rfl, by rw [h2]; rfl⟩

theorem srt_last {lt : α → α → Bool} (s : Swo lt) {l : List α} {x y : α} (hs : Srt lt l) (hl : l.getLast? = some y) (hy : lt y x = true) : ∀ a ∈ l, lt a x = true := by
  obtain ⟨L, rfl⟩ := List.getLast?_eq_some_iff.1 hl
  intro a ha
  rcases List.mem_append.1 ha with h | h
  · exact s.trans ((List.pairwise_append.1 hs).2.2 a h y (List.mem_singleton.2 rfl)) hy
  · rw [List.mem_singleton.1 h]; exact hy
end
end Go.Proofs.Ytjggkpmlffhjgaa
