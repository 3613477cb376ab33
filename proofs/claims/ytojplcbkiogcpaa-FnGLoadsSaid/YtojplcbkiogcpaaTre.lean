/- Trees: an item replaced, a leaf grown, a node parted. -/
import Derived.Test.YtojplcbkiogcpaaHeap
namespace Go.Proofs.Ytojplcbkiogcpaa
set_option linter.unusedSimpArgs false
set_option linter.unusedVariables false

variable {α : Type}

theorem rid_setIt : {h : Nat} → (t : BT α h) → (i : Nat) → (x : α) → rid (setIt t i x) = rid t
  | 0, _, _, _ => rfl
  | _ + 1, _, _, _ => rfl
theorem ids_setIt : {h : Nat} → (t : BT α h) → (i : Nat) → (x : α) → ids h (setIt t i x) = ids h t
  | 0, _, _, _ => rfl
  | _ + 1, _, _, _ => rfl
theorem its_setIt : {h : Nat} → (t : BT α h) → (i : Nat) → (x : α) → its (setIt t i x) = (its t).set i x
  | 0, _, _, _ => rfl
  | _ + 1, _, _, _ => rfl
theorem sh_setIt : {h : Nat} → {t : BT α h} → {mn mx : Nat} → (i : Nat) → (x : α) → Sh mn mx h t → Sh mn mx h (setIt t i x)
  | 0, t, mn, mx, i, x, hs => by show (t.2.set i x).length ≤ mx; rw [List.length_set]; exact hs
  | h + 1, t, mn, mx, i, x, hs => by
    show (t.2.1.set i x).length ≤ mx ∧ t.2.2.length = (t.2.1.set i x).length + 1 ∧ _
    rw [List.length_set]; exact hs

theorem toL_setIt_len {h : Nat} {t : BT α h} {mn mx i : Nat} {y : α} (hs : Sh mn mx h t) (hy : (its t)[i]? = some y) (x : α) : (toL h (setIt t i x)).length = (toL h t).length := by
  obtain ⟨P, S, h1, h2⟩ := toL_around hs hy
  rw [h1, h2]; simp

theorem recOf_setIt {h : Nat} {t : BT α h} {mn mx i : Nat} {y : α} (hs : Sh mn mx h t) (hy : (its t)[i]? = some y) (x : α) : recOf h (setIt t i x) = { recOf h t with items := (its t).set i x } := by
  have hl := toL_setIt_len hs hy x
  match h, t with
  | 0, t =>
    show (⟨((t.2.set i x).length : Nat), t.2.set i x, none⟩ : NodeR α) = ⟨(t.2.length : Nat), t.2.set i x, none⟩
    rw [List.length_set]
  | h + 1, t =>
    show (⟨((toL (h + 1) (setIt t i x)).length : Nat), t.2.1.set i x, _⟩ : NodeR α) = ⟨((toL (h + 1) t).length : Nat), t.2.1.set i x, _⟩
    rw [hl]; rfl

/-- The root's record alone changes. -/
theorem IsT.setRoot {H : Nat → Option (NodeR α)} {h : Nat} {t t' : BT α h} (hT : IsT H h t) (hd : (ids h t).Nodup) (h1 : rid t' = rid t) (h2 : ∀ {h' : Nat} (e : h = h' + 1), (e ▸ t' : BT α (h' + 1)).2.2 = (e ▸ t : BT α (h' + 1)).2.2) (r : NodeR α) (hr : recOf h t' = r) : IsT (upd H (rid t) r) h t' := by
  match h, t, t' with
  | 0, t, t' =>
    show upd H (rid t) r (rid t') = some (recOf 0 t')
    rw [h1, hr]; exact if_pos rfl
  | h + 1, t, t' =>
    refine ⟨?_, fun c hc => ?_⟩
    · show upd H (rid t) r (rid t') = some (recOf (h + 1) t')
      rw [h1, hr]; exact if_pos rfl
    · have hc' : c ∈ t.2.2 := by have := h2 rfl; rw [← this]; exact hc
      refine (hT.2 c hc').congr fun a ha => ?_
      have : a ≠ rid t := fun e => nodup_root hd hc' (e ▸ ha)
      exact if_neg this

theorem IsT.setIt {H : Nat → Option (NodeR α)} {h : Nat} {t : BT α h} {mn mx i : Nat} {y : α} (hT : IsT H h t) (hd : (ids h t).Nodup) (hs : Sh mn mx h t) (hy : (its t)[i]? = some y) (x : α) :
    IsT (upd H (rid t) { recOf h t with items := (its t).set i x }) h (Go.Proofs.Ytojplcbkiogcpaa.setIt t i x) :=
  hT.setRoot hd (rid_setIt t i x) (by rintro h' rfl; rfl) _ (recOf_setIt hs hy x)

theorem toL_hit {lt : α → α → Bool} (s : Swo lt) {h : Nat} {t : BT α h} {mn mx i : Nat} {x y : α} (hs : Sh mn mx h t) (hsrt : Srt lt (toL h t)) (hy : HitAt lt (its t) x i y) :
    toL h (setIt t i x) = insL lt x (toL h t) ∧ fndL lt x (toL h t) = some y := by
  obtain ⟨P, S, h1, h2⟩ := toL_around hs hy.at_
  rw [h1] at hsrt ⊢
  have hP : ∀ a ∈ P, lt a x = true := fun a ha => s.lt_of_lt_of_nlt ((List.pairwise_append.1 hsrt).2.2 a ha y List.mem_cons_self) hy.n2
  exact ⟨by rw [h2, insL_hit hP hy.n1 hy.n2], fndL_hit hP hy.n1 hy.n2⟩

theorem pos_mem {lt : α → α → Bool} {xs : List α} {x : α} {i : Nat} (h : PosAt lt xs x i) : (∀ a ∈ xs.take i, lt a x = true) ∧ (∀ a ∈ xs.drop i, lt x a = true) := by
  constructor
  · intro a ha
    obtain ⟨j, h1, h2⟩ := mem_take_get ha
    exact h.left j a h1 h2
  · intro a ha
    obtain ⟨j, h1, h2⟩ := mem_drop_get ha
    exact h.right j a h1 h2

theorem pos_gap {lt : α → α → Bool} (s : Swo lt) {xs : List α} {x : α} {i : Nat} (h : PosAt lt xs x i) : insL lt x xs = xs.take i ++ x :: xs.drop i ∧ fndL lt x xs = none := by
  obtain ⟨h1, h2⟩ := pos_mem h
  have e1 := insL_gap s h1 h2
  have e2 := fndL_gap s h1 h2
  rw [List.take_append_drop] at e1 e2
  exact ⟨e1, e2⟩

theorem pos_or_hit {lt : α → α → Bool} (s : Swo lt) {x : α} : ∀ {xs : List α}, Srt lt xs → (∃ i, PosAt lt xs x i) ∨ (∃ i y, HitAt lt xs x i y)
  | [], _ => .inl ⟨0, Nat.le_refl _, fun j y _ h => by simp at h, fun j y _ h => by simp at h⟩
  | z :: xs, h => by
    obtain ⟨h1, h2⟩ := List.pairwise_cons.1 h
    cases hz : lt z x with
    | true =>
      have left : ∀ {i : Nat}, (∀ j y, j < i → xs[j]? = some y → lt y x = true) → ∀ j y, j < i + 1 → (z :: xs)[j]? = some y → lt y x = true := by
        intro i hl j y hj hy
        cases j with
        | zero => obtain rfl : z = y := by simpa using hy
                  exact hz
        | succ j => exact hl j y (by omega) (by simpa using hy)
      rcases pos_or_hit s h2 with ⟨i, hi⟩ | ⟨i, y, hi⟩
      · refine .inl ⟨i + 1, by have := hi.le; simp; omega, left hi.left, fun j y hj hy => ?_⟩
        cases j with
        | zero => omega
        | succ j => exact hi.right j y (by omega) (by simpa using hy)
      · exact .inr ⟨i + 1, y, by simpa using hi.at_, left hi.left, hi.n1, hi.n2⟩
    | false =>
      cases hx : lt x z with
      | true =>
        refine .inl ⟨0, Nat.zero_le _, fun j y h => by omega, fun j y _ hy => ?_⟩
        cases j with
        | zero => obtain rfl : z = y := by simpa using hy
                  exact hx
        | succ j => exact s.trans hx (h1 y (List.mem_of_getElem? (by simpa using hy)))
      | false => exact .inr ⟨0, z, rfl, fun j y h => by omega, hz, hx⟩

/-! ### A node parted -/
def cutL : {h : Nat} → BT α h → Nat → BT α h
  | 0, t, i => (t.1, t.2.take i)
  | _ + 1, t, i => (t.1, t.2.1.take i, t.2.2.take (i + 1))
def cutR : {h : Nat} → BT α h → Nat → Nat → BT α h
  | 0, t, m, i => (m, t.2.drop (i + 1))
  | _ + 1, t, m, i => (m, t.2.1.drop (i + 1), t.2.2.drop (i + 1))

theorem its_cutL : {h : Nat} → (t : BT α h) → (i : Nat) → its (cutL t i) = (its t).take i
  | 0, _, _ => rfl
  | _ + 1, _, _ => rfl
theorem its_cutR : {h : Nat} → (t : BT α h) → (m i : Nat) → its (cutR t m i) = (its t).drop (i + 1)
  | 0, _, _, _ => rfl
  | _ + 1, _, _, _ => rfl
theorem rid_cutL : {h : Nat} → (t : BT α h) → (i : Nat) → rid (cutL t i) = rid t
  | 0, _, _ => rfl
  | _ + 1, _, _ => rfl
theorem rid_cutR : {h : Nat} → (t : BT α h) → (m i : Nat) → rid (cutR t m i) = m
  | 0, _, _, _ => rfl
  | _ + 1, _, _, _ => rfl

theorem toL_cut {h : Nat} {t : BT α h} {mn mx i : Nat} {x : α} (m : Nat) (hs : Sh mn mx h t) (hx : (its t)[i]? = some x) : toL h t = toL h (cutL t i) ++ x :: toL h (cutR t m i) := by
  match h, t with
  | 0, t => exact split_at hx
  | h + 1, t =>
    have hx' : t.2.1[i]? = some x := hx
    have hi : i < t.2.1.length := (List.getElem?_eq_some_iff.1 hx').1
    have hl : t.2.2.length = t.2.1.length + 1 := hs.2.1
    show inter t.2.1 (t.2.2.map (toL h)) = inter (t.2.1.take i) ((t.2.2.take (i + 1)).map (toL h)) ++ x :: inter (t.2.1.drop (i + 1)) ((t.2.2.drop (i + 1)).map (toL h))
    rw [← inter_app _ _ _ _ _ (by simp; omega), ← List.map_append, List.take_append_drop, ← split_at hx']

theorem sh_cut {h : Nat} {t : BT α h} {mn mx i : Nat} (m : Nat) (hs : Sh mn mx h t) (hi : i < (its t).length) : Sh mn mx h (cutL t i) ∧ Sh mn mx h (cutR t m i) := by
  match h, t with
  | 0, t =>
    have h0 : t.2.length ≤ mx := hs
    show (t.2.take i).length ≤ mx ∧ (t.2.drop (i + 1)).length ≤ mx
    simp; omega
  | h + 1, t =>
    have hi' : i < t.2.1.length := hi
    obtain ⟨h1, h2, h3⟩ := hs
    refine ⟨⟨?_, ?_, fun c hc => h3 c (List.mem_of_mem_take hc)⟩, ⟨?_, ?_, fun c hc => h3 c (List.mem_of_mem_drop hc)⟩⟩
    · show (t.2.1.take i).length ≤ mx
      simp; omega
    · show (t.2.2.take (i + 1)).length = (t.2.1.take i).length + 1
      simp; omega
    · show (t.2.1.drop (i + 1)).length ≤ mx
      simp; omega
    · show (t.2.2.drop (i + 1)).length = (t.2.1.drop (i + 1)).length + 1
      simp; omega

/-- The nodes of both parts: those of the node, and m. -/
theorem ids_cut {h : Nat} {t : BT α h} {m i B : Nat} (hd : (ids h t).Nodup) (hB : ∀ a ∈ ids h t, a < B) (hm : B ≤ m) :
    (ids h (cutL t i) ++ ids h (cutR t m i)).Nodup ∧ (∀ a ∈ ids h (cutL t i), a ∈ ids h t) ∧ ∀ a ∈ ids h (cutR t m i), a ∈ ids h t ∨ a = m := by
  match h, t with
  | 0, t =>
    have h0 : t.1 < B := hB t.1 (List.mem_singleton.2 rfl)
    refine ⟨?_, ?_, ?_⟩
    · show ([t.1] ++ [m]).Nodup
      simp; omega
    · intro a ha; exact ha
    · intro a ha; exact .inr (List.mem_singleton.1 ha)
  | h + 1, t =>
    obtain ⟨h1, h2⟩ := List.nodup_cons.1 hd
    have h0 : t.1 < B := hB t.1 List.mem_cons_self
    have hB' : ∀ a ∈ t.2.2.flatMap (ids h), a < B := fun a ha => hB a (List.mem_cons_of_mem _ ha)
    have e : t.2.2.flatMap (ids h) = (t.2.2.take (i + 1)).flatMap (ids h) ++ (t.2.2.drop (i + 1)).flatMap (ids h) := by rw [← List.flatMap_append, List.take_append_drop]
    change t.1 ∉ t.2.2.flatMap (ids h) at h1
    change (t.2.2.flatMap (ids h)).Nodup at h2
    rw [e] at h1 h2 hB'
    obtain ⟨g1, g2, g3⟩ := List.nodup_append.1 h2
    show ((t.1 :: (t.2.2.take (i + 1)).flatMap (ids h)) ++ (m :: (t.2.2.drop (i + 1)).flatMap (ids h))).Nodup ∧ (∀ a ∈ (t.1 :: (t.2.2.take (i + 1)).flatMap (ids h)), a ∈ (t.1 :: t.2.2.flatMap (ids h))) ∧
      ∀ a ∈ (m :: (t.2.2.drop (i + 1)).flatMap (ids h)), a ∈ (t.1 :: t.2.2.flatMap (ids h)) ∨ a = m
    rw [e]
    simp only [List.mem_append] at h1 hB'
    refine ⟨List.nodup_append.2 ⟨List.nodup_cons.2 ⟨fun h => h1 (.inl h), g1⟩, List.nodup_cons.2 ⟨fun h => ?_, g2⟩, ?_⟩, ?_, ?_⟩
    · have := hB' m (.inr h); omega
    · rintro a ha b hb rfl
      rcases List.mem_cons.1 ha with rfl | ha
      · rcases List.mem_cons.1 hb with hb | hb
        · omega
        · exact h1 (.inr hb)
      · rcases List.mem_cons.1 hb with rfl | hb
        · have := hB' a (.inl ha); omega
        · exact g3 a ha a hb rfl
    · intro a ha
      rcases List.mem_cons.1 ha with rfl | ha
      · exact List.mem_cons_self
      · exact List.mem_cons_of_mem _ (List.mem_append.2 (.inl ha))
    · intro a ha
      rcases List.mem_cons.1 ha with rfl | ha
      · exact .inr rfl
      · exact .inl (List.mem_cons_of_mem _ (List.mem_append.2 (.inr ha)))

theorem inter_put : ∀ (i : Nat) (xs : List α) (ts : List (List α)) (t1 t2 : List α) (x : α), ts.length = xs.length + 1 → ts[i]? = some (t1 ++ x :: t2) →
    inter (xs.take i ++ x :: xs.drop i) (ts.take i ++ t1 :: t2 :: ts.drop (i + 1)) = inter xs ts
  | 0, xs, u :: ts, t1, t2, x, h, hi => by
    obtain rfl : u = t1 ++ x :: t2 := by simpa using hi
    have hl : ts.length = xs.length := by simpa using h
    simp only [List.take_zero, List.nil_append, List.drop_zero, List.drop_succ_cons, inter]
    rw [inter_eq xs t2 ts hl, inter_eq xs _ ts hl]; simp
  | i + 1, y :: xs, u :: ts, t1, t2, x, h, hi => by
    simp only [List.take_succ_cons, List.drop_succ_cons, List.cons_append, inter]
    rw [inter_put i xs ts t1 t2 x (by simpa using h) (by simpa using hi)]
  | i + 1, [], u :: ts, t1, t2, x, h, hi => by
    obtain rfl : ts = [] := by simpa using h
    simp at hi
  | i, xs, [], t1, t2, x, h, hi => by simp at hi

/-- A child parted: the item between goes up. -/
def put2 {h : Nat} (t : BT α (h + 1)) (i : Nat) (x : α) (c1 c2 : BT α h) : BT α (h + 1) := (t.1, t.2.1.take i ++ x :: t.2.1.drop i, t.2.2.take i ++ [c1, c2] ++ t.2.2.drop (i + 1))

theorem toL_put2 {h : Nat} {t : BT α (h + 1)} {mn mx i : Nat} {c c1 c2 : BT α h} {x : α} (hs : Sh mn mx (h + 1) t) (hc : t.2.2[i]? = some c) (e : toL h c = toL h c1 ++ x :: toL h c2) : toL (h + 1) (put2 t i x c1 c2) = toL (h + 1) t := by
  show inter (t.2.1.take i ++ x :: t.2.1.drop i) ((t.2.2.take i ++ [c1, c2] ++ t.2.2.drop (i + 1)).map (toL h)) = inter t.2.1 (t.2.2.map (toL h))
  rw [← inter_put i t.2.1 (t.2.2.map (toL h)) (toL h c1) (toL h c2) x (by simpa using hs.2.1) (by simp [hc, e])]
  congr 1
  simp

theorem sh_put2 {h : Nat} {t : BT α (h + 1)} {mn mx i : Nat} {c c1 c2 : BT α h} {x : α} (hs : Sh mn mx (h + 1) t) (hc : t.2.2[i]? = some c) (hl : t.2.1.length < mx) (h1 : Sh mn mx h c1) (h2 : Sh mn mx h c2) (m1 : mn ≤ (its c1).length) (m2 : mn ≤ (its c2).length) :
    Sh mn mx (h + 1) (put2 t i x c1 c2) := by
  obtain ⟨g1, g2, g3⟩ := hs
  have hi : i < t.2.2.length := (List.getElem?_eq_some_iff.1 hc).1
  refine ⟨?_, ?_, ?_⟩
  · show (t.2.1.take i ++ x :: t.2.1.drop i).length ≤ mx
    simp; omega
  · show (t.2.2.take i ++ [c1, c2] ++ t.2.2.drop (i + 1)).length = (t.2.1.take i ++ x :: t.2.1.drop i).length + 1
    simp; omega
  · intro d hd
    change d ∈ t.2.2.take i ++ [c1, c2] ++ t.2.2.drop (i + 1) at hd
    simp only [List.mem_append, List.mem_cons, List.not_mem_nil, or_false] at hd
    rcases hd with (hd | rfl | rfl) | hd
    · exact g3 d (List.mem_of_mem_take hd)
    · exact ⟨m1, h1⟩
    · exact ⟨m2, h2⟩
    · exact g3 d (List.mem_of_mem_drop hd)

end Go.Proofs.Ytojplcbkiogcpaa
