/- Trees among the nodes of a family. -/
import Derived.Test.YtojplcbkiogcpaaFam
import Derived.Test.YtojplcbkiogcpaaTree
namespace Go.Proofs.Ytojplcbkiogcpaa
set_option linter.unusedSimpArgs false
set_option linter.unusedVariables false

variable {α : Type}

/-- The record of a tree's root. -/
def recOf : (h : Nat) → BT α h → NodeR α
  | 0, t => ⟨t.2.length, t.2, none⟩
  | h + 1, t => ⟨(toL (h + 1) t).length, t.2.1, some (t.2.2.map fun c => some (rid c))⟩

/-- The tree lies among the nodes. -/
def IsT (H : Nat → Option (NodeR α)) : (h : Nat) → BT α h → Prop
  | 0, t => H (rid t) = some (recOf 0 t)
  | h + 1, t => H (rid t) = some (recOf (h + 1) t) ∧ ∀ c ∈ t.2.2, IsT H h c

theorem IsT.root {H : Nat → Option (NodeR α)} : {h : Nat} → {t : BT α h} → IsT H h t → H (rid t) = some (recOf h t)
  | 0, _, h => h
  | _ + 1, _, h => h.1

theorem IsT.kid {H : Nat → Option (NodeR α)} {h : Nat} {t : BT α (h + 1)} (hT : IsT H (h + 1) t) {c : BT α h} (hc : c ∈ t.2.2) : IsT H h c := hT.2 c hc

theorem recOf_items : {h : Nat} → (t : BT α h) → (recOf h t).items = its t
  | 0, _ => rfl
  | _ + 1, _ => rfl
theorem recOf_cnt : {h : Nat} → (t : BT α h) → (recOf h t).cnt = (toL h t).length
  | 0, _ => rfl
  | _ + 1, _ => rfl

theorem ids_kid {h : Nat} {t : BT α (h + 1)} {c : BT α h} (hc : c ∈ t.2.2) {n : Nat} (hn : n ∈ ids h c) : n ∈ ids (h + 1) t :=
  List.mem_cons_of_mem _ (List.mem_flatMap.2 ⟨c, hc, hn⟩)

theorem IsT.congr {H H' : Nat → Option (NodeR α)} : {h : Nat} → {t : BT α h} → IsT H h t → (∀ n ∈ ids h t, H' n = H n) → IsT H' h t
  | 0, t, h, e => (e _ (rid_mem t)).trans h
  | _ + 1, t, h, e => ⟨(e _ (rid_mem t)).trans h.1, fun c hc => (h.2 c hc).congr fun n hn => e n (ids_kid hc hn)⟩

theorem IsT.mem {H : Nat → Option (NodeR α)} : {h : Nat} → {t : BT α h} → IsT H h t → ∀ {n : Nat}, n ∈ ids h t → ∃ r, H n = some r
  | 0, t, h, n, hn => by rw [List.mem_singleton.1 hn]; exact ⟨_, h⟩
  | _ + 1, t, h, n, hn => by
    rcases List.mem_cons.1 hn with rfl | hn
    · exact ⟨_, h.1⟩
    · obtain ⟨c, hc, hm⟩ := List.mem_flatMap.1 hn
      exact (h.2 c hc).mem hm

theorem IsT.lt {p : Par α} {w : World} {F : Nat → Prop} {H : Nat → Option (NodeR α)} (hF : Fam p w F H) {h : Nat} {t : BT α h} (hT : IsT H h t) {n : Nat} (hn : n ∈ ids h t) : n < w.heap.size := by
  obtain ⟨r, hr⟩ := hT.mem hn
  exact hF.lt (hF.mem hr)

theorem nodup_root {h : Nat} {t : BT α (h + 1)} (hd : (ids (h + 1) t).Nodup) {c : BT α h} (hc : c ∈ t.2.2) : rid t ∉ ids h c := fun hm =>
  (List.nodup_cons.1 hd).1 (List.mem_flatMap.2 ⟨c, hc, hm⟩)

theorem nodup_kid {h : Nat} {t : BT α (h + 1)} (hd : (ids (h + 1) t).Nodup) {c : BT α h} (hc : c ∈ t.2.2) : (ids h c).Nodup := by
  obtain ⟨_, h2⟩ := List.nodup_cons.1 hd
  obtain ⟨L, R, e⟩ := List.append_of_mem hc
  rw [e, List.flatMap_append, List.flatMap_cons] at h2
  exact (List.nodup_append.1 (List.nodup_append.1 h2).2.1).1

/-- Children apart. -/
theorem nodup_apart {h : Nat} {n : Nat} {xs : List α} {L R : List (BT α h)} {c : BT α h} (hd : (ids (h + 1) ((n, xs, L ++ c :: R) : BT α (h + 1))).Nodup) {a : Nat} (ha : a ∈ ids h c) :
    a ≠ n ∧ a ∉ L.flatMap (ids h) ∧ a ∉ R.flatMap (ids h) := by
  have hd' : (n :: (L ++ c :: R).flatMap (ids h)).Nodup := hd
  obtain ⟨h1, h2⟩ := List.nodup_cons.1 hd'
  rw [List.flatMap_append, List.flatMap_cons] at h1 h2
  obtain ⟨h3, h4, h5⟩ := List.nodup_append.1 h2
  obtain ⟨h6, h7, h8⟩ := List.nodup_append.1 h4
  refine ⟨fun e => h1 (e ▸ List.mem_append.2 (.inr (List.mem_append.2 (.inl ha)))), fun hL => h5 a hL a (List.mem_append.2 (.inl ha)) rfl, fun hR => h8 a ha a hR rfl⟩

/-- One child gives way to trees whose nodes are its own, or new. -/
theorem ids_replace {h : Nat} {n : Nat} {xs xs' : List α} {L R cs : List (BT α h)} {c : BT α h} {B : Nat} (hd : (ids (h + 1) ((n, xs, L ++ c :: R) : BT α (h + 1))).Nodup) (hB : ∀ a ∈ ids (h + 1) ((n, xs, L ++ c :: R) : BT α (h + 1)), a < B)
    (hcs : ∀ a ∈ cs.flatMap (ids h), a ∈ ids h c ∨ B ≤ a) (hnd : (cs.flatMap (ids h)).Nodup) :
    (ids (h + 1) ((n, xs', L ++ cs ++ R) : BT α (h + 1))).Nodup ∧ ∀ a ∈ ids (h + 1) ((n, xs', L ++ cs ++ R) : BT α (h + 1)), a ∈ ids (h + 1) ((n, xs, L ++ c :: R) : BT α (h + 1)) ∨ B ≤ a := by
  have hd' : (n :: (L ++ c :: R).flatMap (ids h)).Nodup := hd
  have hB' : ∀ a ∈ (n :: (L ++ c :: R).flatMap (ids h)), a < B := hB
  have ap := fun a ha => nodup_apart hd (a := a) ha
  obtain ⟨h1, h2⟩ := List.nodup_cons.1 hd'
  rw [List.flatMap_append, List.flatMap_cons] at h1 h2
  simp only [List.flatMap_append, List.flatMap_cons, List.mem_cons, List.mem_append] at hB' h1
  obtain ⟨h3, h4, h5⟩ := List.nodup_append.1 h2
  obtain ⟨h6, h7, h8⟩ := List.nodup_append.1 h4
  show (n :: (L ++ cs ++ R).flatMap (ids h)).Nodup ∧ ∀ a ∈ (n :: (L ++ cs ++ R).flatMap (ids h)), a ∈ (n :: (L ++ c :: R).flatMap (ids h)) ∨ B ≤ a
  rw [List.flatMap_append, List.flatMap_append]
  constructor
  · refine List.nodup_cons.2 ⟨?_, List.nodup_append.2 ⟨List.nodup_append.2 ⟨h3, hnd, ?_⟩, h7, ?_⟩⟩
    · intro hm
      rcases List.mem_append.1 hm with hm | hm
      · rcases List.mem_append.1 hm with hm | hm
        · exact h1 (.inl hm)
        · rcases hcs n hm with h | h
          · exact (ap n h).1 rfl
          · have := hB' n (.inl rfl); omega
      · exact h1 (.inr (.inr hm))
    · rintro a ha b hb rfl
      rcases hcs a hb with h | h
      · exact (ap a h).2.1 ha
      · have := hB' a (.inr (.inl ha)); omega
    · rintro a ha b hb rfl
      rcases List.mem_append.1 ha with ha | ha
      · exact h5 a ha a (List.mem_append.2 (.inr hb)) rfl
      · rcases hcs a ha with h | h
        · exact (ap a h).2.2 hb
        · have := hB' a (.inr (.inr (.inr hb))); omega
  · intro a ha
    simp only [List.flatMap_append, List.flatMap_cons, List.mem_cons, List.mem_append] at ha ⊢
    rcases ha with ha | (ha | ha) | ha
    · exact .inl (.inl ha)
    · exact .inl (.inr (.inl ha))
    · rcases hcs a ha with h | h
      · exact .inl (.inr (.inr (.inl h)))
      · exact .inr h
    · exact .inl (.inr (.inr (.inr ha)))

theorem split_at {α : Type} {l : List α} {i : Nat} {c : α} (h : l[i]? = some c) : l = l.take i ++ c :: l.drop (i + 1) := by
  obtain ⟨hi, rfl⟩ := List.getElem?_eq_some_iff.1 h
  rw [← List.drop_eq_getElem_cons hi, List.take_append_drop]

theorem set_at {α : Type} {l : List α} {i : Nat} {c c' : α} (h : l[i]? = some c) : l.set i c' = l.take i ++ [c'] ++ l.drop (i + 1) := by
  obtain ⟨hi, _⟩ := List.getElem?_eq_some_iff.1 h
  rw [List.set_eq_take_append_cons_drop, if_pos hi]; simp

/-- A child replaced by a tree with the same root. -/
theorem ids_setKid {h : Nat} {t : BT α (h + 1)} {i : Nat} {c c' : BT α h} {B : Nat} (hc : t.2.2[i]? = some c) (hd : (ids (h + 1) t).Nodup) (hB : ∀ a ∈ ids (h + 1) t, a < B)
    (hcs : ∀ a ∈ ids h c', a ∈ ids h c ∨ B ≤ a) (hnd : (ids h c').Nodup) : (ids (h + 1) (setKid t i c')).Nodup ∧ ∀ a ∈ ids (h + 1) (setKid t i c'), a ∈ ids (h + 1) t ∨ B ≤ a := by
  obtain ⟨n, xs, ts⟩ := t
  have e : ts = ts.take i ++ c :: ts.drop (i + 1) := split_at hc
  have e' : setKid ((n, xs, ts) : BT α (h + 1)) i c' = ((n, xs, ts.take i ++ [c'] ++ ts.drop (i + 1)) : BT α (h + 1)) := by
    show (n, xs, ts.set i c') = _
    rw [set_at hc]
  rw [e']
  have e2 : ids (h + 1) ((n, xs, ts) : BT α (h + 1)) = ids (h + 1) ((n, xs, ts.take i ++ c :: ts.drop (i + 1)) : BT α (h + 1)) := by rw [← e]
  rw [e2] at hd hB ⊢
  exact ids_replace (xs' := xs) (cs := [c']) hd hB (by simpa using hcs) (by simpa using hnd)

end Go.Proofs.Ytojplcbkiogcpaa
