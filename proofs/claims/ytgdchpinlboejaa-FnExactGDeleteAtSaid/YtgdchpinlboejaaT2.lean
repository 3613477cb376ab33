/- DeleteAt of trees. -/
import Derived.Deep.Cut
import Derived.WalkMore
import Derived.Test.YtgdchpinlboejaaA8
import Derived.Test.YtgdchpinlboejaaA11
import Derived.Test.YtgdchpinlboejaaA12
import Derived.Test.YtgdchpinlboejaaA20
import Derived.Test.YtgdchpinlboejaaT3
namespace Go.Proofs.Ytgdchpinlboejaa
set_option linter.unusedSimpArgs false
set_option linter.unusedVariables false
open Go.RowKit

section
variable {α : Type}

/-- The counts of the nodes S changed by δ. -/
def bmp (H : Nat → Option (NodeR α)) (S : List Nat) (δ : Int) : Nat → Option (NodeR α) := fun m => if m ∈ S then (H m).map (fun r => { r with cnt := r.cnt + δ }) else H m

theorem bmp_nil (H : Nat → Option (NodeR α)) (δ : Int) : bmp H [] δ = H := by funext m; simp [bmp]
theorem bmp_out {H : Nat → Option (NodeR α)} {S : List Nat} {δ : Int} {m : Nat} (h : m ∉ S) : bmp H S δ m = H m := if_neg h
theorem bmp_in {H : Nat → Option (NodeR α)} {S : List Nat} {δ : Int} {m : Nat} {r : NodeR α} (h : m ∈ S) (hr : H m = some r) : bmp H S δ m = some { r with cnt := r.cnt + δ } := by simp [bmp, h, hr]

theorem bmp_snoc {H : Nat → Option (NodeR α)} {S : List Nat} {δ : Int} {n : Nat} {r : NodeR α} (hr : H n = some r) : upd (bmp H S δ) n { r with cnt := r.cnt + δ } = bmp H (S ++ [n]) δ := by
  funext m
  by_cases e : m = n
  · subst e; rw [upd_same, bmp_in (by simp) hr]
  · rw [upd_ne _ _ e]; unfold bmp; simp [e]

theorem bmp_cons {H : Nat → Option (NodeR α)} {S : List Nat} {δ : Int} {n : Nat} {r : NodeR α} (hn : n ∉ S) (hr : H n = some r) : upd (bmp H (n :: S) δ) n r = bmp H S δ := by
  funext m
  by_cases e : m = n
  · subst e; rw [upd_same, bmp_out hn, hr]
  · rw [upd_ne _ _ e]; unfold bmp; simp [e]

/-- A count is set. -/
theorem Fam.setCnt {p : Par α} {w : World} {F : Nat → Prop} {H : Nat → Option (NodeR α)} (h : Fam p w F H) {n : Nat} {r : NodeR α} (hn : H n = some r) (c : Int) : Fam p (w.setCell ⟨n, 1, none⟩ (.int .i64 c)) F (upd H n { r with cnt := c }) ∧ Chg (fun b _ => F b) w (w.setCell ⟨n, 1, none⟩ (.int .i64 c)) := by
  obtain ⟨l, h1, _, _, h4⟩ := h.work hn
  obtain ⟨g1, g2⟩ := h4 _ _ _ ((Run.start h1).setCnt c)
  refine ⟨g1.mono (fun b hb => ?_) (fun b hb => ?_), g2⟩
  · rcases hb with hb | ⟨hb1, hb2⟩
    · exact hb
    · have h3 : (w.setCell ⟨n, 1, none⟩ (.int .i64 c)).heap.size = w.heap.size := by simp
      omega
  · have h3 : (w.setCell ⟨n, 1, none⟩ (.int .i64 c)).heap.size = w.heap.size := by simp
    have := h.lt hb
    omega

/-- The nodes on the road along the last children. -/
def spineR : (h : Nat) → BT α h → List Nat
  | 0, t => [t.1]
  | h + 1, t => t.1 :: (match t.2.2.getLast? with | some c => spineR h c | none => [])

theorem spineR_cons {h : Nat} {t : BT α (h + 1)} {c : BT α h} (hc : t.2.2.getLast? = some c) : spineR (h + 1) t = rid t :: spineR h c := by
  show t.1 :: (match t.2.2.getLast? with | some c => spineR h c | none => []) = _
  rw [hc]; rfl

theorem spineR_sub : {h : Nat} → {t : BT α h} → ∀ a ∈ spineR h t, a ∈ ids h t
  | 0, t, a, ha => ha
  | h + 1, t, a, ha => by
    change a ∈ t.1 :: (match t.2.2.getLast? with | some c => spineR h c | none => []) at ha
    rcases List.mem_cons.1 ha with rfl | ha
    · exact List.mem_cons_self
    · cases hg : t.2.2.getLast? with
      | none => rw [hg] at ha; simp at ha
      | some c =>
        rw [hg] at ha
        exact ids_kid (List.mem_of_getLast? hg) (spineR_sub a ha)

theorem spineR_head {h : Nat} {t : BT α (h + 1)} {c : BT α h} (hd : (ids (h + 1) t).Nodup) (hc : t.2.2.getLast? = some c) : rid t ∉ spineR h c := fun hm =>
  nodup_root hd (List.mem_of_getLast? hc) (spineR_sub _ hm)

/-- x has come behind the last item of the subtree. -/
structure AppIn (mn mx : Nat) (H : Nat → Option (NodeR α)) (h : Nat) (T : BT α h) (x : α) (T' : BT α h) : Prop where
  isT : IsT H h T'
  rid' : rid T' = rid T
  ids' : ids h T' = ids h T
  sh : Sh mn mx h T'
  len : (its T).length ≤ (its T').length
  list : toL h T' = toL h T ++ [x]

theorem app_leaf {mn mx : Nat} {H : Nat → Option (NodeR α)} {T : BT α 0} {x : α} (hl : T.2.length < mx) (hr : H (rid T) = some ⟨(T.2.length : Int) + 1, T.2 ++ [x], none⟩) : AppIn mn mx H 0 T x ((T.1, T.2 ++ [x]) : BT α 0) := by
  refine ⟨?_, rfl, rfl, ?_, ?_, rfl⟩
  · show H (rid T) = some (⟨((T.2 ++ [x]).length : Nat), T.2 ++ [x], none⟩ : NodeR α)
    rw [hr]; simp
  · show (T.2 ++ [x]).length ≤ mx
    simp; omega
  · show T.2.length ≤ (T.2 ++ [x]).length
    simp

theorem app_step {mn mx : Nat} {H H' : Nat → Option (NodeR α)} {h : Nat} {T : BT α (h + 1)} {c c' : BT α h} {x : α} (hT : IsT H (h + 1) T) (hd : (ids (h + 1) T).Nodup) (hs : Sh mn mx (h + 1) T) (hc : T.2.2.getLast? = some c) (hA : AppIn mn mx H' h c x c')
    (hr : H' (rid T) = some { recOf (h + 1) T with cnt := (recOf (h + 1) T).cnt + 1 }) (ho : ∀ a, a ∈ ids (h + 1) T → a ∉ ids h c → a ≠ rid T → H' a = H a) : ∃ T', AppIn mn mx H' (h + 1) T x T' := by
  obtain ⟨n, xs, ts⟩ := T
  obtain ⟨L, rfl⟩ : ∃ L, ts = L ++ [c] := by
    have hc' : ts.getLast? = some c := hc
    obtain ⟨L, hL⟩ := List.getLast?_eq_some_iff.1 hc'
    exact ⟨L, hL⟩
  obtain ⟨h1, h2, h3⟩ := hs
  change xs.length ≤ mx at h1
  change (L ++ [c]).length = xs.length + 1 at h2
  have hlL : L.length = xs.length := by simpa using h2
  have e1 : toL (h + 1) ((n, xs, L ++ [c]) : BT α (h + 1)) = pre xs (L.map (toL h)) ++ toL h c := by
    show inter xs ((L ++ [c]).map (toL h)) = _
    rw [inter_split L.length xs _ (toL h c) (by simpa using h2) (by simp)]
    rw [hlL, List.take_length, List.drop_length]
    simp [post, ← hlL, List.take_append_of_le_length]
  have e2 : toL (h + 1) ((n, xs, L ++ [c']) : BT α (h + 1)) = toL (h + 1) ((n, xs, L ++ [c]) : BT α (h + 1)) ++ [x] := by
    rw [e1]
    show inter xs ((L ++ [c']).map (toL h)) = _
    rw [inter_split L.length xs _ (toL h c') (by simp [hlL]) (by simp)]
    rw [hlL, List.take_length, List.drop_length, hA.list]
    simp [post, ← hlL, List.take_append_of_le_length]
  refine ⟨(n, xs, L ++ [c']), ⟨?_, fun d hdm => ?_⟩, rfl, ?_, ⟨h1, ?_, fun d hdm => ?_⟩, Nat.le_refl _, e2⟩
  · show H' n = some (⟨((toL (h + 1) ((n, xs, L ++ [c']) : BT α (h + 1))).length : Nat), xs, some ((L ++ [c']).map fun c => some (rid c))⟩ : NodeR α)
    rw [e2]
    have hr' : H' n = some (⟨((toL (h + 1) ((n, xs, L ++ [c]) : BT α (h + 1))).length : Nat) + 1, xs, some ((L ++ [c]).map fun c => some (rid c))⟩ : NodeR α) := hr
    rw [hr']
    simp [hA.rid']
  · change d ∈ L ++ [c'] at hdm
    rcases List.mem_append.1 hdm with hdL | hdm
    · refine (hT.2 d (List.mem_append.2 (.inl hdL))).congr fun a ha => ?_
      have ap := fun {a : Nat} (ha : a ∈ ids h c) => nodup_apart (n := n) (xs := xs) (L := L) (R := []) (c := c) hd ha
      refine ho a (ids_kid (List.mem_append.2 (.inl hdL)) ha) (fun hac => (ap hac).2.1 (List.mem_flatMap.2 ⟨d, hdL, ha⟩)) (fun e => ?_)
      exact nodup_root hd (List.mem_append.2 (.inl hdL) : d ∈ ((n, xs, L ++ [c]) : BT α (h + 1)).2.2) (e ▸ ha)
    · rw [List.mem_singleton.1 hdm]; exact hA.isT
  · show n :: (L ++ [c']).flatMap (ids h) = n :: (L ++ [c]).flatMap (ids h)
    simp [hA.ids']
  · show (L ++ [c']).length = xs.length + 1
    simpa using h2
  · change d ∈ L ++ [c'] at hdm
    rcases List.mem_append.1 hdm with hdL | hdm
    · exact h3 d (List.mem_append.2 (.inl hdL))
    · rw [List.mem_singleton.1 hdm]
      have := h3 c (List.mem_append.2 (.inr (List.mem_singleton.2 rfl)))
      exact ⟨Nat.le_trans this.1 hA.len, hA.sh⟩

/-- The item behind all others. -/
theorem insL_last {lt : α → α → Bool} {x : α} {l : List α} (h : ∀ a ∈ l, lt a x = true) : insL lt x l = l ++ [x] ∧ fndL lt x l = none := by
  have h1 := insL_pre (lt := lt) (x := x) (A := l) (B := []) h
  have h2 := fndL_pre (lt := lt) (x := x) (A := l) (B := []) h
  rw [List.append_nil] at h1 h2
  exact ⟨by rw [h1]; rfl, by rw [h2]; rfl⟩

theorem srt_last {lt : α → α → Bool} (s : Swo lt) {l : List α} {x y : α} (hs : Srt lt l) (hl : l.getLast? = some y) (hy : lt y x = true) : ∀ a ∈ l, lt a x = true := by
  obtain ⟨L, rfl⟩ := List.getLast?_eq_some_iff.1 hl
  intro a ha
  rcases List.mem_append.1 ha with h | h
  · exact s.trans ((List.pairwise_append.1 hs).2.2 a h y (List.mem_singleton.2 rfl)) hy
  · rw [List.mem_singleton.1 h]; exact hy
end
end Go.Proofs.Ytgdchpinlboejaa

namespace Go.Proofs.Ytgdchpinlboejaa
set_option linter.unusedSimpArgs false
set_option linter.unusedVariables false

section
variable {α : Type}

theorem pre_step_len {α : Type} {xs : List α} {ts : List (List α)} {i : Nat} {x : α} {t : List α} (hx : xs[i]? = some x) (ht : ts[i]? = some t) : (pre (xs.take (i + 1)) (ts.take (i + 1))).length = (pre (xs.take i) (ts.take i)).length + (t.length + 1) := by
  rw [pre_step hx ht]; simp

/-- .. or the item behind it. -/
theorem at_item {α : Type} {xs : List α} {ts : List (List α)} {j : Nat} {x : α} {t : List α} (h : ts.length = xs.length + 1) (hx : xs[j]? = some x) (ht : ts[j]? = some t) : (inter xs ts)[(pre (xs.take j) (ts.take j)).length + t.length]? = some x := by
  have hj := (List.getElem?_eq_some_iff.1 hx).1
  have e : inter xs ts = (pre (xs.take (j + 1)) (ts.take (j + 1))) ++ (inter (xs.drop (j + 1)) (ts.drop (j + 1))) := by
    have hp : ∀ (xs : List α) (ts : List (List α)) (n : Nat), ts.length = xs.length + 1 → n ≤ xs.length → inter xs ts = pre (xs.take n) (ts.take n) ++ inter (xs.drop n) (ts.drop n) := by
      intro xs ts n
      induction n generalizing xs ts with
      | zero => intro _ _; simp [pre]
      | succ n ih =>
        intro h1 h2
        match xs, ts, h1, h2 with
        | x :: xs, t :: ts, h1, h2 =>
          simp only [List.take_succ_cons, List.drop_succ_cons, pre, inter, List.append_assoc, List.cons_append]
          rw [ih xs ts (by simpa using h1) (by simpa using h2)]
    exact hp xs ts (j + 1) h (by omega)
  rw [e, pre_step hx ht, List.getElem?_append_left (by simp), List.getElem?_append_right (by omega)]
  simp

/-- From a tree by indices down to a part of it: the indices, the roots passed, how many items lie ahead of the part. -/
inductive Road : (h : Nat) → BT α h → List Nat → List Nat → Nat → (h' : Nat) → BT α h' → Prop
  | nil {h : Nat} {T : BT α h} : Road h T [] [] 0 h T
  | snoc {h : Nat} {T : BT α h} {B P : List Nat} {off h' : Nat} {T' : BT α (h' + 1)} {j : Nat} {c : BT α h'} : Road h T B P off (h' + 1) T' → T'.2.2[j]? = some c →
      Road h T (B ++ [j]) (P ++ [rid T']) (off + (pre (T'.2.1.take j) ((T'.2.2.map (toL h')).take j)).length) h' c

/-- The way from a tree on by indices, up to a leaf or a branch; the roots passed. -/
inductive Along : (h : Nat) → BT α h → List Nat → List Nat → Prop
  | leaf (T : BT α 0) (j : Nat) : j < T.2.length → Along 0 T [j] [rid T]
  | stop {h : Nat} {T : BT α (h + 1)} {j : Nat} {c : BT α h} : T.2.2[j]? = some c → Along (h + 1) T [j] [rid T]
  | step {h : Nat} {T : BT α (h + 1)} {j : Nat} {c : BT α h} {B P : List Nat} : T.2.2[j]? = some c → Along h c B P → Along (h + 1) T (j :: B) (rid T :: P)

theorem Road.along {h : Nat} {T : BT α h} {B P : List Nat} {off h' : Nat} {T' : BT α h'} (hr : Road h T B P off h' T') : ∀ {B2 P2 : List Nat}, Along h' T' B2 P2 → Along h T (B ++ B2) (P ++ P2) := by
  induction hr with
  | nil => intro B2 P2 h; exact h
  | snoc hr hc ih =>
    intro B2 P2 h
    have := ih (Along.step hc h)
    simpa using this

theorem Along.sub {h : Nat} {T : BT α h} {B P : List Nat} (ha : Along h T B P) : ∀ a ∈ P, a ∈ ids h T := by
  induction ha with
  | leaf T j _ => intro a ha; rw [List.mem_singleton.1 ha]; exact rid_mem _
  | stop hc => intro a ha; rw [List.mem_singleton.1 ha]; exact rid_mem _
  | step hc _ ih =>
    intro a ha
    rcases List.mem_cons.1 ha with rfl | ha
    · exact rid_mem _
    · exact ids_kid (List.mem_of_getElem? hc) (ih a ha)

theorem Along.len {h : Nat} {T : BT α h} {B P : List Nat} (ha : Along h T B P) : 1 ≤ B.length ∧ B.length ≤ h + 1 := by
  induction ha with
  | leaf T j _ => exact ⟨Nat.le_refl _, Nat.le_refl _⟩
  | stop hc => exact ⟨Nat.le_refl _, by simp⟩
  | step hc _ ih => simp only [List.length_cons]; omega

theorem Along.byte {mn mx h : Nat} {T : BT α h} {B P : List Nat} (ha : Along h T B P) (hmx : mx ≤ 255) (hs : Sh mn mx h T) : ∀ j ∈ B, j ≤ 255 := by
  induction ha with
  | leaf T j hj =>
    intro q hq
    rw [List.mem_singleton.1 hq]
    have : T.2.length ≤ mx := hs
    omega
  | stop hc =>
    intro q hq
    rw [List.mem_singleton.1 hq]
    have h1 := hs.1
    have h2 := hs.2.1
    have h3 := (List.getElem?_eq_some_iff.1 hc).1
    omega
  | step hc _ ih =>
    intro q hq
    rcases List.mem_cons.1 hq with rfl | hq
    · have h1 := hs.1
      have h2 := hs.2.1
      have h3 := (List.getElem?_eq_some_iff.1 hc).1
      omega
    · exact ih (hs.2.2 _ (List.mem_of_getElem? hc)).2 q hq

/-- The roots passed lie outside of the part. -/
theorem Road.out {h : Nat} {T : BT α h} {B P : List Nat} {off h' : Nat} {T' : BT α h'} (hr : Road h T B P off h' T') (hd : (ids h T).Nodup) : (∀ a ∈ ids h' T', a ∈ ids h T) ∧ (ids h' T').Nodup ∧ (∀ a ∈ P, a ∉ ids h' T' ∧ a ∈ ids h T) := by
  induction hr with
  | nil => exact ⟨fun _ h => h, hd, fun _ h => by cases h⟩
  | snoc hr hc ih =>
    obtain ⟨h1, h2, h3⟩ := ih
    have hm := List.mem_of_getElem? hc
    refine ⟨fun a ha => h1 a (ids_kid hm ha), nodup_kid h2 hm, fun a ha => ?_⟩
    rcases List.mem_append.1 ha with ha | ha
    · exact ⟨fun hc2 => (h3 a ha).1 (ids_kid hm hc2), (h3 a ha).2⟩
    · rw [List.mem_singleton.1 ha]
      exact ⟨nodup_root h2 hm, h1 _ (rid_mem _)⟩

/-- An item at the end of a road is taken out of a part, which stays good enough: so it is out of the whole tree. -/
theorem Road.close {mn mx : Nat} {H : Nat → Option (NodeR α)} {h : Nat} {T : BT α h} {B P : List Nat} {off h' : Nat} {T' : BT α h'} (hr : Road h T B P off h' T') (hT : IsT H h T) (hd : (ids h T).Nodup) (hs : Sh mn mx h T) :
    IsT H h' T' ∧ Sh mn mx h' T' ∧ (P ≠ [] → mn ≤ (its T').length) ∧ (P = [] → (its T').length = (its T).length) ∧ ∃ A C, A.length = off ∧ toL h T = A ++ toL h' T' ++ C ∧
      ∀ H1 T'', DelIn mn mx H H1 h' T' T'' → (P ≠ [] → mn ≤ (its T'').length) → (toL h' T'').length + 1 = (toL h' T').length →
        ∃ Tf, DelIn mn mx H (bmp H1 P (-1)) h T Tf ∧ toL h Tf = A ++ toL h' T'' ++ C ∧ (P = [] → (its Tf).length = (its T'').length) ∧ (P ≠ [] → (its Tf).length = (its T).length) := by
  induction hr with
  | nil =>
    refine ⟨hT, hs, fun h => absurd rfl h, fun _ => rfl, [], [], rfl, by simp, fun H1 T'' hD _ _ => ⟨T'', by rw [bmp_nil]; exact hD, by simp, fun _ => rfl, fun h => absurd rfl h⟩⟩
  | @snoc B P off h' T' j c hr hc ih =>
    obtain ⟨hT', hs', hm', hn', A, C, hA, hL, hcl⟩ := ih
    obtain ⟨_, hd', hP⟩ := hr.out hd
    have hcm := List.mem_of_getElem? hc
    have htc : (T'.2.2.map (toL h'))[j]? = some (toL h' c) := by simp [hc]
    have hsp : toL (h' + 1) T' = pre (T'.2.1.take j) ((T'.2.2.map (toL h')).take j) ++ toL h' c ++ post (T'.2.1.drop j) ((T'.2.2.map (toL h')).drop (j + 1)) :=
      inter_split j T'.2.1 (T'.2.2.map (toL h')) (toL h' c) (by simpa using hs'.2.1) htc
    refine ⟨hT'.kid hcm, (hs'.2.2 c hcm).2, fun _ => (hs'.2.2 c hcm).1, fun h => by simp at h, A ++ pre (T'.2.1.take j) ((T'.2.2.map (toL h')).take j), post (T'.2.1.drop j) ((T'.2.2.map (toL h')).drop (j + 1)) ++ C, by rw [List.length_append, hA], by rw [hL, hsp]; simp, fun H1 c'' hD hm hln => ?_⟩
    have hmm : mn ≤ (its c'').length := hm (by simp)
    have hk := cut1_of hT' hd' hs' hc hD (xs := T'.2.1) rfl
    have hL2 := toL_cutK (xs := T'.2.1) (c' := c'') hs' hc rfl
    have hlen2 : (toL (h' + 1) (cutK T' T'.2.1 j c'')).length + 1 = (toL (h' + 1) T').length := by
      rw [hL2, hsp]
      simp only [List.length_append]; omega
    obtain ⟨Tf, g1, g2, g3, g4⟩ := hcl _ _ (hk.fine hs' hmm) (fun hp => by
      show mn ≤ T'.2.1.length
      exact hm' hp) hlen2
    refine ⟨Tf, ?_, ?_, fun h => by simp at h, fun _ => ?_⟩
    · have e : bmp (upd H1 (rid T') ⟨((toL (h' + 1) (cutK T' T'.2.1 j c'')).length : Nat), T'.2.1, (recOf (h' + 1) T').kids⟩) P (-1) = bmp H1 (P ++ [rid T']) (-1) := by
        have hr1 : H1 (rid T') = some (recOf (h' + 1) T') := by
          rw [hD.rest _ (nodup_root hd' hcm)]; exact hT'.root
        have hn : rid T' ∉ P := fun hp => (hP _ hp).1 (rid_mem _)
        funext m
        by_cases em : m = rid T'
        · subst em
          rw [bmp_out hn, upd_same, bmp_in (by simp) hr1]
          congr 1
          have hcnt : (recOf (h' + 1) T').cnt = ((toL (h' + 1) T').length : Int) := recOf_cnt _
          have : (recOf (h' + 1) T').cnt + -1 = (((toL (h' + 1) (cutK T' T'.2.1 j c'')).length : Nat) : Int) := by omega
          rw [this]; rfl
        · unfold bmp
          rw [upd_ne _ _ em]
          simp [em]
      rw [← e]; exact g1
    · rw [g2, hL2]; simp
    · by_cases hp : P = []
      · rw [g3 hp, ← hn' hp]; rfl
      · exact g4 hp
/-- At the root itself. -/
theorem Road.root {h : Nat} {T : BT α h} {B P : List Nat} {off h' : Nat} {T' : BT α h'} (hr : Road h T B P off h' T') : P = [] → (toL h T).length = (toL h' T').length := by
  cases hr with
  | nil => intro _; rfl
  | snoc _ _ => intro h; simp at h

theorem cut_mid (A X C : List α) (q : Nat) (hq : q < X.length) : A ++ (X.take q ++ X.drop (q + 1)) ++ C = (A ++ X ++ C).take (A.length + q) ++ (A ++ X ++ C).drop (A.length + q + 1) := by
  have e1 : (A ++ X ++ C).take (A.length + q) = A ++ X.take q := by
    rw [List.append_assoc, List.take_length_add_append, List.take_append_of_le_length (by omega)]
  have e2 : (A ++ X ++ C).drop (A.length + q + 1) = X.drop (q + 1) ++ C := by
    rw [List.append_assoc, Nat.add_assoc, List.drop_length_add_append, List.drop_append_of_le_length (by omega)]
  rw [e1, e2]; simp

/-- The counts along the road and the leaf less one item. -/
theorem leaf_fam {H : Nat → Option (NodeR α)} {P : List Nat} {T' : BT α 0} {q : Nat} (hT : IsT H 0 T') (hP : rid T' ∉ P) (hq : q < T'.2.length) :
    upd (bmp H (P ++ [rid T']) (-1)) (rid T') (⟨((T'.2.length : Nat) : Int) + -1, T'.2.take q ++ T'.2.drop (q + 1), none⟩ : NodeR α) = bmp (upd H (rid T') ⟨((T'.2.take q ++ T'.2.drop (q + 1)).length : Nat), T'.2.take q ++ T'.2.drop (q + 1), none⟩) P (-1) := by
  have hl : (T'.2.take q ++ T'.2.drop (q + 1)).length + 1 = T'.2.length := by simp; omega
  funext m
  by_cases em : m = rid T'
  · subst em
    rw [bmp_out hP, upd_same, upd_same]
    congr 2
    omega
  · rw [upd_ne _ _ em]
    unfold bmp
    rw [upd_ne _ _ em]
    simp [em]
end
end Go.Proofs.Ytgdchpinlboejaa

namespace Go.Proofs.Ytgdchpinlboejaa
set_option linter.unusedSimpArgs false
set_option linter.unusedVariables false
open Go.RowKit

theorem wpList_append_ran {P : Program} {ops : Array Oper} {rest : List Oper} {o' : Oper} {ac : Act} {w : World} {Q : Exit → Act → World → Prop} (hgd : o'.guard = none) (s x : Operand) (t tn : TypeId)
    (ho : o'.op = .call { callee := .builtin .append, args := #[s, x], argTypes := #[t, tn] }) (vs vx : Value) (hs : ac.eval s = vs) (hx : ac.eval x = vx) (v' : Value) (w' : World)
    (hr : (Builtin.append_ #[t, tn] o'.type #[vs, vx]).run P w = .ok v' w') (h : wpList P ops Q rest (ac.put o'.dst v') w') : wpList P ops Q (o' :: rest) ac w := by
  refine wpList_plain hgd fun K hK => ?_
  unfold Oper.wp execOp
  simp only [ho, resolve, invoke, builtin, Sem.run_bind, Sem.run_pure, Result.andThen_ok, List.map_toArray, List.map_cons, List.map_nil, hs, hx, hr]
  exact hK _ _ h

theorem infoByte : (Try.prog.info? 5).map (fun i => (i.zero, i.size, i.bytes)) = some (some (.int .u8 0), 1, 1) := by kernel_rfl

abbrev byteV (j : Nat) : Value := .int .u8 (j : Int)

/-- A list of bytes, in the block pb or in one from base on. -/
def PathAt (w : World) (v : Value) (B : List Nat) (pb base : Nat) : Prop :=
  ∃ b o cap T, v = .slice (some ⟨b, o, none⟩) B.length cap ∧ B.length ≤ cap ∧ (b = pb ∨ base ≤ b) ∧ RowAt w T b o cap (B.map byteV)

theorem PathAt.chg {A : Nat → Nat → Prop} {w w' : World} {v : Value} {B : List Nat} {pb base : Nat} (h : PathAt w v B pb base) (c : Chg A w w') (hA : ∀ b o, b = pb ∨ base ≤ b → ¬ A b o) : PathAt w' v B pb base := by
  obtain ⟨b, o, cap, T, h1, h2, h3, h4⟩ := h
  exact ⟨b, o, cap, T, h1, h2, h3, h4.chg c (fun j _ => hA _ _ h3)⟩

theorem PathAt.own {w : World} {v : Value} {B : List Nat} {pb base b : Nat} (h : PathAt w v B pb base) (hb : v.ownBlock = some b) : b = pb ∨ base ≤ b := by
  obtain ⟨b', o, cap, T, rfl, h2, h3, h4⟩ := h
  have e : b' = b := Option.some.inj hb
  subst e; exact h3

theorem PathAt.cell {w : World} {v : Value} {B : List Nat} {pb base : Nat} (h : PathAt w v B pb base) : ∃ b o cap, v = .slice (some ⟨b, o, none⟩) B.length cap ∧ B.length ≤ cap ∧ (b = pb ∨ base ≤ b) ∧ ∀ (i j : Nat), B[i]? = some j → w.cell? ⟨b, o + i, none⟩ = some (.int .u8 (j : Int)) := by
  obtain ⟨b, o, cap, T, h1, h2, h3, h4⟩ := h
  exact ⟨b, o, cap, h1, h2, h3, fun i j hj => h4.cell (by rw [List.getElem?_map, hj]; rfl)⟩

theorem path_append (w : World) (v : Value) (B : List Nat) (pb base : Nat) (h : PathAt w v B pb base) (hbase : base ≤ w.heap.size) (j : Nat) (ad : Addr) (c : Nat) (hsrc : w.cell? ad = some (.int .u8 (j : Int))) (hB : B.length ≤ 1000000000000) (ty : TypeId) :
    ∃ v' w', (Builtin.append_ #[137, 137] ty #[v, .slice (some ad) 1 c]).run Try.prog w = .ok v' w' ∧ PathAt w' v' (B ++ [j]) pb base ∧ Chg (fun b _ => v.ownBlock = some b) w w' := by
  obtain ⟨i0, hi0, hz0, hz1, hz2⟩ := info_parts infoByte
  obtain ⟨b, o, cap, T, rfl, h2, h3, hrow⟩ := h
  have hxs : (B.map byteV).length = B.length := by simp
  have hnews : ∀ q u, [Value.int .u8 (j : Int)][q]? = some u → w.cell? (ad.add q) = some u := by
    intro q u hq
    match q, hq with
    | 0, hq =>
      simp at hq; subst hq
      have e : ad.add 0 = ad := by unfold Addr.add; split <;> simp_all
      rw [e]; exact hsrc
  have h1 : ∀ u ∈ [Value.int .u8 (j : Int)], u.oneCell' = true := by intro u hu; simp at hu; subst hu; rfl
  have hrow' := hrow
  obtain ⟨h0, cc, hg, hfit, hcs⟩ := hrow
  have hsz : i0.size = 1 := hz1
  by_cases hroom : B.length + 1 ≤ cap
  · refine ⟨.slice (some ⟨b, o, none⟩) (B.length + 1) cap, Ytgdchpinlboejaa.putCells w b (o + B.length) [Value.int .u8 (j : Int)], ?_, ⟨b, o, cap, T, by simp, by simp; omega, h3, ?_⟩, ?_⟩
    · have hf := run_firstCells_some (P := Try.prog) w i0.size 1 ad 1 c [Value.int .u8 (j : Int)] (by simp [hsz]) hnews
      have hst := run_storeCells_at Try.prog b (o + B.length) T [Value.int .u8 (j : Int)] 0 cc w hg (by simp at h0 ⊢; omega) h1
      simp only [Nat.add_zero] at hst
      simp only [Ytgdchpinlboejaa.putCells, hg]
      rw [hsz] at hf
      simp [Builtin.append_, run_underlying Try.underlying137, sizeOf, typeInfo, hi0, Builtin.lenOf, hroom, hsz, hf, add_none, hst]
    · have := hrow'.putCells B.length [Value.int .u8 (j : Int)] (by simp) (by simp; omega)
      have e1 : (B.map byteV).take B.length = B.map byteV := List.take_of_length_le (by simp)
      have e2 : (B.map byteV).drop (B.length + [Value.int .u8 (j : Int)].length) = [] := List.drop_of_length_le (by simp)
      rw [e1, e2, List.append_nil] at this
      simpa using this
    · refine putCells_chg (Chg.refl _ _) hg (by simp; omega) (.inl fun k h1 h2 => rfl)
  · have hr := run_append_grow (P := Try.prog) w 137 ty 5 i0 _ Try.underlying137 hi0 hz0 ⟨b, o, none⟩ B.length cap (B.map byteV) (by rw [hsz]; simp) hrow'.adds ad 1 c [Value.int .u8 (j : Int)] (by rw [hsz]; rfl) hnews (by omega) (by omega) (growslice_fits (by omega) (by rw [hz2]; omega))
    have hge := grownCap_ge w (B.length + 1) cap 5
    refine ⟨_, _, hr, ⟨w.heap.size, 0, grownCap w (B.length + 1) cap 5, 5, by simp, by simpa using hge, .inr hbase, ?_⟩, ((Chg.refl _ _).drew).alloc _⟩
    refine RowAt.of_block (heap_alloc_new w.drew _) _ _ ?_ ?_ ?_
    · simpa using hge
    · have e : (Value.int IntKind.u8 0).cells.size = 1 := rfl
      simp only [Array.size_append, size_zeroCells, e, List.size_toArray, List.length_map, List.length_cons, List.length_nil]
      omega
    · intro q hq
      rw [Nat.zero_add, Array.getElem?_append_left (by simpa using hq)]
      simp

theorem path_push (w : World) (v : Value) (B : List Nat) (pb base : Nat) (h : PathAt w v B pb base) (hbase : base ≤ w.heap.size) (j : Nat) (hB : B.length ≤ 1000000000000) (ty : TypeId) :
    ∃ v' w', (Builtin.append_ #[137, 137] ty #[v, .slice (some ⟨w.heap.size, 0, none⟩) 1 1]).run Try.prog (w.alloc (.cells #[.int .u8 (j : Int)] 5)) = .ok v' w' ∧ PathAt w' v' (B ++ [j]) pb base ∧ Chg (fun b _ => b = pb ∨ base ≤ b) w w' := by
  have hca := (Chg.refl (fun _ _ => False) w).alloc (.cells #[.int .u8 (j : Int)] 5)
  obtain ⟨v', w', h1, h2, h3⟩ := path_append (w.alloc (.cells #[.int .u8 (j : Int)] 5)) v B pb base (h.chg hca (fun _ _ _ h => h)) (Nat.le_trans hbase hca.size) j ⟨w.heap.size, 0, none⟩ 1 (cell_of_block (ha_at _ _ rfl) 0) hB ty
  exact ⟨v', w', h1, h2, hca.trans' h3 (fun _ _ _ h => h.elim) (fun b o _ hb => h.own hb)⟩

theorem FitD.mx255 {d : Int} (h : FitD d) : mxD d ≤ 255 := by
  have : 2 ≤ dg d ∧ dg d ≤ 128 := by
    unfold dg
    rcases h with h | ⟨h1, h2⟩
    · rw [if_pos h]; omega
    · rw [if_neg (by omega)]; omega
  unfold mxD
  omega
end Go.Proofs.Ytgdchpinlboejaa

namespace Go.Proofs.Ytgdchpinlboejaa
set_option linter.unusedSimpArgs false
set_option linter.unusedVariables false
open Go.RowKit

/-- What DeleteAt gives and leaves. -/
def AtAns {ord : List Int} (k : Kc ord) (mn mx : Nat) (w : World) (F : Nat → Prop) (t : Nat) (o : Option (It ord)) (l' : List (It ord)) (e : Ending) (w' : World) : Prop :=
  e = .returned (lastV o) ∧ ∃ F', MapIn k mn mx w' F' t l' ∧ Chg (fun b _ => F b ∨ b = t) w w' ∧ ∀ b, F' b → F b ∨ w.heap.size ≤ b


/-- An item of a sorted list taken out by its place. -/
theorem delL_at {ord : List Int} {L : List (It ord)} (hs : Srt ltM L) {i : Nat} {y : It ord} (hy : L[i]? = some y) : delL ltM y L = L.take i ++ L.drop (i + 1) := by
  have e := split_at hy
  conv => lhs; rw [e]
  refine delL_hit (fun a ha => ?_) (swoM.irrefl y) (swoM.irrefl y)
  rw [e] at hs
  exact (List.pairwise_append.1 hs).2.2 a ha y List.mem_cons_self

theorem kid_le {α : Type} {h : Nat} {T : BT α (h + 1)} {mn mx : Nat} {c : BT α h} (hs : Sh mn mx (h + 1) T) (hc : c ∈ T.2.2) : (toL h c).length ≤ (toL (h + 1) T).length := by
  obtain ⟨j, hj⟩ := List.mem_iff_getElem?.1 hc
  exact (Nat.le_trans (Nat.le_add_left _ _) (pre_len (by simpa using hs.2.1) (show (T.2.2.map (toL h))[j]? = some (toL h c) by simp [hj])))

set_option maxRecDepth 100000 in
set_option maxHeartbeats 4000000 in
theorem deleteAt_tree {ord : List Int} {k : Kc ord} {mn mx : Nat} {w : World} {F : Nat → Prop} {H : Nat → Option (NodeR (It ord))} {t h : Nat} {T : BT (It ord) h} (i : Nat) (y : It ord) (hI : TreeIn k mn mx w F H t h T) (hB : MapBlk k mn mx w t (some (rid T)) (toL h T).length) (h1 : 1 ≤ (its T).length) (hmn : 1 ≤ mn) (hmx : mx ≤ 255)
    (hi : (toL h T)[i]? = some y) (hsz : (toL h T).length ≤ 1000000000000) :
    Calls Try.prog 63 #[.pointer (some ⟨t, 0, none⟩), .int .i64 i] w (AtAns k mn mx w F t (some y) ((toL h T).take i ++ (toL h T).drop (i + 1))) := by
  have hol : ∀ b, MOwn k t b → b < w.heap.size := fun b hb => hB.at_.lt hb
  have hfl : ∀ b, F b → b < w.heap.size := fun b hb => hI.fam.lt hb
  have htl := hol t MOwn.self
  have HOL := Lib.hid hol
  have HFL := Lib.hid hfl
  have hil := (List.getElem?_eq_some_iff.1 hi).1
  have hgt := hgt_le hmn h T hI.sh h1
  have HIY := Lib.hid hi
  have HB := Lib.hid hB
  have HI := Lib.hid hI
  have HOUT := Lib.hid hI.out
  have i0 : ¬ (i : Int) < 0 := by omega
  have i1 : ¬ ((toL h T).length : Int) ≤ (i : Int) := by omega
  clear hol hfl hi hB hI
  go_enter Try.func63, Try.ntmps63
  go_wp2_with fail
  refine wp_scope_straight ?_
  go_wp2_with fail
  refine name_calls (fun w1 => Chg (fun _ _ => False) w w1 ∧ w1.heap[w.heap.size]? = some (.cells #[.int .i64 0, .int .i64 0] 30 (0, 0))) ⟨(Chg.refl _ _).alloc _, ha_at _ _ rfl⟩ ?_
  rintro w1 ⟨hc1, hb4⟩
  refine (lock_any t true _).mono ?_
  rintro e w' ⟨rfl, rfl⟩
  have hl4 := heap_lt hb4
  have hm := HB.out.chg hc1 (fun _ _ _ h => h)
  have c2 : w1.cell? ⟨t, 2, none⟩ = some (.pointer (some ⟨rid T, 0, none⟩)) := hm.c2
  have c3 := hm.c3
  have c0 := hm.at_.c0
  have HB4 := Lib.hid hb4
  have htl1 : t < w1.heap.size := by have := hc1.size; omega
  clear hm hb4
  go_wp2_with fail
  refine name_calls (fun w2 => Chg (fun _ _ => False) w1 w2 ∧ w1.heap.size + 2 ≤ w2.heap.size ∧ w2.heap[w1.heap.size]? = some (.cells #[.int .u8 0, .int .u8 0, .int .u8 0, .int .u8 0, .int .u8 0, .int .u8 0, .int .u8 0, .int .u8 0] 108 (0, 0)) ∧ w2.heap[w1.heap.size + 1]? = some (.cells #[.int .i64 0, .int .i64 0] 30 (0, 0))) ⟨((Chg.refl _ _).alloc _).alloc _, by simp, ?_, ha_at _ _ (by simp)⟩ ?_
  · rw [ha_lt _ _ (by simp)]; exact ha_at _ _ rfl
  rintro w2 ⟨hc2, hz2, hbP, hbI⟩
  obtain ⟨l0, hn0⟩ := ((HI.out.fam.chg hc1 (fun _ _ _ h => h)).chg hc2 (fun _ _ _ h => h)).node HI.out.isT.root
  have n0 := hn0.c0
  refine (isoLoad_any t (rid T) k _ _ _ (hc2.cell (fun h => h) c2) n0 (hc2.cell (fun h => h) c0)).mono ?_
  rintro e w3 ⟨rfl, m, hw3⟩
  have hc3 : Chg (fun _ _ => False) w2 w3 := by rw [hw3]; exact (Chg.refl _ _).drewN _
  have hc13 := hc2.trans hc3
  have hc03 := hc1.trans hc13
  have hz3 : w1.heap.size + 2 ≤ w3.heap.size := Nat.le_trans hz2 hc3.size
  have hpa : PathAt w3 (.slice (some ⟨w1.heap.size, 0, none⟩) 0 8) [] w1.heap.size (w1.heap.size + 2) := ⟨w1.heap.size, 0, 8, 108, rfl, by simp, .inl rfl, RowAt.of_block (by rw [hc3.block (heap_lt hbP) (fun _ h => h)]; exact hbP) _ _ (by simp) (by simp) (by simp)⟩
  have hbI3 : w3.heap[w1.heap.size + 1]? = some (.cells #[.int .i64 0, .int .i64 0] 30 (0, 0)) := by rw [hc3.block (heap_lt hbI) (fun _ h => h)]; exact hbI
  have hb43 : w3.heap[w.heap.size]? = some (.cells #[.int .i64 0, .int .i64 0] 30 (0, 0)) := by rw [hc13.block (heap_lt HB4.out) (fun _ h => h)]; exact HB4.out
  have HPA0 := Lib.hid hpa
  have HBI0 := Lib.hid hbI3
  have HB40 := Lib.hid hb43
  clear hw3 hbP hbI hn0 n0 c0 c2 c3 hpa hbI3 hb43 HB4 i0 i1
  go_wp2_with fail
  refine wp_label ?_
  go_wp2_with fail
  go_loopw [1, 7, 9, 10] (fun iv pv nv jv wr => ∃ (h' : Nat) (T' : BT (It ord) h') (q off : Nat) (B P : List Nat), iv = .int .i64 q ∧ nv = .pointer (some ⟨rid T', 0, none⟩) ∧ Hid (PathAt wr pv B w1.heap.size (w1.heap.size + 2)) ∧ Road h T B P off h' T' ∧ off + q = i ∧ q < (toL h' T').length ∧ 1 ≤ (its T').length ∧ B.length + h' = h ∧ Fam (parM k) wr F (bmp H P (-1)) ∧ Chg (fun b _ => F b) w wr ∧ Hid (wr.heap[w.heap.size]? = some (.cells #[.int .i64 0, .int .i64 0] 30 (0, 0))) ∧ Hid (wr.heap[w1.heap.size + 1]? = some (.cells #[.int .i64 0, .int .i64 0] 30 (0, 0)))) (fun _ _ nv _ _ => mOf H nv)
  case atStart => exact ⟨h, T, i, 0, [], [], rfl, rfl, HPA0, .nil, by omega, hil, h1, by simp, by rw [bmp_nil]; exact HI.out.fam.chg hc03 (fun _ _ _ h => h), hc03.mono (fun _ _ _ h => h.elim), HB40, HBI0⟩
  case round =>
    obtain ⟨h', T', q, off, B, P, rfl, rfl, HPA1, hr, hq, hql, hit, hBh, hfam, hcr, HB41, HBI1⟩ := hrel
    obtain ⟨hT', hs', hm', hn', A, C, hA, hL, hcl⟩ := hr.close (mn := mn) (mx := mx) HI.out.isT HI.out.nd HI.out.sh
    obtain ⟨hsub, hnd', hPo⟩ := hr.out HI.out.nd
    have hrP : rid T' ∉ P := fun hm => (hPo _ hm).1 (rid_mem _)
    have hrec : bmp H P (-1) (rid T') = some (recOf h' T') := (bmp_out hrP).trans hT'.root
    obtain ⟨l2, hn2⟩ := hfam.node hrec
    have n1 := hn2.c1
    have fz := hn2.fz 1
    rw [recOf_cnt] at n1
    have hsc := hfam.setCnt hrec ((recOf h' T').cnt + -1)
    rw [bmp_snoc hT'.root, recOf_cnt] at hsc
    have hbl : (toL h' T').length ≤ (toL h T).length := by rw [hL]; simp; omega
    have s1 : IntKind.i64.wrap (((toL h' T').length : Int) - 1) = ((toL h' T').length : Int) - 1 := IntWalk.i64_in _ (by omega)
    have hyq : (toL h' T')[q]? = some y := by
      have := HIY.out
      rw [hL, ← hq, ← hA, List.append_assoc, List.getElem?_append_right (by omega), Nat.add_sub_cancel_left, List.getElem?_append_left hql] at this
      exact this
    have HSC := Lib.hid hsc
    have HCL := Lib.hid hcl
    have HL := Lib.hid hL
    have HA := Lib.hid hA
    have HRD := Lib.hid hr
    have HCR := Lib.hid hcr
    have HYQ := Lib.hid hyq
    clear hsc hn2 hfam hrec hcl hL hA hr hcr hyq
    go_wp2_with fail
    refine name_calls (fun w4 => Fam (parM k) w4 F (bmp H (P ++ [rid T']) (-1)) ∧ Chg (fun b _ => F b) wr w4) ⟨HSC.out.1, HSC.out.2⟩ ?_
    rintro w4 ⟨hf4, hc4⟩
    have hc04 := HCR.out.trans hc4
    have hsz4 := hc4.size
    have hszr := HCR.out.size
    have hrec4 : bmp H (P ++ [rid T']) (-1) (rid T') = some { recOf h' T' with cnt := (recOf h' T').cnt + -1 } := bmp_in (List.mem_append.2 (.inr (List.mem_singleton.2 rfl))) hT'.root
    have HPA := Lib.hid (HPA1.out.chg hc4 (fun b o hb hf => by have := HFL.out _ hf; omega))
    have HB4 := Lib.hid (show w4.heap[w.heap.size]? = some (.cells #[.int .i64 0, .int .i64 0] 30 (0, 0)) by rw [hc4.block (heap_lt HB41.out) (fun _ h => by have := HFL.out _ h; omega)]; exact HB41.out)
    have HBI := Lib.hid (show w4.heap[w1.heap.size + 1]? = some (.cells #[.int .i64 0, .int .i64 0] 30 (0, 0)) by rw [hc4.block (heap_lt HBI1.out) (fun _ h => by have := HFL.out _ h; omega)]; exact HBI1.out)
    have hli := heap_lt HBI.out
    clear n1 fz s1 HSC HPA1 HB41 HBI1
    rcases h' with _ | h'
    · skip
      have hr4 : bmp H (P ++ [rid T']) (-1) (rid T') = some (⟨((T'.2.length : Nat) : Int) + -1, T'.2, none⟩ : NodeR (It ord)) := hrec4
      have hyq2 : T'.2[q]? = some y := HYQ.out
      have HY2 := Lib.hid hyq2
      obtain ⟨l3, hn3⟩ := hf4.node hr4
      have n3 := hn3.c3n rfl
      have n2 : w4.cell? ⟨rid T', 2, none⟩ = some (.slice (some ⟨l3.ib, l3.io, none⟩) T'.2.length l3.ic) := hn3.c2
      have iv := hn3.mval (j := q) hyq2
      have ik := hn3.mkey (j := q) hyq2
      have q0 : (0 : Int) ≤ (q : Int) := by omega
      have hql2 : q < T'.2.length := hql
      have q1 : (q : Int) < (T'.2.length : Int) := by omega
      have pf0 := frozen_of_block HBI.out 0
      have pf1 := frozen_of_block HBI.out 1
      have p0 := cell_of_block HBI.out 0
      have p1 := cell_of_block HBI.out 1
      simp only [List.getElem?_toArray, List.getElem?_cons_zero, List.getElem?_cons_succ] at p0 p1
      have HR4 := Lib.hid hr4
      have HF4 := Lib.hid hf4
      have hlr := HFL.out _ (hf4.mem hr4)
      clear hyq2 hn3 hf4 hrec4 hr4
      go_wp2_with (go_at_call 70; refine (leaf_any _ none _ n3).mono ?_; rintro e w' ⟨rfl, rfl⟩)
      refine name_world (fun w5 => Chg (fun b _ => b = w1.heap.size + 1) w4 w5 ∧ w5.heap[w1.heap.size + 1]? = some (.cells #[.int .i64 y.1, .int .i64 y.2] 30 (0, 0))) ⟨?_, ?_⟩ ?_
      · repeat (first | refine Chg.drew ?_ | refine Chg.setCell ?_ (.inl rfl) _ | exact Chg.refl _ _)
      · exact blk2 HBI.out _ _
      clear p0 p1 pf0 pf1 n2 n3 iv ik
      rintro w5 ⟨hc5, hb5⟩
      have hf5 := HF4.out.chg hc5 (fun b o hb e => by have := HFL.out _ hb; omega)
      obtain ⟨l3, hn3⟩ := hf5.node HR4.out
      have n2 : w5.cell? ⟨rid T', 2, none⟩ = some (.slice (some ⟨l3.ib, l3.io, none⟩) T'.2.length l3.ic) := hn3.c2
      have hc05 : Chg (fun b _ => F b) w w5 := hc04.trans' hc5 (fun _ _ _ h => h) (fun b o hb e => by omega)
      have e6 := (HI.out.map.chg hc05 (fun b _ hm h => HOUT.out b hm h)).c6
      have HB5 := Lib.hid (show w5.heap[w.heap.size]? = some (.cells #[.int .i64 0, .int .i64 0] 30 (0, 0)) by rw [hc5.block (heap_lt HB4.out) (fun _ h => by omega)]; exact HB4.out)
      have HBI5 := Lib.hid hb5
      have HPA5 := Lib.hid (HPA.out.chg hc5 (fun b o hb e => by omega))
      have hsz5 := hc5.size
      clear hb5 hn3
      by_cases hlm : T'.2.length = mn
      · have hcmp : ((T'.2.length : Int) == (mn : Int)) = true := by simp [hlm]
        have HLM := Lib.hid hlm
        clear hlm
        go_quiet (fail)
        refine name_prop (fun w6 => Chg (fun _ _ => False) w5 w6) ((Chg.refl _ _).drewN _) ?_
        intro w6 hc6
        have w8 : IntKind.u8.wrap (q : Int) = (q : Int) := IntWalk.u8_in _ (by have : T'.2.length ≤ mx := hs'; omega)
        have hsz6 := hc6.size
        have HPA := Lib.hid (HPA5.out.chg hc6 (fun _ _ _ h => h))
        clear n2 e6
        obtain ⟨pv', wp, hrp, hpp, hcp⟩ := path_push w6 u7 B w1.heap.size (w1.heap.size + 2) HPA.out (by omega) q (by omega) 137
        have HRP := Lib.hid hrp
        have HPP := Lib.hid hpp
        have HCP := Lib.hid hcp
        clear hrp hpp hcp
        have hc6p := hc6.trans' HCP.out (B := fun b _ => b = w1.heap.size ∨ w1.heap.size + 2 ≤ b) (fun _ _ _ h => h.elim) (fun _ _ _ h => h)
        have hcX : Chg (fun b _ => F b) w wp := hc05.trans' hc6p (fun _ _ _ h => h) (fun b o hb e => by omega)
        have HFX := Lib.hid (hf5.chg hc6p (fun b o hb e => by have := HFL.out _ hb; omega))
        have HPX := HPP
        have HBX := Lib.hid (show wp.heap[w1.heap.size + 1]? = some (.cells #[.int .i64 y.1, .int .i64 y.2] 30 (0, 0)) by rw [hc6p.block (heap_lt HBI5.out) (fun _ h => by omega)]; exact HBI5.out)
        have HRX := Lib.hid (show wp.heap[w.heap.size]? = some (.cells #[.int .i64 0, .int .i64 0] 30 (0, 0)) by rw [hc6p.block (heap_lt HB5.out) (fun _ h => by omega)]; exact HB5.out)
        clear hf5
        obtain ⟨BB, hBB⟩ : ∃ BB, B ++ [q] = BB := ⟨_, rfl⟩
        obtain ⟨PP, hPP⟩ : ∃ PP, P ++ [rid T'] = PP := ⟨_, rfl⟩
        have hal := HRD.out.along (.leaf T' q hql)
        have hpx := HPX.out
        have hfx := HFX.out
        rw [hBB] at hal hpx
        rw [hPP] at hal hfx
        have hbyte := hal.byte hmx HI.out.sh
        obtain ⟨pb2, po2, pc2, rfl, hpl, hpw, hpcell⟩ := hpx.cell
        have HPC := Lib.hid hpcell
        have HAL := Lib.hid hal
        have HFX2 := Lib.hid hfx
        have HBYTE := Lib.hid hbyte
        have hBl : BB.length ≤ 1000000000001 := by have := hal.len.2; omega
        have hBl1 : 1 ≤ BB.length := hal.len.1
        have c2 : wp.cell? ⟨t, 2, none⟩ = some (.pointer (some ⟨rid T, 0, none⟩)) := (HB.out.chg hcX (fun b _ hm h => HOUT.out b hm h)).c2
        have tlp : t < wp.heap.size := World.block_lt_of_cell? wp _ c2
        have hszX := hcX.size
        clear hpx hfx hpcell hal hbyte hBB hPP
        go_wp2_with (refine wpList_append_ran (by rfl) _ _ _ _ (by rfl) u7 (.slice (some ⟨w6.heap.size, 0, none⟩) 1 1) (by rfl) (by rfl) _ _ HRP.out ?_)
        refine name_world (fun wy => Chg (fun _ _ => False) wp wy ∧ wp.heap.size + 1 ≤ wy.heap.size ∧ wy.heap[wp.heap.size]? = some (.cells #[.bool false, .bool false, .bool false, .bool false, .bool false, .bool false, .bool false, .bool false, .int .u8 0, .int .u8 0, .int .u8 0, .int .u8 0, .int .u8 0, .int .u8 0, .int .u8 0, .int .u8 0] 110 (0, 0))) ⟨(Chg.refl _ _).alloc _, by simp, ha_at _ _ rfl⟩ ?_
        rintro wy ⟨hcy, hzy, hby⟩
        have HHB0 : Hid (HintB wp.heap.size wy) := Lib.hid ⟨_, hby, ⟨rfl, fun o ho => by
          match o, ho with
          | 0, _ => exact ⟨_, rfl⟩
          | 1, _ => exact ⟨_, rfl⟩
          | 2, _ => exact ⟨_, rfl⟩
          | 3, _ => exact ⟨_, rfl⟩
          | 4, _ => exact ⟨_, rfl⟩
          | 5, _ => exact ⟨_, rfl⟩
          | 6, _ => exact ⟨_, rfl⟩
          | 7, _ => exact ⟨_, rfl⟩, fun o ho => by
          match o, ho with
          | 0, _ => exact ⟨0, by omega, by omega, rfl⟩
          | 1, _ => exact ⟨0, by omega, by omega, rfl⟩
          | 2, _ => exact ⟨0, by omega, by omega, rfl⟩
          | 3, _ => exact ⟨0, by omega, by omega, rfl⟩
          | 4, _ => exact ⟨0, by omega, by omega, rfl⟩
          | 5, _ => exact ⟨0, by omega, by omega, rfl⟩
          | 6, _ => exact ⟨0, by omega, by omega, rfl⟩
          | 7, _ => exact ⟨0, by omega, by omega, rfl⟩⟩⟩
        have hcXy := hcX.trans (hcy.mono (B := fun b _ => F b) (fun _ _ _ h => h.elim))
        clear hby c2
        go_loopw [9, 12] (fun nv iv wr => ∃ (j : Nat) (B2 P2 : List Nat), iv = .int .i64 j ∧ BB.drop j = B2 ∧ j ≤ BB.length ∧ Hid (HintB wp.heap.size wr) ∧ Fam (parM k) wr F (bmp H P2 (-1)) ∧ ((B2 = [] ∧ P2 = []) ∨ ∃ (h2 : Nat) (T2 : BT (It ord) h2), nv = .pointer (some ⟨rid T2, 0, none⟩) ∧ Along h2 T2 B2 P2 ∧ IsT H h2 T2 ∧ Sh mn mx h2 T2 ∧ (ids h2 T2).Nodup ∧ (toL h2 T2).length ≤ 1000000000000) ∧ Chg (fun b _ => F b ∨ b = wp.heap.size) wy wr) (fun _ iv _ => BB.length - (intOf iv).toNat)
        case atStart => exact ⟨0, BB, PP, rfl, rfl, Nat.zero_le _, HHB0, HFX2.out.chg hcy (fun _ _ _ h => h), .inr ⟨h, T, rfl, HAL.out, HI.out.isT, HI.out.sh, HI.out.nd, hsz⟩, Chg.refl _ _⟩
        case round =>
          obtain ⟨j, B2, P2, rfl, hdr, hj, HHB, hfm, hwh, hcw⟩ := hrel
          have hnF : ∀ b, F b → b < w.heap.size := HFL.out
          rcases hwh with ⟨rfl, rfl⟩ | ⟨h2, T2, rfl, hal, hT2, hs2, hnd2, hbg2⟩
          · skip
            obtain rfl : j = BB.length := by have := congrArg List.length hdr; simp at this; omega
            rw [bmp_nil] at hfm
            have hszy := hcw.size
            have hcr : Chg (fun b _ => F b) w wr := hcXy.trans' hcw (fun _ _ _ h => h) (fun b o hb h => h.elim id (fun e => by omega))
            have hMX : MapIn k mn mx wr F t (toL h T) := .inr ⟨H, h, T, ⟨hfm, HI.out.map.chg hcr (fun b _ hm h => HOUT.out b hm h), HI.out.out, HI.out.isT, HI.out.nd, HI.out.sh, HI.out.srt, HI.out.big, HI.out.m3, HI.out.m1000, HI.out.mh, HI.out.mh2⟩, HB.out.chg hcr (fun b _ hm h => HOUT.out b hm h), rfl, h1⟩
            have hdel := deleteHint_any (hv := some wp.heap.size) y hMX hmn (fun b e => by obtain rfl := Option.some.inj e; exact HHB.out) (fun b e hf => by obtain rfl := Option.some.inj e; have := HFL.out _ hf; omega) (fun b e hm => by obtain rfl := Option.some.inj e; have := HOL.out _ hm; omega) hsz
            unfold aggM hintV at hdel
            simp only [Option.map_some] at hdel
            have HDEL := Lib.hid hdel
            have hlx := heap_lt HBX.out
            have hlx2 := heap_lt HRX.out
            have hbx : wr.heap[w1.heap.size + 1]? = some (.cells #[.int .i64 y.1, .int .i64 y.2] 30 (0, 0)) := by
              rw [hcw.block (Nat.lt_of_lt_of_le hlx hcy.size) (fun _ h => by rcases h with h | h; have := HFL.out _ h; omega; omega), hcy.block hlx (fun _ h => h)]; exact HBX.out
            have hbr : wr.heap[w.heap.size]? = some (.cells #[.int .i64 0, .int .i64 0] 30 (0, 0)) := by
              rw [hcw.block (Nat.lt_of_lt_of_le hlx2 hcy.size) (fun _ h => by rcases h with h | h; have := HFL.out _ h; omega; omega), hcy.block hlx2 (fun _ h => h)]; exact HRX.out
            have r0 := cell_of_block hbx 0
            have r1 := cell_of_block hbx 1
            simp only [List.getElem?_toArray, List.getElem?_cons_zero, List.getElem?_cons_succ] at r0 r1
            have HRR := Lib.hid hbr
            have hnl : ¬ (BB.length : Int) < (BB.length : Int) := by omega
            clear hbx hbr hMX hdel hfm hdr
            go_wp2_with fail
            refine HDEL.out.mono ?_
            rintro e wd ⟨hret, F', hMd, hcd, hFd, _⟩
            have hy : fndL ltM y (toL h T) = some y := fnd_mem HI.out.srt (List.mem_of_getElem? HIY.out)
            have he : e = .returned (.tuple #[.agg #[.int .i64 y.1, .int .i64 y.2], .bool true]) := by
              rcases hret with ⟨z, hz, e1⟩ | ⟨hz, _⟩
              · rw [hy] at hz
                obtain rfl := Option.some.inj hz
                exact e1
              · rw [hy] at hz; cases hz
            subst he
            rw [delL_at HI.out.srt HIY.out] at hMd
            have hbrd : wd.heap[w.heap.size]? = some (.cells #[.int .i64 0, .int .i64 0] 30 (0, 0)) := by
              rw [hcd.block (heap_lt HRR.out) (fun _ h => by
                rcases h with (h | h) | h
                · have := HFL.out _ h; omega
                · omega
                · have := Option.some.inj h; omega)]
              exact HRR.out
            have pf0 := frozen_of_block hbrd 0
            have pf1 := frozen_of_block hbrd 1
            have p0 := cell_of_block hbrd 0
            have p1 := cell_of_block hbrd 1
            simp only [List.getElem?_toArray, List.getElem?_cons_zero, List.getElem?_cons_succ] at p0 p1
            have HRD2 := Lib.hid hbrd
            have HMD := Lib.hid hMd
            have hszd := hcd.size
            have hszr2 := hcr.size
            clear hbrd hMd hret r0 r1 hy
            go_wp2_with fail
            refine name_prop (fun wl => Chg (fun b _ => b = w.heap.size) wd wl ∧ wl.heap[w.heap.size]? = some (.cells #[.int .i64 y.1, .int .i64 y.2] 30 (0, 0))) ⟨?_, blk2 HRD2.out _ _⟩ ?_
            · repeat (first | refine Chg.drew ?_ | refine Chg.drewN ?_ _ | refine Chg.setCell ?_ (.inl rfl) _ | exact Chg.refl _ _)
            clear p0 p1 pf0 pf1
            rintro wl ⟨hcl2, hbl2⟩
            have p0 := cell_of_block hbl2 0
            have p1 := cell_of_block hbl2 1
            simp only [List.getElem?_toArray, List.getElem?_cons_zero, List.getElem?_cons_succ] at p0 p1
            try simp only [Exit.noGoto_ret]
            refine bodyPost_ret (v := .tuple #[.agg #[.int .i64 y.1, .int .i64 y.2], .bool true]) (by simp [results, Try.results63, go_sem, p0, p1]) rfl ?_
            refine ⟨rfl, F', HMD.out.chgA hcl2 (fun b _ hb e => ?_) (fun b _ hb e => by have := HOL.out b hb; omega), ?_, fun b hb => ?_⟩
            · rcases hFd b hb with h | h
              · have := HFL.out _ h; omega
              · omega
            · refine ((hcr.mono (B := fun b _ => F b ∨ b = t) (fun _ _ _ h => .inl h)).trans' hcd (B := fun b _ => F b ∨ b = t) (fun _ _ _ h => h) (fun b o hb h => ?_)).trans' hcl2 (fun _ _ _ h => h) (fun b o hb e => by omega)
              rcases h with h | h
              · exact h
              · have := Option.some.inj h; omega
            · rcases hFd b hb with h | h
              · exact .inl h
              · exact .inr (by omega)
          · skip
            cases hal with
            | leaf T3 jj hj3 =>
              have hjl : j < BB.length := by have := congrArg List.length hdr; simp at this; omega
              have hBj : BB[j]? = some jj := by have := congrArg (fun l => l[0]?) hdr; simpa using this
              have hdn : BB.drop (j + 1) = [] := by have := congrArg List.tail hdr; simpa using this
              have hjb := HBYTE.out jj (List.mem_of_getElem? hBj)
              have pj := HPC.out j jj hBj
              have hpbl : pb2 < wp.heap.size := World.block_lt_of_cell? wp _ pj
              have hpA : ¬ (F pb2 ∨ pb2 = wp.heap.size) := fun h => by
                rcases h with h | h
                · have := HFL.out pb2 h; omega
                · omega
              replace pj := hcw.cell hpA (hcy.cell (fun h => h) pj)
              obtain ⟨hc, hbc, hHC⟩ := HHB.out
              have hrec : bmp H (rid T3 :: []) (-1) (rid T3) = some { recOf (0) T3 with cnt := (recOf (0) T3).cnt + -1 } := bmp_in List.mem_cons_self hT2.root
              obtain ⟨ln, hnn⟩ := hfm.node hrec
              have n1 : wr.cell? ⟨rid T3, 1, none⟩ = some (.int .i64 ((recOf (0) T3).cnt + -1)) := hnn.c1
              rw [recOf_cnt] at n1
              replace n1 : wr.cell? ⟨rid T3, 1, none⟩ = some (.int .i64 (((toL (0) T3).length : Int) - 1)) := n1
              have fz := hnn.fz 1
              have hrl := HFL.out _ (hfm.mem hrec)
              have hnh : ¬ rid T3 = wp.heap.size := by omega
              have hnh' : ¬ wp.heap.size = rid T3 := by omega
              have s1 : IntKind.i64.wrap (((toL (0) T3).length : Int) - 1 + 1) = ((toL (0) T3).length : Int) := by rw [IntWalk.i64_in _ (by omega)]; omega
              have s2 : ((toL (0) T3).length : Int) - 1 + 1 = ((toL (0) T3).length : Int) := by omega
              have hrcs : ({ recOf (0) T3 with cnt := ((toL (0) T3).length : Int) } : NodeR (It ord)) = recOf (0) T3 := by rw [← recOf_cnt]
              have hback : upd (bmp H (rid T3 :: []) (-1)) (rid T3) { recOf (0) T3 with cnt := ((toL (0) T3).length : Int) } = bmp H ([]) (-1) := by rw [hrcs]; exact bmp_cons List.not_mem_nil hT2.root
              have j0 : (0 : Int) ≤ (j : Int) := by omega
              have j1 : (j : Int) < (BB.length : Int) := by omega
              have b0 : (0 : Int) ≤ (jj : Int) := by omega
              have HBJ := Lib.hid hBj
              have HDN := Lib.hid hdn
              have HREC := Lib.hid hrec
              have HBACK := Lib.hid hback
              have HFM := Lib.hid hfm
              have HBC := Lib.hid hbc
              have HHC := Lib.hid hHC
              clear hBj hdn hrec hback hfm hdr hnn hrcs
              have hfin : ∀ wx, Chg (fun b _ => b = wp.heap.size) wr wx → HintB wp.heap.size wx → HintB wp.heap.size (wx.setCell ⟨rid T3, 1, none⟩ (.int .i64 ((toL (0) T3).length : Int))) ∧ Fam (parM k) (wx.setCell ⟨rid T3, 1, none⟩ (.int .i64 ((toL (0) T3).length : Int))) F (bmp H ([]) (-1)) ∧ Chg (fun b _ => F b ∨ b = wp.heap.size) wr (wx.setCell ⟨rid T3, 1, none⟩ (.int .i64 ((toL (0) T3).length : Int))) := by
                intro wx hcx hhx
                have h1 := (HFM.out.chg hcx (fun b o hb e => by have := HFL.out _ hb; omega)).setCnt HREC.out ((toL (0) T3).length : Int)
                rw [HBACK.out] at h1
                exact ⟨hhx.chg h1.2 (fun o hf => by have := HFL.out _ hf; omega), h1.1, (hcx.mono (fun _ _ _ h => .inr h)).trans (h1.2.mono (fun _ _ _ h => .inl h))⟩
              have HFIN := Lib.hid hfin
              clear hfin
              by_cases hj8 : j < 8
              · skip
                obtain ⟨bu, hbu⟩ := HHC.out.used j hj8
                obtain ⟨z, hz0, hz1, hz⟩ := HHC.out.path j hj8
                have cu := cell_of_block hbc j
                rw [hbu] at cu
                have cp := cell_of_block hbc (8 + j)
                rw [hz] at cp
                have fu := frozen_of_block hbc j
                have fp := frozen_of_block hbc (8 + j)
                have d8 : (j : Int) < 8 := by omega
                clear hbu hz hbc hHC
                go_wp2_with fail
                try rw [s2]
                refine name_calls (fun wx => HintB wp.heap.size wx ∧ Fam (parM k) wx F (bmp H ([]) (-1)) ∧ Chg (fun b _ => F b ∨ b = wp.heap.size) wr wx) (HFIN.out _ (((Chg.refl _ _).setCell (.inl rfl) _).setCell (.inl rfl) _) ⟨_, hs_same (hs_same HBC.out _) _, (HHC.out.setPath hj8 (by omega) (by omega)).setUsed hj8 true⟩) ?_
                rintro wx ⟨hhx, hfx, hcx⟩
                obtain ⟨lx, hnx⟩ := hfx.node (show bmp H [] (-1) (rid T3) = some (recOf 0 T3) from by rw [bmp_nil]; exact hT2.root)
                have n3 := hnx.c3n rfl
                clear hnx n1 fz s1 s2 pj
                refine (leaf_any _ none _ n3).mono ?_
                rintro e w' ⟨rfl, rfl⟩
                go_wp2_with fail
                go_roundw
                case rel => exact ⟨j + 1, [], [], by go_num, HDN.out, by omega, Lib.hid hhx, hfx, .inl ⟨rfl, rfl⟩, hcw.trans hcx⟩
                case measure => simp [intOf]; omega
              · skip
                have d9 : ¬ (j : Int) < 8 := by omega
                clear hbc hHC
                go_wp2_with fail
                try rw [s2]
                refine name_calls (fun wx => HintB wp.heap.size wx ∧ Fam (parM k) wx F (bmp H ([]) (-1)) ∧ Chg (fun b _ => F b ∨ b = wp.heap.size) wr wx) (HFIN.out _ (Chg.refl _ _) ⟨_, HBC.out, HHC.out⟩) ?_
                rintro wx ⟨hhx, hfx, hcx⟩
                obtain ⟨lx, hnx⟩ := hfx.node (show bmp H [] (-1) (rid T3) = some (recOf 0 T3) from by rw [bmp_nil]; exact hT2.root)
                have n3 := hnx.c3n rfl
                clear hnx n1 fz s1 s2 pj
                refine (leaf_any _ none _ n3).mono ?_
                rintro e w' ⟨rfl, rfl⟩
                go_wp2_with fail
                go_roundw
                case rel => exact ⟨j + 1, [], [], by go_num, HDN.out, by omega, Lib.hid hhx, hfx, .inl ⟨rfl, rfl⟩, hcw.trans hcx⟩
                case measure => simp [intOf]; omega
            | @stop h3 T3 jj c hc3 =>
              have hjl : j < BB.length := by have := congrArg List.length hdr; simp at this; omega
              have hBj : BB[j]? = some jj := by have := congrArg (fun l => l[0]?) hdr; simpa using this
              have hdn : BB.drop (j + 1) = [] := by have := congrArg List.tail hdr; simpa using this
              have hjb := HBYTE.out jj (List.mem_of_getElem? hBj)
              have pj := HPC.out j jj hBj
              have hpbl : pb2 < wp.heap.size := World.block_lt_of_cell? wp _ pj
              have hpA : ¬ (F pb2 ∨ pb2 = wp.heap.size) := fun h => by
                rcases h with h | h
                · have := HFL.out pb2 h; omega
                · omega
              replace pj := hcw.cell hpA (hcy.cell (fun h => h) pj)
              obtain ⟨hc, hbc, hHC⟩ := HHB.out
              have hrec : bmp H (rid T3 :: []) (-1) (rid T3) = some { recOf (h3 + 1) T3 with cnt := (recOf (h3 + 1) T3).cnt + -1 } := bmp_in List.mem_cons_self hT2.root
              obtain ⟨ln, hnn⟩ := hfm.node hrec
              have n1 : wr.cell? ⟨rid T3, 1, none⟩ = some (.int .i64 ((recOf (h3 + 1) T3).cnt + -1)) := hnn.c1
              rw [recOf_cnt] at n1
              replace n1 : wr.cell? ⟨rid T3, 1, none⟩ = some (.int .i64 (((toL (h3 + 1) T3).length : Int) - 1)) := n1
              have fz := hnn.fz 1
              have hrl := HFL.out _ (hfm.mem hrec)
              have hnh : ¬ rid T3 = wp.heap.size := by omega
              have hnh' : ¬ wp.heap.size = rid T3 := by omega
              have s1 : IntKind.i64.wrap (((toL (h3 + 1) T3).length : Int) - 1 + 1) = ((toL (h3 + 1) T3).length : Int) := by rw [IntWalk.i64_in _ (by omega)]; omega
              have s2 : ((toL (h3 + 1) T3).length : Int) - 1 + 1 = ((toL (h3 + 1) T3).length : Int) := by omega
              have hrcs : ({ recOf (h3 + 1) T3 with cnt := ((toL (h3 + 1) T3).length : Int) } : NodeR (It ord)) = recOf (h3 + 1) T3 := by rw [← recOf_cnt]
              have hback : upd (bmp H (rid T3 :: []) (-1)) (rid T3) { recOf (h3 + 1) T3 with cnt := ((toL (h3 + 1) T3).length : Int) } = bmp H ([]) (-1) := by rw [hrcs]; exact bmp_cons List.not_mem_nil hT2.root
              have j0 : (0 : Int) ≤ (j : Int) := by omega
              have j1 : (j : Int) < (BB.length : Int) := by omega
              have b0 : (0 : Int) ≤ (jj : Int) := by omega
              have HBJ := Lib.hid hBj
              have HDN := Lib.hid hdn
              have HREC := Lib.hid hrec
              have HBACK := Lib.hid hback
              have HFM := Lib.hid hfm
              have HBC := Lib.hid hbc
              have HHC := Lib.hid hHC
              clear hBj hdn hrec hback hfm hdr hnn hrcs
              have hfin : ∀ wx, Chg (fun b _ => b = wp.heap.size) wr wx → HintB wp.heap.size wx → HintB wp.heap.size (wx.setCell ⟨rid T3, 1, none⟩ (.int .i64 ((toL (h3 + 1) T3).length : Int))) ∧ Fam (parM k) (wx.setCell ⟨rid T3, 1, none⟩ (.int .i64 ((toL (h3 + 1) T3).length : Int))) F (bmp H ([]) (-1)) ∧ Chg (fun b _ => F b ∨ b = wp.heap.size) wr (wx.setCell ⟨rid T3, 1, none⟩ (.int .i64 ((toL (h3 + 1) T3).length : Int))) := by
                intro wx hcx hhx
                have h1 := (HFM.out.chg hcx (fun b o hb e => by have := HFL.out _ hb; omega)).setCnt HREC.out ((toL (h3 + 1) T3).length : Int)
                rw [HBACK.out] at h1
                exact ⟨hhx.chg h1.2 (fun o hf => by have := HFL.out _ hf; omega), h1.1, (hcx.mono (fun _ _ _ h => .inr h)).trans (h1.2.mono (fun _ _ _ h => .inl h))⟩
              have HFIN := Lib.hid hfin
              clear hfin
              by_cases hj8 : j < 8
              · skip
                obtain ⟨bu, hbu⟩ := HHC.out.used j hj8
                obtain ⟨z, hz0, hz1, hz⟩ := HHC.out.path j hj8
                have cu := cell_of_block hbc j
                rw [hbu] at cu
                have cp := cell_of_block hbc (8 + j)
                rw [hz] at cp
                have fu := frozen_of_block hbc j
                have fp := frozen_of_block hbc (8 + j)
                have d8 : (j : Int) < 8 := by omega
                clear hbu hz hbc hHC
                go_wp2_with fail
                try rw [s2]
                refine name_calls (fun wx => HintB wp.heap.size wx ∧ Fam (parM k) wx F (bmp H ([]) (-1)) ∧ Chg (fun b _ => F b ∨ b = wp.heap.size) wr wx) (HFIN.out _ (((Chg.refl _ _).setCell (.inl rfl) _).setCell (.inl rfl) _) ⟨_, hs_same (hs_same HBC.out _) _, (HHC.out.setPath hj8 (by omega) (by omega)).setUsed hj8 true⟩) ?_
                rintro wx ⟨hhx, hfx, hcx⟩
                have hk : (recOf (h3 + 1) T3).kids = some (T3.2.2.map fun c => some (rid c)) := rfl
                have hrr : bmp H ([]) (-1) (rid T3) = some (recOf (h3 + 1) T3) := (bmp_out List.not_mem_nil).trans hT2.root
                obtain ⟨lx, hnx⟩ := hfx.node hrr
                have n3 := hnx.c3s hk
                have nc := hnx.cc hk
                rw [List.length_map] at nc
                have kc : wx.cell? ⟨lx.cb, lx.co + jj, none⟩ = some (.pointer (some ⟨rid c, 0, none⟩)) := hnx.kidc hk (j := jj) (o := some (rid c)) (by simp [hc3])
                have hjk : jj < T3.2.2.length := (List.getElem?_eq_some_iff.1 hc3).1
                have b1 : (jj : Int) < (T3.2.2.length : Int) := by omega
                have pjx : wx.cell? ⟨pb2, po2 + j, none⟩ = some (.int .u8 (jj : Int)) := hcx.cell hpA pj
                have HFXX := Lib.hid hfx
                clear hnx n1 fz s1 s2 pj hfx
                refine (leaf_any _ (some ⟨lx.cc, 0, none⟩) _ n3).mono ?_
                rintro e w' ⟨rfl, rfl⟩
                go_wp2_with fail
                go_quiet (fail)
                go_wp2_with fail
                go_roundw
                case rel => exact ⟨j + 1, [], [], by go_num, HDN.out, by omega, Lib.hid (hhx.chg ((Chg.refl (fun _ _ => False) _).drewN _) (fun _ h => h)), HFXX.out.chg ((Chg.refl (fun _ _ => False) _).drewN _) (fun _ _ _ h => h), .inl ⟨rfl, rfl⟩, hcw.trans (hcx.drewN _)⟩
                case measure => simp [intOf]; omega
              · skip
                have d9 : ¬ (j : Int) < 8 := by omega
                clear hbc hHC
                go_wp2_with fail
                try rw [s2]
                refine name_calls (fun wx => HintB wp.heap.size wx ∧ Fam (parM k) wx F (bmp H ([]) (-1)) ∧ Chg (fun b _ => F b ∨ b = wp.heap.size) wr wx) (HFIN.out _ (Chg.refl _ _) ⟨_, HBC.out, HHC.out⟩) ?_
                rintro wx ⟨hhx, hfx, hcx⟩
                have hk : (recOf (h3 + 1) T3).kids = some (T3.2.2.map fun c => some (rid c)) := rfl
                have hrr : bmp H ([]) (-1) (rid T3) = some (recOf (h3 + 1) T3) := (bmp_out List.not_mem_nil).trans hT2.root
                obtain ⟨lx, hnx⟩ := hfx.node hrr
                have n3 := hnx.c3s hk
                have nc := hnx.cc hk
                rw [List.length_map] at nc
                have kc : wx.cell? ⟨lx.cb, lx.co + jj, none⟩ = some (.pointer (some ⟨rid c, 0, none⟩)) := hnx.kidc hk (j := jj) (o := some (rid c)) (by simp [hc3])
                have hjk : jj < T3.2.2.length := (List.getElem?_eq_some_iff.1 hc3).1
                have b1 : (jj : Int) < (T3.2.2.length : Int) := by omega
                have pjx : wx.cell? ⟨pb2, po2 + j, none⟩ = some (.int .u8 (jj : Int)) := hcx.cell hpA pj
                have HFXX := Lib.hid hfx
                clear hnx n1 fz s1 s2 pj hfx
                refine (leaf_any _ (some ⟨lx.cc, 0, none⟩) _ n3).mono ?_
                rintro e w' ⟨rfl, rfl⟩
                go_wp2_with fail
                go_quiet (fail)
                go_wp2_with fail
                go_roundw
                case rel => exact ⟨j + 1, [], [], by go_num, HDN.out, by omega, Lib.hid (hhx.chg ((Chg.refl (fun _ _ => False) _).drewN _) (fun _ h => h)), HFXX.out.chg ((Chg.refl (fun _ _ => False) _).drewN _) (fun _ _ _ h => h), .inl ⟨rfl, rfl⟩, hcw.trans (hcx.drewN _)⟩
                case measure => simp [intOf]; omega
            | @step h3 T3 jj c B3 P3 hc3 hal3 =>
              have hcm3 : c ∈ T3.2.2 := List.mem_of_getElem? hc3
              have hni : rid T3 ∉ P3 := fun hm => nodup_root hnd2 hcm3 (hal3.sub _ hm)
              have hbg3 : (toL h3 c).length ≤ 1000000000000 := Nat.le_trans (kid_le hs2 hcm3) hbg2
              have hjl : j < BB.length := by have := congrArg List.length hdr; simp at this; omega
              have hBj : BB[j]? = some jj := by have := congrArg (fun l => l[0]?) hdr; simpa using this
              have hdn : BB.drop (j + 1) = B3 := by have := congrArg List.tail hdr; simpa using this
              have hjb := HBYTE.out jj (List.mem_of_getElem? hBj)
              have pj := HPC.out j jj hBj
              have hpbl : pb2 < wp.heap.size := World.block_lt_of_cell? wp _ pj
              have hpA : ¬ (F pb2 ∨ pb2 = wp.heap.size) := fun h => by
                rcases h with h | h
                · have := HFL.out pb2 h; omega
                · omega
              replace pj := hcw.cell hpA (hcy.cell (fun h => h) pj)
              obtain ⟨hc, hbc, hHC⟩ := HHB.out
              have hrec : bmp H (rid T3 :: P3) (-1) (rid T3) = some { recOf (h3 + 1) T3 with cnt := (recOf (h3 + 1) T3).cnt + -1 } := bmp_in List.mem_cons_self hT2.root
              obtain ⟨ln, hnn⟩ := hfm.node hrec
              have n1 : wr.cell? ⟨rid T3, 1, none⟩ = some (.int .i64 ((recOf (h3 + 1) T3).cnt + -1)) := hnn.c1
              rw [recOf_cnt] at n1
              replace n1 : wr.cell? ⟨rid T3, 1, none⟩ = some (.int .i64 (((toL (h3 + 1) T3).length : Int) - 1)) := n1
              have fz := hnn.fz 1
              have hrl := HFL.out _ (hfm.mem hrec)
              have hnh : ¬ rid T3 = wp.heap.size := by omega
              have hnh' : ¬ wp.heap.size = rid T3 := by omega
              have s1 : IntKind.i64.wrap (((toL (h3 + 1) T3).length : Int) - 1 + 1) = ((toL (h3 + 1) T3).length : Int) := by rw [IntWalk.i64_in _ (by omega)]; omega
              have s2 : ((toL (h3 + 1) T3).length : Int) - 1 + 1 = ((toL (h3 + 1) T3).length : Int) := by omega
              have hrcs : ({ recOf (h3 + 1) T3 with cnt := ((toL (h3 + 1) T3).length : Int) } : NodeR (It ord)) = recOf (h3 + 1) T3 := by rw [← recOf_cnt]
              have hback : upd (bmp H (rid T3 :: P3) (-1)) (rid T3) { recOf (h3 + 1) T3 with cnt := ((toL (h3 + 1) T3).length : Int) } = bmp H (P3) (-1) := by rw [hrcs]; exact bmp_cons hni hT2.root
              have j0 : (0 : Int) ≤ (j : Int) := by omega
              have j1 : (j : Int) < (BB.length : Int) := by omega
              have b0 : (0 : Int) ≤ (jj : Int) := by omega
              have HBJ := Lib.hid hBj
              have HDN := Lib.hid hdn
              have HREC := Lib.hid hrec
              have HBACK := Lib.hid hback
              have HFM := Lib.hid hfm
              have HBC := Lib.hid hbc
              have HHC := Lib.hid hHC
              clear hBj hdn hrec hback hfm hdr hnn hrcs
              have hfin : ∀ wx, Chg (fun b _ => b = wp.heap.size) wr wx → HintB wp.heap.size wx → HintB wp.heap.size (wx.setCell ⟨rid T3, 1, none⟩ (.int .i64 ((toL (h3 + 1) T3).length : Int))) ∧ Fam (parM k) (wx.setCell ⟨rid T3, 1, none⟩ (.int .i64 ((toL (h3 + 1) T3).length : Int))) F (bmp H (P3) (-1)) ∧ Chg (fun b _ => F b ∨ b = wp.heap.size) wr (wx.setCell ⟨rid T3, 1, none⟩ (.int .i64 ((toL (h3 + 1) T3).length : Int))) := by
                intro wx hcx hhx
                have h1 := (HFM.out.chg hcx (fun b o hb e => by have := HFL.out _ hb; omega)).setCnt HREC.out ((toL (h3 + 1) T3).length : Int)
                rw [HBACK.out] at h1
                exact ⟨hhx.chg h1.2 (fun o hf => by have := HFL.out _ hf; omega), h1.1, (hcx.mono (fun _ _ _ h => .inr h)).trans (h1.2.mono (fun _ _ _ h => .inl h))⟩
              have HFIN := Lib.hid hfin
              clear hfin
              by_cases hj8 : j < 8
              · skip
                obtain ⟨bu, hbu⟩ := HHC.out.used j hj8
                obtain ⟨z, hz0, hz1, hz⟩ := HHC.out.path j hj8
                have cu := cell_of_block hbc j
                rw [hbu] at cu
                have cp := cell_of_block hbc (8 + j)
                rw [hz] at cp
                have fu := frozen_of_block hbc j
                have fp := frozen_of_block hbc (8 + j)
                have d8 : (j : Int) < 8 := by omega
                clear hbu hz hbc hHC
                go_wp2_with fail
                try rw [s2]
                refine name_calls (fun wx => HintB wp.heap.size wx ∧ Fam (parM k) wx F (bmp H (P3) (-1)) ∧ Chg (fun b _ => F b ∨ b = wp.heap.size) wr wx) (HFIN.out _ (((Chg.refl _ _).setCell (.inl rfl) _).setCell (.inl rfl) _) ⟨_, hs_same (hs_same HBC.out _) _, (HHC.out.setPath hj8 (by omega) (by omega)).setUsed hj8 true⟩) ?_
                rintro wx ⟨hhx, hfx, hcx⟩
                have hk : (recOf (h3 + 1) T3).kids = some (T3.2.2.map fun c => some (rid c)) := rfl
                have hrr : bmp H (P3) (-1) (rid T3) = some (recOf (h3 + 1) T3) := (bmp_out hni).trans hT2.root
                obtain ⟨lx, hnx⟩ := hfx.node hrr
                have n3 := hnx.c3s hk
                have nc := hnx.cc hk
                rw [List.length_map] at nc
                have kc : wx.cell? ⟨lx.cb, lx.co + jj, none⟩ = some (.pointer (some ⟨rid c, 0, none⟩)) := hnx.kidc hk (j := jj) (o := some (rid c)) (by simp [hc3])
                have hjk : jj < T3.2.2.length := (List.getElem?_eq_some_iff.1 hc3).1
                have b1 : (jj : Int) < (T3.2.2.length : Int) := by omega
                have pjx : wx.cell? ⟨pb2, po2 + j, none⟩ = some (.int .u8 (jj : Int)) := hcx.cell hpA pj
                have HFXX := Lib.hid hfx
                clear hnx n1 fz s1 s2 pj hfx
                refine (leaf_any _ (some ⟨lx.cc, 0, none⟩) _ n3).mono ?_
                rintro e w' ⟨rfl, rfl⟩
                go_wp2_with fail
                go_quiet (fail)
                go_wp2_with fail
                go_roundw
                case rel => exact ⟨j + 1, B3, P3, by go_num, HDN.out, by omega, Lib.hid (hhx.chg ((Chg.refl (fun _ _ => False) _).drewN _) (fun _ h => h)), HFXX.out.chg ((Chg.refl (fun _ _ => False) _).drewN _) (fun _ _ _ h => h), .inr ⟨h3, c, rfl, hal3, hT2.kid hcm3, (hs2.2.2 c hcm3).2, nodup_kid hnd2 hcm3, hbg3⟩, hcw.trans (hcx.drewN _)⟩
                case measure => simp [intOf]; omega
              · skip
                have d9 : ¬ (j : Int) < 8 := by omega
                clear hbc hHC
                go_wp2_with fail
                try rw [s2]
                refine name_calls (fun wx => HintB wp.heap.size wx ∧ Fam (parM k) wx F (bmp H (P3) (-1)) ∧ Chg (fun b _ => F b ∨ b = wp.heap.size) wr wx) (HFIN.out _ (Chg.refl _ _) ⟨_, HBC.out, HHC.out⟩) ?_
                rintro wx ⟨hhx, hfx, hcx⟩
                have hk : (recOf (h3 + 1) T3).kids = some (T3.2.2.map fun c => some (rid c)) := rfl
                have hrr : bmp H (P3) (-1) (rid T3) = some (recOf (h3 + 1) T3) := (bmp_out hni).trans hT2.root
                obtain ⟨lx, hnx⟩ := hfx.node hrr
                have n3 := hnx.c3s hk
                have nc := hnx.cc hk
                rw [List.length_map] at nc
                have kc : wx.cell? ⟨lx.cb, lx.co + jj, none⟩ = some (.pointer (some ⟨rid c, 0, none⟩)) := hnx.kidc hk (j := jj) (o := some (rid c)) (by simp [hc3])
                have hjk : jj < T3.2.2.length := (List.getElem?_eq_some_iff.1 hc3).1
                have b1 : (jj : Int) < (T3.2.2.length : Int) := by omega
                have pjx : wx.cell? ⟨pb2, po2 + j, none⟩ = some (.int .u8 (jj : Int)) := hcx.cell hpA pj
                have HFXX := Lib.hid hfx
                clear hnx n1 fz s1 s2 pj hfx
                refine (leaf_any _ (some ⟨lx.cc, 0, none⟩) _ n3).mono ?_
                rintro e w' ⟨rfl, rfl⟩
                go_wp2_with fail
                go_quiet (fail)
                go_wp2_with fail
                go_roundw
                case rel => exact ⟨j + 1, B3, P3, by go_num, HDN.out, by omega, Lib.hid (hhx.chg ((Chg.refl (fun _ _ => False) _).drewN _) (fun _ h => h)), HFXX.out.chg ((Chg.refl (fun _ _ => False) _).drewN _) (fun _ _ _ h => h), .inr ⟨h3, c, rfl, hal3, hT2.kid hcm3, (hs2.2.2 c hcm3).2, nodup_kid hnd2 hcm3, hbg3⟩, hcw.trans (hcx.drewN _)⟩
                case measure => simp [intOf]; omega
      · have hcmp : ((T'.2.length : Int) == (mn : Int)) = false := beq_eq_false_iff_ne.2 (by omega)
        have HLM := Lib.hid hlm
        clear hlm
        go_quiet (fail)
        refine name_prop (fun w6 => Chg (fun _ _ => False) w5 w6) ((Chg.refl _ _).drewN _) ?_
        intro w6 hc6
        go_wp2_with fail
        have hc06 := hc05.trans (hc6.mono (B := fun b _ => F b) (fun _ _ _ h => h.elim))
        have hf6 := hf5.chg hc6 (fun _ _ _ h => h)
        obtain ⟨r, hrd⟩ : ∃ r : NodeR (It ord), r = ⟨((T'.2.length : Nat) : Int) + -1, T'.2, none⟩ := ⟨_, rfl⟩
        have hr6 : bmp H (P ++ [rid T']) (-1) (rid T') = some r := by rw [hrd]; exact HR4.out
        have hri : r.items.length = T'.2.length := by rw [hrd]
        have hqr : q < r.items.length := by omega
        have hlr1 : r.items.length ≤ 255 := by have : T'.2.length ≤ mx := hs'; omega
        have HRD0 := Lib.hid hrd
        obtain ⟨l, hna, hb, ho, cl⟩ := hf6.work hr6
        have HM := Lib.hid (HI.out.map.chg hc06 (fun b _ hm h => HOUT.out b hm h))
        have HRN := Lib.hid (Run.start hna)
        have HCL2 := Lib.hid cl
        have HBF := Lib.hid hb
        have HBI6 := Lib.hid (show w6.heap[w1.heap.size + 1]? = some (.cells #[.int .i64 y.1, .int .i64 y.2] 30 (0, 0)) by rw [hc6.block (heap_lt HBI5.out) (fun _ h => h)]; exact HBI5.out)
        have HB6 := Lib.hid (show w6.heap[w.heap.size]? = some (.cells #[.int .i64 0, .int .i64 0] 30 (0, 0)) by rw [hc6.block (heap_lt HB5.out) (fun _ h => h)]; exact HB5.out)
        have hsz6 := hc6.size
        clear hrd hri hna hb ho cl hf5 hf6 hr6 n2 e6 hcmp
        have N2 : w6.cell? ⟨rid T', 2, none⟩ = some (.slice (some ⟨l.ib, l.io, none⟩) r.items.length l.ic) := HRN.out.at_.c2
        have hlenc : r.items.length ≤ l.ic := HRN.out.at_.len
        have s0 : (0 : Int) ≤ (q : Int) := by omega
        have s2 : (0 : Int) ≤ (q : Int) + 1 := by omega
        have s3 : ((q : Int) + 1).toNat = q + 1 := by omega
        have s4 : (q : Int) ≤ (r.items.length : Int) := by omega
        have s5 : (q : Int) + 1 ≤ (r.items.length : Int) := by omega
        have hck2 : ¬ l.ic = q := by omega
        obtain ⟨sp, hif, hsp⟩ : ∃ sp, (if l.ic = q + 1 then some (⟨l.ib, l.io, none⟩ : Addr) else some ⟨l.ib, l.io + (q + 1) * 2, none⟩) = some sp ∧ (q + 1 < r.items.length → sp = ⟨l.ib, l.io + (q + 1) * 2, none⟩) := by
          by_cases h : l.ic = q + 1
          · exact ⟨_, by rw [if_pos h], fun h2 => by omega⟩
          · exact ⟨_, by rw [if_neg h], fun _ => rfl⟩
        have s1 : IntKind.i64.wrap ((q : Int) + 1) = (q : Int) + 1 := IntWalk.i64_in _ (by omega)
        have HSP := Lib.hid hsp
        clear hsp
        go_still_tail 13, (by kernel_rfl)
        refine wpList_down (p := parM k) (by rfl) _ _ _ _ (by rfl) 30 (by kernel_rfl) infoPairSize (HRN.out.still ((Chg.refl _ _).drew)) q (l.io + q * 2) _ _ _ _ (show q < r.items.length by omega) (by simp [parM]) (by rfl) sp (by rfl) (by simpa [parM] using HSP.out) (by first | rfl | simp) (by first | rfl | simp) ?_
        intro w8 ys r8 hys1 hys2
        replace hys1 := Lib.hid hys1
        replace hys2 := Lib.hid hys2
        clear s0 s1 s2 s3 s4 s5 hck2 hif N2 hlenc HSP
        go_upto_region 15 with fail
        refine name_world (fun wz => ∃ ys, ys.length = r.items.length ∧ ys.take (r.items.length - 1) = r.items.take q ++ r.items.drop (q + 1) ∧ Run (parM k) w6 (rid T') r l wz { r with items := ys } l) ⟨ys, hys1.out, hys2.out, r8⟩ ?_
        clear r8 hys1 hys2 HRN
        rintro w7 ⟨y3, hly3, hy3, hR⟩
        replace hly3 := Lib.hid hly3
        replace hy3 := Lib.hid hy3
        have HRN := Lib.hid hR
        clear hR
        have hyb : 1 ≤ y3.length ∧ y3.length ≤ 1001 := by rw [hly3.out]; omega
        have N2 : w7.cell? ⟨rid T', 2, none⟩ = some (.slice (some ⟨l.ib, l.io, none⟩) y3.length l.ic) := HRN.out.at_.c2
        have hm1 := HM.out.chg HRN.out.chg (fun b o hm h => HOUT.out b hm (HBF.out _ h.blk))
        have e4 := hm1.c4
        have e5 := hm1.c5
        have hlenc : y3.length ≤ l.ic := HRN.out.at_.len
        have s0 : (0 : Int) ≤ (y3.length : Int) - 1 := by omega
        have s2 : (y3.length : Int) - 1 < (y3.length : Int) := by omega
        have s3 : ((y3.length : Int) - 1).toNat = y3.length - 1 := by omega
        have s1 : IntKind.i64.wrap ((y3.length : Int) - 1) = (y3.length : Int) - 1 := IntWalk.i64_in _ (by omega)
        have hlt : y3.length - 1 < y3.length := by omega
        have z0 := HRN.out.at_.ifz (l.io + (y3.length - 1) * 2)
        have z1 := HRN.out.at_.ifz (l.io + (y3.length - 1) * 2 + 1)
        obtain ⟨y6, hy6⟩ : ∃ y, y3[y3.length - 1]? = some y := ⟨_, List.getElem?_eq_getElem hlt⟩
        have iv := HRN.out.at_.mval (j := y3.length - 1) hy6
        have ik := HRN.out.at_.mkey (j := y3.length - 1) hy6
        have r8 := (HRN.out.still ((Chg.refl _ _).drew)).setItemM (y3.length - 1) ((0, 0) : Int × Int) hlt
        have HR8 := Lib.hid r8
        clear hm1 hy6 r8
        go_still_tail 14, (by kernel_rfl)
        go_upto_region 16 with fail
        refine name_world (fun wz => ∃ ys, ys.length = y3.length ∧ ys.take (y3.length - 1) = y3.take (y3.length - 1) ∧ Run (parM k) w6 (rid T') r l wz { r with items := ys } l) ⟨_, List.length_set, take_set_last _ _ _, HR8.out⟩ ?_
        clear N2 e4 e5 hlenc s0 s1 s2 s3 hlt z0 z1 iv ik HR8 HRN y6
        rintro wv ⟨y4, hly4, hy4, hR⟩
        replace hly4 := Lib.hid hly4
        replace hy4 := Lib.hid hy4
        have HRN := Lib.hid hR
        clear hR
        have hyb : 1 ≤ y4.length ∧ y4.length ≤ 1001 := by rw [hly4.out, hly3.out]; omega
        have N2 : wv.cell? ⟨rid T', 2, none⟩ = some (.slice (some ⟨l.ib, l.io, none⟩) y4.length l.ic) := HRN.out.at_.c2
        have z2 := HRN.out.at_.fz 2
        have hlenc : y4.length ≤ l.ic := HRN.out.at_.len
        have s0 : (0 : Int) ≤ (y4.length : Int) - 1 := by omega
        have s2 : (y4.length : Int) - 1 ≤ (l.ic : Int) := by omega
        have s3 : ((y4.length : Int) - 1).toNat = y4.length - 1 := by omega
        have s1 : IntKind.i64.wrap ((y4.length : Int) - 1) = (y4.length : Int) - 1 := IntWalk.i64_in _ (by omega)
        have ck : ¬ l.ic = 0 := by omega
        have s6 : ¬ ((y4.length : Int) < 1) := by omega
        have s7 : (1 : Int) ≤ (y4.length : Int) := by omega
        have r8 := (HRN.out.still ((Chg.refl _ _).drew)).cut 0 (y4.length - 1) l.ic (by show 0 + (y4.length - 1) ≤ y4.length; omega) (by omega) (by omega)
        simp only [Nat.zero_mul, Nat.add_zero, List.drop_zero] at r8
        have HR8 := Lib.hid r8
        clear r8
        go_still_tail 12, (by kernel_rfl)
        go_upto_region 17 with fail
        refine name_world (fun wz => Run (parM k) w6 (rid T') r l wz { r with items := y4.take (y4.length - 1) } l) HR8.out ?_
        clear N2 z2 hlenc s0 s1 s2 s3 s6 s7 ck HR8 HRN
        rintro w9 hR
        have HRN := Lib.hid hR
        clear hR
        have hit4 : y4.take (y4.length - 1) = T'.2.take q ++ T'.2.drop (q + 1) := by
          have h1 := hy3.out
          have h2 := hy4.out
          rw [← hly3.out, ← h2, ← hly4.out] at h1
          rw [h1, HRD0.out]
        have hR9 := HRN.out
        rw [hit4] at hR9
        have hre : ({ r with items := T'.2.take q ++ T'.2.drop (q + 1) } : NodeR (It ord)) = ⟨((T'.2.length : Nat) : Int) + -1, T'.2.take q ++ T'.2.drop (q + 1), none⟩ := by rw [HRD0.out]
        rw [hre] at hR9
        obtain ⟨f9, g9⟩ := HCL2.out _ _ _ hR9
        rw [leaf_fam hT' hrP hql2] at f9
        have hD := delIn_leaf (mn := mn) (mx := mx) (H := H) hnd' hs' hql2
        have hl2 : (T'.2.take q ++ T'.2.drop (q + 1)).length + 1 = T'.2.length := by simp; omega
        obtain ⟨Tf, d1, d2, d3, d4⟩ := HCL.out _ _ hD (fun hp => by
          show mn ≤ (T'.2.take q ++ T'.2.drop (q + 1)).length
          have h1 : mn ≤ T'.2.length := hm' hp
          have := HLM.out
          omega) hl2
        have hlist : toL h Tf = (toL h T).take i ++ (toL h T).drop (i + 1) := by
          rw [d2, HL.out, ← hq, ← HA.out]
          exact cut_mid A T'.2 C q hql2
        have hlenf : (toL h Tf).length + 1 = (toL h T).length := by rw [hlist]; simp; omega
        have hone : 2 ≤ (toL h T).length → 1 ≤ (its Tf).length := by
          intro h2
          by_cases hp : P = []
          · rw [d3 hp]
            have h3 : (toL h T).length = T'.2.length := HRD.out.root hp
            show 1 ≤ (T'.2.take q ++ T'.2.drop (q + 1)).length
            omega
          · rw [d4 hp]; exact h1
        have hc09 := hc06.trans g9
        have hB9 := HB.out.chg hc09 (fun b _ hm h => HOUT.out b hm h)
        have c3 := hB9.c3
        have z3 := hB9.fz 3
        have z2 := hB9.fz 2
        have c2 := hB9.c2
        have hszg := g9.size
        have hbx : w9.heap[w1.heap.size + 1]? = some (.cells #[.int .i64 y.1, .int .i64 y.2] 30 (0, 0)) := by
          rw [g9.block (heap_lt HBI6.out) (fun _ h => by have := HFL.out _ h; omega)]; exact HBI6.out
        have hbr : w9.heap[w.heap.size]? = some (.cells #[.int .i64 0, .int .i64 0] 30 (0, 0)) := by
          rw [g9.block (heap_lt HB6.out) (fun _ h => by have := HFL.out _ h; omega)]; exact HB6.out
        have rf0 := frozen_of_block hbx 0
        have rf1 := frozen_of_block hbx 1
        have r0 := cell_of_block hbx 0
        have r1 := cell_of_block hbx 1
        simp only [List.getElem?_toArray, List.getElem?_cons_zero, List.getElem?_cons_succ] at r0 r1
        have pf0 := frozen_of_block hbr 0
        have pf1 := frozen_of_block hbr 1
        have p0 := cell_of_block hbr 0
        have p1 := cell_of_block hbr 1
        simp only [List.getElem?_toArray, List.getElem?_cons_zero, List.getElem?_cons_succ] at p0 p1
        have s1 : IntKind.i64.wrap (((toL h T).length : Int) - 1) = ((toL h T).length : Int) - 1 := IntWalk.i64_in _ (by omega)
        have hnt : ¬ t = w.heap.size := by omega
        have hnt' : ¬ w.heap.size = t := by omega
        have hnx : ¬ t = w1.heap.size + 1 := by omega
        have hnx' : ¬ w1.heap.size + 1 = t := by omega
        have HF9 := Lib.hid f9
        have HB9 := Lib.hid hB9
        have HBR9 := Lib.hid hbr
        have HD1 := Lib.hid d1
        have HLIST := Lib.hid hlist
        have HONE := Lib.hid hone
        have HR9 := Lib.hid hR9
        have htF9 : ∀ b, MOwn k t b → ¬ grow F w6 w9 b := fun b hm h => by
          rcases h with h | h
          · exact HOUT.out b hm h
          · have := HOL.out b hm; have := hc06.size; have := h.1; omega
        have HT9 := Lib.hid htF9
        clear f9 hB9 hbx hbr d1 d2 d3 d4 hlist hone hD hR9 hre hit4 HRN htF9 hy3 hy4 hly3 hly4
        by_cases hone1 : (toL h T).length = 1
        · have hz : (((toL h T).length : Int) - 1 == 0) = true := by rw [hone1]; rfl
          have hbz : ((w9.setCell ⟨t, 3, none⟩ (.int .i64 (((toL h T).length : Int) - 1))).setCell ⟨t, 2, none⟩ (.pointer none)).heap[w.heap.size]? = some (.cells #[.int .i64 0, .int .i64 0] 30 (0, 0)) := by
            rw [hs_ne _ hnt', hs_ne _ hnt']; exact HBR9.out
          have HBZ := Lib.hid hbz
          have HON := Lib.hid hone1
          clear hbz hone1
          go_wp2_with fail
          refine name_prop (fun wl => Chg (fun b _ => b = w.heap.size) ((w9.setCell ⟨t, 3, none⟩ (.int .i64 (((toL h T).length : Int) - 1))).setCell ⟨t, 2, none⟩ (.pointer none)) wl ∧ wl.heap[w.heap.size]? = some (.cells #[.int .i64 y.1, .int .i64 y.2] 30 (0, 0))) ⟨?_, blk2 HBZ.out _ _⟩ ?_
          · repeat (first | refine Chg.drew ?_ | refine Chg.drewN ?_ _ | refine Chg.setCell ?_ (.inl rfl) _ | exact Chg.refl _ _)
          clear p0 p1 pf0 pf1 r0 r1 rf0 rf1
          rintro wl ⟨hcl2, hbl2⟩
          have p0 := cell_of_block hbl2 0
          have p1 := cell_of_block hbl2 1
          simp only [List.getElem?_toArray, List.getElem?_cons_zero, List.getElem?_cons_succ] at p0 p1
          try simp only [Exit.noGoto_ret]
          refine bodyPost_ret (v := .tuple #[.agg #[.int .i64 y.1, .int .i64 y.2], .bool true]) (by simp [results, Try.results63, go_sem, p0, p1]) rfl ?_
          have hszl := hcl2.size
          have e0 : (toL h T).take i ++ (toL h T).drop (i + 1) = [] := List.eq_nil_of_length_eq_zero (by rw [← HLIST.out]; have := HON.out; omega)
          have hBz := (HB9.out.setCnt (((toL h T).length : Int) - 1)).setRoot none
          have ez : ((toL h T).length : Int) - 1 = 0 := by have := HON.out; omega
          refine ⟨rfl, fun _ => False, .inl ⟨e0, fun _ h => h, ?_⟩, ?_, fun _ h => h.elim⟩
          · rw [ez] at hBz
            have hcl3 := hcl2
            rw [ez] at hcl3
            exact hBz.chg hcl3 (fun b o hm e => by have := HOL.out b hm; omega)
          · refine ((hc09.mono (B := fun b _ => F b ∨ b = t) (fun _ _ _ h => .inl h)).trans' (((Chg.refl (fun b _ => b = t) w9).setCell (.inl rfl) _).setCell (.inl rfl) _) (B := fun b _ => F b ∨ b = t) (fun _ _ _ h => h) (fun _ _ _ h => .inr h)).trans' hcl2 (fun _ _ _ h => h) (fun b o hb e => by omega)
        · have hz : (((toL h T).length : Int) - 1 == 0) = false := beq_eq_false_iff_ne.2 (by omega)
          have hbz : (w9.setCell ⟨t, 3, none⟩ (.int .i64 (((toL h T).length : Int) - 1))).heap[w.heap.size]? = some (.cells #[.int .i64 0, .int .i64 0] 30 (0, 0)) := by
            rw [hs_ne _ hnt']; exact HBR9.out
          have HBZ := Lib.hid hbz
          clear hbz
          go_wp2_with fail
          refine name_prop (fun wl => Chg (fun b _ => b = w.heap.size) (w9.setCell ⟨t, 3, none⟩ (.int .i64 (((toL h T).length : Int) - 1))) wl ∧ wl.heap[w.heap.size]? = some (.cells #[.int .i64 y.1, .int .i64 y.2] 30 (0, 0))) ⟨?_, blk2 HBZ.out _ _⟩ ?_
          · repeat (first | refine Chg.drew ?_ | refine Chg.drewN ?_ _ | refine Chg.setCell ?_ (.inl rfl) _ | exact Chg.refl _ _)
          clear p0 p1 pf0 pf1 r0 r1 rf0 rf1
          rintro wl ⟨hcl2, hbl2⟩
          have p0 := cell_of_block hbl2 0
          have p1 := cell_of_block hbl2 1
          simp only [List.getElem?_toArray, List.getElem?_cons_zero, List.getElem?_cons_succ] at p0 p1
          try simp only [Exit.noGoto_ret]
          refine bodyPost_ret (v := .tuple #[.agg #[.int .i64 y.1, .int .i64 y.2], .bool true]) (by simp [results, Try.results63, go_sem, p0, p1]) rfl ?_
          have hszl := hcl2.size
          have hBz := HB9.out.setCnt (((toL h T).length : Int) - 1)
          have ez : ((toL h T).length : Int) - 1 = ((toL h Tf).length : Int) := by omega
          have hbs : ∀ b, MOwn k t b → b ≠ w.heap.size := fun b hm e => by have := HOL.out b hm; omega
          have hBf := hBz.chg hcl2 (fun b o hm e => hbs b hm e)
          rw [ez] at hBf
          have hcs : Chg (fun b _ => b = t ∨ b = w.heap.size) w9 wl := ((Chg.refl (fun b _ => b = t) w9).setCell (.inl rfl) _).trans' hcl2 (fun _ _ _ h => .inl h) (fun _ _ _ h => .inr h)
          have hFf := HF9.out.chg hcs (fun b o hb e => by
            rcases e with e | e
            · exact HT9.out t MOwn.self (e ▸ hb)
            · rcases hb with hb | hb
              · have := HFL.out _ hb; omega
              · have := hb.1; omega)
          have hsl : (toL h Tf).Sublist (toL h T) := by
            rw [HLIST.out]
            have := (List.drop_sublist 1 ((toL h T).drop i))
            rw [List.drop_drop] at this
            have h2 := (List.Sublist.refl ((toL h T).take i)).append this
            rw [List.take_append_drop] at h2
            exact h2
          refine ⟨rfl, grow F w6 w9, .inr ⟨_, h, Tf, ⟨hFf, hBf.at_, HT9.out, HD1.out.isT, HD1.out.nd, HD1.out.sh, HI.out.srt.sublist hsl, Nat.le_trans hsl.length_le HI.out.big, HI.out.m3, HI.out.m1000, HI.out.mh, HI.out.mh2⟩, ?_, HLIST.out, HONE.out (by omega)⟩, ?_, fun b hb => ?_⟩
          · rw [HD1.out.rid']; exact hBf
          · refine (hc09.mono (B := fun b _ => F b ∨ b = t) (fun _ _ _ h => .inl h)).trans' hcs (fun _ _ _ h => h) (fun b o hb e => by
              rcases e with e | e
              · exact .inr e
              · omega)
          · rcases hb with hb | hb
            · exact .inl hb
            · exact .inr (by have := hb.1; have := hc06.size; omega)
    · obtain ⟨l3, hn3, hbk3⟩ := hf4.nodeB hrec4
      have HBK3 := Lib.hid hbk3
      have hk : (recOf (h' + 1) T').kids = some (T'.2.2.map fun c => some (rid c)) := rfl
      have n3 := hn3.c3s hk
      have nc := hn3.cc hk
      rw [List.length_map] at nc
      have n2 : w4.cell? ⟨rid T', 2, none⟩ = some (.slice (some ⟨l3.ib, l3.io, none⟩) T'.2.1.length l3.ic) := hn3.c2
      have HN3 := Lib.hid hn3
      have hkl : T'.2.2.length = T'.2.1.length + 1 := hs'.2.1
      have hml : (T'.2.2.map (toL h')).length = T'.2.1.length + 1 := by simpa using hkl
      have hyq2 : (inter T'.2.1 (T'.2.2.map (toL h')))[q]? = some y := HYQ.out
      have hits : T'.2.1.length ≤ 255 := by have := hs'.1; omega
      have HKL := Lib.hid hkl
      have HML := Lib.hid hml
      have HQ2 := Lib.hid hyq2
      have HR4 := Lib.hid hrec4
      have HF4 := Lib.hid hf4
      have hlr := HFL.out _ (hf4.mem hrec4)
      clear hkl hml hyq2 hn3 hf4 hrec4 hbk3
      go_wp2_with (go_at_call 70; refine (leaf_any _ (some ⟨l3.cc, 0, none⟩) _ n3).mono ?_; rintro e w' ⟨rfl, rfl⟩)
      go_loopw [1, 7, 10] (fun iv pv jv wr2 => ∃ (j p : Nat), jv = .int .i64 j ∧ iv = .int .i64 p ∧ j ≤ T'.2.1.length ∧ (pre (T'.2.1.take j) ((T'.2.2.map (toL h')).take j)).length + p = q ∧ pv = u7 ∧ wr2 = w4) (fun _ _ jv _ => T'.2.1.length - (intOf jv).toNat)
      case atStart => exact ⟨0, q, rfl, rfl, Nat.zero_le _, by simp [pre], rfl, rfl⟩
      case round =>
        obtain ⟨j, p, rfl, rfl, hj, hp, hpv, hw4⟩ := hrel
        replace hw4 := hw4.symm
        subst hw4
        subst hpv
        obtain ⟨c, hcj⟩ : ∃ c, T'.2.2[j]? = some c := ⟨_, List.getElem?_eq_getElem (by have := HKL.out; omega)⟩
        have hcm : c ∈ T'.2.2 := List.mem_of_getElem? hcj
        have hkc := (List.getElem?_eq_some_iff.1 hcj).1
        have htj : (T'.2.2.map (toL h'))[j]? = some (toL h' c) := by simp [hcj]
        have kc : w4.cell? ⟨l3.cb, l3.co + j, none⟩ = some (.pointer (some ⟨rid c, 0, none⟩)) := HN3.out.kidc hk (j := j) (o := some (rid c)) (by simp [hcj])
        have hrc : bmp H (P ++ [rid T']) (-1) (rid c) = some (recOf h' c) := (bmp_out (fun hm => by
          rcases List.mem_append.1 hm with hm | hm
          · exact (hPo _ hm).1 (ids_kid hcm (rid_mem c))
          · rw [List.mem_singleton] at hm; exact nodup_root hnd' hcm (hm ▸ rid_mem c))).trans (hT'.kid hcm).root
        obtain ⟨lc, hnc⟩ := HF4.out.node hrc
        have nc0 := hnc.c0
        have nc1 := hnc.c1
        rw [recOf_cnt] at nc1
        have hpl := pre_len HML.out htj
        have hgt2 := kid_lt hs' hcm hit
        have m1 := mOf_root hT'
        have m2 := mOf_root (hT'.kid hcm)
        have j0 : (0 : Int) ≤ (j : Int) := by omega
        have j1 : (j : Int) < (T'.2.2.length : Int) := by omega
        have p0 : (0 : Int) ≤ (p : Int) := by omega
        have hll3 : (toL h' c).length ≤ 1000000000000 := by omega
        have p1 : (p : Int) ≤ 1000000000000 := by omega
        have c1 : (0 : Int) ≤ ((toL h' c).length : Int) := by omega
        have c2' : ((toL h' c).length : Int) ≤ 1000000000000 := by omega
        have w8 : IntKind.u8.wrap (j : Int) = (j : Int) := IntWalk.u8_in _ (by omega)
        have HCJ := Lib.hid hcj
        have HP := Lib.hid hp
        have HRC := Lib.hid hrc
        clear hnc hrc
        by_cases hlt : j < T'.2.1.length
        · obtain ⟨x, hx⟩ : ∃ x, T'.2.1[j]? = some x := ⟨_, List.getElem?_eq_getElem hlt⟩
          have jl : (j : Int) < (T'.2.1.length : Int) := by omega
          rcases Nat.lt_trichotomy p (toL h' c).length with hpm | hpm | hpm
          · have t1 : (p : Int) < ((toL h' c).length : Int) := by omega
            clear hp htj hx hcj hpl
            obtain ⟨pv', wp, hrp, hpp, hcp⟩ := path_push w4 u7 B w1.heap.size (w1.heap.size + 2) HPA.out (by omega) j (by omega) 137
            have HRP := Lib.hid hrp
            have HPP := Lib.hid hpp
            have hcX : Chg (fun b _ => F b) w wp := hc04.trans' hcp (fun _ _ _ h => h) (fun b o hb e => by omega)
            have hcF : ∀ (b o : Nat), F b → ¬ (b = w1.heap.size ∨ w1.heap.size + 2 ≤ b) := fun b o hb e => by have := HFL.out _ hb; omega
            have hFp := HF4.out.chg hcp hcF
            obtain ⟨lq, hnq, hbq⟩ := hFp.nodeB HR4.out
            have kcp : wp.cell? ⟨lq.cb, lq.co + j, none⟩ = some (.pointer (some ⟨rid c, 0, none⟩)) := hnq.kidc hk (j := j) (o := some (rid c)) (by simp [HCJ.out])
            have n3p := hnq.c3s hk
            have ncp := hnq.cc hk
            rw [List.length_map] at ncp
            obtain ⟨lc2, hnc2⟩ := hFp.node HRC.out
            have nc0p := hnc2.c0
            have cw0 := (HI.out.map.chg hcX (fun b _ hm h => HOUT.out b hm h)).c0
            have HBX := Lib.hid (show wp.heap[w1.heap.size + 1]? = some (.cells #[.int .i64 0, .int .i64 0] 30 (0, 0)) by rw [hcp.block (heap_lt HBI.out) (fun _ h => by omega)]; exact HBI.out)
            have HRX := Lib.hid (show wp.heap[w.heap.size]? = some (.cells #[.int .i64 0, .int .i64 0] 30 (0, 0)) by rw [hcp.block (heap_lt HB4.out) (fun _ h => by omega)]; exact HB4.out)
            have HFP := Lib.hid hFp
            have hcd2 : w4.heap.size ≤ wp.heap.size := hcp.size
            clear hrp hpp hnq hnc2 hFp
            go_wp2_with (refine wpList_append_ran (by rfl) _ _ _ _ (by rfl) u7 (.slice (some ⟨w4.heap.size, 0, none⟩) 1 1) (by rfl) (by rfl) _ _ HRP.out ?_)
            refine (isoLoad_any t (rid c) k _ _ _ kcp nc0p cw0).mono ?_
            rintro e w5 ⟨rfl, m, hw5⟩
            have hc5 : Chg (fun _ _ => False) wp w5 := by rw [hw5]; exact (Chg.refl _ _).drewN _
            clear hw5
            go_wp2_with fail
            go_roundw
            case rel => exact ⟨h', c, p, _, B ++ [j], P ++ [rid T'], rfl, rfl, Lib.hid (HPP.out.chg hc5 (fun _ _ _ h => h)), HRD.out.snoc HCJ.out, by have := HP.out; omega, hpm, Nat.le_trans hmn (hs'.2.2 c hcm).1, by simp; omega, HFP.out.chg hc5 (fun _ _ _ h => h), hcX.trans (hc5.mono (fun _ _ _ h => h.elim)), Lib.hid (by rw [hc5.block (heap_lt HRX.out) (fun _ h => h)]; exact HRX.out), Lib.hid (by rw [hc5.block (heap_lt HBX.out) (fun _ h => h)]; exact HBX.out)⟩
            case measure => rw [m1, m2]; exact hgt2
          · have hat := at_item HML.out hx htj
            rw [← hpm, hp, HQ2.out] at hat
            obtain rfl : y = x := Option.some.inj hat
            have t1 : ¬ (p : Int) < ((toL h' c).length : Int) := by omega
            have t2 : ((p : Int) == ((toL h' c).length : Int)) = true := by simp; omega
            have iv := HN3.out.mval (j := j) hx
            have ik := HN3.out.mkey (j := j) hx
            have pf0 := frozen_of_block HBI.out 0
            have pf1 := frozen_of_block HBI.out 1
            have pp0 := cell_of_block HBI.out 0
            have pp1 := cell_of_block HBI.out 1
            simp only [List.getElem?_toArray, List.getElem?_cons_zero, List.getElem?_cons_succ] at pp0 pp1
            clear hp htj hx hcj hat hpl hpm
            go_upto_region 27 with fail
            refine name_world (fun w5 => Chg (fun b _ => b = w1.heap.size + 1) w4 w5 ∧ w5.heap[w1.heap.size + 1]? = some (.cells #[.int .i64 y.1, .int .i64 y.2] 30 (0, 0))) ⟨?_, ?_⟩ ?_
            · repeat (first | refine Chg.drew ?_ | refine Chg.drewN ?_ _ | refine Chg.setCell ?_ (.inl rfl) _ | exact Chg.refl _ _)
            · exact blk2 HBI.out _ _
            clear pp0 pp1 pf0 pf1 n2 n3 nc iv ik kc nc0 nc1 t1 t2
            rintro w5 ⟨hc5, hb5⟩
            have hc05 : Chg (fun b _ => F b) w w5 := hc04.trans' hc5 (fun _ _ _ h => h) (fun b o hb e => by omega)
            have HBI5 := Lib.hid hb5
            have HB5 := Lib.hid (show w5.heap[w.heap.size]? = some (.cells #[.int .i64 0, .int .i64 0] 30 (0, 0)) by rw [hc5.block (heap_lt HB4.out) (fun _ h => by omega)]; exact HB4.out)
            have hsz5 := hc5.size
            have hf5 := HF4.out.chg hc5 (fun b o hb e => by have := HFL.out _ hb; omega)
            replace HPA := Lib.hid (HPA.out.chg hc5 (fun b o hb e => by omega))
            clear hb5
            obtain ⟨pv', wp, hrp, hpp, hcp⟩ := path_push w5 u7 B w1.heap.size (w1.heap.size + 2) HPA.out (by omega) j (by omega) 137
            have HRP := Lib.hid hrp
            have HPP := Lib.hid hpp
            have HCP := Lib.hid hcp
            clear hrp hpp hcp
            have hcX : Chg (fun b _ => F b) w wp := hc05.trans' HCP.out (fun _ _ _ h => h) (fun b o hb e => by omega)
            have HFX := Lib.hid (hf5.chg HCP.out (fun b o hb e => by have := HFL.out _ hb; omega))
            have HPX := HPP
            have HBX := Lib.hid (show wp.heap[w1.heap.size + 1]? = some (.cells #[.int .i64 y.1, .int .i64 y.2] 30 (0, 0)) by rw [HCP.out.block (heap_lt HBI5.out) (fun _ h => by omega)]; exact HBI5.out)
            have HRX := Lib.hid (show wp.heap[w.heap.size]? = some (.cells #[.int .i64 0, .int .i64 0] 30 (0, 0)) by rw [HCP.out.block (heap_lt HB5.out) (fun _ h => by omega)]; exact HB5.out)
            clear hf5
            obtain ⟨BB, hBB⟩ : ∃ BB, B ++ [j] = BB := ⟨_, rfl⟩
            obtain ⟨PP, hPP⟩ : ∃ PP, P ++ [rid T'] = PP := ⟨_, rfl⟩
            have hal := HRD.out.along (.stop HCJ.out)
            have hpx := HPX.out
            have hfx := HFX.out
            rw [hBB] at hal hpx
            rw [hPP] at hal hfx
            have hbyte := hal.byte hmx HI.out.sh
            obtain ⟨pb2, po2, pc2, rfl, hpl, hpw, hpcell⟩ := hpx.cell
            have HPC := Lib.hid hpcell
            have HAL := Lib.hid hal
            have HFX2 := Lib.hid hfx
            have HBYTE := Lib.hid hbyte
            have hBl : BB.length ≤ 1000000000001 := by have := hal.len.2; omega
            have hBl1 : 1 ≤ BB.length := hal.len.1
            have c2 : wp.cell? ⟨t, 2, none⟩ = some (.pointer (some ⟨rid T, 0, none⟩)) := (HB.out.chg hcX (fun b _ hm h => HOUT.out b hm h)).c2
            have tlp : t < wp.heap.size := World.block_lt_of_cell? wp _ c2
            have hszX := hcX.size
            clear hpx hfx hpcell hal hbyte hBB hPP
            go_wp2_with (refine wpList_append_ran (by rfl) _ _ _ _ (by rfl) u7 (.slice (some ⟨w5.heap.size, 0, none⟩) 1 1) (by rfl) (by rfl) _ _ HRP.out ?_)
            refine name_world (fun wy => Chg (fun _ _ => False) wp wy ∧ wp.heap.size + 1 ≤ wy.heap.size ∧ wy.heap[wp.heap.size]? = some (.cells #[.bool false, .bool false, .bool false, .bool false, .bool false, .bool false, .bool false, .bool false, .int .u8 0, .int .u8 0, .int .u8 0, .int .u8 0, .int .u8 0, .int .u8 0, .int .u8 0, .int .u8 0] 110 (0, 0))) ⟨(Chg.refl _ _).alloc _, by simp, ha_at _ _ rfl⟩ ?_
            rintro wy ⟨hcy, hzy, hby⟩
            have HHB0 : Hid (HintB wp.heap.size wy) := Lib.hid ⟨_, hby, ⟨rfl, fun o ho => by
              match o, ho with
              | 0, _ => exact ⟨_, rfl⟩
              | 1, _ => exact ⟨_, rfl⟩
              | 2, _ => exact ⟨_, rfl⟩
              | 3, _ => exact ⟨_, rfl⟩
              | 4, _ => exact ⟨_, rfl⟩
              | 5, _ => exact ⟨_, rfl⟩
              | 6, _ => exact ⟨_, rfl⟩
              | 7, _ => exact ⟨_, rfl⟩, fun o ho => by
              match o, ho with
              | 0, _ => exact ⟨0, by omega, by omega, rfl⟩
              | 1, _ => exact ⟨0, by omega, by omega, rfl⟩
              | 2, _ => exact ⟨0, by omega, by omega, rfl⟩
              | 3, _ => exact ⟨0, by omega, by omega, rfl⟩
              | 4, _ => exact ⟨0, by omega, by omega, rfl⟩
              | 5, _ => exact ⟨0, by omega, by omega, rfl⟩
              | 6, _ => exact ⟨0, by omega, by omega, rfl⟩
              | 7, _ => exact ⟨0, by omega, by omega, rfl⟩⟩⟩
            have hcXy := hcX.trans (hcy.mono (B := fun b _ => F b) (fun _ _ _ h => h.elim))
            clear hby c2
            go_loopw [9, 12] (fun nv iv wr => ∃ (j : Nat) (B2 P2 : List Nat), iv = .int .i64 j ∧ BB.drop j = B2 ∧ j ≤ BB.length ∧ Hid (HintB wp.heap.size wr) ∧ Fam (parM k) wr F (bmp H P2 (-1)) ∧ ((B2 = [] ∧ P2 = []) ∨ ∃ (h2 : Nat) (T2 : BT (It ord) h2), nv = .pointer (some ⟨rid T2, 0, none⟩) ∧ Along h2 T2 B2 P2 ∧ IsT H h2 T2 ∧ Sh mn mx h2 T2 ∧ (ids h2 T2).Nodup ∧ (toL h2 T2).length ≤ 1000000000000) ∧ Chg (fun b _ => F b ∨ b = wp.heap.size) wy wr) (fun _ iv _ => BB.length - (intOf iv).toNat)
            case atStart => exact ⟨0, BB, PP, rfl, rfl, Nat.zero_le _, HHB0, HFX2.out.chg hcy (fun _ _ _ h => h), .inr ⟨h, T, rfl, HAL.out, HI.out.isT, HI.out.sh, HI.out.nd, hsz⟩, Chg.refl _ _⟩
            case round =>
              obtain ⟨j, B2, P2, rfl, hdr, hj, HHB, hfm, hwh, hcw⟩ := hrel
              have hnF : ∀ b, F b → b < w.heap.size := HFL.out
              rcases hwh with ⟨rfl, rfl⟩ | ⟨h2, T2, rfl, hal, hT2, hs2, hnd2, hbg2⟩
              · skip
                obtain rfl : j = BB.length := by have := congrArg List.length hdr; simp at this; omega
                rw [bmp_nil] at hfm
                have hszy := hcw.size
                have hcr : Chg (fun b _ => F b) w wr := hcXy.trans' hcw (fun _ _ _ h => h) (fun b o hb h => h.elim id (fun e => by omega))
                have hMX : MapIn k mn mx wr F t (toL h T) := .inr ⟨H, h, T, ⟨hfm, HI.out.map.chg hcr (fun b _ hm h => HOUT.out b hm h), HI.out.out, HI.out.isT, HI.out.nd, HI.out.sh, HI.out.srt, HI.out.big, HI.out.m3, HI.out.m1000, HI.out.mh, HI.out.mh2⟩, HB.out.chg hcr (fun b _ hm h => HOUT.out b hm h), rfl, h1⟩
                have hdel := deleteHint_any (hv := some wp.heap.size) y hMX hmn (fun b e => by obtain rfl := Option.some.inj e; exact HHB.out) (fun b e hf => by obtain rfl := Option.some.inj e; have := HFL.out _ hf; omega) (fun b e hm => by obtain rfl := Option.some.inj e; have := HOL.out _ hm; omega) hsz
                unfold aggM hintV at hdel
                simp only [Option.map_some] at hdel
                have HDEL := Lib.hid hdel
                have hlx := heap_lt HBX.out
                have hlx2 := heap_lt HRX.out
                have hbx : wr.heap[w1.heap.size + 1]? = some (.cells #[.int .i64 y.1, .int .i64 y.2] 30 (0, 0)) := by
                  rw [hcw.block (Nat.lt_of_lt_of_le hlx hcy.size) (fun _ h => by rcases h with h | h; have := HFL.out _ h; omega; omega), hcy.block hlx (fun _ h => h)]; exact HBX.out
                have hbr : wr.heap[w.heap.size]? = some (.cells #[.int .i64 0, .int .i64 0] 30 (0, 0)) := by
                  rw [hcw.block (Nat.lt_of_lt_of_le hlx2 hcy.size) (fun _ h => by rcases h with h | h; have := HFL.out _ h; omega; omega), hcy.block hlx2 (fun _ h => h)]; exact HRX.out
                have r0 := cell_of_block hbx 0
                have r1 := cell_of_block hbx 1
                simp only [List.getElem?_toArray, List.getElem?_cons_zero, List.getElem?_cons_succ] at r0 r1
                have HRR := Lib.hid hbr
                have hnl : ¬ (BB.length : Int) < (BB.length : Int) := by omega
                clear hbx hbr hMX hdel hfm hdr
                go_wp2_with fail
                refine HDEL.out.mono ?_
                rintro e wd ⟨hret, F', hMd, hcd, hFd, _⟩
                have hy : fndL ltM y (toL h T) = some y := fnd_mem HI.out.srt (List.mem_of_getElem? HIY.out)
                have he : e = .returned (.tuple #[.agg #[.int .i64 y.1, .int .i64 y.2], .bool true]) := by
                  rcases hret with ⟨z, hz, e1⟩ | ⟨hz, _⟩
                  · rw [hy] at hz
                    obtain rfl := Option.some.inj hz
                    exact e1
                  · rw [hy] at hz; cases hz
                subst he
                rw [delL_at HI.out.srt HIY.out] at hMd
                have hbrd : wd.heap[w.heap.size]? = some (.cells #[.int .i64 0, .int .i64 0] 30 (0, 0)) := by
                  rw [hcd.block (heap_lt HRR.out) (fun _ h => by
                    rcases h with (h | h) | h
                    · have := HFL.out _ h; omega
                    · omega
                    · have := Option.some.inj h; omega)]
                  exact HRR.out
                have pf0 := frozen_of_block hbrd 0
                have pf1 := frozen_of_block hbrd 1
                have p0 := cell_of_block hbrd 0
                have p1 := cell_of_block hbrd 1
                simp only [List.getElem?_toArray, List.getElem?_cons_zero, List.getElem?_cons_succ] at p0 p1
                have HRD2 := Lib.hid hbrd
                have HMD := Lib.hid hMd
                have hszd := hcd.size
                have hszr2 := hcr.size
                clear hbrd hMd hret r0 r1 hy
                go_wp2_with fail
                refine name_prop (fun wl => Chg (fun b _ => b = w.heap.size) wd wl ∧ wl.heap[w.heap.size]? = some (.cells #[.int .i64 y.1, .int .i64 y.2] 30 (0, 0))) ⟨?_, blk2 HRD2.out _ _⟩ ?_
                · repeat (first | refine Chg.drew ?_ | refine Chg.drewN ?_ _ | refine Chg.setCell ?_ (.inl rfl) _ | exact Chg.refl _ _)
                clear p0 p1 pf0 pf1
                rintro wl ⟨hcl2, hbl2⟩
                have p0 := cell_of_block hbl2 0
                have p1 := cell_of_block hbl2 1
                simp only [List.getElem?_toArray, List.getElem?_cons_zero, List.getElem?_cons_succ] at p0 p1
                try simp only [Exit.noGoto_ret]
                refine bodyPost_ret (v := .tuple #[.agg #[.int .i64 y.1, .int .i64 y.2], .bool true]) (by simp [results, Try.results63, go_sem, p0, p1]) rfl ?_
                refine ⟨rfl, F', HMD.out.chgA hcl2 (fun b _ hb e => ?_) (fun b _ hb e => by have := HOL.out b hb; omega), ?_, fun b hb => ?_⟩
                · rcases hFd b hb with h | h
                  · have := HFL.out _ h; omega
                  · omega
                · refine ((hcr.mono (B := fun b _ => F b ∨ b = t) (fun _ _ _ h => .inl h)).trans' hcd (B := fun b _ => F b ∨ b = t) (fun _ _ _ h => h) (fun b o hb h => ?_)).trans' hcl2 (fun _ _ _ h => h) (fun b o hb e => by omega)
                  rcases h with h | h
                  · exact h
                  · have := Option.some.inj h; omega
                · rcases hFd b hb with h | h
                  · exact .inl h
                  · exact .inr (by omega)
              · skip
                cases hal with
                | leaf T3 jj hj3 =>
                  have hjl : j < BB.length := by have := congrArg List.length hdr; simp at this; omega
                  have hBj : BB[j]? = some jj := by have := congrArg (fun l => l[0]?) hdr; simpa using this
                  have hdn : BB.drop (j + 1) = [] := by have := congrArg List.tail hdr; simpa using this
                  have hjb := HBYTE.out jj (List.mem_of_getElem? hBj)
                  have pj := HPC.out j jj hBj
                  have hpbl : pb2 < wp.heap.size := World.block_lt_of_cell? wp _ pj
                  have hpA : ¬ (F pb2 ∨ pb2 = wp.heap.size) := fun h => by
                    rcases h with h | h
                    · have := HFL.out pb2 h; omega
                    · omega
                  replace pj := hcw.cell hpA (hcy.cell (fun h => h) pj)
                  obtain ⟨hc, hbc, hHC⟩ := HHB.out
                  have hrec : bmp H (rid T3 :: []) (-1) (rid T3) = some { recOf (0) T3 with cnt := (recOf (0) T3).cnt + -1 } := bmp_in List.mem_cons_self hT2.root
                  obtain ⟨ln, hnn⟩ := hfm.node hrec
                  have n1 : wr.cell? ⟨rid T3, 1, none⟩ = some (.int .i64 ((recOf (0) T3).cnt + -1)) := hnn.c1
                  rw [recOf_cnt] at n1
                  replace n1 : wr.cell? ⟨rid T3, 1, none⟩ = some (.int .i64 (((toL (0) T3).length : Int) - 1)) := n1
                  have fz := hnn.fz 1
                  have hrl := HFL.out _ (hfm.mem hrec)
                  have hnh : ¬ rid T3 = wp.heap.size := by omega
                  have hnh' : ¬ wp.heap.size = rid T3 := by omega
                  have s1 : IntKind.i64.wrap (((toL (0) T3).length : Int) - 1 + 1) = ((toL (0) T3).length : Int) := by rw [IntWalk.i64_in _ (by omega)]; omega
                  have s2 : ((toL (0) T3).length : Int) - 1 + 1 = ((toL (0) T3).length : Int) := by omega
                  have hrcs : ({ recOf (0) T3 with cnt := ((toL (0) T3).length : Int) } : NodeR (It ord)) = recOf (0) T3 := by rw [← recOf_cnt]
                  have hback : upd (bmp H (rid T3 :: []) (-1)) (rid T3) { recOf (0) T3 with cnt := ((toL (0) T3).length : Int) } = bmp H ([]) (-1) := by rw [hrcs]; exact bmp_cons List.not_mem_nil hT2.root
                  have j0 : (0 : Int) ≤ (j : Int) := by omega
                  have j1 : (j : Int) < (BB.length : Int) := by omega
                  have b0 : (0 : Int) ≤ (jj : Int) := by omega
                  have HBJ := Lib.hid hBj
                  have HDN := Lib.hid hdn
                  have HREC := Lib.hid hrec
                  have HBACK := Lib.hid hback
                  have HFM := Lib.hid hfm
                  have HBC := Lib.hid hbc
                  have HHC := Lib.hid hHC
                  clear hBj hdn hrec hback hfm hdr hnn hrcs
                  have hfin : ∀ wx, Chg (fun b _ => b = wp.heap.size) wr wx → HintB wp.heap.size wx → HintB wp.heap.size (wx.setCell ⟨rid T3, 1, none⟩ (.int .i64 ((toL (0) T3).length : Int))) ∧ Fam (parM k) (wx.setCell ⟨rid T3, 1, none⟩ (.int .i64 ((toL (0) T3).length : Int))) F (bmp H ([]) (-1)) ∧ Chg (fun b _ => F b ∨ b = wp.heap.size) wr (wx.setCell ⟨rid T3, 1, none⟩ (.int .i64 ((toL (0) T3).length : Int))) := by
                    intro wx hcx hhx
                    have h1 := (HFM.out.chg hcx (fun b o hb e => by have := HFL.out _ hb; omega)).setCnt HREC.out ((toL (0) T3).length : Int)
                    rw [HBACK.out] at h1
                    exact ⟨hhx.chg h1.2 (fun o hf => by have := HFL.out _ hf; omega), h1.1, (hcx.mono (fun _ _ _ h => .inr h)).trans (h1.2.mono (fun _ _ _ h => .inl h))⟩
                  have HFIN := Lib.hid hfin
                  clear hfin
                  by_cases hj8 : j < 8
                  · skip
                    obtain ⟨bu, hbu⟩ := HHC.out.used j hj8
                    obtain ⟨z, hz0, hz1, hz⟩ := HHC.out.path j hj8
                    have cu := cell_of_block hbc j
                    rw [hbu] at cu
                    have cp := cell_of_block hbc (8 + j)
                    rw [hz] at cp
                    have fu := frozen_of_block hbc j
                    have fp := frozen_of_block hbc (8 + j)
                    have d8 : (j : Int) < 8 := by omega
                    clear hbu hz hbc hHC
                    go_wp2_with fail
                    try rw [s2]
                    refine name_calls (fun wx => HintB wp.heap.size wx ∧ Fam (parM k) wx F (bmp H ([]) (-1)) ∧ Chg (fun b _ => F b ∨ b = wp.heap.size) wr wx) (HFIN.out _ (((Chg.refl _ _).setCell (.inl rfl) _).setCell (.inl rfl) _) ⟨_, hs_same (hs_same HBC.out _) _, (HHC.out.setPath hj8 (by omega) (by omega)).setUsed hj8 true⟩) ?_
                    rintro wx ⟨hhx, hfx, hcx⟩
                    obtain ⟨lx, hnx⟩ := hfx.node (show bmp H [] (-1) (rid T3) = some (recOf 0 T3) from by rw [bmp_nil]; exact hT2.root)
                    have n3 := hnx.c3n rfl
                    clear hnx n1 fz s1 s2 pj
                    refine (leaf_any _ none _ n3).mono ?_
                    rintro e w' ⟨rfl, rfl⟩
                    go_wp2_with fail
                    go_roundw
                    case rel => exact ⟨j + 1, [], [], by go_num, HDN.out, by omega, Lib.hid hhx, hfx, .inl ⟨rfl, rfl⟩, hcw.trans hcx⟩
                    case measure => simp [intOf]; omega
                  · skip
                    have d9 : ¬ (j : Int) < 8 := by omega
                    clear hbc hHC
                    go_wp2_with fail
                    try rw [s2]
                    refine name_calls (fun wx => HintB wp.heap.size wx ∧ Fam (parM k) wx F (bmp H ([]) (-1)) ∧ Chg (fun b _ => F b ∨ b = wp.heap.size) wr wx) (HFIN.out _ (Chg.refl _ _) ⟨_, HBC.out, HHC.out⟩) ?_
                    rintro wx ⟨hhx, hfx, hcx⟩
                    obtain ⟨lx, hnx⟩ := hfx.node (show bmp H [] (-1) (rid T3) = some (recOf 0 T3) from by rw [bmp_nil]; exact hT2.root)
                    have n3 := hnx.c3n rfl
                    clear hnx n1 fz s1 s2 pj
                    refine (leaf_any _ none _ n3).mono ?_
                    rintro e w' ⟨rfl, rfl⟩
                    go_wp2_with fail
                    go_roundw
                    case rel => exact ⟨j + 1, [], [], by go_num, HDN.out, by omega, Lib.hid hhx, hfx, .inl ⟨rfl, rfl⟩, hcw.trans hcx⟩
                    case measure => simp [intOf]; omega
                | @stop h3 T3 jj c hc3 =>
                  have hjl : j < BB.length := by have := congrArg List.length hdr; simp at this; omega
                  have hBj : BB[j]? = some jj := by have := congrArg (fun l => l[0]?) hdr; simpa using this
                  have hdn : BB.drop (j + 1) = [] := by have := congrArg List.tail hdr; simpa using this
                  have hjb := HBYTE.out jj (List.mem_of_getElem? hBj)
                  have pj := HPC.out j jj hBj
                  have hpbl : pb2 < wp.heap.size := World.block_lt_of_cell? wp _ pj
                  have hpA : ¬ (F pb2 ∨ pb2 = wp.heap.size) := fun h => by
                    rcases h with h | h
                    · have := HFL.out pb2 h; omega
                    · omega
                  replace pj := hcw.cell hpA (hcy.cell (fun h => h) pj)
                  obtain ⟨hc, hbc, hHC⟩ := HHB.out
                  have hrec : bmp H (rid T3 :: []) (-1) (rid T3) = some { recOf (h3 + 1) T3 with cnt := (recOf (h3 + 1) T3).cnt + -1 } := bmp_in List.mem_cons_self hT2.root
                  obtain ⟨ln, hnn⟩ := hfm.node hrec
                  have n1 : wr.cell? ⟨rid T3, 1, none⟩ = some (.int .i64 ((recOf (h3 + 1) T3).cnt + -1)) := hnn.c1
                  rw [recOf_cnt] at n1
                  replace n1 : wr.cell? ⟨rid T3, 1, none⟩ = some (.int .i64 (((toL (h3 + 1) T3).length : Int) - 1)) := n1
                  have fz := hnn.fz 1
                  have hrl := HFL.out _ (hfm.mem hrec)
                  have hnh : ¬ rid T3 = wp.heap.size := by omega
                  have hnh' : ¬ wp.heap.size = rid T3 := by omega
                  have s1 : IntKind.i64.wrap (((toL (h3 + 1) T3).length : Int) - 1 + 1) = ((toL (h3 + 1) T3).length : Int) := by rw [IntWalk.i64_in _ (by omega)]; omega
                  have s2 : ((toL (h3 + 1) T3).length : Int) - 1 + 1 = ((toL (h3 + 1) T3).length : Int) := by omega
                  have hrcs : ({ recOf (h3 + 1) T3 with cnt := ((toL (h3 + 1) T3).length : Int) } : NodeR (It ord)) = recOf (h3 + 1) T3 := by rw [← recOf_cnt]
                  have hback : upd (bmp H (rid T3 :: []) (-1)) (rid T3) { recOf (h3 + 1) T3 with cnt := ((toL (h3 + 1) T3).length : Int) } = bmp H ([]) (-1) := by rw [hrcs]; exact bmp_cons List.not_mem_nil hT2.root
                  have j0 : (0 : Int) ≤ (j : Int) := by omega
                  have j1 : (j : Int) < (BB.length : Int) := by omega
                  have b0 : (0 : Int) ≤ (jj : Int) := by omega
                  have HBJ := Lib.hid hBj
                  have HDN := Lib.hid hdn
                  have HREC := Lib.hid hrec
                  have HBACK := Lib.hid hback
                  have HFM := Lib.hid hfm
                  have HBC := Lib.hid hbc
                  have HHC := Lib.hid hHC
                  clear hBj hdn hrec hback hfm hdr hnn hrcs
                  have hfin : ∀ wx, Chg (fun b _ => b = wp.heap.size) wr wx → HintB wp.heap.size wx → HintB wp.heap.size (wx.setCell ⟨rid T3, 1, none⟩ (.int .i64 ((toL (h3 + 1) T3).length : Int))) ∧ Fam (parM k) (wx.setCell ⟨rid T3, 1, none⟩ (.int .i64 ((toL (h3 + 1) T3).length : Int))) F (bmp H ([]) (-1)) ∧ Chg (fun b _ => F b ∨ b = wp.heap.size) wr (wx.setCell ⟨rid T3, 1, none⟩ (.int .i64 ((toL (h3 + 1) T3).length : Int))) := by
                    intro wx hcx hhx
                    have h1 := (HFM.out.chg hcx (fun b o hb e => by have := HFL.out _ hb; omega)).setCnt HREC.out ((toL (h3 + 1) T3).length : Int)
                    rw [HBACK.out] at h1
                    exact ⟨hhx.chg h1.2 (fun o hf => by have := HFL.out _ hf; omega), h1.1, (hcx.mono (fun _ _ _ h => .inr h)).trans (h1.2.mono (fun _ _ _ h => .inl h))⟩
                  have HFIN := Lib.hid hfin
                  clear hfin
                  by_cases hj8 : j < 8
                  · skip
                    obtain ⟨bu, hbu⟩ := HHC.out.used j hj8
                    obtain ⟨z, hz0, hz1, hz⟩ := HHC.out.path j hj8
                    have cu := cell_of_block hbc j
                    rw [hbu] at cu
                    have cp := cell_of_block hbc (8 + j)
                    rw [hz] at cp
                    have fu := frozen_of_block hbc j
                    have fp := frozen_of_block hbc (8 + j)
                    have d8 : (j : Int) < 8 := by omega
                    clear hbu hz hbc hHC
                    go_wp2_with fail
                    try rw [s2]
                    refine name_calls (fun wx => HintB wp.heap.size wx ∧ Fam (parM k) wx F (bmp H ([]) (-1)) ∧ Chg (fun b _ => F b ∨ b = wp.heap.size) wr wx) (HFIN.out _ (((Chg.refl _ _).setCell (.inl rfl) _).setCell (.inl rfl) _) ⟨_, hs_same (hs_same HBC.out _) _, (HHC.out.setPath hj8 (by omega) (by omega)).setUsed hj8 true⟩) ?_
                    rintro wx ⟨hhx, hfx, hcx⟩
                    have hk : (recOf (h3 + 1) T3).kids = some (T3.2.2.map fun c => some (rid c)) := rfl
                    have hrr : bmp H ([]) (-1) (rid T3) = some (recOf (h3 + 1) T3) := (bmp_out List.not_mem_nil).trans hT2.root
                    obtain ⟨lx, hnx⟩ := hfx.node hrr
                    have n3 := hnx.c3s hk
                    have nc := hnx.cc hk
                    rw [List.length_map] at nc
                    have kc : wx.cell? ⟨lx.cb, lx.co + jj, none⟩ = some (.pointer (some ⟨rid c, 0, none⟩)) := hnx.kidc hk (j := jj) (o := some (rid c)) (by simp [hc3])
                    have hjk : jj < T3.2.2.length := (List.getElem?_eq_some_iff.1 hc3).1
                    have b1 : (jj : Int) < (T3.2.2.length : Int) := by omega
                    have pjx : wx.cell? ⟨pb2, po2 + j, none⟩ = some (.int .u8 (jj : Int)) := hcx.cell hpA pj
                    have HFXX := Lib.hid hfx
                    clear hnx n1 fz s1 s2 pj hfx
                    refine (leaf_any _ (some ⟨lx.cc, 0, none⟩) _ n3).mono ?_
                    rintro e w' ⟨rfl, rfl⟩
                    go_wp2_with fail
                    go_quiet (fail)
                    go_wp2_with fail
                    go_roundw
                    case rel => exact ⟨j + 1, [], [], by go_num, HDN.out, by omega, Lib.hid (hhx.chg ((Chg.refl (fun _ _ => False) _).drewN _) (fun _ h => h)), HFXX.out.chg ((Chg.refl (fun _ _ => False) _).drewN _) (fun _ _ _ h => h), .inl ⟨rfl, rfl⟩, hcw.trans (hcx.drewN _)⟩
                    case measure => simp [intOf]; omega
                  · skip
                    have d9 : ¬ (j : Int) < 8 := by omega
                    clear hbc hHC
                    go_wp2_with fail
                    try rw [s2]
                    refine name_calls (fun wx => HintB wp.heap.size wx ∧ Fam (parM k) wx F (bmp H ([]) (-1)) ∧ Chg (fun b _ => F b ∨ b = wp.heap.size) wr wx) (HFIN.out _ (Chg.refl _ _) ⟨_, HBC.out, HHC.out⟩) ?_
                    rintro wx ⟨hhx, hfx, hcx⟩
                    have hk : (recOf (h3 + 1) T3).kids = some (T3.2.2.map fun c => some (rid c)) := rfl
                    have hrr : bmp H ([]) (-1) (rid T3) = some (recOf (h3 + 1) T3) := (bmp_out List.not_mem_nil).trans hT2.root
                    obtain ⟨lx, hnx⟩ := hfx.node hrr
                    have n3 := hnx.c3s hk
                    have nc := hnx.cc hk
                    rw [List.length_map] at nc
                    have kc : wx.cell? ⟨lx.cb, lx.co + jj, none⟩ = some (.pointer (some ⟨rid c, 0, none⟩)) := hnx.kidc hk (j := jj) (o := some (rid c)) (by simp [hc3])
                    have hjk : jj < T3.2.2.length := (List.getElem?_eq_some_iff.1 hc3).1
                    have b1 : (jj : Int) < (T3.2.2.length : Int) := by omega
                    have pjx : wx.cell? ⟨pb2, po2 + j, none⟩ = some (.int .u8 (jj : Int)) := hcx.cell hpA pj
                    have HFXX := Lib.hid hfx
                    clear hnx n1 fz s1 s2 pj hfx
                    refine (leaf_any _ (some ⟨lx.cc, 0, none⟩) _ n3).mono ?_
                    rintro e w' ⟨rfl, rfl⟩
                    go_wp2_with fail
                    go_quiet (fail)
                    go_wp2_with fail
                    go_roundw
                    case rel => exact ⟨j + 1, [], [], by go_num, HDN.out, by omega, Lib.hid (hhx.chg ((Chg.refl (fun _ _ => False) _).drewN _) (fun _ h => h)), HFXX.out.chg ((Chg.refl (fun _ _ => False) _).drewN _) (fun _ _ _ h => h), .inl ⟨rfl, rfl⟩, hcw.trans (hcx.drewN _)⟩
                    case measure => simp [intOf]; omega
                | @step h3 T3 jj c B3 P3 hc3 hal3 =>
                  have hcm3 : c ∈ T3.2.2 := List.mem_of_getElem? hc3
                  have hni : rid T3 ∉ P3 := fun hm => nodup_root hnd2 hcm3 (hal3.sub _ hm)
                  have hbg3 : (toL h3 c).length ≤ 1000000000000 := Nat.le_trans (kid_le hs2 hcm3) hbg2
                  have hjl : j < BB.length := by have := congrArg List.length hdr; simp at this; omega
                  have hBj : BB[j]? = some jj := by have := congrArg (fun l => l[0]?) hdr; simpa using this
                  have hdn : BB.drop (j + 1) = B3 := by have := congrArg List.tail hdr; simpa using this
                  have hjb := HBYTE.out jj (List.mem_of_getElem? hBj)
                  have pj := HPC.out j jj hBj
                  have hpbl : pb2 < wp.heap.size := World.block_lt_of_cell? wp _ pj
                  have hpA : ¬ (F pb2 ∨ pb2 = wp.heap.size) := fun h => by
                    rcases h with h | h
                    · have := HFL.out pb2 h; omega
                    · omega
                  replace pj := hcw.cell hpA (hcy.cell (fun h => h) pj)
                  obtain ⟨hc, hbc, hHC⟩ := HHB.out
                  have hrec : bmp H (rid T3 :: P3) (-1) (rid T3) = some { recOf (h3 + 1) T3 with cnt := (recOf (h3 + 1) T3).cnt + -1 } := bmp_in List.mem_cons_self hT2.root
                  obtain ⟨ln, hnn⟩ := hfm.node hrec
                  have n1 : wr.cell? ⟨rid T3, 1, none⟩ = some (.int .i64 ((recOf (h3 + 1) T3).cnt + -1)) := hnn.c1
                  rw [recOf_cnt] at n1
                  replace n1 : wr.cell? ⟨rid T3, 1, none⟩ = some (.int .i64 (((toL (h3 + 1) T3).length : Int) - 1)) := n1
                  have fz := hnn.fz 1
                  have hrl := HFL.out _ (hfm.mem hrec)
                  have hnh : ¬ rid T3 = wp.heap.size := by omega
                  have hnh' : ¬ wp.heap.size = rid T3 := by omega
                  have s1 : IntKind.i64.wrap (((toL (h3 + 1) T3).length : Int) - 1 + 1) = ((toL (h3 + 1) T3).length : Int) := by rw [IntWalk.i64_in _ (by omega)]; omega
                  have s2 : ((toL (h3 + 1) T3).length : Int) - 1 + 1 = ((toL (h3 + 1) T3).length : Int) := by omega
                  have hrcs : ({ recOf (h3 + 1) T3 with cnt := ((toL (h3 + 1) T3).length : Int) } : NodeR (It ord)) = recOf (h3 + 1) T3 := by rw [← recOf_cnt]
                  have hback : upd (bmp H (rid T3 :: P3) (-1)) (rid T3) { recOf (h3 + 1) T3 with cnt := ((toL (h3 + 1) T3).length : Int) } = bmp H (P3) (-1) := by rw [hrcs]; exact bmp_cons hni hT2.root
                  have j0 : (0 : Int) ≤ (j : Int) := by omega
                  have j1 : (j : Int) < (BB.length : Int) := by omega
                  have b0 : (0 : Int) ≤ (jj : Int) := by omega
                  have HBJ := Lib.hid hBj
                  have HDN := Lib.hid hdn
                  have HREC := Lib.hid hrec
                  have HBACK := Lib.hid hback
                  have HFM := Lib.hid hfm
                  have HBC := Lib.hid hbc
                  have HHC := Lib.hid hHC
                  clear hBj hdn hrec hback hfm hdr hnn hrcs
                  have hfin : ∀ wx, Chg (fun b _ => b = wp.heap.size) wr wx → HintB wp.heap.size wx → HintB wp.heap.size (wx.setCell ⟨rid T3, 1, none⟩ (.int .i64 ((toL (h3 + 1) T3).length : Int))) ∧ Fam (parM k) (wx.setCell ⟨rid T3, 1, none⟩ (.int .i64 ((toL (h3 + 1) T3).length : Int))) F (bmp H (P3) (-1)) ∧ Chg (fun b _ => F b ∨ b = wp.heap.size) wr (wx.setCell ⟨rid T3, 1, none⟩ (.int .i64 ((toL (h3 + 1) T3).length : Int))) := by
                    intro wx hcx hhx
                    have h1 := (HFM.out.chg hcx (fun b o hb e => by have := HFL.out _ hb; omega)).setCnt HREC.out ((toL (h3 + 1) T3).length : Int)
                    rw [HBACK.out] at h1
                    exact ⟨hhx.chg h1.2 (fun o hf => by have := HFL.out _ hf; omega), h1.1, (hcx.mono (fun _ _ _ h => .inr h)).trans (h1.2.mono (fun _ _ _ h => .inl h))⟩
                  have HFIN := Lib.hid hfin
                  clear hfin
                  by_cases hj8 : j < 8
                  · skip
                    obtain ⟨bu, hbu⟩ := HHC.out.used j hj8
                    obtain ⟨z, hz0, hz1, hz⟩ := HHC.out.path j hj8
                    have cu := cell_of_block hbc j
                    rw [hbu] at cu
                    have cp := cell_of_block hbc (8 + j)
                    rw [hz] at cp
                    have fu := frozen_of_block hbc j
                    have fp := frozen_of_block hbc (8 + j)
                    have d8 : (j : Int) < 8 := by omega
                    clear hbu hz hbc hHC
                    go_wp2_with fail
                    try rw [s2]
                    refine name_calls (fun wx => HintB wp.heap.size wx ∧ Fam (parM k) wx F (bmp H (P3) (-1)) ∧ Chg (fun b _ => F b ∨ b = wp.heap.size) wr wx) (HFIN.out _ (((Chg.refl _ _).setCell (.inl rfl) _).setCell (.inl rfl) _) ⟨_, hs_same (hs_same HBC.out _) _, (HHC.out.setPath hj8 (by omega) (by omega)).setUsed hj8 true⟩) ?_
                    rintro wx ⟨hhx, hfx, hcx⟩
                    have hk : (recOf (h3 + 1) T3).kids = some (T3.2.2.map fun c => some (rid c)) := rfl
                    have hrr : bmp H (P3) (-1) (rid T3) = some (recOf (h3 + 1) T3) := (bmp_out hni).trans hT2.root
                    obtain ⟨lx, hnx⟩ := hfx.node hrr
                    have n3 := hnx.c3s hk
                    have nc := hnx.cc hk
                    rw [List.length_map] at nc
                    have kc : wx.cell? ⟨lx.cb, lx.co + jj, none⟩ = some (.pointer (some ⟨rid c, 0, none⟩)) := hnx.kidc hk (j := jj) (o := some (rid c)) (by simp [hc3])
                    have hjk : jj < T3.2.2.length := (List.getElem?_eq_some_iff.1 hc3).1
                    have b1 : (jj : Int) < (T3.2.2.length : Int) := by omega
                    have pjx : wx.cell? ⟨pb2, po2 + j, none⟩ = some (.int .u8 (jj : Int)) := hcx.cell hpA pj
                    have HFXX := Lib.hid hfx
                    clear hnx n1 fz s1 s2 pj hfx
                    refine (leaf_any _ (some ⟨lx.cc, 0, none⟩) _ n3).mono ?_
                    rintro e w' ⟨rfl, rfl⟩
                    go_wp2_with fail
                    go_quiet (fail)
                    go_wp2_with fail
                    go_roundw
                    case rel => exact ⟨j + 1, B3, P3, by go_num, HDN.out, by omega, Lib.hid (hhx.chg ((Chg.refl (fun _ _ => False) _).drewN _) (fun _ h => h)), HFXX.out.chg ((Chg.refl (fun _ _ => False) _).drewN _) (fun _ _ _ h => h), .inr ⟨h3, c, rfl, hal3, hT2.kid hcm3, (hs2.2.2 c hcm3).2, nodup_kid hnd2 hcm3, hbg3⟩, hcw.trans (hcx.drewN _)⟩
                    case measure => simp [intOf]; omega
                  · skip
                    have d9 : ¬ (j : Int) < 8 := by omega
                    clear hbc hHC
                    go_wp2_with fail
                    try rw [s2]
                    refine name_calls (fun wx => HintB wp.heap.size wx ∧ Fam (parM k) wx F (bmp H (P3) (-1)) ∧ Chg (fun b _ => F b ∨ b = wp.heap.size) wr wx) (HFIN.out _ (Chg.refl _ _) ⟨_, HBC.out, HHC.out⟩) ?_
                    rintro wx ⟨hhx, hfx, hcx⟩
                    have hk : (recOf (h3 + 1) T3).kids = some (T3.2.2.map fun c => some (rid c)) := rfl
                    have hrr : bmp H (P3) (-1) (rid T3) = some (recOf (h3 + 1) T3) := (bmp_out hni).trans hT2.root
                    obtain ⟨lx, hnx⟩ := hfx.node hrr
                    have n3 := hnx.c3s hk
                    have nc := hnx.cc hk
                    rw [List.length_map] at nc
                    have kc : wx.cell? ⟨lx.cb, lx.co + jj, none⟩ = some (.pointer (some ⟨rid c, 0, none⟩)) := hnx.kidc hk (j := jj) (o := some (rid c)) (by simp [hc3])
                    have hjk : jj < T3.2.2.length := (List.getElem?_eq_some_iff.1 hc3).1
                    have b1 : (jj : Int) < (T3.2.2.length : Int) := by omega
                    have pjx : wx.cell? ⟨pb2, po2 + j, none⟩ = some (.int .u8 (jj : Int)) := hcx.cell hpA pj
                    have HFXX := Lib.hid hfx
                    clear hnx n1 fz s1 s2 pj hfx
                    refine (leaf_any _ (some ⟨lx.cc, 0, none⟩) _ n3).mono ?_
                    rintro e w' ⟨rfl, rfl⟩
                    go_wp2_with fail
                    go_quiet (fail)
                    go_wp2_with fail
                    go_roundw
                    case rel => exact ⟨j + 1, B3, P3, by go_num, HDN.out, by omega, Lib.hid (hhx.chg ((Chg.refl (fun _ _ => False) _).drewN _) (fun _ h => h)), HFXX.out.chg ((Chg.refl (fun _ _ => False) _).drewN _) (fun _ _ _ h => h), .inr ⟨h3, c, rfl, hal3, hT2.kid hcm3, (hs2.2.2 c hcm3).2, nodup_kid hnd2 hcm3, hbg3⟩, hcw.trans (hcx.drewN _)⟩
                    case measure => simp [intOf]; omega
          · have hst := pre_step_len hx htj
            have t1 : ¬ (p : Int) < ((toL h' c).length : Int) := by omega
            have t2 : ((p : Int) == ((toL h' c).length : Int)) = false := by simp; omega
            obtain ⟨p', hp'⟩ : ∃ p', p = p' + ((toL h' c).length + 1) := ⟨p - ((toL h' c).length + 1), by omega⟩
            have HP' := Lib.hid hp'
            have HST := Lib.hid hst
            clear hp'
            clear hp htj hx hcj hpl hst
            go_wp2_with fail
            go_roundw
            case rel => exact ⟨j + 1, p', by go_num, by have := HP'.out; congr 1; omega, by omega, by have := HP'.out; rw [HST.out, ← HP.out]; omega, by first | rfl | trivial, by first | rfl | trivial⟩
            case measure => simp [intOf]; omega
        · obtain rfl : j = T'.2.1.length := by omega
          have jl : ¬ ((T'.2.1.length : Nat) : Int) < (T'.2.1.length : Int) := by omega
          have hend := inter_end HML.out htj
          have hlen2 : (inter T'.2.1 (T'.2.2.map (toL h'))).length = (pre (T'.2.1.take T'.2.1.length) ((T'.2.2.map (toL h')).take T'.2.1.length)).length + (toL h' c).length := by rw [hend]; simp
          have hql3 : q < (inter T'.2.1 (T'.2.2.map (toL h'))).length := hql
          have hpm : p < (toL h' c).length := by omega
          clear hp htj hcj hpl hend hlen2 hql3
          obtain ⟨pv', wp, hrp, hpp, hcp⟩ := path_push w4 u7 B w1.heap.size (w1.heap.size + 2) HPA.out (by omega) (T'.2.1.length) (by omega) 137
          have HRP := Lib.hid hrp
          have HPP := Lib.hid hpp
          have hcX : Chg (fun b _ => F b) w wp := hc04.trans' hcp (fun _ _ _ h => h) (fun b o hb e => by omega)
          have hcF : ∀ (b o : Nat), F b → ¬ (b = w1.heap.size ∨ w1.heap.size + 2 ≤ b) := fun b o hb e => by have := HFL.out _ hb; omega
          have hFp := HF4.out.chg hcp hcF
          obtain ⟨lq, hnq, hbq⟩ := hFp.nodeB HR4.out
          have kcp : wp.cell? ⟨lq.cb, lq.co + (T'.2.1.length), none⟩ = some (.pointer (some ⟨rid c, 0, none⟩)) := hnq.kidc hk (j := (T'.2.1.length)) (o := some (rid c)) (by simp [HCJ.out])
          have n3p := hnq.c3s hk
          have ncp := hnq.cc hk
          rw [List.length_map] at ncp
          obtain ⟨lc2, hnc2⟩ := hFp.node HRC.out
          have nc0p := hnc2.c0
          have cw0 := (HI.out.map.chg hcX (fun b _ hm h => HOUT.out b hm h)).c0
          have HBX := Lib.hid (show wp.heap[w1.heap.size + 1]? = some (.cells #[.int .i64 0, .int .i64 0] 30 (0, 0)) by rw [hcp.block (heap_lt HBI.out) (fun _ h => by omega)]; exact HBI.out)
          have HRX := Lib.hid (show wp.heap[w.heap.size]? = some (.cells #[.int .i64 0, .int .i64 0] 30 (0, 0)) by rw [hcp.block (heap_lt HB4.out) (fun _ h => by omega)]; exact HB4.out)
          have HFP := Lib.hid hFp
          have hcd2 : w4.heap.size ≤ wp.heap.size := hcp.size
          clear hrp hpp hnq hnc2 hFp
          go_wp2_with (refine wpList_append_ran (by rfl) _ _ _ _ (by rfl) u7 (.slice (some ⟨w4.heap.size, 0, none⟩) 1 1) (by rfl) (by rfl) _ _ HRP.out ?_)
          refine (isoLoad_any t (rid c) k _ _ _ kcp nc0p cw0).mono ?_
          rintro e w5 ⟨rfl, m, hw5⟩
          have hc5 : Chg (fun _ _ => False) wp w5 := by rw [hw5]; exact (Chg.refl _ _).drewN _
          clear hw5
          go_wp2_with fail
          go_roundw
          case rel => exact ⟨h', c, p, _, B ++ [(T'.2.1.length)], P ++ [rid T'], rfl, rfl, Lib.hid (HPP.out.chg hc5 (fun _ _ _ h => h)), HRD.out.snoc HCJ.out, by have := HP.out; omega, hpm, Nat.le_trans hmn (hs'.2.2 c hcm).1, by simp; omega, HFP.out.chg hc5 (fun _ _ _ h => h), hcX.trans (hc5.mono (fun _ _ _ h => h.elim)), Lib.hid (by rw [hc5.block (heap_lt HRX.out) (fun _ h => h)]; exact HRX.out), Lib.hid (by rw [hc5.block (heap_lt HBX.out) (fun _ h => h)]; exact HBX.out)⟩
          case measure => rw [m1, m2]; exact hgt2
end Go.Proofs.Ytgdchpinlboejaa
