/- Roads down a tree by indices; an item taken out at the end of one. No program in sight. -/
import Derived.Test.YtjggkpmlffhjgaaD1
import Derived.Test.YtjggkpmlffhjgaaGa
import Derived.Test.YtjggkpmlffhjgaaLp
namespace Go.Proofs.Ytjggkpmlffhjgaa
set_option linter.unusedSimpArgs false
set_option linter.unusedVariables false

section
variable {α : Type}

/-- From a tree by indices down to a part of it: the indices, the roots passed, how many items lie ahead of the part. -/
inductive Road : (h : Nat) → BT α h → List Nat → List Nat → Nat → (h' : Nat) → BT α h' → Prop
  | nil {h : Nat} {T : BT α h} : Road h T [] [] 0 h T
  | snoc {h : Nat} {T : BT α h} {B P : List Nat} {off h' : Nat} {T' : BT α (h' + 1)} {j : Nat} {c : BT α h'} : Road h T B P off (h' + 1) T' → T'.2.2[j]? = some c →
      Road h T (B ++ [j]) (P ++ [rid T']) (off + (pre (T'.2.1.take j) ((T'.2.2.map (toL h')).take j)).length) h' c

/-- The way from a tree on by indices, up to a leaf or a branch; the roots passed. -/
inductive Along : (h : Nat) → BT α h → List Nat → List Nat → Prop
  | leaf (T : BT α 0) (j : Nat) : j < T.2.length → Along 0 T [j] [rid T]
  | stop {h : Nat} {T : BT α (h + 1)} {j : Nat} {c : BT α h} : T.2.2[j]? = some c → Along (h + 1) T [j] [rid T]
  | step {h : Nat} {T : BT α (h + 1)} {j : Nat} {c : BT α h} {B P : List Nat} : T.2.2[j]? = some c → Along h c B P → Along (h + 1) T (j :: B) (rid T :: P)

theorem Road.along {h : Nat} {T : BT α h} {B P : List Nat} {off h' : Nat} {T' : BT α h'} (hr : Road h T B P off h' T') : ∀ {B2 P2 : List Nat}, Along h' T' B2 P2 → Along h T (B ++ B2) (P ++ P2) := by
  induction hr with
  | nil => intro B2 P2 h; exact h
  | snoc hr hc ih =>
    intro B2 P2 h
    have := ih (Along.step hc h)
    simpa using this

theorem Along.sub {h : Nat} {T : BT α h} {B P : List Nat} (ha : Along h T B P) : ∀ a ∈ P, a ∈ ids h T := by
  induction ha with
  | leaf T j _ => intro a ha; rw [List.mem_singleton.1 ha]; exact rid_mem _
  | stop hc => intro a ha; rw [List.mem_singleton.1 ha]; exact rid_mem _
  | step hc _ ih =>
    intro a ha
    rcases List.mem_cons.1 ha with rfl | ha
    · exact rid_mem _
    · exact ids_kid (List.mem_of_getElem? hc) (ih a ha)

theorem Along.len {h : Nat} {T : BT α h} {B P : List Nat} (ha : Along h T B P) : 1 ≤ B.length ∧ B.length ≤ h + 1 := by
  induction ha with
  | leaf T j _ => exact ⟨Nat.le_refl _, Nat.le_refl _⟩
  | stop hc => exact ⟨Nat.le_refl _, by simp⟩
  | step hc _ ih => simp only [List.length_cons]; omega

theorem Along.byte {mn mx h : Nat} {T : BT α h} {B P : List Nat} (ha : Along h T B P) (hmx : mx ≤ 255) (hs : Sh mn mx h T) : ∀ j ∈ B, j ≤ 255 := by
  induction ha with
  | leaf T j hj =>
    intro q hq
    rw [List.mem_singleton.1 hq]
    have : T.2.length ≤ mx := hs
    omega
  | stop hc =>
    intro q hq
    rw [List.mem_singleton.1 hq]
    have h1 := hs.1
    have h2 := hs.2.1
    have h3 := (List.getElem?_eq_some_iff.1 hc).1
    omega
  | step hc _ ih =>
    intro q hq
    rcases List.mem_cons.1 hq with rfl | hq
    · have h1 := hs.1
      have h2 := hs.2.1
      have h3 := (List.getElem?_eq_some_iff.1 hc).1
      omega
    · exact ih (hs.2.2 _ (List.mem_of_getElem? hc)).2 q hq

/-- The roots passed lie outside of the part. -/
theorem Road.out {h : Nat} {T : BT α h} {B P : List Nat} {off h' : Nat} {T' : BT α h'} (hr : Road h T B P off h' T') (hd : (ids h T).Nodup) : (∀ a ∈ ids h' T', a ∈ ids h T) ∧ (ids h' T').Nodup ∧ (∀ a ∈ P, a ∉ ids h' T' ∧ a ∈ ids h T) := by
  induction hr with
  | nil => exact ⟨fun _ h => h, hd, fun _ h => by cases h⟩
  | snoc hr hc ih =>
    obtain ⟨h1, h2, h3⟩ := ih
    have hm := List.mem_of_getElem? hc
    refine ⟨fun a ha => h1 a (ids_kid hm ha), nodup_kid h2 hm, fun a ha => ?_⟩
    rcases List.mem_append.1 ha with ha | ha
    · exact ⟨fun hc2 => (h3 a ha).1 (ids_kid hm hc2), (h3 a ha).2⟩
    · rw [List.mem_singleton.1 ha]
      exact ⟨nodup_root h2 hm, h1 _ (rid_mem _)⟩

/-- An item at the end of a road is taken out of a part, which stays good enough: so it is out of the whole tree. -/
theorem Road.close {mn mx : Nat} {H : Nat → Option (NodeR α)} {h : Nat} {T : BT α h} {B P : List Nat} {off h' : Nat} {T' : BT α h'} (hr : Road h T B P off h' T') (hT : IsT H h T) (hd : (ids h T).Nodup) (hs : Sh mn mx h T) :
    IsT H h' T' ∧ Sh mn mx h' T' ∧ (P ≠ [] → mn ≤ (its T').length) ∧ (P = [] → (its T').length = (its T).length) ∧ ∃ A C, A.length = off ∧ toL h T = A ++ toL h' T' ++ C ∧
      ∀ H1 T'', DelIn mn mx H H1 h' T' T'' → (P ≠ [] → mn ≤ (its T'').length) → (toL h' T'').length + 1 = (toL h' T').length →
        ∃ Tf, DelIn mn mx H (bmp H1 P (-1)) h T Tf ∧ toL h Tf = A ++ toL h' T'' ++ C ∧ (P = [] → (its Tf).length = (its T'').length) ∧ (P ≠ [] → (its Tf).length = (its T).length) := by
  induction hr with
  | nil =>
    refine ⟨hT, hs, fun h => absurd rfl h, fun _ => rfl, [], [], rfl, by simp, fun H1 T'' hD _ _ => ⟨T'', by rw [bmp_nil]; exact hD, by simp, fun _ => rfl, fun h => absurd rfl h⟩⟩
  | @snoc B P off h' T' j c hr hc ih =>
    obtain ⟨hT', hs', hm', hn', A, C, hA, hL, hcl⟩ := ih
    obtain ⟨_, hd', hP⟩ := hr.out hd
    have hcm := List.mem_of_getElem? hc
    have htc : (T'.2.2.map (toL h'))[j]? = some (toL h' c) := by simp [hc]
    have hsp : toL (h' + 1) T' = pre (T'.2.1.take j) ((T'.2.2.map (toL h')).take j) ++ toL h' c ++ post (T'.2.1.drop j) ((T'.2.2.map (toL h')).drop (j + 1)) :=
      inter_split j T'.2.1 (T'.2.2.map (toL h')) (toL h' c) (by simpa using hs'.2.1) htc
    refine ⟨hT'.kid hcm, (hs'.2.2 c hcm).2, fun _ => (hs'.2.2 c hcm).1, fun h => by simp at h, A ++ pre (T'.2.1.take j) ((T'.2.2.map (toL h')).take j), post (T'.2.1.drop j) ((T'.2.2.map (toL h')).drop (j + 1)) ++ C, by rw [List.length_append, hA], by rw [hL, hsp]; simp, fun H1 c'' hD hm hln => ?_⟩
    have hmm : mn ≤ (its c'').length := hm (by simp)
    have hk := cut1_of hT' hd' hs' hc hD (xs := T'.2.1) rfl
    have hL2 := toL_cutK (xs := T'.2.1) (c' := c'') hs' hc rfl
    have hlen2 : (toL (h' + 1) (cutK T' T'.2.1 j c'')).length + 1 = (toL (h' + 1) T').length := by
      rw [hL2, hsp]
      simp only [List.length_append]; omega
    obtain ⟨Tf, g1, g2, g3, g4⟩ := hcl _ _ (hk.fine hs' hmm) (fun hp => by
      show mn ≤ T'.2.1.length
      exact hm' hp) hlen2
    refine ⟨Tf, ?_, ?_, fun h => by simp at h, fun _ => ?_⟩
    · have e : bmp (upd H1 (rid T') ⟨((toL (h' + 1) (cutK T' T'.2.1 j c'')).length : Nat), T'.2.1, (recOf (h' + 1) T').kids⟩) P (-1) = bmp H1 (P ++ [rid T']) (-1) := by
        have hr1 : H1 (rid T') = some (recOf (h' + 1) T') := by
          rw [hD.rest _ (nodup_root hd' hcm)]; exact hT'.root
        have hn : rid T' ∉ P := fun hp => (hP _ hp).1 (rid_mem _)
        funext m
        by_cases em : m = rid T'
        · subst em
          rw [bmp_out hn, upd_same, bmp_in (by simp) hr1]
          congr 1
          have hcnt : (recOf (h' + 1) T').cnt = ((toL (h' + 1) T').length : Int) := recOf_cnt _
          have : (recOf (h' + 1) T').cnt + -1 = (((toL (h' + 1) (cutK T' T'.2.1 j c'')).length : Nat) : Int) := by omega
          rw [this]; rfl
        · unfold bmp
          rw [upd_ne _ _ em]
          simp [em]
      rw [← e]; exact g1
    · rw [g2, hL2]; simp
    · by_cases hp : P = []
      · rw [g3 hp, ← hn' hp]; rfl
      · exact g4 hp
/-- At the root itself. -/
theorem Road.root {h : Nat} {T : BT α h} {B P : List Nat} {off h' : Nat} {T' : BT α h'} (hr : Road h T B P off h' T') : P = [] → (toL h T).length = (toL h' T').length := by
  cases hr with
  | nil => intro _; rfl
  | snoc _ _ => intro h; simp at h

theorem cut_mid (A X C : List α) (q : Nat) (hq : q < X.length) : A ++ (X.take q ++ X.drop (q + 1)) ++ C = (A ++ X ++ C).take (A.length + q) ++ (A ++ X ++ C).drop (A.length + q + 1) := by
  have e1 : (A ++ X ++ C).take (A.length + q) = A ++ X.take q := by
    rw [List.append_assoc, List.take_length_add_append, List.take_append_of_le_length (by omega)]
  have e2 : (A ++ X ++ C).drop (A.length + q + 1) = X.drop (q + 1) ++ C := by
    rw [List.append_assoc, Nat.add_assoc, List.drop_length_add_append, List.drop_append_of_le_length (by omega)]
  rw [e1, e2]; simp

/-- The counts along the road and the leaf less one item. -/
theorem leaf_fam {H : Nat → Option (NodeR α)} {P : List Nat} {T' : BT α 0} {q : Nat} (hT : IsT H 0 T') (hP : rid T' ∉ P) (hq : q < T'.2.length) :
    upd (bmp H (P ++ [rid T']) (-1)) (rid T') (⟨((T'.2.length : Nat) : Int) + -1, T'.2.take q ++ T'.2.drop (q + 1), none⟩ : NodeR α) = bmp (upd H (rid T') ⟨((T'.2.take q ++ T'.2.drop (q + 1)).length : Nat), T'.2.take q ++ T'.2.drop (q + 1), none⟩) P (-1) := by
  have hl : (T'.2.take q ++ T'.2.drop (q + 1)).length + 1 = T'.2.length := by simp; omega
  funext m
  by_cases em : m = rid T'
  · subst em
    rw [bmp_out hP, upd_same, upd_same]
    congr 2
    omega
  · rw [upd_ne _ _ em]
    unfold bmp
    rw [upd_ne _ _ em]
    simp [em]
end
end Go.Proofs.Ytjggkpmlffhjgaa
