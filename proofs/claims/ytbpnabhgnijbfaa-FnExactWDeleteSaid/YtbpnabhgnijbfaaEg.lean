/- delete over trees. -/
import Derived.Test.YtbpnabhgnijbfaaD1
import Derived.Test.YtbpnabhgnijbfaaD2
import Derived.Test.YtbpnabhgnijbfaaEe
import Derived.Test.YtbpnabhgnijbfaaEf
namespace Go.Proofs.Ytbpnabhgnijbfaa
set_option linter.unusedSimpArgs false
set_option linter.unusedVariables false
open Go.RowKit


/-- What a deletion leaves of a tree. -/
def DelT (mn mx : Nat) (H : Nat → Option (NodeR (ByteArray × Int))) (h : Nat) (T : BT (ByteArray × Int) h) (m : Option (ByteArray × Int)) (H' : Nat → Option (NodeR (ByteArray × Int))) (o : Option (ByteArray × Int)) : Prop :=
  (∃ T', DelIn mn mx H H' h T T' ∧ Gone ltM m (toL h T) (toL h T') o) ∧ (o = none → H' = H)

def DelMax (h : Nat) : Prop := ∀ (k : Int) (mn mx t : Nat) (pa : Addr) (z : ByteArray) (w : World) (F : Nat → Prop) (H : Nat → Option (NodeR (ByteArray × Int))) (T : BT (ByteArray × Int) h), TreeIn k mn mx w F H t h T → 1 ≤ mn → 1 ≤ (its T).length →
  w.cell? pa = some (.pointer (some ⟨rid T, 0, none⟩)) →
  Calls Try.prog 52 #[.pointer (some ⟨t, 0, none⟩), .pointer (some pa), .bool true, .string z] w (DelPost k F (DelT mn mx H h T none) w)

def DelKey (h : Nat) : Prop := ∀ (k : Int) (mn mx t : Nat) (pa : Addr) (x : ByteArray × Int) (w : World) (F : Nat → Prop) (H : Nat → Option (NodeR (ByteArray × Int))) (T : BT (ByteArray × Int) h), TreeIn k mn mx w F H t h T → 1 ≤ mn → 1 ≤ (its T).length →
  w.cell? pa = some (.pointer (some ⟨rid T, 0, none⟩)) →
  Calls Try.prog 52 #[.pointer (some ⟨t, 0, none⟩), .pointer (some pa), .bool false, .string x.1] w (DelPost k F (DelT mn mx H h T (some x)) w)

theorem DelPost.mono {k : Int} {F : Nat → Prop} {Z Z2 : (Nat → Option (NodeR (ByteArray × Int))) → Option (ByteArray × Int) → Prop} {w w' : World} {e : Ending} (h : DelPost k F Z w e w') (hz : ∀ H' o, Z H' o → Z2 H' o) : DelPost k F Z2 w e w' := by
  obtain ⟨H', o, h1, h2, h3, h5⟩ := h
  exact ⟨H', o, h1, h2, h3, hz _ _ h5⟩

theorem upd_upd {α : Type} (H : Nat → Option (NodeR α)) (n : Nat) (r s : NodeR α) : upd (upd H n r) n s = upd H n s := by
  funext m
  by_cases h : m = n
  · subst h; rw [upd_same, upd_same]
  · rw [upd_ne _ _ h, upd_ne _ _ h, upd_ne _ _ h]

theorem leaf_recs {H : Nat → Option (NodeR (ByteArray × Int))} {T : BT (ByteArray × Int) 0} {i : Nat} (hi : i < T.2.length) :
    upd H (rid T) ⟨(recOf 0 T).cnt - 1, (recOf 0 T).items.take i ++ (recOf 0 T).items.drop (i + 1), (recOf 0 T).kids⟩ = upd H (rid T) ⟨((T.2.take i ++ T.2.drop (i + 1)).length : Nat), T.2.take i ++ T.2.drop (i + 1), none⟩ := by
  congr 1
  show (⟨(T.2.length : Int) - 1, T.2.take i ++ T.2.drop (i + 1), none⟩ : NodeR (ByteArray × Int)) = _
  congr 1
  simp only [List.length_append, List.length_take, List.length_drop]
  omega

theorem delMax0 : DelMax 0 := by
  intro k mn mx t pa z w F H T hI hmn h1 hpa
  have hl : T.2.length ≤ mx := hI.sh
  have hm := hI.m1000
  have h1' : 1 ≤ T.2.length := h1
  obtain ⟨i, hil⟩ : ∃ i, T.2.length = i + 1 := ⟨T.2.length - 1, by omega⟩
  have hi : i < T.2.length := by omega
  obtain ⟨y, hy⟩ : ∃ y, T.2[i]? = some y := ⟨_, List.getElem?_eq_getElem hi⟩
  refine (delete_leaf_max (r := recOf 0 T) z hI.fam hI.map hI.out hI.isT.root hpa (by show T.2.length ≤ 1000; omega) rfl hy hil (by show (0 : Int) ≤ (T.2.length : Nat) ∧ ((T.2.length : Nat) : Int) ≤ _; omega)).mono fun e w' h => h.mono ?_
  rintro H' o ⟨rfl, rfl⟩
  rw [leaf_recs hi]
  refine ⟨⟨_, delIn_leaf hI.nd hI.sh hi, y, rfl, ?_⟩, fun e => by cases e⟩
  show T.2 = (T.2.take i ++ T.2.drop (i + 1)) ++ [y]
  have e0 : T.2.drop (i + 1) = [] := List.drop_eq_nil_of_le (by omega)
  have e := split_at hy
  rw [e0] at e ⊢
  rw [List.append_nil]
  exact e

theorem delKey0 : DelKey 0 := by
  intro k mn mx t pa x w F H T hI hmn h1 hpa
  have hl : T.2.length ≤ mx := hI.sh
  have hm := hI.m1000
  have h1' : 1 ≤ T.2.length := h1
  rcases pos_or_hit swoM (x := x) (its_srt hI.sh hI.srt) with ⟨i, hp⟩ | ⟨i, y, hy⟩
  · refine (delete_leaf_miss (r := recOf 0 T) hI.fam hI.map hI.isT.root hpa hI.srt (by show T.2.length ≤ 1000; omega) h1' rfl hp).mono fun e w' h => h.mono ?_
    rintro H' o ⟨rfl, rfl⟩
    refine ⟨⟨T, DelIn.same hI.isT hI.nd hI.sh, ?_⟩, fun _ => rfl⟩
    have e2 := (pos_gap swoM (xs := T.2) hp).2
    exact ⟨e2.symm, (delL_none e2).symm⟩
  · have hi := (List.getElem?_eq_some_iff.1 hy.at_).1
    have hi' : i < T.2.length := hi
    refine (delete_leaf_hit (r := recOf 0 T) hI.fam hI.map hI.out hI.isT.root hpa hI.srt (by show T.2.length ≤ 1000; omega) rfl hy (by show (0 : Int) ≤ (T.2.length : Nat) ∧ ((T.2.length : Nat) : Int) ≤ _; omega)).mono fun e w' h => h.mono ?_
    rintro H' o ⟨rfl, rfl⟩
    rw [leaf_recs hi']
    have e := split_at hy.at_
    have e1 : its T = T.2 := rfl
    rw [e1] at e
    have hA : ∀ a ∈ T.2.take i, ltM a x = true := fun a ha => by
      obtain ⟨j, hj, e⟩ := mem_take_get ha
      exact hy.left j a hj e
    refine ⟨⟨_, delIn_leaf hI.nd hI.sh hi', ?_, ?_⟩, fun e => by cases e⟩
    · show some y = fndL ltM x T.2
      rw [e]
      exact (fndL_hit hA hy.n1 hy.n2).symm
    · show T.2.take i ++ T.2.drop (i + 1) = delL ltM x T.2
      conv => rhs; rw [e]
      exact (delL_hit hA hy.n1 hy.n2).symm

/-- From the child's loss to the branch's: the record, and the rebalancing. -/
theorem kid_close {k : Int} {mn mx t h : Nat} {w : World} {F : Nat → Prop} {H H1 : Nat → Option (NodeR (ByteArray × Int))} {T : BT (ByteArray × Int) (h + 1)} (hI : TreeIn k mn mx w F H t (h + 1) T) (h1 : 1 ≤ (its T).length) {i : Nat} {c c' : BT (ByteArray × Int) h} {xs : List (ByteArray × Int)} (hc : T.2.2[i]? = some c)
    (hd : DelIn mn mx H H1 h c c') (hx : xs.length = T.2.1.length) (hcnt : (toL (h + 1) (cutK T xs i c')).length + 1 = (toL (h + 1) T).length) {m : Option (ByteArray × Int)} {y : ByteArray × Int} (hg : Gone ltM m (toL (h + 1) T) (toL (h + 1) (cutK T xs i c')) (some y)) :
    (∀ rc, H1 (rid c) = some rc → rc = recOf h c') ∧
    (mn ≤ (its c').length → DelT mn mx H (h + 1) T m (upd H1 (rid T) ⟨(recOf (h + 1) T).cnt - 1, xs, (recOf (h + 1) T).kids⟩) (some y)) ∧
    (∀ w1 F1, (its c').length < mn → Fam (parM k) w1 F1 (upd H1 (rid T) ⟨(recOf (h + 1) T).cnt - 1, xs, (recOf (h + 1) T).kids⟩) → MapAt k mn mx w1 t → (∀ b, MOwn k t b → ¬ F1 b) →
      Calls Try.prog 65 #[.pointer (some ⟨t, 0, none⟩), .pointer (some ⟨rid T, 0, none⟩), .int .i64 i] w1 (RebPost' k F1 (fun H'' => DelT mn mx H (h + 1) T m H'' (some y)) w1)) := by
  have hcm : c ∈ T.2.2 := List.mem_of_getElem? hc
  have q := cut1_of hI.isT hI.nd hI.sh hc hd hx
  have e : (⟨(recOf (h + 1) T).cnt - 1, xs, (recOf (h + 1) T).kids⟩ : NodeR (ByteArray × Int)) = ⟨((toL (h + 1) (cutK T xs i c')).length : Nat), xs, (recOf (h + 1) T).kids⟩ := by
    congr 1
    rw [recOf_cnt]; omega
  rw [e]
  refine ⟨fun rc hrc => ?_, fun hm => ⟨⟨_, q.fine hI.sh hm, hg⟩, fun e => by cases e⟩, fun w1 F1 hlt hF1 hM1 hout => ?_⟩
  · have := hd.isT.root
    rw [hd.rid', hrc] at this
    exact Option.some.inj this
  · have hcl := (hI.sh.2.2 c hcm).1
    have hl := hd.len
    have hxT : T.2.1.length ≤ mx := hI.sh.1
    have hbig := hI.big
    have hmh := hI.mh
    refine (reb_any (j := i) (T := cutK T xs i c') (c0 := c') hF1 hM1 hout q.isT q.nd (by rw [q.its']; exact h1) (by rw [q.its']; exact hxT) q.kids' q.sh q.others q.kid (by omega) (by omega) hI.m1000 (by omega)).mono ?_
    rintro e' w' ⟨rfl, H', T', f1, f2, f3⟩
    exact ⟨rfl, H', f1, f2, ⟨T', q.reb f3, by rw [f3.list]; exact hg⟩, fun e => by cases e⟩

theorem TreeIn.at {k : Int} {mn mx t h : Nat} {w w1 : World} {F : Nat → Prop} {H : Nat → Option (NodeR (ByteArray × Int))} {T : BT (ByteArray × Int) h} (hI : TreeIn k mn mx w F H t h T) (hf : Fam (parM k) w1 F H) (hm : MapAt k mn mx w1 t) : TreeIn k mn mx w1 F H t h T :=
  ⟨hf, hm, hI.out, hI.isT, hI.nd, hI.sh, hI.srt, hI.big, hI.m3, hI.m1000, hI.mh, hI.mh2⟩

/-- What the walk asks of the child's loss. -/
theorem kid_facts {k : Int} {mn mx t h : Nat} {w : World} {F : Nat → Prop} {H : Nat → Option (NodeR (ByteArray × Int))} {T : BT (ByteArray × Int) (h + 1)} (hI : TreeIn k mn mx w F H t (h + 1) T) {i : Nat} {c : BT (ByteArray × Int) h} (hc : T.2.2[i]? = some c) {m : Option (ByteArray × Int)} :
    ∀ H' o, DelT mn mx H h c m H' o → H' (rid T) = some (recOf (h + 1) T) ∧ ∃ rc, H' (rid c) = some rc ∧ rc.items.length ≤ 1000 := by
  rintro H' o ⟨⟨c', hd, hg⟩, _⟩
  have hcm : c ∈ T.2.2 := List.mem_of_getElem? hc
  have hm := hI.m1000
  refine ⟨(hd.rest _ (nodup_root hI.nd hcm)).trans hI.isT.root, recOf h c', ?_, ?_⟩
  · rw [← hd.rid']; exact hd.isT.root
  · rw [recOf_items]
    have := hd.sh.len
    omega

theorem kl_get {h : Nat} {T : BT (ByteArray × Int) (h + 1)} {i : Nat} {c : BT (ByteArray × Int) h} (hc : T.2.2[i]? = some c) : (T.2.2.map rid)[i]? = some (rid c) := by rw [List.getElem?_map, hc]; rfl

theorem recOf_kids' {h : Nat} (T : BT (ByteArray × Int) (h + 1)) : (recOf (h + 1) T).kids = some ((T.2.2.map rid).map some) := by
  show some (T.2.2.map fun c => some (rid c)) = _
  rw [List.map_map]; rfl

theorem delMaxS {h : Nat} (ih : DelMax h) : DelMax (h + 1) := by
  intro k mn mx t pa z w F H T hI hmn h1 hpa
  have hl : T.2.1.length ≤ mx := hI.sh.1
  have hm := hI.m1000
  have h1' : 1 ≤ T.2.1.length := h1
  have hkl : T.2.2.length = T.2.1.length + 1 := hI.sh.2.1
  have hbig := hI.big
  obtain ⟨j, hil⟩ : ∃ j, T.2.1.length = j + 1 := ⟨T.2.1.length - 1, by omega⟩
  obtain ⟨c, hc⟩ : ∃ c, T.2.2[j + 1]? = some c := ⟨_, List.getElem?_eq_getElem (by omega)⟩
  have hcm : c ∈ T.2.2 := List.mem_of_getElem? hc
  have hcn : rid c ≠ rid T := fun e => nodup_root hI.nd hcm (e ▸ rid_mem c)
  have hgone : ∀ c' o, Gone ltM none (toL h c) (toL h c') o → Gone ltM none (toL (h + 1) T) (toL (h + 1) (cutK T T.2.1 (j + 1) c')) o := by
    intro c' o hg
    rw [toL_at hI.sh hc, toL_cutK hI.sh hc rfl]
    have e : T.2.1.drop (j + 1) = [] := List.drop_eq_nil_of_le (by omega)
    rw [e]
    have e2 : ∀ us, post ([] : List (ByteArray × Int)) us = [] := fun us => by cases us <;> rfl
    rw [e2, List.append_nil, List.append_nil]
    exact hg.last
  refine delete_kid_max z (r := recOf (h + 1) T) (kl := T.2.2.map rid) (c := rid c) (j := j) (i := j + 1) hI.fam hI.map hI.out hI.isT.root hpa (by show T.2.1.length ≤ 1000; omega) hil rfl (recOf_kids' T) (kl_get hc) hcn (by rw [recOf_cnt]; omega)
    (DelT mn mx H h c none) (DelT mn mx H (h + 1) T none) (fun w1 pa1 hc1 hf1 hm1 hp1 => ih k mn mx t pa1 ⟨#[]⟩ w1 F H c (hI.kid hc1 hf1 hm1 hc) hmn (Nat.le_trans hmn (hI.sh.2.2 c hcm).1) hp1) (kid_facts hI hc) ?_ ?_ ?_
  · rintro H' ⟨⟨c', _, y, e, _⟩, _⟩
    cases e
  · rintro H' y rc ⟨⟨c', hd, hg⟩, _⟩ hrc hmr
    have hg2 := hgone c' _ hg
    obtain ⟨q1, q2, _⟩ := kid_close hI h1 hc hd rfl hg2.len hg2
    have e := q1 rc hrc
    refine q2 ?_
    rw [e, recOf_items] at hmr; exact hmr
  · rintro H' y rc w1 F1 ⟨⟨c', hd, hg⟩, _⟩ hrc hmr hF1 hM1 ho1
    have hg2 := hgone c' _ hg
    obtain ⟨q1, _, q3⟩ := kid_close hI h1 hc hd rfl hg2.len hg2
    have e := q1 rc hrc
    rw [e, recOf_items] at hmr
    exact q3 w1 F1 hmr hF1 hM1 ho1

theorem delMax : ∀ h, DelMax h
  | 0 => delMax0
  | h + 1 => delMaxS (delMax h)

theorem delKeyS {h : Nat} (ih : DelKey h) : DelKey (h + 1) := by
  intro k mn mx t pa x w F H T hI hmn h1 hpa
  have hl : T.2.1.length ≤ mx := hI.sh.1
  have hm := hI.m1000
  have h1' : 1 ≤ T.2.1.length := h1
  have hkl : T.2.2.length = T.2.1.length + 1 := hI.sh.2.1
  have hbig := hI.big
  have hits := its_srt hI.sh hI.srt
  have hcnt : 0 ≤ (recOf (h + 1) T).cnt ∧ (recOf (h + 1) T).cnt ≤ 100000000000000 := by rw [recOf_cnt]; omega
  rcases pos_or_hit swoM (x := x) hits with ⟨i, hp⟩ | ⟨i, y, hy⟩
  · have hip : i ≤ T.2.1.length := hp.le
    obtain ⟨c, hc⟩ : ∃ c, T.2.2[i]? = some c := ⟨_, List.getElem?_eq_getElem (by omega)⟩
    have hcm : c ∈ T.2.2 := List.mem_of_getElem? hc
    have hcn : rid c ≠ rid T := fun e => nodup_root hI.nd hcm (e ▸ rid_mem c)
    obtain ⟨hA, hC⟩ := around swoM hI.sh hc hI.srt hp
    have hgone : ∀ c' o, Gone ltM (some x) (toL h c) (toL h c') o → Gone ltM (some x) (toL (h + 1) T) (toL (h + 1) (cutK T T.2.1 i c')) o := by
      intro c' o hg
      rw [toL_at hI.sh hc, toL_cutK hI.sh hc rfl]
      exact hg.mid swoM hA hC
    refine delete_kid (r := recOf (h + 1) T) (kl := T.2.2.map rid) (c := rid c) (i := i) hI.fam hI.map hI.out hI.isT.root hpa hits (by show T.2.1.length ≤ 1000; omega) h1' (recOf_kids' T) (kl_get hc) hcn hp hcnt
      (DelT mn mx H h c (some x)) (DelT mn mx H (h + 1) T (some x)) (fun w1 pa1 hc1 hf1 hm1 hp1 => ?_) (kid_facts hI hc) ?_ ?_ ?_
    · exact ih k mn mx t pa1 x w1 F H c ((hI.at hf1 hm1).kid (Chg.refl _ _) hf1 hm1 hc) hmn (Nat.le_trans hmn (hI.sh.2.2 c hcm).1) hp1
    · rintro H' ⟨⟨c', hd2, hg⟩, he⟩
      obtain rfl := he rfl
      refine ⟨⟨T, DelIn.same hI.isT hI.nd hI.sh, ?_⟩, fun _ => rfl⟩
      have e : none = fndL ltM x (toL (h + 1) T) := (hgone c' none hg).1
      exact ⟨e, (delL_none e.symm).symm⟩
    · rintro H' y rc ⟨⟨c', hd2, hg⟩, _⟩ hrc hmr
      have hg2 := hgone c' _ hg
      obtain ⟨q1, q2, _⟩ := kid_close hI h1 hc hd2 rfl hg2.len hg2
      have e := q1 rc hrc
      refine q2 ?_
      rw [e, recOf_items] at hmr; exact hmr
    · rintro H' y rc w1 F1 ⟨⟨c', hd2, hg⟩, _⟩ hrc hmr hF1 hM1 ho1
      have hg2 := hgone c' _ hg
      obtain ⟨q1, _, q3⟩ := kid_close hI h1 hc hd2 rfl hg2.len hg2
      have e := q1 rc hrc
      rw [e, recOf_items] at hmr
      exact q3 w1 F1 hmr hF1 hM1 ho1
  · have hyi : T.2.1[i]? = some y := hy.at_
    have hip : i < T.2.1.length := (List.getElem?_eq_some_iff.1 hyi).1
    obtain ⟨c, hc⟩ : ∃ c, T.2.2[i]? = some c := ⟨_, List.getElem?_eq_getElem (by omega)⟩
    have hcm : c ∈ T.2.2 := List.mem_of_getElem? hc
    have hcn : rid c ≠ rid T := fun e => nodup_root hI.nd hcm (e ▸ rid_mem c)
    have hgone : ∀ c' z, Gone ltM none (toL h c) (toL h c') (some z) → Gone ltM (some x) (toL (h + 1) T) (toL (h + 1) (cutK T (T.2.1.set i z) i c')) (some y) := by
      intro c' z hg
      rw [toL_at hI.sh hc, toL_cutK hI.sh hc (by rw [List.length_set])]
      have e1 : (T.2.1.set i z).take i = T.2.1.take i := List.take_set_of_le (Nat.le_refl _)
      have e2 : (T.2.1.set i z).drop i = z :: T.2.1.drop (i + 1) := by
        rw [List.drop_eq_getElem_cons (by rw [List.length_set]; exact hip), List.drop_set_of_lt (Nat.lt_succ_self _)]
        simp
      have e3 : T.2.1.drop i = y :: T.2.1.drop (i + 1) := by
        obtain ⟨g1, g2⟩ := List.getElem?_eq_some_iff.1 hyi
        rw [List.drop_eq_getElem_cons g1, g2]
      obtain ⟨u, us, e4⟩ : ∃ u us, (T.2.2.map (toL h)).drop (i + 1) = u :: us := by
        have hlt : i + 1 < (T.2.2.map (toL h)).length := by rw [List.length_map]; omega
        exact ⟨_, _, List.drop_eq_getElem_cons hlt⟩
      rw [e1, e2, e3, e4]
      have hsrt := hI.srt
      rw [toL_at hI.sh hc, e3, e4] at hsrt
      show Gone ltM (some x) (_ ++ toL h c ++ y :: (u ++ post (T.2.1.drop (i + 1)) us)) (_ ++ toL h c' ++ z :: (u ++ post (T.2.1.drop (i + 1)) us)) (some y)
      refine Gone.hit (fun a ha => ?_) hy.n1 hy.n2 hg
      exact swoM.lt_of_lt_of_nlt ((List.pairwise_append.1 hsrt).2.2 a ha y List.mem_cons_self) hy.n2
    refine delete_kid_hit (r := recOf (h + 1) T) (kl := T.2.2.map rid) (c := rid c) (i := i) hI.fam hI.map hI.out hI.isT.root hpa hits (by show T.2.1.length ≤ 1000; omega) (recOf_kids' T) (kl_get hc) hcn hy hcnt
      (DelT mn mx H h c none) (DelT mn mx H (h + 1) T (some x)) (fun w1 pa1 hc1 hf1 hm1 hp1 => ?_) (kid_facts hI hc) ?_ ?_ ?_
    · exact delMax h k mn mx t pa1 ⟨#[]⟩ w1 F H c ((hI.at hf1 hm1).kid (Chg.refl _ _) hf1 hm1 hc) hmn (Nat.le_trans hmn (hI.sh.2.2 c hcm).1) hp1
    · rintro H' ⟨⟨c', _, y, e, _⟩, _⟩
      cases e
    · rintro H' z rc ⟨⟨c', hd2, hg⟩, _⟩ hrc hmr
      have hg2 := hgone c' _ hg
      obtain ⟨q1, q2, _⟩ := kid_close hI h1 hc hd2 (by rw [List.length_set]) hg2.len hg2
      have e := q1 rc hrc
      rw [upd_upd]
      refine q2 ?_
      rw [e, recOf_items] at hmr; exact hmr
    · rintro H' z rc w1 F1 ⟨⟨c', hd2, hg⟩, _⟩ hrc hmr hF1 hM1 ho1
      have hg2 := hgone c' _ hg
      obtain ⟨q1, _, q3⟩ := kid_close hI h1 hc hd2 (by rw [List.length_set]) hg2.len hg2
      have e := q1 rc hrc
      rw [e, recOf_items] at hmr
      rw [upd_upd] at hF1
      exact q3 w1 F1 hmr hF1 hM1 ho1

theorem delKey : ∀ h, DelKey h
  | 0 => delKey0
  | h + 1 => delKeyS (delKey h)
end Go.Proofs.Ytbpnabhgnijbfaa
