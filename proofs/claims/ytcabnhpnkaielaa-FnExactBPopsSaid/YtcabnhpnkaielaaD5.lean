/- deleteHint. -/
import Derived.Test.YtcabnhpnkaielaaD1
import Derived.Test.YtcabnhpnkaielaaD2
import Derived.Test.YtcabnhpnkaielaaD4
namespace Go.Proofs.Ytcabnhpnkaielaa
set_option linter.unusedSimpArgs false
set_option linter.unusedVariables false
open Go.RowKit

variable {ord : List Int}

/-- What a deletion leaves of a tree. -/
def DelT (mn mx : Nat) (H : Nat → Option (NodeR (It ord))) (h : Nat) (T : BT (It ord) h) (m : Option (It ord)) (H' : Nat → Option (NodeR (It ord))) (o : Option (It ord)) : Prop :=
  (∃ T', DelIn mn mx H H' h T T' ∧ Gone ltM m (toL h T) (toL h T') o) ∧ (o = none → H' = H)

def DelMax (ord : List Int) (h : Nat) : Prop := ∀ (k : Kc ord) (mn mx t : Nat) (pa : Addr) (w : World) (F : Nat → Prop) (H : Nat → Option (NodeR (It ord))) (T : BT (It ord) h), TreeIn k mn mx w F H t h T → 1 ≤ mn → 1 ≤ (its T).length →
  w.cell? pa = some (.pointer (some ⟨rid T, 0, none⟩)) →
  Calls Try.prog 127 #[.pointer (some ⟨t, 0, none⟩), .pointer (some pa), .bool true, .nilIface, .pointer none, .int .i64 0] w (DelPost k F none (DelT mn mx H h T none) w)

def DelKey (ord : List Int) (h : Nat) : Prop := ∀ (k : Kc ord) (mn mx t d : Nat) (pa : Addr) (x : It ord) (w : World) (F : Nat → Prop) (H : Nat → Option (NodeR (It ord))) (hv : Option Nat) (T : BT (It ord) h), TreeIn k mn mx w F H t h T → 1 ≤ mn → 1 ≤ (its T).length →
  HintO hv w → (∀ b, hv = some b → ¬ F b) → (∀ b, hv = some b → ¬ MOwn k t b) → d + h ≤ 1000000000000 → w.cell? pa = some (.pointer (some ⟨rid T, 0, none⟩)) →
  Calls Try.prog 127 #[.pointer (some ⟨t, 0, none⟩), .pointer (some pa), .bool false, aggM x, hintV hv, .int .i64 d] w (DelPost k F hv (DelT mn mx H h T (some x)) w)

theorem DelPost.mono {k : Kc ord} {F : Nat → Prop} {hv : Option Nat} {Z Z2 : (Nat → Option (NodeR (It ord))) → Option (It ord) → Prop} {w w' : World} {e : Ending} (h : DelPost k F hv Z w e w') (hz : ∀ H' o, Z H' o → Z2 H' o) : DelPost k F hv Z2 w e w' := by
  obtain ⟨H', o, h1, h2, h3, h4, h5⟩ := h
  exact ⟨H', o, h1, h2, h3, h4, hz _ _ h5⟩

theorem upd_upd {α : Type} (H : Nat → Option (NodeR α)) (n : Nat) (r s : NodeR α) : upd (upd H n r) n s = upd H n s := by
  funext m
  by_cases h : m = n
  · subst h; rw [upd_same, upd_same]
  · rw [upd_ne _ _ h, upd_ne _ _ h, upd_ne _ _ h]

theorem leaf_recs {H : Nat → Option (NodeR (It ord))} {T : BT (It ord) 0} {i : Nat} (hi : i < T.2.length) :
    upd H (rid T) ⟨(recOf 0 T).cnt - 1, (recOf 0 T).items.take i ++ (recOf 0 T).items.drop (i + 1), (recOf 0 T).kids⟩ = upd H (rid T) ⟨((T.2.take i ++ T.2.drop (i + 1)).length : Nat), T.2.take i ++ T.2.drop (i + 1), none⟩ := by
  congr 1
  show (⟨(T.2.length : Int) - 1, T.2.take i ++ T.2.drop (i + 1), none⟩ : NodeR (It ord)) = _
  congr 1
  simp only [List.length_append, List.length_take, List.length_drop]
  omega

theorem delMax0 : DelMax ord 0 := by
  intro k mn mx t pa w F H T hI hmn h1 hpa
  have hl : T.2.length ≤ mx := hI.sh
  have hm := hI.m1000
  have h1' : 1 ≤ T.2.length := h1
  obtain ⟨i, hil⟩ : ∃ i, T.2.length = i + 1 := ⟨T.2.length - 1, by omega⟩
  have hi : i < T.2.length := by omega
  obtain ⟨y, hy⟩ : ∃ y, T.2[i]? = some y := ⟨_, List.getElem?_eq_getElem hi⟩
  refine (delete_leaf_max (r := recOf 0 T) hI.fam hI.map hI.out hI.isT.root hpa (by show T.2.length ≤ 1000; omega) rfl hy hil (by show (0 : Int) ≤ (T.2.length : Nat) ∧ ((T.2.length : Nat) : Int) ≤ _; omega)).mono fun e w' h => h.mono ?_
  rintro H' o ⟨rfl, rfl⟩
  rw [leaf_recs hi]
  refine ⟨⟨_, delIn_leaf hI.nd hI.sh hi, y, rfl, ?_⟩, fun e => by cases e⟩
  show T.2 = (T.2.take i ++ T.2.drop (i + 1)) ++ [y]
  have e0 : T.2.drop (i + 1) = [] := List.drop_eq_nil_of_le (by omega)
  have e := split_at hy
  rw [e0] at e ⊢
  rw [List.append_nil]
  exact e

theorem delKey0 : DelKey ord 0 := by
  intro k mn mx t d pa x w F H hv T hI hmn h1 hh hvF hvt hd hpa
  have hl : T.2.length ≤ mx := hI.sh
  have hm := hI.m1000
  have h1' : 1 ≤ T.2.length := h1
  rcases pos_or_hit swoM (x := x) (its_srt hI.sh hI.srt) with ⟨i, hp⟩ | ⟨i, y, hy⟩
  · refine (delete_leaf_miss (r := recOf 0 T) hI.fam hI.map hI.isT.root hpa hI.srt (by show T.2.length ≤ 1000; omega) h1' rfl hp hh hvF hvt (by omega)).mono fun e w' h => h.mono ?_
    rintro H' o ⟨rfl, rfl⟩
    refine ⟨⟨T, DelIn.same hI.isT hI.nd hI.sh, ?_⟩, fun _ => rfl⟩
    have e2 := (pos_gap swoM (xs := T.2) hp).2
    exact ⟨e2.symm, (delL_none e2).symm⟩
  · have hi := (List.getElem?_eq_some_iff.1 hy.at_).1
    have hi' : i < T.2.length := hi
    refine (delete_leaf_hit (r := recOf 0 T) hI.fam hI.map hI.out hI.isT.root hpa hI.srt (by show T.2.length ≤ 1000; omega) rfl hy (by show (0 : Int) ≤ (T.2.length : Nat) ∧ ((T.2.length : Nat) : Int) ≤ _; omega) hh hvF hvt (by omega)).mono fun e w' h => h.mono ?_
    rintro H' o ⟨rfl, rfl⟩
    rw [leaf_recs hi']
    have e := split_at hy.at_
    have e1 : its T = T.2 := rfl
    rw [e1] at e
    have hA : ∀ a ∈ T.2.take i, ltM a x = true := fun a ha => by
      obtain ⟨j, hj, e⟩ := mem_take_get ha
      exact hy.left j a hj e
    refine ⟨⟨_, delIn_leaf hI.nd hI.sh hi', ?_, ?_⟩, fun e => by cases e⟩
    · show some y = fndL ltM x T.2
      rw [e]
      exact (fndL_hit hA hy.n1 hy.n2).symm
    · show T.2.take i ++ T.2.drop (i + 1) = delL ltM x T.2
      conv => rhs; rw [e]
      exact (delL_hit hA hy.n1 hy.n2).symm

/-- From the child's loss to the branch's: the record, and the rebalancing. -/
theorem kid_close {k : Kc ord} {mn mx t h : Nat} {w : World} {F : Nat → Prop} {H H1 : Nat → Option (NodeR (It ord))} {T : BT (It ord) (h + 1)} (hI : TreeIn k mn mx w F H t (h + 1) T) (h1 : 1 ≤ (its T).length) {i : Nat} {c c' : BT (It ord) h} {xs : List (It ord)} (hc : T.2.2[i]? = some c)
    (hd : DelIn mn mx H H1 h c c') (hx : xs.length = T.2.1.length) (hcnt : (toL (h + 1) (cutK T xs i c')).length + 1 = (toL (h + 1) T).length) {m : Option (It ord)} {y : It ord} (hg : Gone ltM m (toL (h + 1) T) (toL (h + 1) (cutK T xs i c')) (some y)) :
    (∀ rc, H1 (rid c) = some rc → rc = recOf h c') ∧
    (mn ≤ (its c').length → DelT mn mx H (h + 1) T m (upd H1 (rid T) ⟨(recOf (h + 1) T).cnt - 1, xs, (recOf (h + 1) T).kids⟩) (some y)) ∧
    (∀ w1 F1, (its c').length < mn → Fam (parM k) w1 F1 (upd H1 (rid T) ⟨(recOf (h + 1) T).cnt - 1, xs, (recOf (h + 1) T).kids⟩) → MapAt k mn mx w1 t → (∀ b, MOwn k t b → ¬ F1 b) →
      Calls Try.prog 135 #[.pointer (some ⟨t, 0, none⟩), .pointer (some ⟨rid T, 0, none⟩), .int .i64 i] w1 (RebPost' k F1 (fun H'' => DelT mn mx H (h + 1) T m H'' (some y)) w1)) := by
  have hcm : c ∈ T.2.2 := List.mem_of_getElem? hc
  have q := cut1_of hI.isT hI.nd hI.sh hc hd hx
  have e : (⟨(recOf (h + 1) T).cnt - 1, xs, (recOf (h + 1) T).kids⟩ : NodeR (It ord)) = ⟨((toL (h + 1) (cutK T xs i c')).length : Nat), xs, (recOf (h + 1) T).kids⟩ := by
    congr 1
    rw [recOf_cnt]; omega
  rw [e]
  refine ⟨fun rc hrc => ?_, fun hm => ⟨⟨_, q.fine hI.sh hm, hg⟩, fun e => by cases e⟩, fun w1 F1 hlt hF1 hM1 hout => ?_⟩
  · have := hd.isT.root
    rw [hd.rid', hrc] at this
    exact Option.some.inj this
  · have hcl := (hI.sh.2.2 c hcm).1
    have hl := hd.len
    have hxT : T.2.1.length ≤ mx := hI.sh.1
    have hbig := hI.big
    have hmh := hI.mh
    refine (reb_any (j := i) (T := cutK T xs i c') (c0 := c') hF1 hM1 hout q.isT q.nd (by rw [q.its']; exact h1) (by rw [q.its']; exact hxT) q.kids' q.sh q.others q.kid (by omega) (by omega) hI.m1000 (by omega)).mono ?_
    rintro e' w' ⟨rfl, H', T', f1, f2, f3⟩
    exact ⟨rfl, H', f1, f2, ⟨T', q.reb f3, by rw [f3.list]; exact hg⟩, fun e => by cases e⟩

theorem TreeIn.at {k : Kc ord} {mn mx t h : Nat} {w w1 : World} {F : Nat → Prop} {H : Nat → Option (NodeR (It ord))} {T : BT (It ord) h} (hI : TreeIn k mn mx w F H t h T) (hf : Fam (parM k) w1 F H) (hm : MapAt k mn mx w1 t) : TreeIn k mn mx w1 F H t h T :=
  ⟨hf, hm, hI.out, hI.isT, hI.nd, hI.sh, hI.srt, hI.big, hI.m3, hI.m1000, hI.mh, hI.mh2⟩

/-- What the walk asks of the child's loss. -/
theorem kid_facts {k : Kc ord} {mn mx t h : Nat} {w : World} {F : Nat → Prop} {H : Nat → Option (NodeR (It ord))} {T : BT (It ord) (h + 1)} (hI : TreeIn k mn mx w F H t (h + 1) T) {i : Nat} {c : BT (It ord) h} (hc : T.2.2[i]? = some c) {m : Option (It ord)} :
    ∀ H' o, DelT mn mx H h c m H' o → H' (rid T) = some (recOf (h + 1) T) ∧ ∃ rc, H' (rid c) = some rc ∧ rc.items.length ≤ 1000 := by
  rintro H' o ⟨⟨c', hd, hg⟩, _⟩
  have hcm : c ∈ T.2.2 := List.mem_of_getElem? hc
  have hm := hI.m1000
  refine ⟨(hd.rest _ (nodup_root hI.nd hcm)).trans hI.isT.root, recOf h c', ?_, ?_⟩
  · rw [← hd.rid']; exact hd.isT.root
  · rw [recOf_items]
    have := hd.sh.len
    omega

theorem kl_get {h : Nat} {T : BT (It ord) (h + 1)} {i : Nat} {c : BT (It ord) h} (hc : T.2.2[i]? = some c) : (T.2.2.map rid)[i]? = some (rid c) := by rw [List.getElem?_map, hc]; rfl

theorem recOf_kids' {h : Nat} (T : BT (It ord) (h + 1)) : (recOf (h + 1) T).kids = some ((T.2.2.map rid).map some) := by
  show some (T.2.2.map fun c => some (rid c)) = _
  rw [List.map_map]; rfl

theorem delMaxS {h : Nat} (ih : DelMax ord h) : DelMax ord (h + 1) := by
  intro k mn mx t pa w F H T hI hmn h1 hpa
  have hl : T.2.1.length ≤ mx := hI.sh.1
  have hm := hI.m1000
  have h1' : 1 ≤ T.2.1.length := h1
  have hkl : T.2.2.length = T.2.1.length + 1 := hI.sh.2.1
  have hbig := hI.big
  obtain ⟨j, hil⟩ : ∃ j, T.2.1.length = j + 1 := ⟨T.2.1.length - 1, by omega⟩
  obtain ⟨c, hc⟩ : ∃ c, T.2.2[j + 1]? = some c := ⟨_, List.getElem?_eq_getElem (by omega)⟩
  have hcm : c ∈ T.2.2 := List.mem_of_getElem? hc
  have hcn : rid c ≠ rid T := fun e => nodup_root hI.nd hcm (e ▸ rid_mem c)
  have hgone : ∀ c' o, Gone ltM none (toL h c) (toL h c') o → Gone ltM none (toL (h + 1) T) (toL (h + 1) (cutK T T.2.1 (j + 1) c')) o := by
    intro c' o hg
    rw [toL_at hI.sh hc, toL_cutK hI.sh hc rfl]
    have e : T.2.1.drop (j + 1) = [] := List.drop_eq_nil_of_le (by omega)
    rw [e]
    have e2 : ∀ us, post ([] : List (It ord)) us = [] := fun us => by cases us <;> rfl
    rw [e2, List.append_nil, List.append_nil]
    exact hg.last
  refine delete_kid_max (r := recOf (h + 1) T) (kl := T.2.2.map rid) (c := rid c) (j := j) (i := j + 1) hI.fam hI.map hI.out hI.isT.root hpa (by show T.2.1.length ≤ 1000; omega) hil rfl (recOf_kids' T) (kl_get hc) hcn (by rw [recOf_cnt]; omega)
    (DelT mn mx H h c none) (DelT mn mx H (h + 1) T none) (fun w1 pa1 hc1 hf1 hm1 hp1 => ih k mn mx t pa1 w1 F H c (hI.kid hc1 hf1 hm1 hc) hmn (Nat.le_trans hmn (hI.sh.2.2 c hcm).1) hp1) (kid_facts hI hc) ?_ ?_ ?_
  · rintro H' ⟨⟨c', _, y, e, _⟩, _⟩
    cases e
  · rintro H' y rc ⟨⟨c', hd, hg⟩, _⟩ hrc hmr
    have hg2 := hgone c' _ hg
    obtain ⟨q1, q2, _⟩ := kid_close hI h1 hc hd rfl hg2.len hg2
    have e := q1 rc hrc
    refine q2 ?_
    rw [e, recOf_items] at hmr; exact hmr
  · rintro H' y rc w1 F1 ⟨⟨c', hd, hg⟩, _⟩ hrc hmr hF1 hM1 ho1
    have hg2 := hgone c' _ hg
    obtain ⟨q1, _, q3⟩ := kid_close hI h1 hc hd rfl hg2.len hg2
    have e := q1 rc hrc
    rw [e, recOf_items] at hmr
    exact q3 w1 F1 hmr hF1 hM1 ho1

theorem delMax : ∀ h, DelMax ord h
  | 0 => delMax0
  | h + 1 => delMaxS (delMax h)

theorem delKeyS {h : Nat} (ih : DelKey ord h) : DelKey ord (h + 1) := by
  intro k mn mx t d pa x w F H hv T hI hmn h1 hh hvF hvt hd hpa
  have hl : T.2.1.length ≤ mx := hI.sh.1
  have hm := hI.m1000
  have h1' : 1 ≤ T.2.1.length := h1
  have hkl : T.2.2.length = T.2.1.length + 1 := hI.sh.2.1
  have hbig := hI.big
  have hits := its_srt hI.sh hI.srt
  have hcnt : 0 ≤ (recOf (h + 1) T).cnt ∧ (recOf (h + 1) T).cnt ≤ 100000000000000 := by rw [recOf_cnt]; omega
  have hfch : ∀ w1, Chg (fun b _ => hv = some b) w w1 → Fam (parM k) w1 F H := fun w1 c => hI.fam.chg c (fun b _ hb e => hvF b e hb)
  rcases pos_or_hit swoM (x := x) hits with ⟨i, hp⟩ | ⟨i, y, hy⟩
  · have hip : i ≤ T.2.1.length := hp.le
    obtain ⟨c, hc⟩ : ∃ c, T.2.2[i]? = some c := ⟨_, List.getElem?_eq_getElem (by omega)⟩
    have hcm : c ∈ T.2.2 := List.mem_of_getElem? hc
    have hcn : rid c ≠ rid T := fun e => nodup_root hI.nd hcm (e ▸ rid_mem c)
    obtain ⟨hA, hC⟩ := around swoM hI.sh hc hI.srt hp
    have hgone : ∀ c' o, Gone ltM (some x) (toL h c) (toL h c') o → Gone ltM (some x) (toL (h + 1) T) (toL (h + 1) (cutK T T.2.1 i c')) o := by
      intro c' o hg
      rw [toL_at hI.sh hc, toL_cutK hI.sh hc rfl]
      exact hg.mid swoM hA hC
    refine delete_kid (r := recOf (h + 1) T) (kl := T.2.2.map rid) (c := rid c) (i := i) hI.fam hI.map hI.out hI.isT.root hpa hits (by show T.2.1.length ≤ 1000; omega) h1' (recOf_kids' T) (kl_get hc) hcn hp hcnt hh hvF hvt (by omega)
      (DelT mn mx H h c (some x)) (DelT mn mx H (h + 1) T (some x)) (fun w1 pa1 hc1 hf1 hm1 hh1 hp1 => ?_) (kid_facts hI hc) ?_ ?_ ?_
    · exact ih k mn mx t (d + 1) pa1 x w1 F H hv c ((hI.at hf1 hm1).kid (Chg.refl _ _) hf1 hm1 hc) hmn (Nat.le_trans hmn (hI.sh.2.2 c hcm).1) hh1 hvF hvt (by omega) hp1
    · rintro H' ⟨⟨c', hd2, hg⟩, he⟩
      obtain rfl := he rfl
      refine ⟨⟨T, DelIn.same hI.isT hI.nd hI.sh, ?_⟩, fun _ => rfl⟩
      have e : none = fndL ltM x (toL (h + 1) T) := (hgone c' none hg).1
      exact ⟨e, (delL_none e.symm).symm⟩
    · rintro H' y rc ⟨⟨c', hd2, hg⟩, _⟩ hrc hmr
      have hg2 := hgone c' _ hg
      obtain ⟨q1, q2, _⟩ := kid_close hI h1 hc hd2 rfl hg2.len hg2
      have e := q1 rc hrc
      refine q2 ?_
      rw [e, recOf_items] at hmr; exact hmr
    · rintro H' y rc w1 F1 ⟨⟨c', hd2, hg⟩, _⟩ hrc hmr hF1 hM1 ho1
      have hg2 := hgone c' _ hg
      obtain ⟨q1, _, q3⟩ := kid_close hI h1 hc hd2 rfl hg2.len hg2
      have e := q1 rc hrc
      rw [e, recOf_items] at hmr
      exact q3 w1 F1 hmr hF1 hM1 ho1
  · have hyi : T.2.1[i]? = some y := hy.at_
    have hip : i < T.2.1.length := (List.getElem?_eq_some_iff.1 hyi).1
    obtain ⟨c, hc⟩ : ∃ c, T.2.2[i]? = some c := ⟨_, List.getElem?_eq_getElem (by omega)⟩
    have hcm : c ∈ T.2.2 := List.mem_of_getElem? hc
    have hcn : rid c ≠ rid T := fun e => nodup_root hI.nd hcm (e ▸ rid_mem c)
    have hgone : ∀ c' z, Gone ltM none (toL h c) (toL h c') (some z) → Gone ltM (some x) (toL (h + 1) T) (toL (h + 1) (cutK T (T.2.1.set i z) i c')) (some y) := by
      intro c' z hg
      rw [toL_at hI.sh hc, toL_cutK hI.sh hc (by rw [List.length_set])]
      have e1 : (T.2.1.set i z).take i = T.2.1.take i := List.take_set_of_le (Nat.le_refl _)
      have e2 : (T.2.1.set i z).drop i = z :: T.2.1.drop (i + 1) := by
        rw [List.drop_eq_getElem_cons (by rw [List.length_set]; exact hip), List.drop_set_of_lt (Nat.lt_succ_self _)]
        simp
      have e3 : T.2.1.drop i = y :: T.2.1.drop (i + 1) := by
        obtain ⟨g1, g2⟩ := List.getElem?_eq_some_iff.1 hyi
        rw [List.drop_eq_getElem_cons g1, g2]
      obtain ⟨u, us, e4⟩ : ∃ u us, (T.2.2.map (toL h)).drop (i + 1) = u :: us := by
        have hlt : i + 1 < (T.2.2.map (toL h)).length := by rw [List.length_map]; omega
        exact ⟨_, _, List.drop_eq_getElem_cons hlt⟩
      rw [e1, e2, e3, e4]
      have hsrt := hI.srt
      rw [toL_at hI.sh hc, e3, e4] at hsrt
      show Gone ltM (some x) (_ ++ toL h c ++ y :: (u ++ post (T.2.1.drop (i + 1)) us)) (_ ++ toL h c' ++ z :: (u ++ post (T.2.1.drop (i + 1)) us)) (some y)
      refine Gone.hit (fun a ha => ?_) hy.n1 hy.n2 hg
      exact swoM.lt_of_lt_of_nlt ((List.pairwise_append.1 hsrt).2.2 a ha y List.mem_cons_self) hy.n2
    refine delete_kid_hit (r := recOf (h + 1) T) (kl := T.2.2.map rid) (c := rid c) (i := i) hI.fam hI.map hI.out hI.isT.root hpa hits (by show T.2.1.length ≤ 1000; omega) (recOf_kids' T) (kl_get hc) hcn hy hcnt hh hvF hvt (by omega)
      (DelT mn mx H h c none) (DelT mn mx H (h + 1) T (some x)) (fun w1 pa1 hc1 hf1 hm1 hp1 => ?_) (kid_facts hI hc) ?_ ?_ ?_
    · exact delMax h k mn mx t pa1 w1 F H c ((hI.at hf1 hm1).kid (Chg.refl _ _) hf1 hm1 hc) hmn (Nat.le_trans hmn (hI.sh.2.2 c hcm).1) hp1
    · rintro H' ⟨⟨c', _, y, e, _⟩, _⟩
      cases e
    · rintro H' z rc ⟨⟨c', hd2, hg⟩, _⟩ hrc hmr
      have hg2 := hgone c' _ hg
      obtain ⟨q1, q2, _⟩ := kid_close hI h1 hc hd2 (by rw [List.length_set]) hg2.len hg2
      have e := q1 rc hrc
      rw [upd_upd]
      refine q2 ?_
      rw [e, recOf_items] at hmr; exact hmr
    · rintro H' z rc w1 F1 ⟨⟨c', hd2, hg⟩, _⟩ hrc hmr hF1 hM1 ho1
      have hg2 := hgone c' _ hg
      obtain ⟨q1, _, q3⟩ := kid_close hI h1 hc hd2 (by rw [List.length_set]) hg2.len hg2
      have e := q1 rc hrc
      rw [e, recOf_items] at hmr
      rw [upd_upd] at hF1
      exact q3 w1 F1 hmr hF1 hM1 ho1

theorem delKey : ∀ h, DelKey ord h
  | 0 => delKey0
  | h + 1 => delKeyS (delKey h)
end Go.Proofs.Ytcabnhpnkaielaa

namespace Go.Proofs.Ytcabnhpnkaielaa
set_option linter.unusedSimpArgs false
set_option linter.unusedVariables false
open Go.RowKit

variable {ord : List Int}

/-- A deletion from a tree: what it gives, and what is left. -/
def DelAns (k : Kc ord) (mn mx : Nat) (hv : Option Nat) (w : World) (F : Nat → Prop) (t : Nat) (l : List (It ord)) (x : It ord) (e : Ending) (w' : World) : Prop :=
  SetRet l x e ∧ ∃ F', MapIn k mn mx w' F' t (delL ltM x l) ∧ Chg (fun b _ => (F b ∨ b = t) ∨ hv = some b) w w' ∧ (∀ b, F' b → F b ∨ w.heap.size ≤ b) ∧ HintO hv w'

theorem setRet_end {l : List (It ord)} {x : It ord} {o : Option (It ord)} (h : o = fndL ltM x l) : SetRet l x (.returned (endV o)) := by
  cases o with
  | none => exact .inr ⟨h.symm, rfl⟩
  | some y => exact .inl ⟨y, h.symm, rfl⟩

theorem hgt_le {α : Type} {mn mx : Nat} (hmn : 1 ≤ mn) : (h : Nat) → (T : BT α h) → Sh mn mx h T → 1 ≤ (its T).length → h ≤ (toL h T).length
  | 0, _, _, _ => Nat.zero_le _
  | h + 1, T, hs, h1 => by
    obtain ⟨c, hc⟩ : ∃ c, T.2.2[0]? = some c := ⟨_, List.getElem?_eq_getElem (by have := hs.2.1; omega)⟩
    have hcm : c ∈ T.2.2 := List.mem_of_getElem? hc
    have h2 := hgt_le hmn h c (hs.2.2 c hcm).2 (by have := (hs.2.2 c hcm).1; omega)
    have h3 := kid_lt hs hcm h1
    omega

set_option maxRecDepth 100000 in
theorem deleteHint_empty {k : Kc ord} {mn mx : Nat} {w : World} {F : Nat → Prop} {t : Nat} {hv : Option Nat} (x : It ord) (hB : MapBlk k mn mx w t none 0) (hF : ∀ b, ¬ F b) (hh : HintO hv w) :
    Calls Try.prog 117 #[.pointer (some ⟨t, 0, none⟩), aggM x, hintV hv] w (DelAns k mn mx hv w F t [] x) := by
  have c2 : w.cell? ⟨t, 2, none⟩ = some (.pointer none) := hB.c2
  have e7 := hB.at_.c4
  have HB := Lib.hid hB
  clear hB
  unfold aggM hintV
  go_enter Try.func117, Try.ntmps117
  go_wp2_with fail
  refine bodyPost_ret (v := .tuple #[.nilIface, .bool false]) (by simp [results, Try.results117, go_sem]) rfl ?_
  exact ⟨.inr ⟨rfl, rfl⟩, F, .inl ⟨rfl, hF, HB.out⟩, Chg.refl _ _, fun _ h => .inl h, hh⟩

set_option maxRecDepth 100000 in
set_option maxHeartbeats 4000000 in
theorem deleteHint_tree {k : Kc ord} {mn mx : Nat} {w : World} {F : Nat → Prop} {H : Nat → Option (NodeR (It ord))} {t h : Nat} {T : BT (It ord) h} {hv : Option Nat} (x : It ord) (hI : TreeIn k mn mx w F H t h T) (hB : MapBlk k mn mx w t (some (rid T)) (toL h T).length) (h1 : 1 ≤ (its T).length) (hmn : 1 ≤ mn)
    (hh : HintO hv w) (hvF : ∀ b, hv = some b → ¬ F b) (hvt : ∀ b, hv = some b → ¬ MOwn k t b) (hsz : (toL h T).length ≤ 1000000000000) :
    Calls Try.prog 117 #[.pointer (some ⟨t, 0, none⟩), aggM x, hintV hv] w (DelAns k mn mx hv w F t (toL h T) x) := by
  have c2 : w.cell? ⟨t, 2, none⟩ = some (.pointer (some ⟨rid T, 0, none⟩)) := hB.c2
  have hgt := hgt_le hmn h T hI.sh h1
  have hdel := delKey (ord := ord) h k mn mx t 0 ⟨t, 2, none⟩ x w F H hv T hI hmn h1 hh hvF hvt (by omega) hB.c2
  rw [show ((0 : Nat) : Int) = 0 from rfl] at hdel
  unfold aggM hintV at hdel
  have HDEL := Lib.hid hdel
  clear hdel
  unfold aggM hintV
  go_enter Try.func117, Try.ntmps117
  go_wp2_with fail
  refine HDEL.out.mono ?_
  rintro e w3 ⟨H', o, rfl, hF3, hc03, hh3, hz⟩
  obtain ⟨G, hGd⟩ : ∃ G, G = grow F w w3 := ⟨_, rfl⟩
  rw [← hGd] at hF3
  have hG0 : ∀ b, G b → F b ∨ w.heap.size ≤ b := fun b h => by
    rw [hGd] at h
    rcases h with h | h
    · exact .inl h
    · exact .inr h.1
  clear hGd HDEL
  have hB3 := hB.chg hc03 (fun b _ hm e => by
    rcases e with e | e
    · exact hI.out b hm e
    · exact hvt b e hm)
  clear c2
  have e30 := hB3.c3
  have z32 := hB3.fz 2
  have z33 := hB3.fz 3
  have c2 : w3.cell? ⟨t, 2, none⟩ = some (.pointer (some ⟨rid T, 0, none⟩)) := hB3.c2
  have e7 := hB3.at_.c4
  have HB3 := Lib.hid hB3
  have HF3 := Lib.hid hF3
  have HC03 := Lib.hid hc03
  have HH3 := Lib.hid hh3
  have HG0 := Lib.hid hG0
  have HOT := Lib.hid hI.out
  have HSRT := Lib.hid hI.srt
  have HBIG := Lib.hid hI.big
  have hs4 := Lib.hid (show _ ∧ _ ∧ _ ∧ _ from ⟨hI.m3, hI.m1000, hI.mh, hI.mh2⟩)
  have mlt : ∀ b, MOwn k t b → b < w.heap.size := fun b hm => hI.map.lt hm
  have HML := Lib.hid mlt
  obtain ⟨⟨T', hd, hg⟩, hsame⟩ := hz
  have HD := Lib.hid hd
  have HGN := Lib.hid hg
  have hfl : o = fndL ltM x (toL h T) := hg.1
  have hle : toL h T' = delL ltM x (toL h T) := hg.2
  have HFL := Lib.hid hfl
  have HLE := Lib.hid hle
  have hout3 : ∀ b, MOwn k t b → ¬ G b := fun b hm h => (HG0.out b h).elim (HOT.out b hm) (fun h => by have := HML.out b hm; omega)
  have HO3 := Lib.hid hout3
  clear hd hg hfl hle hB3 hF3 hc03 hh3 hG0 mlt hout3
  rcases o with _ | vx
  · obtain rfl := hsame rfl
    have hdl := Lib.hid (delL_none HFL.out.symm)
    unfold endV
    clear z32 z33 e30 c2
    go_wp2_with fail
    refine bodyPost_ret (v := .tuple #[.nilIface, .bool false]) (by simp [results, Try.results117, go_sem]) rfl ?_
    exact ⟨setRet_end HFL.out, G, .inr ⟨H', h, T, ⟨HF3.out, HB3.out.at_, HO3.out, hI.isT, hI.nd, hI.sh, hI.srt, hI.big, hI.m3, hI.m1000, hI.mh, hI.mh2⟩, HB3.out, hdl.out.symm, h1⟩, HC03.out.mono (fun b _ _ h => h.elim (fun h => .inl (.inl h)) .inr), HG0.out, HH3.out⟩
  have hroot : H' (rid T) = some (recOf h T') := by rw [← HD.out.rid']; exact HD.out.isT.root
  obtain ⟨ln, hnr⟩ := HF3.out.node hroot
  have n2 := hnr.c2
  rw [recOf_items] at n2
  have hlen := HGN.out.len
  have hsl := HD.out.sh.len
  have hbg := HBIG.out
  have h1000 := hs4.out.2.1
  have s1 : IntKind.i64.wrap (((toL h T).length : Int) - 1) = ((toL h T').length : Int) := (by rw [IntWalk.i64_in _ (by omega)]; omega)
  have srt' : Srt ltM (toL h T') := HSRT.out.sublist HGN.out.sub
  have HS' := Lib.hid srt'
  replace hlen := Lib.hid hlen
  have fin : ∀ w9 (F9 : Nat → Prop), Chg (fun b _ => b = t) w3 w9 → MapIn k mn mx w9 F9 t (toL h T') → (∀ b, F9 b → G b) → DelAns k mn mx hv w F t (toL h T) x (.returned (.tuple #[.iface 26 (.agg #[.int .i64 vx.1, .int .i64 vx.2]), .bool true])) w9 := by
    intro w9 F9 c1 hM hFG
    refine ⟨setRet_end HFL.out, F9, ?_, ?_, fun b hb => HG0.out b (hFG b hb), HH3.out.chg c1 (fun b _ e e2 => hvt b e (e2 ▸ MOwn.self))⟩
    · rw [← HLE.out]; exact hM
    · exact (HC03.out.mono (fun b _ _ h => h.elim (fun h => .inl (.inl h)) .inr)).trans (c1.mono (fun b _ _ h => .inl (.inr h)))
  have FIN := Lib.hid fin
  clear srt' fin
  unfold endV
  by_cases h0 : 1 ≤ (its T').length
  · have g0 : (((its T').length : Int) == 0) = false := beq_eq_false_iff_ne.2 (by omega)
    have hp := its_head HD.out.sh h0
    have g1 : (((toL h T').length : Int) == 0) = false := beq_eq_false_iff_ne.2 (by omega)
    clear hp
    have HB9 := Lib.hid (HB3.out.setCnt ((toL h T').length : Int))
    have hc9 : Chg (fun b _ => b = t) w3 (w3.setCell ⟨t, 3, none⟩ (.int .i64 ((toL h T').length : Int))) := (Chg.refl _ _).setCell (.inl rfl) _
    have HC9 := Lib.hid hc9
    clear hc9
    go_wp2_with fail
    refine bodyPost_ret (v := .tuple #[.iface 26 (.agg #[.int .i64 vx.1, .int .i64 vx.2]), .bool true]) (by simp [results, Try.results117, go_sem]) rfl ?_
    refine FIN.out _ G HC9.out (.inr ⟨H', h, T', ⟨HF3.out.chg HC9.out (fun b _ hb e => HO3.out t MOwn.self (e ▸ hb)), HB9.out.at_, HO3.out, HD.out.isT, HD.out.nd, HD.out.sh, HS'.out, by have := hlen.out; omega, hs4.out.1, hs4.out.2.1, hs4.out.2.2.1, hs4.out.2.2.2⟩, ?_, rfl, h0⟩) (fun _ h => h)
    rw [HD.out.rid']; exact HB9.out
  · have hnil : its T' = [] := List.eq_nil_of_length_eq_zero (by omega)
    have g0 : (((its T').length : Int) == 0) = true := beq_iff_eq.2 (by omega)
    rcases h with _ | h
    · have ht0 : toL 0 T' = [] := hnil
      have g1 : (((toL 0 T').length : Int) == 0) = true := by rw [ht0]; rfl
      have n3 := hnr.c3n rfl
      have hB9 := (HB3.out.setCnt ((toL 0 T').length : Int)).setRoot none
      have hB9' : MapBlk k mn mx ((w3.setCell ⟨t, 3, none⟩ (.int .i64 ((toL 0 T').length : Int))).setCell ⟨t, 2, none⟩ (.pointer none)) t none 0 := by
        have e : ((toL 0 T').length : Int) = 0 := by rw [ht0]; rfl
        have h2 := hB9
        rw [e] at h2 ⊢
        exact h2
      have HB9 := Lib.hid hB9'
      have hc9 : Chg (fun b _ => b = t) w3 ((w3.setCell ⟨t, 3, none⟩ (.int .i64 ((toL 0 T').length : Int))).setCell ⟨t, 2, none⟩ (.pointer none)) := ((Chg.refl _ _).setCell (.inl rfl) _).setCell (.inl rfl) _
      have HC9 := Lib.hid hc9
      have HT0 := Lib.hid ht0
      clear hB9 hB9' hc9 ht0 hnil hnr
      go_wp2_with (go_at_call 93; refine (leaf_any _ none _ ?_).mono ?_; (focus go_simp); rintro e w' ⟨rfl, rfl⟩)
      refine bodyPost_ret (v := .tuple #[.iface 26 (.agg #[.int .i64 vx.1, .int .i64 vx.2]), .bool true]) (by simp [results, Try.results117, go_sem]) rfl ?_
      exact FIN.out _ (fun _ => False) HC9.out (.inl ⟨HT0.out, fun _ h => h, HB9.out⟩) (fun _ h => h.elim)
    · have hk1 : T'.2.2.length = 1 := by have := HD.out.sh.2.1; have e : T'.2.1 = [] := hnil; rw [e] at this; exact this
      obtain ⟨c, hc⟩ : ∃ c, T'.2.2 = [c] := by
        match h2 : T'.2.2, hk1 with
        | [c], _ => exact ⟨c, rfl⟩
      have hcm : c ∈ T'.2.2 := by rw [hc]; exact List.mem_singleton.2 rfl
      have ht1 : toL (h + 1) T' = toL h c := by
        show inter T'.2.1 (T'.2.2.map (toL h)) = toL h c
        have e : T'.2.1 = [] := hnil
        rw [e, hc]
        exact inter_last _
      obtain ⟨hcm1, hcs⟩ := HD.out.sh.2.2 c hcm
      have hc1' : 1 ≤ (its c).length := by omega
      have hp := its_head hcs hc1'
      have hkk : (recOf (h + 1) T').kids = some [some (rid c)] := by
        show some (T'.2.2.map fun c => some (rid c)) = _
        rw [hc]; rfl
      have n3 := hnr.c3s hkk
      have nc : w3.cell? ⟨ln.cc, 0, none⟩ = some (.slice (some ⟨ln.cb, ln.co, none⟩) 1 ln.ck) := hnr.cc hkk
      have k0 : w3.cell? ⟨ln.cb, ln.co, none⟩ = some (.pointer (some ⟨rid c, 0, none⟩)) := by
        have := hnr.kidc hkk (j := 0) (o := some (rid c)) rfl
        rw [Nat.add_zero] at this
        exact this
      rw [ht1] at s1
      have g1 : (((toL h c).length : Int) == 0) = false := beq_eq_false_iff_ne.2 (by omega)
      have HB9 := Lib.hid ((HB3.out.setRoot (some (rid c))).setCnt ((toL h c).length : Int))
      have hc9 : Chg (fun b _ => b = t) w3 ((w3.setCell ⟨t, 2, none⟩ (.pointer (some ⟨rid c, 0, none⟩))).setCell ⟨t, 3, none⟩ (.int .i64 ((toL h c).length : Int))) := ((Chg.refl _ _).setCell (.inl rfl) _).setCell (.inl rfl) _
      have HC9 := Lib.hid hc9
      have HT1 := Lib.hid ht1
      have HCM := Lib.hid hcm
      have HP := Lib.hid (And.intro hcs hc1')
      clear hc9 ht1 hnil hnr hc hk1 hcm hcs hc1' hp hcm1 hkk
      go_wp2_with (go_at_call 93; refine (leaf_any _ (some ⟨ln.cc, 0, none⟩) _ ?_).mono ?_; (focus go_simp); rintro e w' ⟨rfl, rfl⟩)
      refine bodyPost_ret (v := .tuple #[.iface 26 (.agg #[.int .i64 vx.1, .int .i64 vx.2]), .bool true]) (by simp [results, Try.results117, go_sem]) rfl ?_
      have hs2 := HS'.out
      rw [HT1.out] at hs2
      exact FIN.out _ G HC9.out (.inr ⟨H', h, c, ⟨HF3.out.chg HC9.out (fun b _ hb e => HO3.out t MOwn.self (e ▸ hb)), HB9.out.at_, HO3.out, HD.out.isT.kid HCM.out, nodup_kid HD.out.nd HCM.out, HP.out.1, hs2, by have := hlen.out; rw [HT1.out] at this; omega, hs4.out.1, hs4.out.2.1, hs4.out.2.2.1, hs4.out.2.2.2⟩, HB9.out, HT1.out.symm, HP.out.2⟩) (fun _ h => h)

end Go.Proofs.Ytcabnhpnkaielaa
