/- nodeSet over trees: all ways. -/
import Derived.Test.YtojplcbkiogcpaaWk
namespace Go.Proofs.Ytojplcbkiogcpaa
set_option linter.unusedSimpArgs false
set_option linter.unusedVariables false
open Go.RowKit
variable {ord : List Int} {k : Kc ord}

theorem kidIds_facts {α : Type} {H : Nat → Option (NodeR α)} {mn mx : Nat} : {h : Nat} → {c : BT α h} → IsT H h c → (ids h c).Nodup → Sh mn mx h c →
    (((recOf h c).kids = none ∧ kidIds c = []) ∨ ((recOf h c).kids = some ((kidIds c).map some) ∧ (kidIds c).length = (its c).length + 1)) ∧
    (∀ a ∈ kidIds c, a ≠ rid c ∧ ∃ s, H a = some s ∧ s.cnt = cntOf H a ∧ 0 ≤ cntOf H a) ∧ ksum (cntOf H) (kidIds c) ≤ ((toL h c).length : Nat)
  | 0, c, _, _, _ => by
    refine ⟨.inl ⟨rfl, rfl⟩, ?_, ?_⟩
    · intro a ha
      exact absurd ha (List.not_mem_nil)
    · show ksum (cntOf H) [] ≤ _
      rw [ksum_nil]; omega
  | h + 1, c, hT, hd, hs => by
    refine ⟨.inr ⟨?_, ?_⟩, ?_, ?_⟩
    · show some (c.2.2.map fun c => some (rid c)) = some ((c.2.2.map rid).map some)
      rw [List.map_map]; rfl
    · show (c.2.2.map rid).length = c.2.1.length + 1
      rw [List.length_map]; exact hs.2.1
    · intro a ha
      obtain ⟨d, hd2, rfl⟩ := List.mem_map.1 ha
      refine ⟨fun e => nodup_root hd hd2 (e ▸ rid_mem d), recOf h d, (hT.2 d hd2).root, ?_, ?_⟩
      · rw [cntOf_kid hT hd2, recOf_cnt]
      · rw [cntOf_kid hT hd2]; omega
    · show ksum (cntOf H) (c.2.2.map rid) ≤ _
      rw [ksum_rids _ _ fun d hd2 => cntOf_kid hT hd2]
      have := inter_len c.2.1 (c.2.2.map (toL h)) (by simpa using hs.2.1)
      show _ ≤ (((inter c.2.1 (c.2.2.map (toL h))).length : Nat) : Int)
      omega

theorem isT_cut {α : Type} {H H5 : Nat → Option (NodeR α)} {m i : Nat} : {h : Nat} → {c : BT α h} → IsT H h c → (ids h c).Nodup → H5 (rid c) = some (recOf h (cutL c i)) → H5 m = some (recOf h (cutR c m i)) → (∀ a ∈ ids h c, a ≠ rid c → H5 a = H a) →
    IsT H5 h (cutL c i) ∧ IsT H5 h (cutR c m i)
  | 0, _, _, _, h1, h2, _ => ⟨h1, h2⟩
  | h + 1, c, hT, hd, h1, h2, h3 => by
    have key : ∀ d ∈ c.2.2, IsT H5 h d := fun d hd2 => (hT.2 d hd2).congr fun a ha => h3 a (ids_kid hd2 ha) fun e => nodup_root hd hd2 (e ▸ ha)
    exact ⟨⟨h1, fun d hd2 => key d (List.mem_of_mem_take hd2)⟩, ⟨h2, fun d hd2 => key d (List.mem_of_mem_drop hd2)⟩⟩

theorem avail_full {mx : Nat} {h : Nat} {T : BT (It ord) (h + 1)} {x : It ord} {i : Nat} {c : BT (It ord) h} (hp : PosAt ltM T.2.1 x i) (hc : T.2.2[i]? = some c) (hl : mx ≤ T.2.1.length) (hno : ¬ Avail mx h c x) : ¬ Avail mx (h + 1) T x := by
  rintro (h1 | ⟨j, y, h1⟩ | ⟨j, d, h1, h2, h3⟩)
  · omega
  · have := hp.right j y (hit_le hp h1) h1.at_
    rw [h1.n2] at this; cases this
  · obtain rfl := pos_same h1 hp swoM
    rw [hc] at h2
    obtain rfl := Option.some.inj h2
    exact hno h3

theorem pos_put {xs : List (It ord)} {x x2 : It ord} {i j : Nat} (h1 : PosAt ltM xs x i) (h2 : PosAt ltM (xs.take i ++ x2 :: xs.drop i) x j) : j = i ∨ j = i + 1 := by
  have hle := h1.le
  have hlen : (xs.take i).length = i := by simp; omega
  have a1 : ¬ j < i := fun c => by
    have e : (xs.take i ++ x2 :: xs.drop i)[j]? = xs[j]? := by
      rw [List.getElem?_append_left (by omega), List.getElem?_take_of_lt c]
    have hj : xs[j]? = some xs[j] := List.getElem?_eq_getElem (by omega)
    have g1 := h1.left j _ c hj
    have g2 := h2.right j _ (Nat.le_refl _) (e.trans hj)
    rw [swoM.asymm _ _ g1] at g2; cases g2
  have a2 : ¬ i + 1 < j := fun c => by
    have hjl := h2.le
    simp at hjl
    have hi : i < xs.length := by omega
    have hj : xs[i]? = some xs[i] := List.getElem?_eq_getElem hi
    have e : (xs.take i ++ x2 :: xs.drop i)[i + 1]? = xs[i]? := by
      rw [List.getElem?_append_right (by omega), hlen]
      simp [List.getElem?_drop]
    have g1 := h1.right i _ (Nat.le_refl _) hj
    have g2 := h2.left (i + 1) _ c (e.trans hj)
    rw [swoM.asymm _ _ g1] at g2; cases g2
  omega

theorem set_yes {h : Nat} (ih : SetSpec ord h) {k : Kc ord} {mn mx t : Nat} {pa : Addr} {dp : Int} {x : It ord} {w : World} {F : Nat → Prop} {H : Nat → Option (NodeR (It ord))} {T : BT (It ord) (h + 1)} (hI : TreeIn k mn mx w F H t (h + 1) T)
    (hpa : w.cell? pa = some (.pointer (some ⟨rid T, 0, none⟩))) (hgo : ∀ j d, PosAt ltM T.2.1 x j → T.2.2[j]? = some d → Avail mx h d x) :
    Calls Try.prog 116 #[.pointer (some ⟨t, 0, none⟩), .pointer (some pa), aggM x, .pointer none, .int .i64 dp] w (KidPost k F (fun w1 H' pr rp sp => SetYes mn mx w1.heap.size H (h + 1) T x H' pr rp sp) w) := by
  rcases pos_or_hit swoM (x := x) (its_srt hI.sh hI.srt) with ⟨j, hp⟩ | ⟨j, y, hy⟩
  · have hj : j < T.2.2.length := by
      have h1 : j ≤ T.2.1.length := hp.le
      have := hI.sh.2.1; omega
    exact set_step1 ih hI hpa hp (List.getElem?_eq_getElem hj) (hgo j _ hp (List.getElem?_eq_getElem hj))
  · refine (set_hit_any hI hpa hy).mono ?_
    rintro e w' ⟨H', pr, rp, sp, he, h1, h2, h3⟩
    refine ⟨H', pr, rp, sp, he, h1, h2, ?_⟩
    rcases h3 with ⟨_, _, hno⟩ | ⟨h3, _, h4⟩
    · exact absurd (Avail.hit hy) hno
    · exact ⟨h3, h4⟩

theorem setSpecS {h : Nat} (ih : SetSpec ord h) : SetSpec ord (h + 1) := by
  intro k mn mx t pa dp x w F H T hI hpa
  rcases pos_or_hit swoM (x := x) (its_srt hI.sh hI.srt) with ⟨i, hp⟩ | ⟨i, y, hy⟩
  rotate_left
  · exact set_hit_any hI hpa hy
  have hj : i < T.2.2.length := by
    have h1 : i ≤ T.2.1.length := hp.le
    have := hI.sh.2.1; omega
  obtain ⟨c, hc⟩ : ∃ c, T.2.2[i]? = some c := ⟨_, List.getElem?_eq_getElem hj⟩
  have hcm : c ∈ T.2.2 := List.mem_of_getElem? hc
  have hl : T.2.1.length ≤ mx := hI.sh.len
  have hm := hI.m1000
  have hm3 := hI.m3
  have hlt : ∀ a ∈ ids (h + 1) T, a < w.heap.size := fun a ha => hI.isT.lt hI.fam ha
  have hbig := hI.big
  have hkr : (recOf (h + 1) T).kids = some ((T.2.2.map rid).map some) := by show some (T.2.2.map fun c => some (rid c)) = _; rw [List.map_map]; rfl
  have hcr : (T.2.2.map rid)[i]? = some (rid c) := by rw [List.getElem?_map, hc]; rfl
  by_cases ha : Avail mx h c x
  · refine (set_step1 ih hI hpa hp hc ha).mono ?_
    rintro e w' ⟨H', pr, rp, sp, he, h1, h2, h3, h4⟩
    exact ⟨H', pr, rp, sp, he, h1, h2, .inr ⟨h3, .inr (.inr ⟨i, c, hp, hc, ha⟩), h4⟩⟩
  have hcl : (its c).length = mx := by
    have h1 := (hI.sh.2.2 c hcm).2.len
    rcases Nat.lt_or_ge (its c).length mx with h2 | h2
    · exact absurd (Avail.room h2) ha
    · omega
  have hcT := hI.isT.kid hcm
  have hcd := nodup_kid hI.nd hcm
  have hcs := (hI.sh.2.2 c hcm).2
  have hcall : ∀ w1 pa dp, Chg (fun _ _ => False) w w1 → Fam (parM k) w1 F H → MapAt k mn mx w1 t → w1.cell? pa = some (.pointer (some ⟨rid c, 0, none⟩)) →
      Calls Try.prog 116 #[.pointer (some ⟨t, 0, none⟩), .pointer (some pa), aggM x, .pointer none, .int .i64 dp] w1 (KidPost k F (fun w1 H' pr rp sp => SetOut mn mx w1.heap.size H h c x H' pr rp sp) w1) :=
    fun w1 pa' dp' hc1 hf1 hm1 hpa1 => ih k mn mx t pa' dp' x w1 F H c (hI.kid hc1 hf1 hm1 hc) hpa1
  have hZ : ∀ (w1 : World) H' pr rp sp, SetOut mn mx w1.heap.size H h c x H' pr rp sp → w.heap.size ≤ w1.heap.size → sp = true ∧ H' = H := by
    rintro w1 H' pr rp sp (⟨h1, h2, _⟩ | ⟨_, h2, _⟩) _
    · exact ⟨h1, h2⟩
    · exact absurd h2 ha
  rcases Nat.lt_or_ge T.2.1.length mx with hroom | hfull
  rotate_left
  · refine (nodeSet_kid_full k mn mx t (rid T) pa dp x i (recOf (h + 1) T) w F H hI.fam hI.map hI.out hI.isT.root hpa (its_srt hI.sh hI.srt) (by show T.2.1.length = mx; omega) hm hp (T.2.2.map rid) hkr (rid c) hcr _ hcall hZ).mono ?_
    rintro e w' ⟨rfl, h1, h2⟩
    exact ⟨_, ((0, 0) : It ord), false, true, rfl, h1, h2, .inl ⟨rfl, rfl, avail_full hp hc hfull ha⟩⟩
  obtain ⟨kf1, kf2, kf3⟩ := kidIds_facts hcT hcd hcs
  have hclen : (toL h c).length ≤ (toL (h + 1) T).length := by rw [toL_at hI.sh hc]; simp only [List.length_append]; omega
  have hrcn : rid c ≠ rid T := fun e => nodup_root hI.nd hcm (e ▸ rid_mem c)
  have tlt : t < w.heap.size := World.block_lt_of_cell? w _ hI.map.c0
  have hrc := fun m => recOf_cut (i := mx / 2) m hcT hcs (by omega)
  refine (nodeSet_kid_split k mn mx t (rid T) pa dp x i (recOf (h + 1) T) w F H hI.fam hI.map hI.out hI.isT.root hpa (its_srt hI.sh hI.srt) hroom hm hm3 hp (T.2.2.map rid) hkr (by rw [List.length_map, hI.sh.2.1]; omega) (rid c) hcr _ hcall hZ
    (recOf h c) hcT.root hrcn (kidIds c) (by rw [hcl] at kf1; exact kf1) (by rw [recOf_items]; exact hcl) (cntOf H) kf2 (by omega)
    (fun w1 H' pr rp sp => ∃ T2 H5, rid T2 = rid T ∧ (∀ a ∈ ids (h + 1) T2, a ∈ ids (h + 1) T ∨ w.heap.size ≤ a) ∧ (its T).length ≤ (its T2).length ∧ toL (h + 1) T2 = toL (h + 1) T ∧ (∀ a, a < w.heap.size → a ∉ ids (h + 1) T → H5 a = H a) ∧ SetYes mn mx w1.heap.size H5 (h + 1) T2 x H' pr rp sp) ?_).mono ?_
  · intro w1 pa1 dp1 F1 m x2 hm1 hm2 hx2 hup hof hFam hMap hpa1
    obtain ⟨rc1, rc2⟩ := hrc m
    rw [hcl] at rc2
    rw [recOf_items] at hx2
    rw [recOf_items, ← rc1, ← rc2] at hFam
    obtain ⟨g1, g2, g3⟩ := ids_cut (t := c) (m := m) (i := mx / 2) hcd (fun a ha => hlt a (ids_kid hcm ha)) hm1
    have hids := ids_replace (n := T.1) (xs := T.2.1) (xs' := T.2.1.take i ++ x2 :: T.2.1.drop i) (L := T.2.2.take i) (R := T.2.2.drop (i + 1)) (cs := [cutL c (mx / 2), cutR c m (mx / 2)]) (c := c) (B := w.heap.size)
      (by rw [← split_at hc]; exact hI.nd) (by rw [← split_at hc]; exact hlt)
      (fun a ha => by
        simp only [List.flatMap_cons, List.flatMap_nil, List.append_nil, List.mem_append] at ha
        rcases ha with ha | ha
        · exact .inl (g2 a ha)
        · rcases g3 a ha with h | h
          · exact .inl h
          · exact .inr (by omega)) (by simpa using g1)
    rw [← split_at hc] at hids
    have hrT : rid T < w.heap.size := hlt _ (rid_mem T)
    have hrc' : rid c < w.heap.size := hlt _ (ids_kid hcm (rid_mem c))
    have htoL : toL (h + 1) (put2 T i x2 (cutL c (mx / 2)) (cutR c m (mx / 2))) = toL (h + 1) T := toL_put2 hI.sh hc (toL_cut m hcs hx2)
    have e5 : (⟨(recOf (h + 1) T).cnt, (recOf (h + 1) T).items.take i ++ x2 :: (recOf (h + 1) T).items.drop i, some (((T.2.2.map rid).take (i + 1) ++ m :: (T.2.2.map rid).drop (i + 1)).map some)⟩ : NodeR (It ord)) = recOf (h + 1) (put2 T i x2 (cutL c (mx / 2)) (cutR c m (mx / 2))) := by
      show _ = (⟨((toL (h + 1) (put2 T i x2 (cutL c (mx / 2)) (cutR c m (mx / 2)))).length : Nat), T.2.1.take i ++ x2 :: T.2.1.drop i, some ((T.2.2.take i ++ [cutL c (mx / 2), cutR c m (mx / 2)] ++ T.2.2.drop (i + 1)).map fun c => some (rid c))⟩ : NodeR (It ord))
      rw [htoL]
      congr 2
      rw [← List.map_take, ← List.map_drop]
      have ht : T.2.2.take (i + 1) = T.2.2.take i ++ [c] := by rw [List.take_add_one, hc]; rfl
      rw [ht]
      simp only [List.map_append, List.map_cons, List.map_nil, rid_cutL, rid_cutR, List.map_map, List.append_assoc, List.cons_append, List.nil_append]
      rfl
    rw [e5] at hFam
    obtain ⟨H5, hH5⟩ : ∃ H5, H5 = upd (upd (upd H (rid c) (recOf h (cutL c (mx / 2)))) m (recOf h (cutR c m (mx / 2)))) (rid T) (recOf (h + 1) (put2 T i x2 (cutL c (mx / 2)) (cutR c m (mx / 2)))) := ⟨_, rfl⟩
    rw [← hH5] at hFam
    have hat : ∀ a, a ≠ rid T → a ≠ m → a ≠ rid c → H5 a = H a := by
      intro a h1 h2 h3
      rw [hH5, updNe h1, updNe h2, updNe h3]
    obtain ⟨tc1, tc2⟩ := isT_cut (H5 := H5) (m := m) (i := mx / 2) hcT hcd
      (by rw [hH5, updNe hrcn, updNe (by omega)]; exact if_pos rfl) (by rw [hH5, updNe (by omega)]; exact if_pos rfl)
      (fun a ha hne => hat a (fun e => nodup_root hI.nd hcm (e ▸ ha)) (fun e => by have := hlt a (ids_kid hcm ha); omega) hne)
    have hT2 : IsT H5 (h + 1) (put2 T i x2 (cutL c (mx / 2)) (cutR c m (mx / 2))) := by
      refine ⟨by rw [hH5]; exact if_pos rfl, fun d hd => ?_⟩
      change d ∈ T.2.2.take i ++ [cutL c (mx / 2), cutR c m (mx / 2)] ++ T.2.2.drop (i + 1) at hd
      simp only [List.mem_append, List.mem_cons, List.not_mem_nil, or_false] at hd
      have other : (d ∈ T.2.2.take i ∨ d ∈ T.2.2.drop (i + 1)) → IsT H5 h d := fun hd2 => by
        have hdm := kid_mem hd2
        refine (hI.isT.2 d hdm).congr fun a ha => hat a (fun e => nodup_root hI.nd hdm (e ▸ ha)) (fun e => by have := hlt a (ids_kid hdm ha); omega) (fun e => kid_apart hc hI.nd hd2 ha (e ▸ rid_mem c))
      rcases hd with (hd | rfl | rfl) | hd
      · exact other (.inl hd)
      · exact tc1
      · exact tc2
      · exact other (.inr hd)
    obtain ⟨s1, s2⟩ := sh_cut (i := mx / 2) m hcs (by omega)
    have l1 : (its (cutL c (mx / 2))).length = mx / 2 := by rw [its_cutL, List.length_take]; omega
    have l2 : (its (cutR c m (mx / 2))).length = mx - (mx / 2 + 1) := by rw [its_cutR, List.length_drop]; omega
    have hI2 : TreeIn k mn mx w1 F1 H5 t (h + 1) (put2 T i x2 (cutL c (mx / 2)) (cutR c m (mx / 2))) :=
      ⟨hFam, hMap, fun b hm hF1 => hI.out b hm (hof b (hI.map.lt hm) hF1), hT2, hids.1, sh_put2 hI.sh hc hroom s1 s2 (by rw [l1]; exact hI.mh) (by rw [l2]; exact hI.mh2), by rw [htoL]; exact hI.srt, by rw [htoL]; exact hbig, hm3, hm, hI.mh, hI.mh2⟩
    refine (set_yes ih hI2 hpa1 ?_).mono ?_
    · intro j d hpj hdj
      change (T.2.2.take i ++ [cutL c (mx / 2), cutR c m (mx / 2)] ++ T.2.2.drop (i + 1))[j]? = some d at hdj
      have hti : (T.2.2.take i).length = i := by simp; omega
      rw [List.append_assoc, List.getElem?_append_right (by rcases pos_put hp hpj with h | h <;> omega), hti] at hdj
      rcases pos_put hp hpj with rfl | rfl
      · rw [Nat.sub_self] at hdj
        obtain rfl : cutL c (mx / 2) = d := by simpa using hdj
        exact .room (by omega)
      · rw [show i + 1 - i = 1 by omega] at hdj
        obtain rfl : cutR c m (mx / 2) = d := by simpa using hdj
        exact .room (by omega)
    · rintro e w' ⟨H', pr, rp, sp, he, h1, h2, h3⟩
      refine ⟨H', pr, rp, sp, he, h1, h2, put2 T i x2 (cutL c (mx / 2)) (cutR c m (mx / 2)), H5, rfl, hids.2, ?_, htoL, ?_, h3⟩
      · show T.2.1.length ≤ (T.2.1.take i ++ x2 :: T.2.1.drop i).length
        simp; omega
      · intro a ha hn
        exact hat a (fun e => hn (e ▸ rid_mem T)) (by omega) (fun e => hn (e ▸ ids_kid hcm (rid_mem c)))
  · rintro e w' ⟨w1, H', pr, rp, sp, hw1, ⟨T2, H5, q1, q2, q3, q4, q5, rfl, T', hi⟩, rfl, h1, h2⟩
    refine ⟨H', pr, rp, false, rfl, h1, h2, .inr ⟨rfl, .room hroom, T', ?_⟩⟩
    refine ⟨hi.isT, hi.rid'.trans q1, hi.nd, ?_, hi.sh, Nat.le_trans q3 hi.len, by rw [hi.list, q4], by rw [← q4]; exact hi.found, ?_⟩
    · intro a ha
      rcases hi.new a ha with h | h
      · exact q2 a h
      · exact .inr (by omega)
    · intro a ha hn
      rw [hi.rest a (by omega) fun hm => ?_]
      · exact q5 a ha hn
      · rcases q2 a hm with h | h
        · exact hn h
        · omega
theorem setSpec : ∀ h, SetSpec ord h
  | 0 => setSpec0
  | h + 1 => setSpecS (setSpec h)
end Go.Proofs.Ytojplcbkiogcpaa
