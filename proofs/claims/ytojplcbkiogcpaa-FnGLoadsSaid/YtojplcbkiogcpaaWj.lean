/- nodeSet over trees. -/
import Derived.Test.YtojplcbkiogcpaaWi
import Derived.Test.YtojplcbkiogcpaaTre
namespace Go.Proofs.Ytojplcbkiogcpaa
set_option linter.unusedSimpArgs false
set_option linter.unusedVariables false
open Go.RowKit
variable {ord : List Int} {k : Kc ord}

theorem inter_len {α : Type} : ∀ (xs : List α) (ts : List (List α)), ts.length = xs.length + 1 → (inter xs ts).length = xs.length + (ts.map (·.length)).sum
  | [], [t], _ => by simp [inter]
  | x :: xs, t :: ts, h => by
    simp only [inter, List.length_append, List.length_cons, List.map_cons, List.sum_cons]
    rw [inter_len xs ts (by simpa using h)]; omega

theorem ksum_rids {α : Type} {h : Nat} (cf : Nat → Int) : ∀ ks : List (BT α h), (∀ c ∈ ks, cf (rid c) = ((toL h c).length : Nat)) → ksum cf (ks.map rid) = (((ks.map (toL h)).map (·.length)).sum : Nat)
  | [], _ => rfl
  | c :: ks, h => by
    rw [List.map_cons, ksum_cons, h c List.mem_cons_self, ksum_rids cf ks (fun d hd => h d (List.mem_cons_of_mem _ hd))]
    simp

def kidIds {α : Type} : {h : Nat} → BT α h → List Nat
  | 0, _ => []
  | _ + 1, t => t.2.2.map rid

def cntOf {α : Type} (H : Nat → Option (NodeR α)) (a : Nat) : Int := ((H a).map (·.cnt)).getD 0

theorem cntOf_kid {α : Type} {H : Nat → Option (NodeR α)} {h : Nat} {t : BT α (h + 1)} (hT : IsT H (h + 1) t) {c : BT α h} (hc : c ∈ t.2.2) : cntOf H (rid c) = ((toL h c).length : Nat) := by
  unfold cntOf
  rw [(hT.2 c hc).root]
  simp [recOf_cnt]

theorem recOf_cut {α : Type} {H : Nat → Option (NodeR α)} {h : Nat} {t : BT α h} {mn mx i : Nat} (m : Nat) (hT : IsT H h t) (hs : Sh mn mx h t) (hi : i < (its t).length) :
    recOf h (cutL t i) = ⟨(i : Nat) + ksum (cntOf H) ((kidIds t).take (i + 1)), (its t).take i, (recOf h t).kids.map (·.take (i + 1))⟩ ∧
    recOf h (cutR t m i) = ⟨(((its t).length - (i + 1) : Nat) : Int) + ksum (cntOf H) ((kidIds t).drop (i + 1)), (its t).drop (i + 1), (recOf h t).kids.map (·.drop (i + 1))⟩ := by
  match h, t with
  | 0, t =>
    have hi' : i < t.2.length := hi
    refine ⟨?_, ?_⟩
    · show (⟨((t.2.take i).length : Nat), t.2.take i, none⟩ : NodeR α) = ⟨(i : Nat) + ksum (cntOf H) (([] : List Nat).take (i + 1)), t.2.take i, none⟩
      rw [List.take_nil, ksum_nil, List.length_take, Nat.min_eq_left (by omega)]; simp
    · show (⟨((t.2.drop (i + 1)).length : Nat), t.2.drop (i + 1), none⟩ : NodeR α) = ⟨((t.2.length - (i + 1) : Nat) : Int) + ksum (cntOf H) (([] : List Nat).drop (i + 1)), t.2.drop (i + 1), none⟩
      rw [List.drop_nil, ksum_nil, List.length_drop]; simp
  | h + 1, t =>
    have hi' : i < t.2.1.length := hi
    have hl : t.2.2.length = t.2.1.length + 1 := hs.2.1
    have hk1 := ksum_rids (cntOf H) (t.2.2.take (i + 1)) (fun c hc => cntOf_kid hT (List.mem_of_mem_take hc))
    have hk2 := ksum_rids (cntOf H) (t.2.2.drop (i + 1)) (fun c hc => cntOf_kid hT (List.mem_of_mem_drop hc))
    refine ⟨?_, ?_⟩
    · show (⟨((inter (t.2.1.take i) ((t.2.2.take (i + 1)).map (toL h))).length : Nat), t.2.1.take i, some ((t.2.2.take (i + 1)).map fun c => some (rid c))⟩ : NodeR α) =
        ⟨(i : Nat) + ksum (cntOf H) ((t.2.2.map rid).take (i + 1)), t.2.1.take i, some ((t.2.2.map fun c => some (rid c)).take (i + 1))⟩
      rw [← List.map_take, ← List.map_take, hk1, inter_len _ _ (by simp; omega), List.length_take, Nat.min_eq_left (by omega)]
      simp
    · show (⟨((inter (t.2.1.drop (i + 1)) ((t.2.2.drop (i + 1)).map (toL h))).length : Nat), t.2.1.drop (i + 1), some ((t.2.2.drop (i + 1)).map fun c => some (rid c))⟩ : NodeR α) =
        ⟨((t.2.1.length - (i + 1) : Nat) : Int) + ksum (cntOf H) ((t.2.2.map rid).drop (i + 1)), t.2.1.drop (i + 1), some ((t.2.2.map fun c => some (rid c)).drop (i + 1))⟩
      rw [← List.map_drop, ← List.map_drop, hk2, inter_len _ _ (by simp; omega), List.length_drop]
      simp

/-- The item finds room on its way, or its equal. -/
def Avail (mx : Nat) : (h : Nat) → BT (It ord) h → It ord → Prop
  | 0, t, x => t.2.length < mx ∨ ∃ i y, HitAt ltM t.2 x i y
  | h + 1, t, x => t.2.1.length < mx ∨ (∃ i y, HitAt ltM t.2.1 x i y) ∨ ∃ i c, PosAt ltM t.2.1 x i ∧ t.2.2[i]? = some c ∧ Avail mx h c x

theorem Avail.room {mx : Nat} : {h : Nat} → {t : BT (It ord) h} → {x : It ord} → (its t).length < mx → Avail mx h t x
  | 0, _, _, h => .inl h
  | _ + 1, _, _, h => .inl h
theorem Avail.hit {mx : Nat} : {h : Nat} → {t : BT (It ord) h} → {x y : It ord} → {i : Nat} → HitAt ltM (its t) x i y → Avail mx h t x
  | 0, _, _, _, _, h => .inr ⟨_, _, h⟩
  | _ + 1, _, _, _, _, h => .inr (.inl ⟨_, _, h⟩)

def Found (l : List (It ord)) (x : It ord) (pr : It ord) (rp : Bool) : Prop := (∃ y, fndL ltM x l = some y ∧ pr = y ∧ rp = true) ∨ (fndL ltM x l = none ∧ rp = false)

/-- The item lies in the tree T'. -/
structure SetIn (mn mx B : Nat) (H : Nat → Option (NodeR (It ord))) (h : Nat) (T : BT (It ord) h) (x : It ord) (H' : Nat → Option (NodeR (It ord))) (pr : It ord) (rp : Bool) (T' : BT (It ord) h) : Prop where
  isT : IsT H' h T'
  rid' : rid T' = rid T
  nd : (ids h T').Nodup
  new : ∀ a ∈ ids h T', a ∈ ids h T ∨ B ≤ a
  sh : Sh mn mx h T'
  len : (its T).length ≤ (its T').length
  list : toL h T' = insL ltM x (toL h T)
  found : Found (toL h T) x pr rp
  rest : ∀ a, a < B → a ∉ ids h T → H' a = H a

def SetOut (mn mx B : Nat) (H : Nat → Option (NodeR (It ord))) (h : Nat) (T : BT (It ord) h) (x : It ord) (H' : Nat → Option (NodeR (It ord))) (pr : It ord) (rp sp : Bool) : Prop :=
  (sp = true ∧ H' = H ∧ ¬ Avail mx h T x) ∨ (sp = false ∧ Avail mx h T x ∧ ∃ T', SetIn mn mx B H h T x H' pr rp T')

structure TreeIn (k : Kc ord) (mn mx : Nat) (w : World) (F : Nat → Prop) (H : Nat → Option (NodeR (It ord))) (t : Nat) (h : Nat) (T : BT (It ord) h) : Prop where
  fam : Fam (parM k) w F H
  map : MapAt k mn mx w t
  out : ∀ b, MOwn k t b → ¬ F b
  isT : IsT H h T
  nd : (ids h T).Nodup
  sh : Sh mn mx h T
  srt : Srt ltM (toL h T)
  big : (toL h T).length ≤ 100000000000000
  m3 : 3 ≤ mx
  m1000 : mx ≤ 1000
  mh : mn ≤ mx / 2
  mh2 : mn ≤ mx - (mx / 2 + 1)

def SetSpec (ord : List Int) (h : Nat) : Prop := ∀ (k : Kc ord) (mn mx t : Nat) (pa : Addr) (dp : Int) (x : It ord) (w : World) (F : Nat → Prop) (H : Nat → Option (NodeR (It ord))) (T : BT (It ord) h), TreeIn k mn mx w F H t h T →
  w.cell? pa = some (.pointer (some ⟨rid T, 0, none⟩)) →
  Calls Try.prog 116 #[.pointer (some ⟨t, 0, none⟩), .pointer (some pa), aggM x, .pointer none, .int .i64 dp] w (KidPost k F (fun w1 H' pr rp sp => SetOut mn mx w1.heap.size H h T x H' pr rp sp) w)

theorem updNe {α : Type} {H : Nat → Option (NodeR α)} {n a : Nat} {r : NodeR α} (h : a ≠ n) : upd H n r a = H a := if_neg h

theorem set_hit_any {h : Nat} {k : Kc ord} {mn mx t : Nat} {pa : Addr} {dp : Int} {x y : It ord} {i : Nat} {w : World} {F : Nat → Prop} {H : Nat → Option (NodeR (It ord))} {T : BT (It ord) h} (hI : TreeIn k mn mx w F H t h T)
    (hpa : w.cell? pa = some (.pointer (some ⟨rid T, 0, none⟩))) (hy : HitAt ltM (its T) x i y) :
    Calls Try.prog 116 #[.pointer (some ⟨t, 0, none⟩), .pointer (some pa), aggM x, .pointer none, .int .i64 dp] w (KidPost k F (fun w1 H' pr rp sp => SetOut mn mx w1.heap.size H h T x H' pr rp sp) w) := by
  have hl := hI.sh.len
  have hs := its_srt hI.sh hI.srt
  have := hI.m1000
  refine (nodeSet_hit k mn mx t (rid T) pa dp x y i (recOf h T) w F H hI.fam hI.map hI.isT.root hpa (by rw [recOf_items]; exact hs) (by rw [recOf_items]; omega) (by rw [recOf_items]; exact hy)).mono ?_
  rintro e w' ⟨rfl, h1, h2⟩
  rw [recOf_items] at h1
  obtain ⟨e1, e2⟩ := toL_hit swoM hI.sh hI.srt hy
  refine ⟨_, y, true, false, rfl, h1, h2, .inr ⟨rfl, .hit hy, setIt T i x, ?_⟩⟩
  exact ⟨hI.isT.setIt hI.nd hI.sh hy.at_ x, rid_setIt T i x, by rw [ids_setIt]; exact hI.nd, fun a ha => .inl (by rw [ids_setIt] at ha; exact ha), sh_setIt i x hI.sh, by rw [its_setIt, List.length_set]; exact Nat.le_refl _, e1, .inl ⟨y, e2, rfl, rfl⟩,
    fun a ha hn => updNe (fun e => hn (e ▸ rid_mem T))⟩

theorem setSpec0 : SetSpec ord 0 := by
  intro k mn mx t pa dp x w F H T hI hpa
  rcases pos_or_hit swoM (x := x) (its_srt hI.sh hI.srt) with ⟨i, hp⟩ | ⟨i, y, hy⟩
  · have hl : T.2.length ≤ mx := hI.sh
    have hm := hI.m1000
    rcases Nat.lt_or_ge T.2.length mx with hlt | hge
    · refine (nodeSet_leaf_room k mn mx t (rid T) pa dp x i (recOf 0 T) w F H hI.fam hI.map hI.out hI.isT.root hpa hI.srt hlt hm hp rfl (by show (0 : Int) ≤ (T.2.length : Nat); omega) (by show ((T.2.length : Nat) : Int) ≤ _; omega)).mono ?_
      rintro e w' ⟨rfl, h1, h2⟩
      obtain ⟨e1, e2⟩ := pos_gap swoM hp
      refine ⟨_, ((0, 0) : It ord), false, false, rfl, h1, h2, .inr ⟨rfl, .room hlt, (T.1, T.2.take i ++ x :: T.2.drop i), ?_⟩⟩
      have hle := hp.le
      have hl2 : (T.2.take i ++ x :: T.2.drop i).length = T.2.length + 1 := by
        have : i ≤ T.2.length := hle
        simp; omega
      refine ⟨?_, rfl, hI.nd, fun a ha => .inl ha, ?_, ?_, e1.symm, .inr ⟨e2, rfl⟩, fun a ha hn => updNe (fun e => hn (e ▸ rid_mem T))⟩
      · show upd H (rid T) _ (rid T) = some (recOf 0 ((T.1, T.2.take i ++ x :: T.2.drop i) : BT (It ord) 0))
        refine (if_pos rfl).trans ?_
        show some (⟨((T.2.length : Nat) : Int) + 1, T.2.take i ++ x :: T.2.drop i, none⟩ : NodeR (It ord)) = some ⟨((T.2.take i ++ x :: T.2.drop i).length : Nat), T.2.take i ++ x :: T.2.drop i, none⟩
        rw [hl2]; rfl
      · show (T.2.take i ++ x :: T.2.drop i).length ≤ mx
        omega
      · show T.2.length ≤ (T.2.take i ++ x :: T.2.drop i).length
        omega
    · refine (nodeSet_leaf_full k mn mx t (rid T) pa dp x i (recOf 0 T) w F H hI.fam hI.map hI.isT.root hpa hI.srt (by show T.2.length = mx; omega) hm hp rfl).mono ?_
      rintro e w' ⟨rfl, h1, h2⟩
      refine ⟨_, ((0, 0) : It ord), false, true, rfl, h1, h2.mono (fun _ _ _ h => h.elim), .inl ⟨rfl, rfl, ?_⟩⟩
      rintro (h | ⟨j, y, h⟩)
      · omega
      · have := hp.right j y (hit_le hp h) h.at_
        rw [h.n2] at this; cases this
  · exact set_hit_any hI hpa hy
end Go.Proofs.Ytojplcbkiogcpaa
