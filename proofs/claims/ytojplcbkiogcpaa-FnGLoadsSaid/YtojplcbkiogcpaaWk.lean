/- nodeSet over trees: a branch whose child takes the item. -/
import Derived.Test.YtojplcbkiogcpaaWj
namespace Go.Proofs.Ytojplcbkiogcpaa
set_option linter.unusedSimpArgs false
set_option linter.unusedVariables false
open Go.RowKit
variable {ord : List Int} {k : Kc ord}

theorem set_same {α : Type} {l : List α} {i : Nat} {v : α} (h : l[i]? = some v) : l.set i v = l := by
  obtain ⟨hi, rfl⟩ := List.getElem?_eq_some_iff.1 h
  exact List.set_getElem_self hi

theorem mem_set_cases {α : Type} {l : List α} {i : Nat} {c c' d : α} (hc : l[i]? = some c) (hd : d ∈ l.set i c') : d = c' ∨ d ∈ l.take i ∨ d ∈ l.drop (i + 1) := by
  rw [set_at hc] at hd
  simp only [List.mem_append, List.mem_cons, List.not_mem_nil, or_false] at hd
  rcases hd with (hd | hd) | hd
  · exact .inr (.inl hd)
  · exact .inl hd
  · exact .inr (.inr hd)

/-- A child beside the i-th shares no node with it. -/
theorem kid_apart {α : Type} {h : Nat} {t : BT α (h + 1)} {i : Nat} {c d : BT α h} (hc : t.2.2[i]? = some c) (hn : (ids (h + 1) t).Nodup) (hd : d ∈ t.2.2.take i ∨ d ∈ t.2.2.drop (i + 1)) {a : Nat} (ha : a ∈ ids h d) : a ∉ ids h c := by
  obtain ⟨n, xs, ts⟩ := t
  intro hac
  have e : ids (h + 1) ((n, xs, ts) : BT α (h + 1)) = ids (h + 1) ((n, xs, ts.take i ++ c :: ts.drop (i + 1)) : BT α (h + 1)) := by rw [← split_at hc]
  rw [e] at hn
  obtain ⟨_, h1, h2⟩ := nodup_apart hn hac
  rcases hd with hd | hd
  · exact h1 (List.mem_flatMap.2 ⟨d, hd, ha⟩)
  · exact h2 (List.mem_flatMap.2 ⟨d, hd, ha⟩)

theorem kid_mem {α : Type} {h : Nat} {t : BT α (h + 1)} {i : Nat} {d : BT α h} (hd : d ∈ t.2.2.take i ∨ d ∈ t.2.2.drop (i + 1)) : d ∈ t.2.2 := by
  rcases hd with hd | hd
  · exact List.mem_of_mem_take hd
  · exact List.mem_of_mem_drop hd

/-- A child has taken the item: so has the tree. -/
theorem setKid_in {mn mx B B1 : Nat} {H H' : Nat → Option (NodeR (It ord))} {h : Nat} {T : BT (It ord) (h + 1)} {x : It ord} {pr : It ord} {rp : Bool} {i : Nat} {c c' : BT (It ord) h} (hT : IsT H (h + 1) T) (hd : (ids (h + 1) T).Nodup) (hB : ∀ a ∈ ids (h + 1) T, a < B) (hBB : B ≤ B1)
    (hs : Sh mn mx (h + 1) T) (hsrt : Srt ltM (toL (h + 1) T)) (hp : PosAt ltM T.2.1 x i) (hc : T.2.2[i]? = some c) (hi : SetIn mn mx B1 H h c x H' pr rp c') :
    SetIn mn mx B H (h + 1) T x (if rp then H' else upd H' (rid T) { recOf (h + 1) T with cnt := (recOf (h + 1) T).cnt + 1 }) pr rp (setKid T i c') := by
  have hcm : c ∈ T.2.2 := List.mem_of_getElem? hc
  obtain ⟨hA, hC⟩ := around swoM hs hc hsrt hp
  have hlist : toL (h + 1) (setKid T i c') = insL ltM x (toL (h + 1) T) := by
    rw [toL_setKid hs hc, hi.list, toL_at hs hc, insL_mid swoM hA hC]
  have hfnd : fndL ltM x (toL (h + 1) T) = fndL ltM x (toL h c) := by rw [toL_at hs hc, fndL_mid swoM hA hC]
  have hfound : Found (toL (h + 1) T) x pr rp := by unfold Found; rw [hfnd]; exact hi.found
  have hlen := insL_len (lt := ltM) (x := x) (l := toL (h + 1) T)
  rw [← hlist] at hlen
  obtain ⟨n1, n2⟩ := ids_setKid (c' := c') hc hd hB (fun a ha => by rcases hi.new a ha with h | h; exact .inl h; exact .inr (by omega)) hi.nd
  have hroot : rid T ∉ ids h c := nodup_root hd hcm
  have hrB := hB _ (rid_mem T)
  have hHn : H' (rid T) = some (recOf (h + 1) T) := (hi.rest _ (by omega) hroot).trans hT.root
  have hoff : ∀ a, a ≠ rid T → (if rp then H' else upd H' (rid T) { recOf (h + 1) T with cnt := (recOf (h + 1) T).cnt + 1 }) a = H' a := by
    intro a ha
    cases rp
    · exact updNe ha
    · rfl
  have hkids : (setKid T i c').2.2.map (fun c => some (rid c)) = T.2.2.map fun c => some (rid c) := by
    show (T.2.2.set i c').map _ = _
    rw [List.map_set, hi.rid']
    exact set_same (by simp [hc])
  refine ⟨⟨?_, ?_⟩, rfl, n1, n2, ?_, Nat.le_refl _, hlist, hfound, ?_⟩
  · show (if rp then H' else upd H' (rid T) { recOf (h + 1) T with cnt := (recOf (h + 1) T).cnt + 1 }) (rid T) = some (⟨((toL (h + 1) (setKid T i c')).length : Nat), T.2.1, some ((setKid T i c').2.2.map fun c => some (rid c))⟩ : NodeR (It ord))
    rw [hkids, hlen]
    rcases hfound with ⟨y, f1, _, rfl⟩ | ⟨f1, rfl⟩
    · rw [f1]; exact hHn
    · rw [f1]; exact if_pos rfl
  · intro d hd2
    rcases mem_set_cases hc hd2 with rfl | hd2
    · refine hi.isT.congr fun a ha => hoff a fun e => ?_
      rcases hi.new a ha with h | h
      · exact hroot (e ▸ h)
      · omega
    · have hdm := kid_mem hd2
      refine (hT.2 d hdm).congr fun a ha => ?_
      rw [hoff a fun e => nodup_root hd hdm (e ▸ ha)]
      exact hi.rest a (by have := hB a (ids_kid hdm ha); omega) (kid_apart hc hd hd2 ha)
  · refine ⟨hs.1, ?_, fun d hd2 => ?_⟩
    · show (T.2.2.set i c').length = T.2.1.length + 1
      rw [List.length_set]; exact hs.2.1
    · rcases mem_set_cases hc hd2 with rfl | hd2
      · exact ⟨Nat.le_trans (hs.2.2 c hcm).1 hi.len, hi.sh⟩
      · exact hs.2.2 d (kid_mem hd2)
  · intro a ha hn
    rw [hoff a fun e => hn (e ▸ rid_mem T)]
    exact hi.rest a (by omega) fun hm => hn (ids_kid hcm hm)

theorem TreeIn.kid {k : Kc ord} {mn mx : Nat} {w w1 : World} {F : Nat → Prop} {H : Nat → Option (NodeR (It ord))} {t h : Nat} {T : BT (It ord) (h + 1)} (hI : TreeIn k mn mx w F H t (h + 1) T) (hc1 : Chg (fun _ _ => False) w w1) (hf : Fam (parM k) w1 F H) (hm : MapAt k mn mx w1 t)
    {i : Nat} {c : BT (It ord) h} (hc : T.2.2[i]? = some c) : TreeIn k mn mx w1 F H t h c := by
  have hcm : c ∈ T.2.2 := List.mem_of_getElem? hc
  refine ⟨hf, hm, hI.out, hI.isT.kid hcm, nodup_kid hI.nd hcm, (hI.sh.2.2 c hcm).2, sub_srt hI.sh hc hI.srt, ?_, hI.m3, hI.m1000, hI.mh, hI.mh2⟩
  have := hI.big
  rw [toL_at hI.sh hc] at this
  simp only [List.length_append] at this
  omega

/-- The post of a call that lays the item in. -/
def SetYes (mn mx B : Nat) (H : Nat → Option (NodeR (It ord))) (h : Nat) (T : BT (It ord) h) (x : It ord) (H' : Nat → Option (NodeR (It ord))) (pr : It ord) (rp sp : Bool) : Prop :=
  sp = false ∧ ∃ T', SetIn mn mx B H h T x H' pr rp T'

theorem set_step1 {h : Nat} (ih : SetSpec ord h) {k : Kc ord} {mn mx t : Nat} {pa : Addr} {dp : Int} {x : It ord} {w : World} {F : Nat → Prop} {H : Nat → Option (NodeR (It ord))} {T : BT (It ord) (h + 1)} (hI : TreeIn k mn mx w F H t (h + 1) T)
    (hpa : w.cell? pa = some (.pointer (some ⟨rid T, 0, none⟩))) {i : Nat} {c : BT (It ord) h} (hp : PosAt ltM T.2.1 x i) (hc : T.2.2[i]? = some c) (ha : Avail mx h c x) :
    Calls Try.prog 116 #[.pointer (some ⟨t, 0, none⟩), .pointer (some pa), aggM x, .pointer none, .int .i64 dp] w (KidPost k F (fun w1 H' pr rp sp => SetYes mn mx w1.heap.size H (h + 1) T x H' pr rp sp) w) := by
  have hcm : c ∈ T.2.2 := List.mem_of_getElem? hc
  have hl : (its T).length ≤ mx := hI.sh.len
  have hm := hI.m1000
  have hlt : ∀ a ∈ ids (h + 1) T, a < w.heap.size := fun a ha => hI.isT.lt hI.fam ha
  have hbig := hI.big
  refine (nodeSet_kid_ok k mn mx t (rid T) pa dp x i (recOf (h + 1) T) w F H hI.fam hI.map hI.out hI.isT.root hpa (its_srt hI.sh hI.srt) hl hm hp (T.2.2.map rid) (by show some (T.2.2.map fun c => some (rid c)) = _; rw [List.map_map]; rfl) (rid c) (by rw [List.getElem?_map, hc]; rfl)
    (by rw [recOf_cnt]; omega) (by rw [recOf_cnt]; omega) (fun w1 H' pr rp sp => SetOut mn mx w1.heap.size H h c x H' pr rp sp) (fun w1 pa' dp' hc1 hf1 hm1 hpa1 => ih k mn mx t pa' dp' x w1 F H c (hI.kid hc1 hf1 hm1 hc) hpa1) ?_).mono ?_
  · rintro w1 H' pr rp sp (⟨_, _, hno⟩ | ⟨rfl, _, c', hi⟩) hw
    · exact absurd ha hno
    · exact ⟨rfl, (hi.rest _ (by have := hlt _ (rid_mem T); omega) (nodup_root hI.nd hcm)).trans hI.isT.root⟩
  · rintro e w' ⟨w1, H', pr, rp, hc1, hz, rfl, h1, h2⟩
    rcases hz with ⟨hno, _, _⟩ | ⟨_, _, c', hi⟩
    · cases hno
    · exact ⟨_, pr, rp, false, rfl, h1, h2, rfl, _, setKid_in hI.isT hI.nd hlt hc1.size hI.sh hI.srt hp hc hi⟩
end Go.Proofs.Ytojplcbkiogcpaa
