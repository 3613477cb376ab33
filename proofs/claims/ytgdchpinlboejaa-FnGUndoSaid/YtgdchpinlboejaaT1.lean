/- A world in a script gets a name; GDelete of slices; what the laws There and Undo share. -/
import Derived.Lib.AppendZeros
import Derived.Test.YtgdchpinlboejaaA2
import Derived.Test.YtgdchpinlboejaaA9
import Derived.Test.YtgdchpinlboejaaA10
import Derived.Test.YtgdchpinlboejaaA11
import Derived.Test.YtgdchpinlboejaaA12
import Derived.Test.YtgdchpinlboejaaA20
namespace Go.Proofs.Ytgdchpinlboejaa
set_option linter.unusedSimpArgs false
set_option linter.unusedVariables false
open Go.RowKit

variable {ord : List Int}

/-- The items of ks taken out of l one behind the other. -/
def delsL (lt : It ord → It ord → Bool) (l ks : List (It ord)) : List (It ord) := ks.foldl (fun acc x => delL lt x acc) l

/-- What there was of each. -/
def delsF (lt : It ord → It ord → Bool) (l ks : List (It ord)) : List (Option (It ord)) := (List.range ks.length).map fun j => (ks[j]?).bind fun x => fndL lt x (delsL lt l (ks.take j))

theorem delsF_len (lt : It ord → It ord → Bool) (l ks : List (It ord)) : (delsF lt l ks).length = ks.length := by simp [delsF]

theorem delsF_take {lt : It ord → It ord → Bool} {l ks : List (It ord)} {j : Nat} {x : It ord} (hx : ks[j]? = some x) : (delsF lt l ks).take (j + 1) = (delsF lt l ks).take j ++ [fndL lt x (delsL lt l (ks.take j))] := by
  have hj := (List.getElem?_eq_some_iff.1 hx).1
  rw [List.take_add_one]
  congr 1
  unfold delsF
  rw [List.getElem?_map, List.getElem?_range hj]
  simp [hx]

theorem delsL_take {lt : It ord → It ord → Bool} {l ks : List (It ord)} {j : Nat} {x : It ord} (hx : ks[j]? = some x) : delsL lt l (ks.take (j + 1)) = delL lt x (delsL lt l (ks.take j)) := by
  unfold delsL
  rw [List.take_add_one, hx, List.foldl_append]; rfl

theorem delsL_sub (lt : It ord → It ord → Bool) : ∀ (ks l : List (It ord)), (delsL lt l ks).Sublist l
  | [], l => List.Sublist.refl _
  | x :: ks, l => (delsL_sub lt ks (delL lt x l)).trans (delL_sub l)

theorem delsL_len (lt : It ord → It ord → Bool) (l ks : List (It ord)) : (delsL lt l ks).length ≤ l.length := (delsL_sub lt ks l).length_le

end Go.Proofs.Ytgdchpinlboejaa

namespace Go.Proofs.Ytgdchpinlboejaa
set_option linter.unusedSimpArgs false
set_option linter.unusedVariables false

variable {ord : List Int}

/-- Neither comes before the other. -/
def eqv (x y : It ord) : Bool := !ltM x y && !ltM y x

theorem eqv_symm {x y : It ord} : eqv x y = eqv y x := by unfold eqv; rw [Bool.and_comm]
theorem eqv_self (x : It ord) : eqv x x = true := by unfold eqv; rw [swoM.irrefl]; rfl

/-- A sorted list, seen from x. -/
theorem look {L : List (It ord)} (hs : Srt ltM L) (x : It ord) :
    (∃ A C, L = A ++ C ∧ (∀ a ∈ A, ltM a x = true) ∧ (∀ c ∈ C, ltM x c = true) ∧ fndL ltM x L = none ∧ insL ltM x L = A ++ x :: C) ∨
    (∃ A y C, L = A ++ y :: C ∧ (∀ a ∈ A, ltM a x = true) ∧ (∀ c ∈ C, ltM x c = true) ∧ eqv y x = true ∧ fndL ltM x L = some y ∧ delL ltM x L = A ++ C) := by
  rcases pos_or_hit swoM (x := x) hs with ⟨i, hp⟩ | ⟨i, y, hy⟩
  · have hA : ∀ a ∈ L.take i, ltM a x = true := fun a ha => by
      obtain ⟨j, hj, e⟩ := mem_take_get ha
      exact hp.left j a hj e
    have hC : ∀ c ∈ L.drop i, ltM x c = true := fun c hc => by
      obtain ⟨j, hj, e⟩ := mem_drop_get hc
      exact hp.right j c hj e
    refine .inl ⟨L.take i, L.drop i, (List.take_append_drop i L).symm, hA, hC, ?_, ?_⟩
    · conv => lhs; rw [← List.take_append_drop i L]
      exact fndL_gap swoM hA hC
    · conv => lhs; rw [← List.take_append_drop i L]
      exact insL_gap swoM hA hC
  · have e := split_at hy.at_
    have hA : ∀ a ∈ L.take i, ltM a x = true := fun a ha => by
      obtain ⟨j, hj, e⟩ := mem_take_get ha
      exact hy.left j a hj e
    have hC : ∀ c ∈ L.drop (i + 1), ltM x c = true := fun c hc => by
      rw [e] at hs
      have := (List.pairwise_cons.1 (List.pairwise_append.1 hs).2.1).1 c hc
      exact swoM.lt_of_nlt_of_lt hy.n1 this
    refine .inr ⟨L.take i, y, L.drop (i + 1), e, hA, hC, by unfold eqv; rw [hy.n1, hy.n2]; rfl, ?_, ?_⟩
    · conv => lhs; rw [e]
      exact fndL_hit hA hy.n1 hy.n2
    · conv => lhs; rw [e]
      exact delL_hit hA hy.n1 hy.n2

theorem fnd_mem {L : List (It ord)} (hs : Srt ltM L) {x : It ord} (hx : x ∈ L) : fndL ltM x L = some x := by
  obtain ⟨A, B, rfl⟩ := List.append_of_mem hx
  exact fndL_hit (fun a ha => (List.pairwise_append.1 hs).2.2 a ha x List.mem_cons_self) (swoM.irrefl x) (swoM.irrefl x)

theorem fnd_none_eqv {L : List (It ord)} (hs : Srt ltM L) {x y : It ord} (h : fndL ltM x L = none) (hy : y ∈ L) : eqv y x = false := by
  rcases look hs x with ⟨A, C, rfl, hA, hC, _, _⟩ | ⟨A, z, C, _, _, _, _, h2, _⟩
  · unfold eqv
    rcases List.mem_append.1 hy with hy | hy
    · rw [hA y hy]; rfl
    · rw [hC y hy]; simp
  · rw [h2] at h; cases h

theorem del_mem {L : List (It ord)} (hs : Srt ltM L) {x y : It ord} (hy : y ∈ L) (hne : eqv y x = false) : y ∈ delL ltM x L := by
  rcases look hs x with ⟨A, C, _, _, _, h2, _⟩ | ⟨A, z, C, rfl, _, _, he, _, h2⟩
  · rw [delL_none h2]; exact hy
  · rw [h2]
    rcases List.mem_append.1 hy with hy | hy
    · exact List.mem_append_left _ hy
    · rcases List.mem_cons.1 hy with rfl | hy
      · rw [he] at hne; cases hne
      · exact List.mem_append_right _ hy

theorem filter_del {L : List (It ord)} (hs : Srt ltM L) {x : It ord} {p : It ord → Bool} (hp : ∀ y, eqv y x = true → p y = false) : (delL ltM x L).filter p = L.filter p := by
  rcases look hs x with ⟨A, C, _, _, _, h2, _⟩ | ⟨A, z, C, rfl, _, _, he, _, h2⟩
  · rw [delL_none h2]
  · rw [h2, List.filter_append, List.filter_append, List.filter_cons, hp z he]; simp

theorem filter_ins {L : List (It ord)} (hs : Srt ltM L) {x : It ord} (hn : fndL ltM x L = none) {p : It ord → Bool} (hp : p x = false) : (insL ltM x L).filter p = L.filter p := by
  rcases look hs x with ⟨A, C, rfl, _, _, _, h2⟩ | ⟨A, z, C, _, _, _, _, h2, _⟩
  · rw [h2, List.filter_append, List.filter_append, List.filter_cons, hp]; simp
  · rw [h2] at hn; cases hn

theorem ins_mem {L : List (It ord)} (hs : Srt ltM L) {x : It ord} (hn : fndL ltM x L = none) {y : It ord} : y ∈ insL ltM x L ↔ y = x ∨ y ∈ L := by
  rcases look hs x with ⟨A, C, rfl, _, _, _, h2⟩ | ⟨A, z, C, _, _, _, _, h2, _⟩
  · rw [h2]
    simp only [List.mem_append, List.mem_cons]
    constructor
    · rintro (h | h | h)
      · exact .inr (.inl h)
      · exact .inl h
      · exact .inr (.inr h)
    · rintro (h | h | h)
      · exact .inr (.inl h)
      · exact .inl h
      · exact .inr (.inr h)
  · rw [h2] at hn; cases hn

/-- An item that is not there, set and deleted again. -/
theorem there_back {L : List (It ord)} (hs : Srt ltM L) {x : It ord} (hn : fndL ltM x L = none) : fndL ltM x (insL ltM x L) = some x ∧ delL ltM x (insL ltM x L) = L := by
  rcases look hs x with ⟨A, C, e, hA, hC, _, h2⟩ | ⟨A, z, C, _, _, _, _, h2, _⟩
  · rw [h2]
    exact ⟨fndL_hit hA (swoM.irrefl x) (swoM.irrefl x), by rw [delL_hit hA (swoM.irrefl x) (swoM.irrefl x)]; exact e.symm⟩
  · rw [h2] at hn; cases hn

/-! ### Many of them -/
def insF (S k : List (It ord)) : List (It ord) := k.foldl (fun acc x => insL ltM x acc) S

def AllNew (S : List (It ord)) : List (It ord) → Prop
  | [] => True
  | x :: k => fndL ltM x S = none ∧ AllNew (insL ltM x S) k

theorem insF_len_le : ∀ (k S : List (It ord)), (insF S k).length ≤ S.length + k.length
  | [], S => by simp [insF]
  | x :: k, S => by
    have h1 := insF_len_le k (insL ltM x S)
    have h2 := insL_len (lt := ltM) (x := x) (l := S)
    show (insF (insL ltM x S) k).length ≤ _
    simp only [List.length_cons]
    split at h2 <;> omega

theorem allNew_of : ∀ (k S : List (It ord)), (insF S k).length = S.length + k.length → AllNew S k
  | [], _, _ => trivial
  | x :: k, S, h => by
    have h1 := insF_len_le k (insL ltM x S)
    have h2 := insL_len (lt := ltM) (x := x) (l := S)
    have h3 : (insF (insL ltM x S) k).length = S.length + (k.length + 1) := h
    cases hf : fndL ltM x S with
    | none =>
      rw [hf] at h2
      refine ⟨hf, allNew_of k _ ?_⟩
      simp at h2; omega
    | some y =>
      rw [hf] at h2
      simp at h2; omega

theorem insF_srt : ∀ (k S : List (It ord)), Srt ltM S → Srt ltM (insF S k)
  | [], _, h => h
  | x :: k, S, h => insF_srt k _ (insL_srt swoM x h)

theorem insF_mem : ∀ (k S : List (It ord)), Srt ltM S → AllNew S k → (∀ y ∈ S, y ∈ insF S k) ∧ (∀ x ∈ k, x ∈ insF S k)
  | [], S, _, _ => ⟨fun _ h => h, fun _ h => by cases h⟩
  | x :: k, S, hs, ⟨h1, h2⟩ => by
    obtain ⟨g1, g2⟩ := insF_mem k (insL ltM x S) (insL_srt swoM x hs) h2
    refine ⟨fun y hy => g1 y ((ins_mem hs h1).2 (.inr hy)), fun y hy => ?_⟩
    rcases List.mem_cons.1 hy with rfl | hy
    · exact g1 y ((ins_mem hs h1).2 (.inl rfl))
    · exact g2 y hy

theorem allNew_apart : ∀ (k S : List (It ord)), Srt ltM S → AllNew S k → k.Pairwise (fun a b => eqv a b = false) ∧ ∀ y ∈ S, ∀ x ∈ k, eqv y x = false
  | [], _, _, _ => ⟨List.Pairwise.nil, fun _ _ _ h => by cases h⟩
  | x :: k, S, hs, ⟨h1, h2⟩ => by
    obtain ⟨g1, g2⟩ := allNew_apart k (insL ltM x S) (insL_srt swoM x hs) h2
    refine ⟨List.pairwise_cons.2 ⟨fun y hy => g2 x ((ins_mem hs h1).2 (.inl rfl)) y hy, g1⟩, fun y hy z hz => ?_⟩
    rcases List.mem_cons.1 hz with rfl | hz
    · exact fnd_none_eqv hs h1 hy
    · exact g2 y ((ins_mem hs h1).2 (.inr hy)) z hz

theorem filter_insF {p : It ord → Bool} : ∀ (k S : List (It ord)), Srt ltM S → AllNew S k → (∀ x ∈ k, p x = false) → (insF S k).filter p = S.filter p
  | [], _, _, _, _ => rfl
  | x :: k, S, hs, ⟨h1, h2⟩, hp => by
    show (insF (insL ltM x S) k).filter p = _
    rw [filter_insF k _ (insL_srt swoM x hs) h2 (fun y hy => hp y (List.mem_cons_of_mem _ hy)), filter_ins hs h1 (hp x List.mem_cons_self)]

theorem delL_srt {L : List (It ord)} (hs : Srt ltM L) (x : It ord) : Srt ltM (delL ltM x L) := hs.sublist (delL_sub L)

theorem delsF_cons (S : List (It ord)) (x : It ord) (ks : List (It ord)) : delsF ltM S (x :: ks) = fndL ltM x S :: delsF ltM (delL ltM x S) ks := by
  unfold delsF
  rw [List.length_cons, List.range_succ_eq_map, List.map_cons, List.map_map]
  congr 1

theorem delsF_all : ∀ (ks S : List (It ord)), Srt ltM S → ks.Pairwise (fun a b => eqv a b = false) → (∀ x ∈ ks, x ∈ S) → delsF ltM S ks = ks.map some
  | [], _, _, _, _ => rfl
  | x :: ks, S, hs, hp, hm => by
    obtain ⟨h1, h2⟩ := List.pairwise_cons.1 hp
    rw [delsF_cons, fnd_mem hs (hm x List.mem_cons_self), delsF_all ks (delL ltM x S) (delL_srt hs x) h2 (fun y hy => del_mem hs (hm y (List.mem_cons_of_mem _ hy)) (by rw [eqv_symm]; exact h1 y hy))]
    rfl

theorem filter_dels {p : It ord → Bool} : ∀ (ks S : List (It ord)), Srt ltM S → (∀ x ∈ ks, ∀ y, eqv y x = true → p y = false) → (delsL ltM S ks).filter p = S.filter p
  | [], _, _, _ => rfl
  | x :: ks, S, hs, hp => by
    show (delsL ltM (delL ltM x S) ks).filter p = _
    rw [filter_dels ks _ (delL_srt hs x) (fun y hy => hp y (List.mem_cons_of_mem _ hy)), filter_del hs (hp x List.mem_cons_self)]

theorem del_no_eqv {L : List (It ord)} (hs : Srt ltM L) (x : It ord) : ∀ y ∈ delL ltM x L, eqv y x = false := by
  rcases look hs x with ⟨A, C, e, hA, hC, h2, _⟩ | ⟨A, z, C, e, hA, hC, _, _, h2⟩
  · rw [delL_none h2]
    exact fun y hy => fnd_none_eqv hs h2 hy
  · rw [h2]
    intro y hy
    unfold eqv
    rcases List.mem_append.1 hy with hy | hy
    · rw [hA y hy]; rfl
    · rw [hC y hy]; simp

theorem dels_no_eqv : ∀ (ks S : List (It ord)), Srt ltM S → ∀ y ∈ delsL ltM S ks, ∀ x ∈ ks, eqv y x = false
  | [], _, _, _, _, _, h => by cases h
  | x :: ks, S, hs, y, hy, z, hz => by
    rcases List.mem_cons.1 hz with rfl | hz
    · exact del_no_eqv hs z y ((delsL_sub ltM ks _).subset hy)
    · exact dels_no_eqv ks _ (delL_srt hs x) y hy z hz

/-- All that was new, deleted again in whatever order. -/
theorem undo {S k ks : List (It ord)} (hs : Srt ltM S) (hn : AllNew S k) (hp : ks.Perm k) : delsF ltM (insF S k) ks = ks.map some ∧ delsL ltM (insF S k) ks = S := by
  obtain ⟨m1, m2⟩ := insF_mem k S hs hn
  obtain ⟨a1, a2⟩ := allNew_apart k S hs hn
  have hpk : ks.Pairwise (fun a b => eqv a b = false) := (hp.pairwise_iff (fun h => by rw [eqv_symm]; exact h)).2 a1
  refine ⟨delsF_all ks _ (insF_srt k S hs) hpk (fun x hx => m2 x (hp.subset hx)), ?_⟩
  have hdec : ∀ (p : It ord → Bool), (p = fun y => ks.all fun x => !eqv y x) → delsL ltM (insF S k) ks = S := by
    intro p hpd
    have e1 : (delsL ltM (insF S k) ks).filter p = delsL ltM (insF S k) ks := List.filter_eq_self.2 fun y hy => by
      rw [hpd]
      exact List.all_eq_true.2 fun x hx => by rw [dels_no_eqv ks _ (insF_srt k S hs) y hy x hx]; rfl
    have e2 : S.filter p = S := List.filter_eq_self.2 fun y hy => by
      rw [hpd]
      exact List.all_eq_true.2 fun x hx => by rw [a2 y hy x (hp.subset hx)]; rfl
    have e3 := filter_dels (p := p) ks _ (insF_srt k S hs) (fun x hx y he => by
      rw [hpd]
      cases h : (ks.all fun x => !eqv y x) with
      | false => exact h
      | true =>
        have := List.all_eq_true.1 h x hx
        rw [he] at this; cases this)
    have e4 := filter_insF (p := p) k S hs hn (fun x hx => by
      rw [hpd]
      cases h : (ks.all fun z => !eqv x z) with
      | false => exact h
      | true =>
        have := List.all_eq_true.1 h x (hp.symm.subset hx)
        rw [eqv_self] at this; cases this)
    rw [← e1, e3, e4, e2]
  exact hdec _ rfl

theorem rot_perm {α : Type} (k : List α) (i : Nat) : (k.drop i ++ k.take i).Perm k := by
  have h : (k.take i ++ k.drop i).Perm k := by rw [List.take_append_drop]
  exact List.perm_append_comm.trans h

theorem rot_get {α : Type} (k : List α) (i j : Nat) (hi : i < k.length) (hj : j < k.length) : (k.drop i ++ k.take i)[j]? = k[(i + j) % k.length]? := by
  have hl : (k.drop i).length = k.length - i := List.length_drop
  rcases Nat.lt_or_ge j (k.length - i) with h | h
  · rw [List.getElem?_append_left (by omega), List.getElem?_drop, Nat.mod_eq_of_lt (by omega)]
  · rw [List.getElem?_append_right (by omega), hl, List.getElem?_take_of_lt (by omega)]
    congr 1
    rw [Nat.mod_eq_sub_mod (by omega), Nat.mod_eq_of_lt (by omega)]
    omega

theorem growL_append (l k : List (It ord)) : growL (l ++ k) = insF (growL l) k := by
  unfold growL insF
  rw [List.foldl_append]
end Go.Proofs.Ytgdchpinlboejaa

namespace Go.Proofs.Ytgdchpinlboejaa
set_option linter.unusedSimpArgs false
set_option linter.unusedVariables false
open Go.RowKit

variable {ord : List Int}

set_option maxRecDepth 100000 in
set_option maxHeartbeats 2000000 in
theorem GDelete_big (sv : Value) (d : Int) (nl : Bool) (p : Option Addr) (cap : Nat) (l : List (It ord)) (kv : Value) (ks : List (It ord)) (w : World) (hs : SlE intE w sv ord) (hol : ord.length ≤ 2147483647) (hd : FitD d) (hl : ItemsAt w p l) (hlen : l.length ≤ 8589934592) (hk : SlE itemE w kv ks) (hkl : ks.length ≤ 8589934592) :
    Calls Try.prog 15 #[.agg #[sv, .int .i64 d, .bool nl], .slice p l.length cap, kv] w fun e w' => ∃ v u, e = .returned (.tuple #[v, u]) ∧ SlE foundE w' v (delsF ltM (growL l) ks) ∧ SlE itemE w' u (delsL ltM (growL l) ks) ∧ Chg (fun _ _ => False) w w' := by
  have HGR := Lib.hid (fun w1 (c : Chg (fun _ _ => False) w w1) => grow_big (ord := ord) sv d nl p cap l w1 hd (hs.chg c) hol (hl.chg c) hlen)
  obtain ⟨hdim1, hdim2, hdim3, hdim4, hdim5⟩ := hd.dims
  unfold GrowPost at HGR
  have hgl := growL_take_len l l.length
  rw [List.take_length] at hgl
  have hdl := fun j => delsL_len (ltM (ord := ord)) (growL l) (ks.take j)
  have HGL := Lib.hid (fun j => Nat.le_trans (hdl j) (Nat.le_trans hgl hlen))
  obtain ⟨sa, sc, rfl⟩ : ∃ a c, sv = .slice a ord.length c := hs.form
  obtain ⟨a, kcap, rfl⟩ := hk.form
  have HKS := Lib.hid hk
  clear hl hs hgl hk hdl
  obtain ⟨i0, hi0, hz0, hz1, hz2⟩ := info_parts infoFound
  go_enter Try.func15, Try.ntmps15
  go_wp2_with fail
  refine (HGR.out _ ((Chg.refl _ _).alloc _)).mono ?_
  rintro e w1 ⟨k, t, F, rfl, hM, hc1', hF2', ho2'⟩
  have hca := (Chg.refl (fun _ _ => False) w).alloc (.cells #[.slice sa ord.length sc, .int .i64 d, .bool nl] 24)
  have hc1 := hca.trans hc1'
  have hF2 : ∀ b, F b → w.heap.size ≤ b := fun b hb => Nat.le_trans hca.size (hF2' b hb)
  have ho2 : ∀ b, MOwn k t b → w.heap.size ≤ b := fun b hb => Nat.le_trans hca.size (ho2' b hb)
  clear hc1' hF2' ho2'
  have hor : ∀ b, MOwn k t b → w.heap.size ≤ b := fun b hb => ho2 b hb
  have HOR := Lib.hid hor
  clear hor
  go_wp2_with fail
  go_loopw [9, 17] (fun v i wr => ∃ (j : Nat) (F' : Nat → Prop), j ≤ ks.length ∧ i = .int .i64 j ∧ OwnE foundE wr v ((delsF (ltM (ord := ord)) (growL l) ks).take j) w.heap.size ∧ MapIn k (mnD d) (mxD d) wr F' t (delsL (ltM (ord := ord)) (growL l) (ks.take j)) ∧ (∀ b, v.ownBlock = some b → ¬ F' b ∧ ¬ MOwn k t b) ∧ (∀ b, F' b → w.heap.size ≤ b) ∧ Chg (fun _ _ => False) w wr) (fun _ i _ => ks.length - (intOf i).toNat)
  case atStart => exact ⟨0, F, Nat.zero_le _, rfl, OwnE.nil _ _ _, by exact hM, (fun b hb => by cases hb), (fun b hb => hF2 b hb), hc1⟩
  case round =>
    obtain ⟨j, F', hj, rfl, how, hMr, hap, hFw, hc⟩ := hrel
    have hsz := hc.size
    by_cases hlt : j < ks.length
    · obtain ⟨x, hx⟩ : ∃ x, ks[j]? = some x := ⟨_, List.getElem?_eq_getElem hlt⟩
      obtain ⟨b, o, rfl, g0, g1⟩ := (HKS.out.chg hc).item hx
      have ht : (delsF (ltM (ord := ord)) (growL l) ks).take (j + 1) = (delsF (ltM (ord := ord)) (growL l) ks).take j ++ [fndL (ltM (ord := ord)) x (delsL (ltM (ord := ord)) (growL l) (ks.take j))] := by exact delsF_take hx
      have hnx : delsL (ltM (ord := ord)) (growL l) (ks.take (j + 1)) = delL ltM x (delsL (ltM (ord := ord)) (growL l) (ks.take j)) := by exact delsL_take hx
      have hll : ((delsF (ltM (ord := ord)) (growL l) ks).take j).length ≤ ks.length := by rw [List.length_take]; omega
      have hca := (Chg.refl (fun _ _ => False) wr).alloc (.cells #[.int .i64 x.1, .int .i64 x.2] 30)
      have hg := Delete_any (hMr.chg hca) x (by have := HGL.out j; omega) hdim1
      unfold aggM at hg
      have hap' : ∀ b, u9.ownBlock = some b → ¬ F' b ∧ ¬ MOwn k t b ∧ b < wr.heap.size := fun b hb => ⟨(hap b hb).1, (hap b hb).2, (how.own_lt hb).2⟩
      have HT := Lib.hid ht
      have HNX := Lib.hid hnx
      have HLL := Lib.hid hll
      have HG := Lib.hid hg
      have HOW0 := Lib.hid how
      have HAP := Lib.hid hap'
      have HFW := Lib.hid hFw
      have HC := Lib.hid hc
      have HMR := Lib.hid hMr
      clear hx ht hll hg how hap hap' hFw hc hnx hMr
      have i0' : (0 : Int) ≤ (j : Int) := by omega
      have i1 : (j : Int) < (ks.length : Int) := by omega
      go_wp2_with fail
      refine HG.out.mono ?_
      rintro e w2 ⟨hret, F2, hM2, hc2', hF2'⟩
      have hszA := hca.size
      have hF2w : ∀ b, F2 b → w.heap.size ≤ b := fun b hb => by
        rcases hF2' b hb with h | h
        · exact HFW.out b h
        · omega
      have hapr : ∀ b, u9.ownBlock = some b → ¬ F2 b := fun b hb h => by
        obtain ⟨a1, a2, a3⟩ := HAP.out b hb
        rcases hF2' b h with h | h
        · exact a1 h
        · omega
      have how2 := HOW0.out.chgOwn (hca.trans' hc2' (B := fun b _ => F' b ∨ b = t) (fun _ _ _ h => h.elim) (fun _ _ _ h => h)) (fun b _ hb e => by
        obtain ⟨a1, a2, a3⟩ := HAP.out b hb
        rcases e with e | e
        · exact a1 e
        · exact a2 (e ▸ MOwn.self))
      have hcw2 : Chg (fun _ _ => False) w w2 := (HC.out.trans hca).trans' hc2' (fun _ _ _ h => h) (fun b o hb e => by
        rcases e with e | e
        · have := HFW.out b e; omega
        · have := HOR.out t MOwn.self; omega)
      obtain ⟨y, q, hv, hf⟩ : ∃ (y : Int × Int) (q : Bool), e = .returned (.tuple #[.agg #[.int .i64 y.1, .int .i64 y.2], .bool q]) ∧ FoundIs (fndL (ltM (ord := ord)) x (delsL (ltM (ord := ord)) (growL l) (ks.take j))) y q := by
        rcases hret with ⟨y, e1, e2⟩ | ⟨e1, e2⟩
        · exact ⟨y, true, e2, by rw [e1]; exact ⟨rfl, rfl⟩⟩
        · exact ⟨(0, 0), false, e2, by rw [e1]; rfl⟩
      obtain ⟨fk, fv, fb, hfv, hfl⟩ := foundV_agg (fndL (ltM (ord := ord)) x (delsL (ltM (ord := ord)) (growL l) (ks.take j)))
      have hp := fun w => found_any (fndL (ltM (ord := ord)) x (delsL (ltM (ord := ord)) (growL l) (ks.take j))) y q w hf
      rw [hfv] at hp
      have HP := Lib.hid hp
      have hwr2 := hc2'.size
      have HM2 := Lib.hid hM2
      have HAR := Lib.hid hapr
      have HF2W := Lib.hid hF2w
      subst hv
      clear hp hf hret hc2' hF2' hfv hM2 hapr hF2w hca
      go_wp2_with fail
      refine (HP.out _).mono ?_
      rintro e w3 ⟨rfl, hc3⟩
      have hcb : Chg (fun _ _ => False) w3 (w3.alloc (.cells #[.int .i64 fk, .int .i64 fv, .bool fb] 36)) := (Chg.refl _ _).alloc _
      have hc3b := hc3.trans hcb
      have HOW := Lib.hid (how2.keep hc3b)
      have hs3 := hc3.size
      have hsb : (w3.alloc (.cells #[.int .i64 fk, .int .i64 fv, .bool fb] 36)).heap.size ≤ w3.heap.size + 1 := by simp
      have hsb2 : w3.heap.size + 1 ≤ (w3.alloc (.cells #[.int .i64 fk, .int .i64 fv, .bool fb] 36)).heap.size := by simp
      have hs2 := hcw2.size
      have HM3 := Lib.hid (HM2.out.chg hc3b)
      have hcw3 := hcw2.trans hc3b
      clear how2
      go_wp2_with (refine wpList_append_E2 foundE (by rfl) _ _ _ (by rfl) i0 _ 24 Try.underlying32 hi0 hz0 hz1 hz2 rfl _ (by rfl) _ w.heap.size HOW.out (Nat.le_trans hs2 (Nat.le_trans hs3 hcb.size)) ⟨w3.heap.size, 0, none⟩ 1 _ (by rfl) [fndL (ltM (ord := ord)) x (delsL (ltM (ord := ord)) (growL l) (ks.take j))] rfl (by decide) ?_ ?_ ?_ ?_)
      · exact El.src1 foundE (c := #[.int .i64 fk, .int .i64 fv, .bool fb]) (ha_at _ _ (by simp)) _ hfl.symm
      · have := HLL.out; unfold maxLen; omega
      · have := HLL.out; omega
      intro v' w' h1 h2 h3
      have hMn : MapIn k (mnD d) (mxD d) w' F2 t _ := HM3.out.chgA h2 (fun b _ hb e => HAR.out b e hb) (fun b _ hb e => (HAP.out b e).2.1 hb)
      have hcw' : Chg (fun _ _ => False) w w' := hcw3.trans' h2 (fun _ _ _ h => h) (fun b o hb e => by have := (HOW.out.own_lt e).1; omega)
      have hapn : ∀ b, v'.ownBlock = some b → ¬ F2 b ∧ ¬ MOwn k t b := fun b hb => by
        rcases h3 with h3 | ⟨nb, h3, hn⟩
        · rw [h3] at hb
          exact ⟨HAR.out b hb, (HAP.out b hb).2.1⟩
        · rw [h3] at hb
          have e : nb = b := Option.some.inj hb
          subst e
          exact ⟨fun hf => by have := HM3.out.famLt hf; omega, fun ho => by have := HM3.out.own ho; omega⟩
      have HMN := Lib.hid hMn
      have HAPN := Lib.hid hapn
      have H1 := Lib.hid h1
      clear h1 h2 h3 hMn hapn
      go_wp2
      go_roundw
      case rel => exact ⟨j + 1, F2, by omega, by go_num, by rw [HT.out]; exact H1.out, by rw [HNX.out]; exact HMN.out, HAPN.out, HF2W.out, hcw'⟩
      case measure => simp [intOf]; omega
    · obtain rfl : j = ks.length := by omega
      rw [List.take_of_length_le (by rw [delsF_len]; exact Nat.le_refl _)] at how
      have HOW := Lib.hid how.sl
      have hit := Items_any hMr hdim1 (by have := HGL.out ks.length; omega)
      have HIT := Lib.hid hit
      have hnlt : ¬ ((ks.length : Nat) : Int) < (ks.length : Int) := by omega
      clear how hit hMr hap hFw
      go_wp2_with fail
      refine HIT.out.mono ?_
      rintro e w4 ⟨v4, rfl, how4, hc4⟩
      go_wp2_with fail
      go_ret2
      exact ⟨_, _, rfl, HOW.out.chg hc4, by have := how4.sl; rw [List.take_length] at this; exact this, hc.trans hc4⟩

theorem GDelete_any (sv : Value) (d : Int) (nl : Bool) (p : Option Addr) (cap : Nat) (l : List (It ord)) (kv : Value) (ks : List (It ord)) (w : World) (hs : SlE intE w sv ord) (hol : ord.length ≤ 2147483647) (hd : FitD d) (hl : ItemsAt w p l) (hlen : l.length ≤ 2147483647) (hk : SlE itemE w kv ks) (hkl : ks.length ≤ 2147483647) :
    Calls Try.prog 15 #[.agg #[sv, .int .i64 d, .bool nl], .slice p l.length cap, kv] w fun e w' => ∃ v u, e = .returned (.tuple #[v, u]) ∧ SlE foundE w' v (delsF ltM (growL l) ks) ∧ SlE itemE w' u (delsL ltM (growL l) ks) ∧ Chg (fun _ _ => False) w w' :=
  GDelete_big sv d nl p cap l kv ks w hs hol hd hl (by omega) hk (by omega)
end Go.Proofs.Ytgdchpinlboejaa

namespace Go.Proofs.Ytgdchpinlboejaa
set_option linter.unusedSimpArgs false
set_option linter.unusedVariables false
open Go.RowKit

theorem growL_srt {ord : List Int} (l : List (It ord)) : Srt ltM (growL l) := by
  unfold growL
  have key : ∀ (l acc : List (It ord)), Srt ltM acc → Srt ltM (l.foldl (fun acc x => insL ltM x acc) acc) := by
    intro l
    induction l with
    | nil => intro acc h; exact h
    | cons x l ih => intro acc h; exact ih _ (insL_srt swoM x h)
  exact key l [] List.Pairwise.nil

theorem slOne {w : World} {b : Nat} {x : Int × Int} (h : w.heap[b]? = some (.cells #[.int .i64 x.1, .int .i64 x.2] 30 (0, 0))) : SlE itemE w (.slice (some ⟨b, 0, none⟩) 1 1) [x] := by
  refine ⟨some ⟨b, 0, none⟩, 1, rfl, Nat.le_refl _, .inr ⟨b, 0, rfl, fun j u hj => ?_⟩⟩
  have := El.src1 itemE h x rfl j u hj
  rw [add_none] at this
  exact this

theorem SlE.tail {w : World} {b o n c : Nat} {y : Int × Int} {B : List (Int × Int)} (h : SlE itemE w (.slice (some ⟨b, o, none⟩) n c) (y :: B)) : SlE itemE w (.slice (some ⟨b, o + 2, none⟩) (n - 1) (c - 1)) B := by
  obtain ⟨a, cap, e, h2, h3⟩ := h
  injection e with e1 e2 e3
  subst e1
  subst e3
  rw [List.length_cons] at h2 e2
  refine ⟨some ⟨b, o + 2, none⟩, c - 1, by rw [e2, Nat.add_sub_cancel], by omega, .inr ⟨b, o + 2, rfl, fun j u hj => ?_⟩⟩
  rcases h3 with h3 | ⟨b', o', e4, h4⟩
  · cases h3
  · obtain ⟨rfl, rfl⟩ : b = b' ∧ o = o' := by simpa using e4
    have hd := flat_drop itemE.par (y :: B) 1
    have hd' : (flat itemE.par (y :: B)).drop 2 = flat itemE.par B := hd
    rw [← hd', List.getElem?_drop] at hj
    have := h4 (2 + j) u hj
    rw [Nat.add_assoc]; exact this

theorem SlE.tail0 {w : World} {b o n : Nat} {y : Int × Int} {B : List (Int × Int)} (h : SlE itemE w (.slice (some ⟨b, o, none⟩) n 1) (y :: B)) : SlE itemE w (.slice (some ⟨b, o, none⟩) (n - 1) 0) B := by
  obtain ⟨a, cap, e, h2, h3⟩ := h
  injection e with e1 e2 e3
  subst e3
  rw [List.length_cons] at h2 e2
  have hb : B.length = 0 := by omega
  refine ⟨some ⟨b, o, none⟩, 0, by rw [e2, Nat.add_sub_cancel], by omega, .inl (List.eq_nil_of_length_eq_zero hb)⟩

end Go.Proofs.Ytgdchpinlboejaa

namespace Go.Proofs.Ytgdchpinlboejaa
set_option linter.unusedSimpArgs false
set_option linter.unusedVariables false
open Go.RowKit

def OwnOutI (l : List (Int × Int)) (w : World) (e : Ending) (w' : World) : Prop := ∃ v, e = .returned v ∧ OutI w' v l w.heap.size ∧ Chg (fun _ _ => False) w w'

set_option maxRecDepth 100000 in
theorem cloneI_any (v : Value) (l : List (Int × Int)) (w : World) (hs : SlE itemE w v l) (hlen : l.length ≤ 4294967296) :
    Calls Try.prog 19 #[v] w (OwnOutI l w) := by
  obtain ⟨a, cap, rfl, hcap, hc⟩ := hs
  have qS : ∀ (w : World) (a : Option Addr) (n c : Nat), (binOp .eql 25 (.slice a n c) (.slice none 0 0)).run Try.prog w = .ok (.bool a.isNone) w := fun w a n c => Lib.run_eql_slice_nil w _ _ _ _ _ _ _ Try.underlying25
  rcases a with _ | ad
  · have h0 : l = [] := by
      rcases hc with h | ⟨b, o, h, _⟩
      · exact h
      · cases h
    have hl0 : l.length = 0 := by rw [h0]; rfl
    rw [hl0]
    have H0 := Lib.hid h0
    clear hc h0 hl0 hcap
    go_enter Try.func19, Try.ntmps19
    go_wp2
    go_ret
    exact ⟨_, rfl, .inl ⟨H0.out, rfl⟩, Chg.refl _ _⟩
  · have hsrc : (∃ ad', some ad = some ad' ∧ ∀ j u, (flatI l)[j]? = some u → w.cell? (ad'.add j) = some u) ∨ (l.length = 0 ∧ flatI l = []) := by
      rcases hc with h | ⟨b, o, h, hcell⟩
      · exact .inr ⟨by rw [h]; rfl, by rw [h]; rfl⟩
      · refine .inl ⟨ad, rfl, fun j u hj => ?_⟩
        obtain rfl := Option.some.inj h
        rw [add_none]
        exact hcell j u (by rw [flatI_flat]; exact hj)
    have HS := Lib.hid hsrc
    obtain ⟨n, hn⟩ : ∃ n, l.length = n := ⟨_, rfl⟩
    have HN := Lib.hid hn
    rw [hn] at hlen ⊢
    clear hc hsrc hn
    obtain ⟨i0, hi0, hz0, hz1, hz2⟩ := info_parts infoItem
    go_enter Try.func19, Try.ntmps19
    have hca : Chg (fun _ _ => False) w (w.alloc (.cells #[] 30)) := (Chg.refl _ _).alloc _
    go_wp2_with (refine wpList_append_opt (by rfl) _ _ _ (by rfl) 30 i0 _ 2 16 Try.underlying25 hi0 hz0 hz1 hz2 rfl w.heap.size 0 0 0 (by rfl) [] ?_ rfl (Nat.le_refl _) (some ad) n _ (by rfl) (flatI l) ?_ ?_ (flatI_one _) ?_ ?_ ?_)
    · exact RowAt.of_block (c := #[]) (ha_at _ _ rfl) _ _ (by simp) (by simp) (by simp)
    · rw [flatI_len, HN.out]
    · rcases HS.out with ⟨ad', h1, h2⟩ | ⟨h1, h2⟩
      · exact .inl ⟨ad', h1, fun j u hj => hca.cell (fun h => h) (h2 j u hj)⟩
      · exact .inr ⟨by rw [← HN.out]; exact h1, h2⟩
    · unfold maxLen; omega
    · omega
    intro b' o' cap' w' happ
    have hrow := happ.row
    rw [List.nil_append] at hrow
    have hroom := happ.room
    have hpl : w.heap.size ≤ b' := by
      rcases happ.place with h | h
      · have := h.1; omega
      · have h2 := h.1; simp at h2; omega
    have hcc : Chg (fun _ _ => False) w w' := hca.trans' happ.chg (fun _ _ _ h => h) (fun b o hb h => by have := h.1; omega)
    have FIN := Lib.hid (show OwnOutI l w (.returned (.slice (some ⟨b', o', none⟩) n cap')) w' from ⟨_, rfl, .inr ⟨b', o', cap', by rw [HN.out], by rw [HN.out]; omega, hpl, hrow⟩, hcc⟩)
    clear happ hrow hpl hcc hroom
    go_wp2
    go_ret
    exact FIN.out

/-- A list in a row of its own. -/
def RowB (w : World) (b o cap : Nat) (l : List (Int × Int)) : Prop := l.length ≤ cap ∧ RowAt w 30 b o (cap * 2) (flatI l)

theorem RowB.cell {w : World} {b o cap : Nat} {l : List (Int × Int)} (h : RowB w b o cap l) {j : Nat} {x : Int × Int} (hj : l[j]? = some x) : w.cell? ⟨b, o + j * 2, none⟩ = some (.int .i64 x.1) ∧ w.cell? ⟨b, o + j * 2 + 1, none⟩ = some (.int .i64 x.2) := by
  have e1 : (flatI l)[j * 2 + 0]? = some (.int .i64 x.1) := by rw [← flatI_flat]; exact flat_get itemE.par hj (q := 0) rfl
  have e2 : (flatI l)[j * 2 + 1]? = some (.int .i64 x.2) := by rw [← flatI_flat]; exact flat_get itemE.par hj (q := 1) rfl
  exact ⟨h.2.cell e1, by have := h.2.cell e2; rw [← Nat.add_assoc] at this; exact this⟩

theorem RowB.fz {w : World} {b o cap : Nat} {l : List (Int × Int)} (h : RowB w b o cap l) (q : Nat) : w.frozen? ⟨b, q, none⟩ = false := h.2.frozen q

theorem RowB.set {w : World} {b o cap : Nat} {l : List (Int × Int)} (h : RowB w b o cap l) (i : Nat) (x : Int × Int) (hi : i < l.length) :
    RowB ((w.setCell ⟨b, o + i * 2, none⟩ (.int .i64 x.1)).setCell ⟨b, o + i * 2 + 1, none⟩ (.int .i64 x.2)) b o cap (l.set i x) := by
  obtain ⟨h0, hr⟩ := h
  have hr2 := hr
  obtain ⟨_, c, h1, h2, _⟩ := hr2
  have hp := hr.putCells (i * 2) [.int .i64 x.1, .int .i64 x.2] (by rw [flatI_len]; omega) (by simp; omega)
  have e := flat_splice itemE.par l i x hi
  rw [flatI_flat, flatI_flat] at e
  have e' : (flatI l).take (i * 2) ++ [.int .i64 x.1, .int .i64 x.2] ++ (flatI l).drop (i * 2 + ([.int .i64 x.1, .int .i64 x.2] : List Value).length) = flatI (l.set i x) := e
  rw [e'] at hp
  refine ⟨by rw [List.length_set]; exact h0, ?_⟩
  rw [putCells_two h1 (by omega)]
  exact hp

theorem RowB.drew {w : World} {b o cap : Nat} {l : List (Int × Int)} (h : RowB w b o cap l) : RowB w.drew b o cap l := ⟨h.1, h.2.drew⟩

theorem OutI.own {w : World} {v : Value} {l : List (Int × Int)} {base : Nat} (h : OutI w v l base) : ∀ b, v.ownBlock = some b → base ≤ b ∧ b < w.heap.size := by
  rcases h with ⟨_, rfl⟩ | ⟨b, o, cap, rfl, h2, h3, h4⟩
  · intro b hb; cases hb
  · intro b' hb
    have e : b = b' := Option.some.inj hb
    subst e
    exact ⟨h3, h4.lt⟩

theorem OutI.sl {w : World} {v : Value} {l : List (Int × Int)} {base : Nat} (h : OutI w v l base) : SlE itemE w v l := by
  obtain ⟨p, cap, rfl, hi, hcap⟩ := h.items
  exact hi.sl hcap

theorem OutI.form {w : World} {v : Value} {l : List (Int × Int)} {base : Nat} (h : OutI w v l base) : ∃ a cap, v = .slice a l.length cap := by
  obtain ⟨p, cap, rfl, _, _⟩ := h.items
  exact ⟨p, cap, rfl⟩

end Go.Proofs.Ytgdchpinlboejaa

namespace Go.Proofs.Ytgdchpinlboejaa
set_option linter.unusedSimpArgs false
set_option linter.unusedVariables false
open Go.RowKit

section
variable {P : Program} {α : Type}

theorem run_append_zero (w : World) (t ty e : TypeId) (i : TypeInfo) (ht : P.underlying t = some (.slice e)) (hi : P.info? e = some i) (a b : Option Addr) (n cap c : Nat) (hn : n ≤ cap) :
    (Builtin.append_ #[t, t] ty #[.slice a n cap, .slice b 0 c]).run P w = .ok (.slice a n cap) w := by
  cases b with
  | none => cases a <;> simp [Builtin.append_, run_underlying ht, sizeOf, typeInfo, hi, Builtin.lenOf, Builtin.firstCells, hn, storeCells]
  | some b =>
    have hf := run_firstCells_some (P := P) w i.size 0 b 0 c [] (by simp) (by simp)
    cases a <;> simp [Builtin.append_, run_underlying ht, sizeOf, typeInfo, hi, Builtin.lenOf, hn, storeCells, hf]

theorem wpList_append_zero {ops : Array Oper} {rest : List Oper} {o' : Oper} {ac : Act} {w : World} {Q : Exit → Act → World → Prop} (hgd : o'.guard = none) (s x : Operand) (t : TypeId)
    (ho : o'.op = .call { callee := .builtin .append, args := #[s, x], argTypes := #[t, t] }) (e : TypeId) (i : TypeInfo) (ht : P.underlying t = some (.slice e)) (hi : P.info? e = some i)
    (a b : Option Addr) (n cap c : Nat) (hs : ac.eval s = .slice a n cap) (hx : ac.eval x = .slice b 0 c) (hn : n ≤ cap)
    (h : wpList P ops Q rest (ac.put o'.dst (.slice a n cap)) w) : wpList P ops Q (o' :: rest) ac w := by
  refine wpList_plain hgd fun K hK => ?_
  have hr := run_append_zero (P := P) w t o'.type e i ht hi a b n cap c hn
  unfold Oper.wp execOp
  simp only [ho, resolve, invoke, builtin, Sem.run_bind, Sem.run_pure, Result.andThen_ok, List.map_toArray, List.map_cons, List.map_nil, hs, hx, hr]
  exact hK _ _ h

theorem wpList_append_run {ops : Array Oper} {rest : List Oper} {o' : Oper} {ac : Act} {w : World} {Q : Exit → Act → World → Prop} (hgd : o'.guard = none) (s x : Operand) (t tn : TypeId)
    (ho : o'.op = .call { callee := .builtin .append, args := #[s, x], argTypes := #[t, tn] }) (vs vx : Value) (hs : ac.eval s = vs) (hx : ac.eval x = vx) (v' : Value) (w' : World)
    (hr : (Builtin.append_ #[t, tn] o'.type #[vs, vx]).run P w = .ok v' w') (h : wpList P ops Q rest (ac.put o'.dst v') w') : wpList P ops Q (o' :: rest) ac w := by
  refine wpList_plain hgd fun K hK => ?_
  unfold Oper.wp execOp
  simp only [ho, resolve, invoke, builtin, Sem.run_bind, Sem.run_pure, Result.andThen_ok, List.map_toArray, List.map_cons, List.map_nil, hs, hx, hr]
  exact hK _ _ h
end

/-- append of a whole list to a list of the call's own. -/
theorem own_append (w : World) (v : Value) (xs : List (Int × Int)) (base : Nat) (how : OwnE itemE w v xs base) (hbase : base ≤ w.heap.size) (x : Value) (ys : List (Int × Int)) (hx : SlE itemE w x ys) (h63 : xs.length + ys.length ≤ 8589934592) (ty : TypeId) :
    ∃ v' w', (Builtin.append_ #[25, 25] ty #[v, x]).run Try.prog w = .ok v' w' ∧ OwnE itemE w' v' (xs ++ ys) base ∧ Chg (fun b _ => v.ownBlock = some b) w w' := by
  obtain ⟨i0, hi0, hz0, hz1, hz2⟩ := info_parts infoItem
  obtain ⟨a, cap, rfl, hcap, hc⟩ := hx
  by_cases h0 : ys.length = 0
  · have hnil : ys = [] := List.eq_nil_of_length_eq_zero h0
    rw [h0, hnil, List.append_nil]
    rcases how with ⟨rfl, rfl⟩ | ⟨b, o, c2, rfl, h2, h3, h4⟩
    · exact ⟨_, _, run_append_zero w _ _ _ i0 Try.underlying25 hi0 none a 0 0 cap (Nat.le_refl _), .inl ⟨rfl, rfl⟩, Chg.refl _ _⟩
    · exact ⟨_, _, run_append_zero w _ _ _ i0 Try.underlying25 hi0 _ a _ _ cap h2, .inr ⟨b, o, c2, rfl, h2, h3, h4⟩, Chg.refl _ _⟩
  · rcases hc with h | ⟨b, o, rfl, hcell⟩
    · rw [h] at h0; exact absurd rfl h0
    · obtain ⟨v', w', hr, h2, h3, _, _⟩ := run_append_E2 (P := Try.prog) itemE w 25 ty i0 _ 16 Try.underlying25 hi0 hz0 hz1 hz2 rfl v xs base how hbase ⟨b, o, none⟩ ys.length cap ys rfl (by omega)
        (fun j u hj => by rw [add_none]; exact hcell j u hj) (by unfold maxLen; omega) (by omega)
      exact ⟨v', w', hr, h2, h3⟩

set_option maxRecDepth 100000 in
theorem grow_nil (n : Nat) (w : World) (hn : n ≤ 8589934592) :
    Calls Try.prog 33 #[.slice none 0 0, .int .i64 n] w fun e w' => ∃ v, e = .returned v ∧ OwnE itemE w' v [] w.heap.size ∧ Chg (fun _ _ => False) w w' := by
  obtain ⟨i0, hi0, hz0, hz1, hz2⟩ := info_parts infoItem
  have s1 : IntKind.i64.wrap (n : Int) = (n : Int) := IntWalk.i64_in _ (by omega)
  have n0 : ¬ ((n : Int) < 0) := by omega
  by_cases h0 : n = 0
  · subst h0
    go_enter Try.func33, Try.ntmps33
    go_wp2_with fail
    go_ret
    exact ⟨_, rfl, .inl ⟨rfl, rfl⟩, Chg.refl _ _⟩
  · have hgt : (0 : Int) < (n : Int) := by omega
    go_enter Try.func33, Try.ntmps33
    have hcg := grownCap_ge w n 0 30
    have hcm : grownCap w n 0 30 ≤ maxLen := grownCap_le_maxLen w n 0 30 (by unfold maxLen; omega)
    have hrun := Lib.run_append_nil_zeros (P := Try.prog) w 25 3 25 30 i0 _ .i64 .i64 Try.underlying25 Try.underlying3 hi0 hz0 n (by omega) (by rw [hz1]; decide) (by omega) (by rw [hz2]; omega)
    unfold maxLen at hcm
    generalize grownCap w n 0 30 = cp at hcg hcm hrun
    have HRUN := Lib.hid hrun
    have c0 : (0 : Int) ≤ (n : Int) := by omega
    have c1 : ¬ cp = 0 := by omega
    clear hrun
    go_wp2_with (refine wpList_append_run (by rfl) _ _ _ _ (by rfl) (.slice none 0 0) (.int .i64 n) (by rfl) (by rfl) _ _ HRUN.out ?_)
    refine name_prop (fun w2 => RowAt w2 30 w.heap.size 0 (cp * 2) [] ∧ Chg (fun _ _ => False) w w2) ⟨?_, ?_⟩ ?_
    · refine RowAt.of_block (by first | exact heap_alloc_new w.drew _ | (rw [hd_drew]; exact ha_at _ _ rfl)) _ _ (by simp) ?_ (by simp)
      have e : (Value.agg #[Value.int IntKind.i64 0, Value.int IntKind.i64 0]).cells.size = 2 := rfl
      simp only [Array.size_append, size_zeroCells, e]
      show 0 + cp * 2 ≤ n * 2 + (cp - n) * 2
      omega
    · repeat (first | refine Chg.drew ?_ | refine Chg.alloc ?_ _ | exact Chg.refl _ _)
    rintro w2 ⟨hrow, hc⟩
    go_ret
    exact ⟨_, rfl, .inr ⟨w.heap.size, 0, cp, rfl, Nat.zero_le _, Nat.le_refl _, hrow⟩, hc⟩

set_option maxRecDepth 100000 in
set_option maxHeartbeats 1000000 in
theorem concat_two (bq cq : Nat) (v1 v2 : Value) (l1 l2 : List (Int × Int)) (w : World) (hq : w.heap[bq]? = some (.cells #[v1, v2] 25 (0, 0))) (h1 : SlE itemE w v1 l1) (h2 : SlE itemE w v2 l2) (hl : l1.length + l2.length ≤ 8589934592) :
    Calls Try.prog 13 #[.slice (some ⟨bq, 0, none⟩) 2 cq] w fun e w' => ∃ v, e = .returned v ∧ OwnE itemE w' v (l1 ++ l2) w.heap.size ∧ Chg (fun _ _ => False) w w' := by
  have H1 := Lib.hid h1
  have H2 := Lib.hid h2
  obtain ⟨a1, c1, rfl⟩ := h1.form
  obtain ⟨a2, c2, rfl⟩ := h2.form
  have q0 := cell_of_block hq 0
  have q1 := cell_of_block hq 1
  simp only [List.getElem?_toArray, List.getElem?_cons_zero, List.getElem?_cons_succ] at q0 q1
  have HQ := Lib.hid hq
  clear hq h1 h2
  go_enter Try.func13, Try.ntmps13
  go_wp2_with fail
  go_loopw [3, 11] (fun sv iv wr => ∃ (j s : Nat), sv = .int .i64 s ∧ iv = .int .i64 j ∧ ((j = 0 ∧ s = 0) ∨ (j = 1 ∧ s = l1.length) ∨ (j = 2 ∧ s = l1.length + l2.length)) ∧ Chg (fun _ _ => False) w wr) (fun _ iv _ => 2 - (intOf iv).toNat)
  case atStart => exact ⟨0, 0, rfl, rfl, .inl ⟨rfl, rfl⟩, Chg.refl _ _⟩
  case round =>
    obtain ⟨j, s, rfl, rfl, hj, hcw⟩ := hrel
    replace q0 := hcw.cell (fun h => h) q0
    replace q1 := hcw.cell (fun h => h) q1
    rcases hj with ⟨rfl, rfl⟩ | ⟨rfl, rfl⟩ | ⟨rfl, rfl⟩
    · have s1 : IntKind.i64.wrap (l1.length : Int) = (l1.length : Int) := IntWalk.i64_in _ (by omega)
      have s2 : ¬ (l1.length : Int) < 0 := by omega
      go_wp2_with fail
      go_roundw
      case rel => exact ⟨1, l1.length, rfl, rfl, .inr (.inl ⟨rfl, rfl⟩), hcw⟩
      case measure => simp [intOf]
    · have s1 : IntKind.i64.wrap ((l1.length : Int) + (l2.length : Int)) = ((l1.length + l2.length : Nat) : Int) := (by rw [IntWalk.i64_in _ (by omega)]; omega)
      have s2 : ¬ ((l1.length + l2.length : Nat) : Int) < 0 := by omega
      go_wp2_with fail
      go_roundw
      case rel => exact ⟨2, l1.length + l2.length, rfl, rfl, .inr (.inr ⟨rfl, rfl⟩), hcw⟩
      case measure => simp [intOf]
    · have hg := grow_nil (l1.length + l2.length) wr hl
      rw [Int.natCast_add] at hg
      have HG := Lib.hid hg
      clear hg
      go_wp2_with fail
      refine HG.out.mono ?_
      rintro e w1 ⟨v0, rfl, hv0', hc1'⟩
      have hv0 := hv0'.mono hcw.size
      have hc1 := hcw.trans hc1'
      clear q0 q1 hv0' hc1' hcw
      go_wp2_with fail
      go_loopw [6, 27] (fun sv iv wr => ∃ (j : Nat) (L : List (Int × Int)), iv = .int .i64 j ∧ OwnE itemE wr sv L w.heap.size ∧ ((j = 0 ∧ L = []) ∨ (j = 1 ∧ L = l1) ∨ (j = 2 ∧ L = l1 ++ l2)) ∧ Chg (fun _ _ => False) w wr) (fun _ iv _ => 2 - (intOf iv).toNat)
      case atStart => exact ⟨0, [], rfl, hv0, .inl ⟨rfl, rfl⟩, hc1⟩
      case round =>
        obtain ⟨j, L, rfl, how, hj, hc⟩ := hrel
        rcases hj with ⟨rfl, rfl⟩ | ⟨rfl, hL⟩ | ⟨rfl, rfl⟩
        · have hq2 : wr.heap[bq]? = some (.cells #[.slice a1 l1.length c1, .slice a2 l2.length c2] 25 (0, 0)) := by rw [hc.block (heap_lt HQ.out) (fun _ h => h)]; exact HQ.out
          have q0 := cell_of_block hq2 0
          have q1 := cell_of_block hq2 1
          simp only [List.getElem?_toArray, List.getElem?_cons_zero, List.getElem?_cons_succ] at q0 q1
          obtain ⟨v', w', hr, h2, h3⟩ := own_append wr u6 [] w.heap.size how hc.size (.slice a1 l1.length c1) l1 (H1.out.chg hc) (by first | omega | (simp; omega)) 25
          have HR := Lib.hid hr
          have H22 := Lib.hid h2
          have hc3 : Chg (fun _ _ => False) w w' := hc.trans' h3 (fun _ _ _ h => h) (fun b o hb e => by have := (how.own_lt e).1; omega)
          clear hq2 hr h2 h3 how hc
          go_wp2_with (refine wpList_append_run (by rfl) _ _ _ _ (by rfl) u6 (.slice a1 l1.length c1) (by rfl) (by rfl) _ _ HR.out ?_)
          go_roundw
          case rel => exact ⟨1, _, rfl, H22.out, .inr (.inl ⟨rfl, rfl⟩), hc3⟩
          case measure => simp [intOf]
        · have hL' := hL.symm
          subst hL'
          have hq2 : wr.heap[bq]? = some (.cells #[.slice a1 l1.length c1, .slice a2 l2.length c2] 25 (0, 0)) := by rw [hc.block (heap_lt HQ.out) (fun _ h => h)]; exact HQ.out
          have q0 := cell_of_block hq2 0
          have q1 := cell_of_block hq2 1
          simp only [List.getElem?_toArray, List.getElem?_cons_zero, List.getElem?_cons_succ] at q0 q1
          obtain ⟨v', w', hr, h2, h3⟩ := own_append wr u6 _ w.heap.size how hc.size (.slice a2 l2.length c2) l2 (H2.out.chg hc) (by first | omega | (simp; omega)) 25
          have HR := Lib.hid hr
          have H22 := Lib.hid h2
          have hc3 : Chg (fun _ _ => False) w w' := hc.trans' h3 (fun _ _ _ h => h) (fun b o hb e => by have := (how.own_lt e).1; omega)
          clear hq2 hr h2 h3 how hc
          go_wp2_with (refine wpList_append_run (by rfl) _ _ _ _ (by rfl) u6 (.slice a2 l2.length c2) (by rfl) (by rfl) _ _ HR.out ?_)
          go_roundw
          case rel => exact ⟨2, _, rfl, H22.out, .inr (.inr ⟨rfl, rfl⟩), hc3⟩
          case measure => simp [intOf]
        · go_wp2_with fail
          go_ret
          exact ⟨_, rfl, how, hc⟩
end Go.Proofs.Ytgdchpinlboejaa

namespace Go.Proofs.Ytgdchpinlboejaa
set_option linter.unusedSimpArgs false
set_option linter.unusedVariables false
open Go.RowKit

theorem name_scr {P : Program} {ops : Array Oper} {Q : Exit → Act → World → Prop} {S : World → Prop} {r : Scr} {a : Act} {w : World} (R : World → Prop) (hR : R w) (h : ∀ w1, R w1 → wpScr P ops Q S r a w1) : wpScr P ops Q S r a w := h w hR

theorem wp_append_run {P : Program} {o' : Oper} {ac : Act} {w : World} {K : Act → World → Prop} {Q : Exit → Act → World → Prop} (s x : Operand) (t tn : TypeId)
    (ho : o'.op = .call { callee := .builtin .append, args := #[s, x], argTypes := #[t, tn] }) (vs vx : Value) (hs : ac.eval s = vs) (hx : ac.eval x = vx) (v' : Value) (w' : World)
    (hr : (Builtin.append_ #[t, tn] o'.type #[vs, vx]).run P w = .ok v' w') (h : K (ac.put o'.dst v') w') : o'.wp P ac w K Q := by
  unfold Oper.wp execOp
  simp only [ho, resolve, invoke, builtin, Sem.run_bind, Sem.run_pure, Result.andThen_ok, List.map_toArray, List.map_cons, List.map_nil, hs, hx, hr]
  exact h

theorem OutI.ownE {w : World} {v : Value} {l : List (Int × Int)} {base : Nat} (h : OutI w v l base) : OwnE itemE w v l base := by
  rcases h with h | ⟨b, o, cap, h1, h2, h3, h4⟩
  · exact .inl h
  · exact .inr ⟨b, o, cap, h1, h2, h3, by rw [← flatI_flat] at h4; exact h4⟩

theorem GDelete_sl {ord : List Int} (sv : Value) (d : Int) (nl : Bool) (v : Value) (l : List (It ord)) (kv : Value) (ks : List (It ord)) (w : World) (hs : SlE intE w sv ord) (hol : ord.length ≤ 2147483647) (hd : FitD d) (hl : SlE itemE w v l) (hlen : l.length ≤ 8589934592) (hk : SlE itemE w kv ks) (hkl : ks.length ≤ 8589934592) :
    Calls Try.prog 15 #[.agg #[sv, .int .i64 d, .bool nl], v, kv] w fun e w' => ∃ v u, e = .returned (.tuple #[v, u]) ∧ SlE foundE w' v (delsF ltM (growL l) ks) ∧ SlE itemE w' u (delsL ltM (growL l) ks) ∧ Chg (fun _ _ => False) w w' := by
  obtain ⟨a, cap, rfl, hi, _⟩ := hl.itemsAt
  exact GDelete_big sv d nl a cap l kv ks w hs hol hd hi hlen hk hkl

theorem there_dels {ord : List Int} {l : List (It ord)} {x : It ord} (hn : fndL ltM x (growL l) = none) : delsF ltM (growL (l ++ [x])) [x] = [some x] ∧ delsL ltM (growL (l ++ [x])) [x] = growL l := by
  have h := there_back (growL_srt l) hn
  have e : growL (l ++ [x]) = insL ltM x (growL l) := growL_append l [x]
  rw [e, delsF_cons, h.1]
  exact ⟨rfl, h.2⟩
end Go.Proofs.Ytgdchpinlboejaa
