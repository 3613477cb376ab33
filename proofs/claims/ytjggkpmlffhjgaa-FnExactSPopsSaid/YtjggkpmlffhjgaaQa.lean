/- The ways down a tree to its first and to its last leaf. No program in sight. -/
import Derived.Test.YtjggkpmlffhjgaaD1
import Derived.Test.YtjggkpmlffhjgaaVa
namespace Go.Proofs.Ytjggkpmlffhjgaa
set_option linter.unusedSimpArgs false
set_option linter.unusedVariables false
open Go.RowKit

section
variable {α : Type}

/-- The first place or the last one of a row of n + 1. -/
def sideI (d : Bool) (n : Nat) : Nat := if d then n else 0

/-- The nodes on the way to the first (false) or to the last (true) leaf. -/
def spineD (d : Bool) : (h : Nat) → BT α h → List Nat
  | 0, t => [t.1]
  | h + 1, t => t.1 :: (match t.2.2[sideI d t.2.1.length]? with | some c => spineD d h c | none => [])

theorem spineD_cons {d : Bool} {h : Nat} {t : BT α (h + 1)} {c : BT α h} (hc : t.2.2[sideI d t.2.1.length]? = some c) : spineD d (h + 1) t = rid t :: spineD d h c := by
  show t.1 :: (match t.2.2[sideI d t.2.1.length]? with | some c => spineD d h c | none => []) = _
  rw [hc]; rfl

theorem spineD_sub {d : Bool} : {h : Nat} → {t : BT α h} → ∀ a ∈ spineD d h t, a ∈ ids h t
  | 0, t, a, ha => ha
  | h + 1, t, a, ha => by
    change a ∈ t.1 :: (match t.2.2[sideI d t.2.1.length]? with | some c => spineD d h c | none => []) at ha
    rcases List.mem_cons.1 ha with rfl | ha
    · exact List.mem_cons_self
    · cases hg : t.2.2[sideI d t.2.1.length]? with
      | none => rw [hg] at ha; simp at ha
      | some c =>
        rw [hg] at ha
        exact ids_kid (List.mem_of_getElem? hg) (spineD_sub a ha)

theorem spineD_head {d : Bool} {h : Nat} {t : BT α (h + 1)} {c : BT α h} (hd : (ids (h + 1) t).Nodup) (hc : t.2.2[sideI d t.2.1.length]? = some c) : rid t ∉ spineD d h c := fun hm =>
  nodup_root hd (List.mem_of_getElem? hc) (spineD_sub _ hm)

theorem side_kid {d : Bool} {mn mx h : Nat} {t : BT α (h + 1)} (hs : Sh mn mx (h + 1) t) : ∃ c, t.2.2[sideI d t.2.1.length]? = some c :=
  ⟨_, List.getElem?_eq_getElem (by have := hs.2.1; unfold sideI; split <;> omega)⟩

/-- A road along the side d. -/
structure Side (d : Bool) (h : Nat) (T : BT α h) (P : List Nat) (off h' : Nat) (T' : BT α h') : Prop where
  sp : spineD d h T = P ++ spineD d h' T'
  lo : d = false → off = 0
  hi : d = true → off + (toL h' T').length = (toL h T).length

theorem Side.start (d : Bool) (h : Nat) (T : BT α h) : Side d h T [] 0 h T := ⟨rfl, fun _ => rfl, fun _ => Nat.zero_add _⟩

theorem Side.step {d : Bool} {mn mx h : Nat} {T : BT α h} {P : List Nat} {off h' : Nat} {T' : BT α (h' + 1)} {c : BT α h'} (hS : Side d h T P off (h' + 1) T') (hs : Sh mn mx (h' + 1) T') (hc : T'.2.2[sideI d T'.2.1.length]? = some c) :
    Side d h T (P ++ [rid T']) (off + (pre (T'.2.1.take (sideI d T'.2.1.length)) ((T'.2.2.map (toL h')).take (sideI d T'.2.1.length))).length) h' c := by
  refine ⟨?_, ?_, ?_⟩
  · rw [hS.sp, spineD_cons hc]; simp
  · intro hd
    subst hd
    have := hS.lo rfl
    simp [sideI, pre, this]
  · intro hd
    subst hd
    have h1 := hS.hi rfl
    have hml : (T'.2.2.map (toL h')).length = T'.2.1.length + 1 := by simpa using hs.2.1
    have hc2 : T'.2.2[T'.2.1.length]? = some c := hc
    have htj : (T'.2.2.map (toL h'))[T'.2.1.length]? = some (toL h' c) := by simp [hc2]
    have he := inter_end hml htj
    have h2 : toL (h' + 1) T' = inter T'.2.1 (T'.2.2.map (toL h')) := rfl
    rw [h2, he, List.length_append] at h1
    show off + (pre (T'.2.1.take T'.2.1.length) ((T'.2.2.map (toL h')).take T'.2.1.length)).length + (toL h' c).length = _
    omega

theorem kid_leD {h : Nat} {T : BT α (h + 1)} {mn mx : Nat} {c : BT α h} (hs : Sh mn mx (h + 1) T) (hc : c ∈ T.2.2) : (toL h c).length ≤ (toL (h + 1) T).length := by
  obtain ⟨j, hj⟩ := List.mem_iff_getElem?.1 hc
  exact (Nat.le_trans (Nat.le_add_left _ _) (pre_len (by simpa using hs.2.1) (show (T.2.2.map (toL h))[j]? = some (toL h c) by simp [hj])))
end


/-- An item of a sorted list taken out by its place. -/
theorem delL_at {L : List (Int × Int)} (hs : Srt ltM L) {i : Nat} {y : Int × Int} (hy : L[i]? = some y) : delL ltM y L = L.take i ++ L.drop (i + 1) := by
  have e := split_at hy
  conv => lhs; rw [e]
  refine delL_hit (fun a ha => ?_) (swoM.irrefl y) (swoM.irrefl y)
  rw [e] at hs
  exact (List.pairwise_append.1 hs).2.2 a ha y List.mem_cons_self

theorem fnd_mem {L : List (Int × Int)} (hs : Srt ltM L) {x : Int × Int} (hx : x ∈ L) : fndL ltM x L = some x := by
  obtain ⟨A, B, rfl⟩ := List.append_of_mem hx
  exact fndL_hit (fun a ha => (List.pairwise_append.1 hs).2.2 a ha x List.mem_cons_self) (swoM.irrefl x) (swoM.irrefl x)

/-- What is left when the first or the last item has been taken. -/
def popL {α : Type} (d : Bool) (l : List α) : List α := l.take (sideI d (l.length - 1)) ++ l.drop (sideI d (l.length - 1) + 1)

def popF {α : Type} (d : Bool) (l : List α) : Option α := l[sideI d (l.length - 1)]?

theorem popL_len {α : Type} (d : Bool) (l : List α) : (popL d l).length ≤ l.length := by
  unfold popL sideI
  cases d <;> simp <;> omega
end Go.Proofs.Ytjggkpmlffhjgaa
