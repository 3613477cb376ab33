/- PopMin and PopMax of whatever set; bools; what is taken by a row of bools. -/
import Derived.Test.YtjggkpmlffhjgaaQc
import Derived.Test.YtjggkpmlffhjgaaZd
namespace Go.Proofs.Ytjggkpmlffhjgaa
set_option linter.unusedSimpArgs false
set_option linter.unusedVariables false
open Go.RowKit

def SPopAns (mn mx : Nat) (w : World) (F : Nat → Prop) (t : Nat) (d : Bool) (l : List (Int × Int)) (e : Ending) (w' : World) : Prop :=
  e = .returned (kgV (popF d l)) ∧ ∃ F', MapE mn mx w' F' t (popL d l) ∧ Chg (fun b _ => F b ∨ b = t) w w' ∧ ∀ b, F' b → F b ∨ w.heap.size ≤ b

set_option maxRecDepth 100000 in
theorem PopMin_empty {m1 m2 : Nat} {w : World} {t : Nat} (hB : MapBlk 0 m1 m2 w t none 0) :
    Calls Try.prog 165 #[.pointer (some ⟨t, 0, none⟩)] w fun e w' => e = .returned (headS none) ∧ Chg (fun _ _ => False) w w' := by
  have HB := Lib.hid hB
  clear hB
  go_enter Try.func165, Try.ntmps165
  go_upto_region 1 with fail
  refine name_world (fun w0 => Chg (fun _ _ => False) w w0) ((Chg.refl _ _).alloc _) ?_
  intro w0 hc0
  have hB0 := HB.out.chg hc0 (fun _ _ _ h => h)
  have c2 : w0.cell? ⟨t, 2, none⟩ = some (.pointer none) := hB0.c2
  have hBd := (hB0.chg ((Chg.refl (fun _ _ => False) w0).drew) (fun _ _ _ h => h)).at_
  have c4 := hBd.c4
  have pz := hBd.pz
  clear hB0 hBd
  go_wp2_with fail
  refine wp_region_scr (fun w' => w'.cell? ⟨t, 4, none⟩ = some (.int .i64 0) ∧ (partAt ⟨t, 4, none⟩ 0 0).run Try.prog w' = .ok ⟨t, 4, none⟩ w') (.soft 0 (.soft 1 (.soft 2 (.soft 3 (.soft 4 (.soft 5 (.soft 6 (.soft 7 (.soft 8 (.soft 9 (.soft 10 (.hard 11 (.soft 12 .nil))))))))))))) (by kernel_rfl) (by kernel_rfl) (fun _ _ _ _ _ h => h) ⟨c4, pz⟩ ?_
  repeat
    first
    | (refine scr_soft (by rfl) ?_ ?_ ?_ ?_
       rotate_left
       · simp [Region.wanted, yielded]; done
       · intro w' hS
         try obtain ⟨a1, a2⟩ := hS
         go_simp
         try with_reducible rfl
       simp only [Act.put, List.setIfInBounds_toArray, List.set_cons_zero, List.set_cons_succ])
    | (refine scr_skip (by rfl) ?_ ?_
       · simp [Region.wanted, yielded]; done
       simp only [Act.put, List.setIfInBounds_toArray, List.set_cons_zero, List.set_cons_succ])
  refine scr_hard (by rfl) (by simp [Region.wanted, yielded]) (fun K hK => ?_)
  go_simp
  refine hK _ _ ⟨c4, pz⟩ ?_
  clear hK K
  repeat
    first
    | (refine scr_soft (by rfl) ?_ ?_ ?_ ?_
       rotate_left
       · simp [Region.wanted, yielded]; done
       · intro w' hS
         try obtain ⟨a1, a2⟩ := hS
         go_simp
         try with_reducible rfl
       simp only [Act.put, List.setIfInBounds_toArray, List.set_cons_zero, List.set_cons_succ])
    | (refine scr_skip (by rfl) ?_ ?_
       · simp [Region.wanted, yielded]; done
       simp only [Act.put, List.setIfInBounds_toArray, List.set_cons_zero, List.set_cons_succ])
  refine scr_nil ?_
  go_wp2_with fail
  refine bodyPost_ret (v := .tuple #[.int .i64 0, .agg #[], .bool false]) (by simp [results, Try.results165, go_sem]) rfl ?_
  exact ⟨rfl, hc0.drew⟩

theorem PopMin_any {mn mx : Nat} {w : World} {F : Nat → Prop} {t : Nat} {l : List (Int × Int)} (hM : MapE mn mx w F t l) (hmn : 1 ≤ mn) (hl : l.length ≤ 1000000000000) :
    Calls Try.prog 165 #[.pointer (some ⟨t, 0, none⟩)] w (PopAns mn mx w F t false l) := by
  rcases hM with (⟨rfl, hF, hB⟩ | ⟨H, h, T, hI, hB, rfl, h1⟩) | ⟨rfl, hF, hB⟩
  · exact (PopMin_empty hB).mono fun e w' ⟨he, hc⟩ => ⟨he, F, .inl (.inl ⟨rfl, hF, hB.chg hc (fun _ _ _ h => h)⟩), hc.mono (fun _ _ _ h => h.elim), fun _ h => .inl h⟩
  · exact popMin_tree hI hB h1 hmn hl
  · exact (PopMin_empty hB).mono fun e w' ⟨he, hc⟩ => ⟨he, F, .inr ⟨rfl, hF, hB.chg hc (fun _ _ _ h => h)⟩, hc.mono (fun _ _ _ h => h.elim), fun _ h => .inl h⟩

theorem SPopMin_any {mn mx : Nat} {w : World} {F : Nat → Prop} {t : Nat} {l : List (Int × Int)} (hM : MapE mn mx w F t l) (hmn : 1 ≤ mn) (hl : l.length ≤ 1000000000000) :
    Calls Try.prog 129 #[.pointer (some ⟨t, 0, none⟩)] w (SPopAns mn mx w F t false l) := by
  have HC := Lib.hid (PopMin_any hM hmn hl)
  unfold PopAns at HC
  clear hM
  unfold SPopAns
  generalize popF false l = o at HC ⊢
  rcases o with _ | y
  all_goals
    unfold headS at HC
    unfold kgV
    go_enter Try.func129, Try.ntmps129
    go_wp2_with fail
    refine HC.out.mono ?_
    rintro e w2 ⟨rfl, F', h1, h2, h3⟩
    have HR := Lib.hid (And.intro h1 (And.intro h2 h3))
    clear h1 h2 h3
    go_wp2_with fail
    go_ret2
    refine ⟨rfl, F', HR.out.1.chg ?_, HR.out.2.1.trans' ?_ (A' := fun _ _ => False) (fun _ _ _ h => h) (fun _ _ _ h => h.elim), HR.out.2.2⟩
    all_goals (repeat (first | exact Chg.refl _ _ | refine Chg.alloc ?_ _))

set_option maxRecDepth 100000 in
theorem PopMax_empty {m1 m2 : Nat} {w : World} {t : Nat} (hB : MapBlk 0 m1 m2 w t none 0) :
    Calls Try.prog 164 #[.pointer (some ⟨t, 0, none⟩)] w fun e w' => e = .returned (headS none) ∧ Chg (fun _ _ => False) w w' := by
  have HB := Lib.hid hB
  clear hB
  go_enter Try.func164, Try.ntmps164
  go_upto_region 1 with fail
  refine name_world (fun w0 => Chg (fun _ _ => False) w w0) ((Chg.refl _ _).alloc _) ?_
  intro w0 hc0
  have hB0 := HB.out.chg hc0 (fun _ _ _ h => h)
  have c2 : w0.cell? ⟨t, 2, none⟩ = some (.pointer none) := hB0.c2
  have hBd := (hB0.chg ((Chg.refl (fun _ _ => False) w0).drew) (fun _ _ _ h => h)).at_
  have c4 := hBd.c4
  have pz := hBd.pz
  clear hB0 hBd
  go_wp2_with fail
  refine wp_region_scr (fun w' => w'.cell? ⟨t, 4, none⟩ = some (.int .i64 0) ∧ (partAt ⟨t, 4, none⟩ 0 0).run Try.prog w' = .ok ⟨t, 4, none⟩ w') (.soft 0 (.soft 1 (.soft 2 (.soft 3 (.soft 4 (.soft 5 (.soft 6 (.soft 7 (.soft 8 (.soft 9 (.soft 10 (.hard 11 (.soft 12 .nil))))))))))))) (by kernel_rfl) (by kernel_rfl) (fun _ _ _ _ _ h => h) ⟨c4, pz⟩ ?_
  repeat
    first
    | (refine scr_soft (by rfl) ?_ ?_ ?_ ?_
       rotate_left
       · simp [Region.wanted, yielded]; done
       · intro w' hS
         try obtain ⟨a1, a2⟩ := hS
         go_simp
         try with_reducible rfl
       simp only [Act.put, List.setIfInBounds_toArray, List.set_cons_zero, List.set_cons_succ])
    | (refine scr_skip (by rfl) ?_ ?_
       · simp [Region.wanted, yielded]; done
       simp only [Act.put, List.setIfInBounds_toArray, List.set_cons_zero, List.set_cons_succ])
  refine scr_hard (by rfl) (by simp [Region.wanted, yielded]) (fun K hK => ?_)
  go_simp
  refine hK _ _ ⟨c4, pz⟩ ?_
  clear hK K
  repeat
    first
    | (refine scr_soft (by rfl) ?_ ?_ ?_ ?_
       rotate_left
       · simp [Region.wanted, yielded]; done
       · intro w' hS
         try obtain ⟨a1, a2⟩ := hS
         go_simp
         try with_reducible rfl
       simp only [Act.put, List.setIfInBounds_toArray, List.set_cons_zero, List.set_cons_succ])
    | (refine scr_skip (by rfl) ?_ ?_
       · simp [Region.wanted, yielded]; done
       simp only [Act.put, List.setIfInBounds_toArray, List.set_cons_zero, List.set_cons_succ])
  refine scr_nil ?_
  go_wp2_with fail
  refine bodyPost_ret (v := .tuple #[.int .i64 0, .agg #[], .bool false]) (by simp [results, Try.results164, go_sem]) rfl ?_
  exact ⟨rfl, hc0.drew⟩

theorem PopMax_any {mn mx : Nat} {w : World} {F : Nat → Prop} {t : Nat} {l : List (Int × Int)} (hM : MapE mn mx w F t l) (hmn : 1 ≤ mn) (hl : l.length ≤ 1000000000000) :
    Calls Try.prog 164 #[.pointer (some ⟨t, 0, none⟩)] w (PopAns mn mx w F t true l) := by
  rcases hM with (⟨rfl, hF, hB⟩ | ⟨H, h, T, hI, hB, rfl, h1⟩) | ⟨rfl, hF, hB⟩
  · exact (PopMax_empty hB).mono fun e w' ⟨he, hc⟩ => ⟨he, F, .inl (.inl ⟨rfl, hF, hB.chg hc (fun _ _ _ h => h)⟩), hc.mono (fun _ _ _ h => h.elim), fun _ h => .inl h⟩
  · exact popMax_tree hI hB h1 hmn hl
  · exact (PopMax_empty hB).mono fun e w' ⟨he, hc⟩ => ⟨he, F, .inr ⟨rfl, hF, hB.chg hc (fun _ _ _ h => h)⟩, hc.mono (fun _ _ _ h => h.elim), fun _ h => .inl h⟩

theorem SPopMax_any {mn mx : Nat} {w : World} {F : Nat → Prop} {t : Nat} {l : List (Int × Int)} (hM : MapE mn mx w F t l) (hmn : 1 ≤ mn) (hl : l.length ≤ 1000000000000) :
    Calls Try.prog 128 #[.pointer (some ⟨t, 0, none⟩)] w (SPopAns mn mx w F t true l) := by
  have HC := Lib.hid (PopMax_any hM hmn hl)
  unfold PopAns at HC
  clear hM
  unfold SPopAns
  generalize popF true l = o at HC ⊢
  rcases o with _ | y
  all_goals
    unfold headS at HC
    unfold kgV
    go_enter Try.func128, Try.ntmps128
    go_wp2_with fail
    refine HC.out.mono ?_
    rintro e w2 ⟨rfl, F', h1, h2, h3⟩
    have HR := Lib.hid (And.intro h1 (And.intro h2 h3))
    clear h1 h2 h3
    go_wp2_with fail
    go_ret2
    refine ⟨rfl, F', HR.out.1.chg ?_, HR.out.2.1.trans' ?_ (A' := fun _ _ => False) (fun _ _ _ h => h) (fun _ _ _ h => h.elim), HR.out.2.2⟩
    all_goals (repeat (first | exact Chg.refl _ _ | refine Chg.alloc ?_ _))

def boolE : El Bool where
  es := 1
  enc := fun x => [.bool x]
  T := 4
  epos := by omega
  elen := fun _ => rfl
  eone := by intro x v hv; simp at hv; subst hv; rfl

theorem SlE.bool {w : World} {a : Option Addr} {n cap : Nat} {xs : List Bool} (h : SlE boolE w (.slice a n cap) xs) {j : Nat} {x : Bool} (hj : xs[j]? = some x) : ∃ b o, a = some ⟨b, o, none⟩ ∧ w.cell? ⟨b, o + j, none⟩ = some (.bool x) := by
  obtain ⟨b, o, h1, h2⟩ := h.cell hj
  exact ⟨b, o, h1, by have := h2 0 _ rfl; simpa [boolE] using this⟩

section
variable {α : Type}
/-- What is left when items have been taken from the ends. -/
def popsL (l : List α) (ds : List Bool) : List α := ds.foldl (fun acc d => popL d acc) l

/-- What was taken. -/
def popsF (l : List α) (ds : List Bool) : List (Option α) := (List.range ds.length).map fun j => (ds[j]?).bind fun d => popF d (popsL l (ds.take j))

theorem popsF_len (l : List α) (ds : List Bool) : (popsF l ds).length = ds.length := by simp [popsF]

theorem popsF_take {l : List α} {ds : List Bool} {j : Nat} {d : Bool} (hx : ds[j]? = some d) : (popsF l ds).take (j + 1) = (popsF l ds).take j ++ [popF d (popsL l (ds.take j))] := by
  have hj := (List.getElem?_eq_some_iff.1 hx).1
  rw [List.take_add_one]
  congr 1
  unfold popsF
  rw [List.getElem?_map, List.getElem?_range hj]
  simp [hx]

theorem popsL_take {l : List α} {ds : List Bool} {j : Nat} {d : Bool} (hx : ds[j]? = some d) : popsL l (ds.take (j + 1)) = popL d (popsL l (ds.take j)) := by
  unfold popsL
  rw [List.take_add_one, hx, List.foldl_append]; rfl

theorem popsL_len : ∀ (ds : List Bool) (l : List α), (popsL l ds).length ≤ l.length
  | [], l => Nat.le_refl _
  | d :: ds, l => Nat.le_trans (popsL_len ds (popL d l)) (popL_len d l)
end

/-! The keys of a set that may have been emptied. -/

theorem MapE.blk {mn mx : Nat} {w : World} {F : Nat → Prop} {t : Nat} {l : List (Int × Int)} (h : MapE mn mx w F t l) : ∃ root m1 m2, MapBlk 0 m1 m2 w t root l.length := by
  rcases h with h | ⟨rfl, _, hB⟩
  · exact h.blk
  · exact ⟨none, mn, mx, hB⟩

theorem MapE.famLt {mn mx : Nat} {w : World} {F : Nat → Prop} {t b : Nat} {l : List (Int × Int)} (h : MapE mn mx w F t l) (hb : F b) : b < w.heap.size := by
  rcases h with h | ⟨_, g2, _⟩
  · exact h.famLt hb
  · exact absurd hb (g2 b)

theorem MapE.own {mn mx : Nat} {w : World} {F : Nat → Prop} {t b : Nat} {l : List (Int × Int)} (h : MapE mn mx w F t l) (hb : MOwn 0 t b) : b < w.heap.size := by
  rcases h with h | ⟨_, _, hB⟩
  · exact h.own hb
  · exact hB.at_.lt hb

theorem MapE.chgA {A : Nat → Nat → Prop} {mn mx : Nat} {w w' : World} {F : Nat → Prop} {t : Nat} {l : List (Int × Int)} (h : MapE mn mx w F t l) (c : Chg A w w') (h1 : ∀ b o, F b → ¬ A b o) (h2 : ∀ b o, MOwn 0 t b → ¬ A b o) : MapE mn mx w' F t l := by
  rcases h with h | ⟨g1, g2, g3⟩
  · exact .inl (h.chgA c h1 h2)
  · exact .inr ⟨g1, g2, g3.chg c h2⟩

set_option maxRecDepth 100000 in
theorem KeysE_empty {m1 m2 : Nat} {w : World} {t : Nat} (hB : MapBlk 0 m1 m2 w t none 0) :
    Calls Try.prog 99 #[.pointer (some ⟨t, 0, none⟩)] w (OwnPost intE ([] : List Int) w) := by
  obtain ⟨n, hn⟩ : ∃ n : Nat, n = 0 := ⟨_, rfl⟩
  have c3 : w.cell? ⟨t, 3, none⟩ = some (.int .i64 (n : Int)) := by rw [hn]; exact hB.c3
  have hL : Calls Try.prog 139 #[.pointer (some ⟨t, 0, none⟩)] w fun e w' => e = .returned (.int .i64 n) ∧ w = w' := by
    clear hn hB
    go_enter Try.func139, Try.ntmps139
    go_wp2
    go_ret
    exact ⟨rfl, rfl⟩
  have hmk := fun w' => made_ints n w' (by omega)
  have hca : Chg (fun _ _ => False) w (w.alloc (.cells (madeCells #[.int .i64 0] n) 3)) := (Chg.refl _ _).alloc _
  have HOWN := Lib.hid (own_made n w)
  have c2 : (w.alloc (.cells (madeCells #[.int .i64 0] n) 3)).cell? ⟨t, 2, none⟩ = some (.pointer none) := (hB.chg hca (fun _ _ _ h => h)).c2
  clear hB c3 hn
  go_enter Try.func99, Try.ntmps99
  go_wp2_with fail
  refine hL.mono ?_
  rintro e w' ⟨rfl, rfl⟩
  go_wp2_with fail
  go_ret
  exact ⟨_, rfl, HOWN.out, hca⟩

theorem SKeysE_any {mn mx : Nat} {w : World} {F : Nat → Prop} {t : Nat} {l : List (Int × Int)} (hM : MapE mn mx w F t l) (hlen : l.length ≤ 1000000000000) :
    Calls Try.prog 58 #[.pointer (some ⟨t, 0, none⟩)] w (OwnPost intE (l.map Prod.fst) w) := by
  rcases hM with hM | ⟨rfl, _, hB⟩
  · exact SKeys_any hM hlen
  · have HK := Lib.hid (KeysE_empty hB)
    unfold OwnPost at HK
    clear hB
    go_enter Try.func58, Try.ntmps58
    go_wp2_with fail
    refine HK.out.mono ?_
    rintro e w2 ⟨v, rfl, how, hc⟩
    have HOW := Lib.hid how
    clear how HK
    go_wp2_with fail
    go_ret
    exact ⟨v, rfl, HOW.out, hc⟩
end Go.Proofs.Ytjggkpmlffhjgaa
