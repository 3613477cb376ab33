/- slices.Clone and slices.Reverse of items; the laws' turned. -/
import Derived.BigQuiet
import Derived.Test.YtjggkpmlffhjgaaA1
import Derived.Test.YtjggkpmlffhjgaaA3
import Derived.Test.YtjggkpmlffhjgaaA9
import Derived.Test.YtjggkpmlffhjgaaRegi
namespace Go.Proofs.Ytjggkpmlffhjgaa
set_option linter.unusedSimpArgs false
set_option linter.unusedVariables false
open Go.RowKit

/-- A list of words as cells. -/
abbrev flatZ (l : List (Int)) : List Value := flat intE.par l
theorem flatZ_len (l : List (Int)) : (flatZ l).length = l.length * 1 := flat_len intE.par l
theorem flatZ_one (l : List (Int)) : ∀ u ∈ flatZ l, u.oneCell' = true := flat_one intE.par l
theorem flatZ_flat (l : List (Int)) : flat intE.par l = flatZ l := rfl

/-- A list in a row of its own, or nil. -/
def OutZ (w : World) (v : Value) (l : List (Int)) (base : Nat) : Prop := OwnE intE w v l base

def OwnOutZ (l : List (Int)) (w : World) (e : Ending) (w' : World) : Prop := ∃ v, e = .returned v ∧ OutZ w' v l w.heap.size ∧ Chg (fun _ _ => False) w w'

set_option maxRecDepth 100000 in
theorem cloneZ_any (v : Value) (l : List (Int)) (w : World) (hs : SlE intE w v l) (hlen : l.length ≤ 4294967296) :
    Calls Try.prog 83 #[v] w (OwnOutZ l w) := by
  obtain ⟨a, cap, rfl, hcap, hc⟩ := hs
  have qS : ∀ (w : World) (a : Option Addr) (n c : Nat), (binOp .eql 22 (.slice a n c) (.slice none 0 0)).run Try.prog w = .ok (.bool a.isNone) w := fun w a n c => Lib.run_eql_slice_nil w _ _ _ _ _ _ _ Try.underlying22
  rcases a with _ | ad
  · have h0 : l = [] := by
      rcases hc with h | ⟨b, o, h, _⟩
      · exact h
      · cases h
    have hl0 : l.length = 0 := by rw [h0]; rfl
    rw [hl0]
    have H0 := Lib.hid h0
    clear hc h0 hl0 hcap
    go_enter Try.func83, Try.ntmps83
    go_wp2
    go_ret
    exact ⟨_, rfl, .inl ⟨H0.out, rfl⟩, Chg.refl _ _⟩
  · have hsrc : (∃ ad', some ad = some ad' ∧ ∀ j u, (flatZ l)[j]? = some u → w.cell? (ad'.add j) = some u) ∨ (l.length = 0 ∧ flatZ l = []) := by
      rcases hc with h | ⟨b, o, h, hcell⟩
      · exact .inr ⟨by rw [h]; rfl, by rw [h]; rfl⟩
      · refine .inl ⟨ad, rfl, fun j u hj => ?_⟩
        obtain rfl := Option.some.inj h
        rw [add_none]
        exact hcell j u (by rw [flatZ_flat]; exact hj)
    have HS := Lib.hid hsrc
    obtain ⟨n, hn⟩ : ∃ n, l.length = n := ⟨_, rfl⟩
    have HN := Lib.hid hn
    rw [hn] at hlen ⊢
    clear hc hsrc hn
    obtain ⟨i0, hi0, hz0, hz1, hz2⟩ := info_parts infoInt
    go_enter Try.func83, Try.ntmps83
    have hca : Chg (fun _ _ => False) w (w.alloc (.cells #[] 3)) := (Chg.refl _ _).alloc _
    go_wp2_with (refine wpList_append_opt (by rfl) _ _ _ (by rfl) 3 i0 _ 1 8 Try.underlying22 hi0 hz0 hz1 hz2 rfl w.heap.size 0 0 0 (by rfl) [] ?_ rfl (Nat.le_refl _) (some ad) n _ (by rfl) (flatZ l) ?_ ?_ (flatZ_one _) ?_ ?_ ?_)
    · exact RowAt.of_block (c := #[]) (ha_at _ _ rfl) _ _ (by simp) (by simp) (by simp)
    · rw [flatZ_len, HN.out]
    · rcases HS.out with ⟨ad', h1, h2⟩ | ⟨h1, h2⟩
      · exact .inl ⟨ad', h1, fun j u hj => hca.cell (fun h => h) (h2 j u hj)⟩
      · exact .inr ⟨by rw [← HN.out]; exact h1, h2⟩
    · unfold maxLen; omega
    · omega
    intro b' o' cap' w' happ
    have hrow := happ.row
    rw [List.nil_append] at hrow
    have hroom := happ.room
    have hpl : w.heap.size ≤ b' := by
      rcases happ.place with h | h
      · have := h.1; omega
      · have h2 := h.1; simp at h2; omega
    have hcc : Chg (fun _ _ => False) w w' := hca.trans' happ.chg (fun _ _ _ h => h) (fun b o hb h => by have := h.1; omega)
    have FIN := Lib.hid (show OwnOutZ l w (.returned (.slice (some ⟨b', o', none⟩) n cap')) w' from ⟨_, rfl, .inr ⟨b', o', cap', by rw [HN.out], by rw [HN.out]; omega, hpl, hrow⟩, hcc⟩)
    clear happ hrow hpl hcc hroom
    go_wp2
    go_ret
    exact FIN.out

/-- A list in a row of its own. -/
def RowZ (w : World) (b o cap : Nat) (l : List (Int)) : Prop := l.length ≤ cap ∧ RowAt w 3 b o (cap * 1) (flatZ l)

theorem flatZ_map : ∀ l : List Int, flatZ l = l.map fun x => Value.int .i64 x
  | [] => rfl
  | x :: xs => by
    have := flatZ_map xs
    show flat intE.par (x :: xs) = _
    rw [flat_cons, List.map_cons]
    show [Value.int .i64 x] ++ flatZ xs = _
    rw [this]; rfl

theorem RowZ.cell {w : World} {b o cap : Nat} {l : List Int} (h : RowZ w b o cap l) {j : Nat} {x : Int} (hj : l[j]? = some x) : w.cell? ⟨b, o + j, none⟩ = some (.int .i64 x) :=
  h.2.cell (by rw [flatZ_map, List.getElem?_map, hj]; rfl)

theorem RowZ.fz {w : World} {b o cap : Nat} {l : List (Int)} (h : RowZ w b o cap l) (q : Nat) : w.frozen? ⟨b, q, none⟩ = false := h.2.frozen q

theorem RowZ.set {w : World} {b o cap : Nat} {l : List Int} (h : RowZ w b o cap l) (i : Nat) (x : Int) (hi : i < l.length) :
    RowZ (w.setCell ⟨b, o + i, none⟩ (.int .i64 x)) b o cap (l.set i x) := by
  refine ⟨by rw [List.length_set]; exact h.1, ?_⟩
  have h2 := h.2.setCell i (.int .i64 x)
  have e : (flatZ l).set i (.int .i64 x) = flatZ (l.set i x) := by rw [flatZ_map, flatZ_map, List.map_set]
  rw [e] at h2
  exact h2

theorem RowZ.drew {w : World} {b o cap : Nat} {l : List (Int)} (h : RowZ w b o cap l) : RowZ w.drew b o cap l := ⟨h.1, h.2.drew⟩

theorem OutZ.own {w : World} {v : Value} {l : List (Int)} {base : Nat} (h : OutZ w v l base) : ∀ b, v.ownBlock = some b → base ≤ b ∧ b < w.heap.size := fun _ hb => OwnE.own_lt h hb

theorem OutZ.sl {w : World} {v : Value} {l : List (Int)} {base : Nat} (h : OutZ w v l base) : SlE intE w v l := OwnE.sl h

theorem OutZ.form {w : World} {v : Value} {l : List (Int)} {base : Nat} (h : OutZ w v l base) : ∃ a cap, v = .slice a l.length cap := h.sl.form

set_option maxRecDepth 100000 in
set_option maxHeartbeats 1000000 in
theorem reverse_rowZ (b o cap : Nat) (l : List (Int)) (w : World) (h : RowZ w b o cap l) (hlen : l.length ≤ 4294967296) :
    Calls Try.prog 84 #[.slice (some ⟨b, o, none⟩) l.length cap] w fun e w' => e = .returned (.tuple #[]) ∧ RowZ w' b o cap l.reverse ∧ Chg (fun b' _ => b' = b) w w' := by
  obtain ⟨n, hn⟩ : ∃ n, l.length = n := ⟨_, rfl⟩
  have HN := Lib.hid hn
  have H := Lib.hid h
  rw [hn] at hlen ⊢
  have s0 : IntKind.i64.wrap ((n : Int) - 1) = (n : Int) - 1 := IntWalk.i64_in _ (by omega)
  clear hn h
  go_enter Try.func84, Try.ntmps84
  go_wp2_with fail
  go_loopw [2, 3] (fun iv jv wr => ∃ (i : Nat) (z : Int) (L : List (Int)), iv = .int .i64 i ∧ jv = .int .i64 z ∧ z = (n : Int) - 1 - i ∧ i ≤ n ∧ L.length = n ∧ RowZ wr b o cap L ∧ (∀ q, q < n → L[q]? = if q < i ∨ n ≤ q + i then l[n - 1 - q]? else l[q]?) ∧ Chg (fun b' _ => b' = b) w wr) (fun iv _ _ => n - (intOf iv).toNat)
  case atStart => exact ⟨0, (n : Int) - 1, l, rfl, rfl, by omega, Nat.zero_le _, HN.out, H.out, (fun q hq => by rw [if_neg (by omega)]), Chg.refl _ _⟩
  case round =>
    obtain ⟨i, z, L, rfl, rfl, hz, hin, hL, hrow, hq, hc⟩ := hrel
    by_cases hlt : 2 * i + 1 < n
    · obtain ⟨j, hj⟩ : ∃ j : Nat, j = n - 1 - i := ⟨_, rfl⟩
      obtain rfl : z = (j : Int) := by omega
      obtain ⟨x, hx⟩ : ∃ x, L[i]? = some x := ⟨_, List.getElem?_eq_getElem (by omega)⟩
      obtain ⟨y, hy⟩ : ∃ y, L[j]? = some y := ⟨_, List.getElem?_eq_getElem (by omega)⟩
      have hij : (i : Int) < (j : Int) := by omega
      have i0 : (0 : Int) ≤ (i : Int) := by omega
      have i1 : (i : Int) < (n : Int) := by omega
      have j0 : (0 : Int) ≤ (j : Int) := by omega
      have j1 : (j : Int) < (n : Int) := by omega
      have x0 := hrow.cell hx
      have y0 := hrow.cell hy
      have HX := Lib.hid hx
      have HY := Lib.hid hy
      have HQ := Lib.hid hq
      have HR := Lib.hid hrow
      have HC := Lib.hid hc
      have HJ := Lib.hid hj
      have HL := Lib.hid hL
      have fz := hrow.fz
      clear hx hy hq hrow hc hj hz hL
      go_wp2_with fail
      refine wp_region_callp (fun w' => w'.cell? ⟨b, o + i, none⟩ = some (.int .i64 x) ∧ w'.cell? ⟨b, o + j, none⟩ = some (.int .i64 y))
        13 [2, 3] [0, 1, 4, 5, 6, 7, 8, 9, 10, 11, 12] _ [(14, true), (15, false)] (by kernel_rfl) (by kernel_rfl) (fun _ _ _ _ _ h => h) rfl rfl rfl ⟨x0, y0⟩ ?_
      simp only [pickOps, List.filterMap_cons, List.filterMap_nil, List.getElem?_cons_zero, List.getElem?_cons_succ]
      refine wpSoft_step ?_ rfl ?_ ?_
      rotate_left
      · intro w' hS
        try obtain ⟨a1⟩ := hS
        go_simp
        try with_reducible rfl
      simp only [Act.put, List.setIfInBounds_toArray, List.set_cons_zero, List.set_cons_succ]
      refine wpSoft_step ?_ rfl ?_ ?_
      rotate_left
      · intro w' hS
        try obtain ⟨a1⟩ := hS
        go_simp
        try with_reducible rfl
      simp only [Act.put, List.setIfInBounds_toArray, List.set_cons_zero, List.set_cons_succ]
      refine wpSoft_nil ?_
      refine wpSoft_step ?_ rfl ?_ ?_
      rotate_left
      · intro w' hS
        try obtain ⟨a1, a2⟩ := hS
        go_simp
        try with_reducible rfl
      simp only [Act.put, List.setIfInBounds_toArray, List.set_cons_zero, List.set_cons_succ]
      refine wpSoft_step ?_ rfl ?_ ?_
      rotate_left
      · intro w' hS
        try obtain ⟨a1, a2⟩ := hS
        go_simp
        try with_reducible rfl
      simp only [Act.put, List.setIfInBounds_toArray, List.set_cons_zero, List.set_cons_succ]
      refine wpSoft_step ?_ rfl ?_ ?_
      rotate_left
      · intro w' hS
        try obtain ⟨a1, a2⟩ := hS
        go_simp
        try with_reducible rfl
      simp only [Act.put, List.setIfInBounds_toArray, List.set_cons_zero, List.set_cons_succ]
      refine wpSoft_step ?_ rfl ?_ ?_
      rotate_left
      · intro w' hS
        try obtain ⟨a1, a2⟩ := hS
        go_simp
        try with_reducible rfl
      simp only [Act.put, List.setIfInBounds_toArray, List.set_cons_zero, List.set_cons_succ]
      refine wpSoft_step ?_ rfl ?_ ?_
      rotate_left
      · intro w' hS
        try obtain ⟨a1, a2⟩ := hS
        go_simp
        try with_reducible rfl
      simp only [Act.put, List.setIfInBounds_toArray, List.set_cons_zero, List.set_cons_succ]
      refine wpSoft_step ?_ rfl ?_ ?_
      rotate_left
      · intro w' hS
        try obtain ⟨a1, a2⟩ := hS
        go_simp
        try with_reducible rfl
      simp only [Act.put, List.setIfInBounds_toArray, List.set_cons_zero, List.set_cons_succ]
      refine wpSoft_step ?_ rfl ?_ ?_
      rotate_left
      · intro w' hS
        try obtain ⟨a1, a2⟩ := hS
        go_simp
        try with_reducible rfl
      simp only [Act.put, List.setIfInBounds_toArray, List.set_cons_zero, List.set_cons_succ]
      refine wpSoft_step ?_ rfl ?_ ?_
      rotate_left
      · intro w' hS
        try obtain ⟨a1, a2⟩ := hS
        go_simp
        try with_reducible rfl
      simp only [Act.put, List.setIfInBounds_toArray, List.set_cons_zero, List.set_cons_succ]
      refine wpSoft_step ?_ rfl ?_ ?_
      rotate_left
      · intro w' hS
        try obtain ⟨a1, a2⟩ := hS
        go_simp
        try with_reducible rfl
      simp only [Act.put, List.setIfInBounds_toArray, List.set_cons_zero, List.set_cons_succ]
      refine wpSoft_step ?_ rfl ?_ ?_
      rotate_left
      · intro w' hS
        try obtain ⟨a1, a2⟩ := hS
        go_simp
        try with_reducible rfl
      simp only [Act.put, List.setIfInBounds_toArray, List.set_cons_zero, List.set_cons_succ]
      refine wpSoft_step ?_ rfl ?_ ?_
      rotate_left
      · intro w' hS
        try obtain ⟨a1, a2⟩ := hS
        go_simp
        try with_reducible rfl
      simp only [Act.put, List.setIfInBounds_toArray, List.set_cons_zero, List.set_cons_succ]
      refine wpSoft_nil ?_
      have hxl : i < L.length := (List.getElem?_eq_some_iff.1 HX.out).1
      have r1 := HR.out.drew.set i y hxl
      have r2 := r1.set j x (by rw [List.length_set]; exact (List.getElem?_eq_some_iff.1 HY.out).1)
      have n0 : ¬ (i : Int) = (j : Int) := by omega
      have R2 := Lib.hid r2
      have v0 := r1.cell (j := j) (x := y) (by rw [List.getElem?_set_ne (by omega)]; exact HY.out)
      clear r1 r2
      refine wp_hide (fun K hK => ?_)
      go_simp
      refine hK _ _ ?_
      clear hK K
      refine script_soft (by rfl) ?_ (by simp [Region.wanted, yielded]) ?_ ?_
      rotate_left
      · intro w' hS
        try obtain ⟨a1⟩ := hS
        go_simp
        try with_reducible rfl
      simp only [Act.put, List.setIfInBounds_toArray, List.set_cons_zero, List.set_cons_succ]
      refine script_hard (by rfl) (by simp [Region.wanted, yielded]) (fun K hK => ?_)
      go_simp
      refine hK _ _ (fun _ => trivial) ?_
      clear hK K
      refine script_nil ?_
      have s1 : IntKind.i64.wrap ((i : Int) + 1) = ((i + 1 : Nat) : Int) := (by rw [IntWalk.i64_in _ (by omega)]; omega)
      have s2 : IntKind.i64.wrap ((j : Int) - 1) = (j : Int) - 1 := IntWalk.i64_in _ (by omega)
      refine name_prop (fun w2 => RowZ w2 b o cap ((L.set i y).set j x) ∧ Chg (fun b' _ => b' = b) w w2) ⟨R2.out, ?_⟩ ?_
      · refine HC.out.trans ?_
        repeat (first | refine Chg.setCell ?_ (.inl rfl) _ | refine Chg.drew ?_ | exact Chg.refl _ _)
      clear x0 y0 v0 R2
      rintro w2 ⟨r2, hc2⟩
      have R2 := Lib.hid r2
      clear r2
      go_wp2_with fail
      go_roundw
      case rel =>
        have hj := HJ.out
        refine ⟨i + 1, (j : Int) - 1, _, rfl, rfl, by omega, by omega, by rw [List.length_set, List.length_set]; exact HL.out, R2.out, fun q hqn => ?_, hc2⟩
        have hq := HQ.out
        have hl := HL.out
        have hxi := hq i (by omega)
        have hyj := hq j (by omega)
        rw [if_neg (by omega), HX.out] at hxi
        rw [if_neg (by omega), HY.out] at hyj
        by_cases e1 : q = j
        · subst e1
          rw [if_pos (by omega), List.getElem?_set_self (by rw [List.length_set]; omega), show n - 1 - q = i by omega]
          exact hxi
        · rw [List.getElem?_set_ne (Ne.symm e1)]
          by_cases e2 : q = i
          · subst e2
            rw [if_pos (by omega), List.getElem?_set_self (by omega), show n - 1 - q = j by omega]
            exact hyj
          · rw [List.getElem?_set_ne (Ne.symm e2), hq q hqn]
            by_cases e3 : q < i ∨ n ≤ q + i
            · rw [if_pos e3, if_pos (by omega)]
            · rw [if_neg e3, if_neg (by omega)]
      case measure => simp [intOf]; omega
    · have hij : ¬ (i : Int) < z := by omega
      have hfin : L = l.reverse := by
        refine List.ext_getElem? fun q => ?_
        by_cases hqn : q < n
        · rw [hq q hqn, List.getElem?_reverse (by rw [HN.out]; exact hqn), HN.out]
          by_cases e3 : q < i ∨ n ≤ q + i
          · rw [if_pos e3]
          · rw [if_neg e3, show n - 1 - q = q by omega]
        · rw [List.getElem?_eq_none_iff.2 (by omega), List.getElem?_eq_none_iff.2 (by rw [List.length_reverse, HN.out]; omega)]
      have HF := Lib.hid hfin
      have HR := Lib.hid hrow
      clear hfin hrow hq hz hL
      go_wp2_with fail
      go_end0
      exact ⟨rfl, by rw [← HF.out]; exact HR.out, hc⟩

theorem OutZ.reverse_any (v : Value) (l : List (Int)) (base : Nat) (w : World) (h : OutZ w v l base) (hlen : l.length ≤ 4294967296) :
    Calls Try.prog 84 #[v] w fun e w' => e = .returned (.tuple #[]) ∧ OutZ w' v l.reverse base ∧ Chg (fun b' _ => v.ownBlock = some b') w w' := by
  rcases h with ⟨rfl, rfl⟩ | ⟨b, o, cap, rfl, h2, h3, h4⟩
  · go_enter Try.func84, Try.ntmps84
    go_wp2_with fail
    go_loopw [2, 3] (fun iv jv wr => iv = .int .i64 0 ∧ jv = .int .i64 (-1) ∧ Chg (fun _ _ => False) w wr) (fun _ _ _ => 0)
    case atStart => exact ⟨rfl, rfl, Chg.refl _ _⟩
    case round =>
      obtain ⟨rfl, rfl, hc⟩ := hrel
      go_wp2_with fail
      go_end0
      exact ⟨rfl, .inl ⟨rfl, rfl⟩, hc.mono (fun _ _ _ h => h.elim)⟩
  · refine (reverse_rowZ b o cap l w ⟨h2, h4⟩ hlen).mono ?_
    rintro e w' ⟨rfl, h5, h6⟩
    exact ⟨rfl, .inr ⟨b, o, cap, by rw [List.length_reverse], h5.1, h3, h5.2⟩, h6.mono (fun b' _ _ e => by rw [e]; rfl)⟩

theorem turned_any (v : Value) (l : List (Int)) (w : World) (hs : SlE intE w v l) (hlen : l.length ≤ 4294967296) :
    Calls Try.prog 42 #[v] w (OwnOutZ l.reverse w) := by
  have HC := Lib.hid (cloneZ_any v l w hs hlen)
  obtain ⟨a, cap, rfl⟩ := hs.form
  clear hs
  go_enter Try.func42, Try.ntmps42
  go_wp2_with fail
  refine HC.out.mono ?_
  rintro e w1 ⟨v1, rfl, h1, hc1⟩
  have HR := Lib.hid (OutZ.reverse_any v1 l w.heap.size w1 h1 hlen)
  have hown := h1.own
  obtain ⟨a1, cap1, rfl⟩ := h1.form
  clear h1
  go_wp2_with fail
  refine HR.out.mono ?_
  rintro e w2 ⟨rfl, h2, hc2⟩
  have H2 := Lib.hid h2
  clear h2
  go_wp2_with fail
  go_ret
  exact ⟨_, rfl, H2.out, hc1.trans' hc2 (fun _ _ _ h => h) (fun b o hb e => by have := (hown b e).1; omega)⟩
end Go.Proofs.Ytjggkpmlffhjgaa
