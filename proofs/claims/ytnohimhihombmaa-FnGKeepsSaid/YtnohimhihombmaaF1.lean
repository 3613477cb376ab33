/- DeleteAscend that keeps all items: what holds at its label and behind it. -/
import Derived.ScopeJumps
import Derived.WalkMore
import Derived.Laws.CopyRow
import Derived.Deep.Cut
import Derived.Deep.CutRange
import Derived.BigQuiet
import Derived.Deep.QuietTactic
import Derived.StillTailTactics
import Derived.Test.YtnohimhihombmaaA13
import Derived.Test.YtnohimhihombmaaYasc
namespace Go.Proofs.Ytnohimhihombmaa
set_option linter.unusedSimpArgs false
set_option linter.unusedVariables false
open Go.RowKit

theorem setCell_same {w : World} {b o : Nat} {v : Value} (h : w.cell? ⟨b, o, none⟩ = some v) : w.setCell ⟨b, o, none⟩ v = w := by
  obtain ⟨heap, tape, drawn, os, output⟩ := w
  simp only [World.cell?] at h
  simp only [World.setCell]
  congr 1
  refine Array.ext_getElem? fun i => ?_
  rw [Array.getElem?_modify]
  split
  · rename_i e
    subst e
    cases hb : heap[b]? with
    | none => rfl
    | some ob =>
      rw [hb] at h
      cases ob with
      | cells c e fr =>
        simp only [Option.isSome_none, Bool.false_eq_true, if_false] at h
        simp only [Option.map_some, Option.isSome_none, Bool.false_eq_true, if_false]
        congr 2
        refine Array.ext_getElem? fun j => ?_
        rw [Array.getElem?_setIfInBounds]
        split
        · rename_i e2
          subst e2
          have hl := (Array.getElem?_eq_some_iff.1 h).1
          rw [if_pos hl, h]
        · rfl
      | _ => simp at h
  · rfl

theorem putCells_same {w : World} {b o : Nat} {cs : List Value} (h : ∀ j u, cs[j]? = some u → w.cell? ⟨b, o + j, none⟩ = some u) {c : Array Value} {T : TypeId} {fr : Nat × Nat} (hb : w.heap[b]? = some (.cells c T fr)) (hfit : o + cs.length ≤ c.size) : putCells w b o cs = w := by
  have e : (c.toList.take o ++ cs ++ c.toList.drop (o + cs.length)).toArray = c := by
    refine Array.ext_getElem? fun i => ?_
    simp only [List.getElem?_toArray]
    have hl : (c.toList.take o).length = o := by simp; omega
    by_cases h1 : i < o
    · rw [List.append_assoc, List.getElem?_append_left (by omega), List.getElem?_take_of_lt h1]; simp
    · by_cases h2 : i < o + cs.length
      · rw [List.append_assoc, List.getElem?_append_right (by omega), hl, List.getElem?_append_left (by omega)]
        have h3 := h (i - o) _ (List.getElem?_eq_getElem (by omega))
        rw [cell_of_block hb] at h3
        rw [show o + (i - o) = i by omega] at h3
        rw [h3, List.getElem?_eq_getElem]
      · rw [List.getElem?_append_right (by simp; omega), List.getElem?_drop]
        simp only [List.length_append, hl, Array.getElem?_toList]
        congr 1
        omega
  unfold putCells
  rw [hb]
  show w.setRow b _ = w
  rw [e]
  exact setRow_self w b c T fr hb

section
variable {P : Program} {a : Act} {w : World} {Q : Exit → Act → World → Prop}

/-- One thing behind another, what holds between them named. -/
theorem wp_seq_mid {x y : Code} (M : Act → World → Prop) (h : x.wp P (Exit.then M Q) a w) (h2 : ∀ a w, M a w → y.wp P Q a w) : (Code.seq x y).wp P Q a w := by
  refine wp_seq (wp_mono h fun e a w he => ?_)
  cases e with
  | normal => exact h2 a w he
  | _ => exact he

theorem wp_seq_mid2 {x y z : Code} (M : Act → World → Prop) (h : x.wp P (Exit.then (y.wp P (Exit.then M Q)) Q) a w) (h2 : ∀ a w, M a w → z.wp P Q a w) : (Code.seq x (Code.seq y z)).wp P Q a w := by
  refine wp_seq (wp_mono h fun e a w he => ?_)
  cases e with
  | normal => exact wp_seq_mid M he h2
  | _ => exact he

theorem wpList_copy_self {ops : Array Oper} {rest : List Oper} {o' : Oper} {a : Act} {w : World} {Q : Exit → Act → World → Prop} (hgd : o'.guard = none) (d s : Operand) (dT sT : TypeId)
    (ho : o'.op = .call { callee := .builtin .copy, args := #[d, s], argTypes := #[dT, sT] }) (elem : TypeId) (size : Nat) (hu : P.underlying dT = some (.slice elem)) (hsz : (P.info? elem).map (·.size) = some size)
    (b o dl dc : Nat) (hd : a.eval d = .slice (some ⟨b, o, none⟩) dl dc) (hs : a.eval s = .slice (some ⟨b, o, none⟩) dl dc) (cs : List Value) (hn : cs.length = dl * size) (hsrc : ∀ j v, cs[j]? = some v → w.cell? ⟨b, o + j, none⟩ = some v)
    (c : Array Value) (T : TypeId) (hg : w.heap[b]? = some (.cells c T (0, 0))) (hfit : o + cs.length ≤ c.size) (h1 : ∀ u ∈ cs, u.oneCell' = true) (h : wpList P ops Q rest (a.put o'.dst (goInt (Nat.min dl dl))) w) : wpList P ops Q (o' :: rest) a w := by
  refine wpList_copy_row hgd d s dT sT ho elem size hu hsz b o dl dc hd _ dl dc hs cs (by rw [hn]; congr 1; exact (Nat.min_self dl).symm) (fun j v hj => by rw [add_none]; exact hsrc j v hj) c T hg hfit h1 ?_
  rw [putCells_same hsrc hg hfit]
  exact h

/-- A scope that begins with c1, then a label; J holds whenever the label is passed or jumped to. -/
theorem wp_scope_lab {c1 rest : Code} (l : Nat) (J : Act → World → Prop) (μ : Act → World → Nat) (hf : findLabel (c1.seq ((Code.label l).seq rest)) l = some (.seq .skip rest))
    (h1 : c1.wp P (fun e a w => e = .normal ∧ J a w) a w)
    (pass : ∀ a w, J a w → rest.wp P (Exit.jump l (fun a' w' => J a' w' ∧ μ a' w' < μ a w) Q) a w) : (Code.scope (c1.seq ((Code.label l).seq rest))).wp P Q a w := by
  have hj : ∀ a w, J a w → rest.wp P (Exit.jump l J Q) a w := fun a w hJ => by
    refine wp_mono (pass a w hJ) fun e a' w' he => ?_
    cases e with
    | goto l' => exact ⟨he.1, he.2.1⟩
    | _ => exact he
  refine wp_scope_jumps l J μ hf ?_ ?_
  · refine wp_seq (wp_mono h1 ?_)
    rintro e a' w' ⟨rfl, hJ⟩
    refine wp_seq (wp_label ?_)
    exact hj a' w' hJ
  · intro a' w' hJ
    refine wp_seq (wp_skip ?_)
    exact pass a' w' hJ
end

theorem arr_lit (A : Array Value) (n : Nat) (h : A.size = n) : A = ((List.range n).map fun i => (A[i]?).getD undef).toArray := by
  refine Array.ext_getElem? fun i => ?_
  simp only [List.getElem?_toArray, List.getElem?_map]
  by_cases hi : i < n
  · rw [List.getElem?_range hi]
    show A[i]? = some ((A[i]?).getD undef)
    rw [Array.getElem?_eq_getElem (by omega)]
    rfl
  · rw [List.getElem?_eq_none (by simp; omega), Array.getElem?_eq_none (by omega)]; rfl

set_option maxRecDepth 100000 in
theorem range407 (f : Nat → Value) : ((List.range 407).map f).toArray = #[f 0, f 1, f 2, f 3, f 4, f 5, f 6, f 7, f 8, f 9, f 10, f 11, f 12, f 13, f 14, f 15, f 16, f 17, f 18, f 19, f 20, f 21, f 22, f 23, f 24, f 25, f 26, f 27, f 28, f 29, f 30, f 31, f 32, f 33, f 34, f 35, f 36, f 37, f 38, f 39, f 40, f 41, f 42, f 43, f 44, f 45, f 46, f 47, f 48, f 49, f 50, f 51, f 52, f 53, f 54, f 55, f 56, f 57, f 58, f 59, f 60, f 61, f 62, f 63, f 64, f 65, f 66, f 67, f 68, f 69, f 70, f 71, f 72, f 73, f 74, f 75, f 76, f 77, f 78, f 79, f 80, f 81, f 82, f 83, f 84, f 85, f 86, f 87, f 88, f 89, f 90, f 91, f 92, f 93, f 94, f 95, f 96, f 97, f 98, f 99, f 100, f 101, f 102, f 103, f 104, f 105, f 106, f 107, f 108, f 109, f 110, f 111, f 112, f 113, f 114, f 115, f 116, f 117, f 118, f 119, f 120, f 121, f 122, f 123, f 124, f 125, f 126, f 127, f 128, f 129, f 130, f 131, f 132, f 133, f 134, f 135, f 136, f 137, f 138, f 139, f 140, f 141, f 142, f 143, f 144, f 145, f 146, f 147, f 148, f 149, f 150, f 151, f 152, f 153, f 154, f 155, f 156, f 157, f 158, f 159, f 160, f 161, f 162, f 163, f 164, f 165, f 166, f 167, f 168, f 169, f 170, f 171, f 172, f 173, f 174, f 175, f 176, f 177, f 178, f 179, f 180, f 181, f 182, f 183, f 184, f 185, f 186, f 187, f 188, f 189, f 190, f 191, f 192, f 193, f 194, f 195, f 196, f 197, f 198, f 199, f 200, f 201, f 202, f 203, f 204, f 205, f 206, f 207, f 208, f 209, f 210, f 211, f 212, f 213, f 214, f 215, f 216, f 217, f 218, f 219, f 220, f 221, f 222, f 223, f 224, f 225, f 226, f 227, f 228, f 229, f 230, f 231, f 232, f 233, f 234, f 235, f 236, f 237, f 238, f 239, f 240, f 241, f 242, f 243, f 244, f 245, f 246, f 247, f 248, f 249, f 250, f 251, f 252, f 253, f 254, f 255, f 256, f 257, f 258, f 259, f 260, f 261, f 262, f 263, f 264, f 265, f 266, f 267, f 268, f 269, f 270, f 271, f 272, f 273, f 274, f 275, f 276, f 277, f 278, f 279, f 280, f 281, f 282, f 283, f 284, f 285, f 286, f 287, f 288, f 289, f 290, f 291, f 292, f 293, f 294, f 295, f 296, f 297, f 298, f 299, f 300, f 301, f 302, f 303, f 304, f 305, f 306, f 307, f 308, f 309, f 310, f 311, f 312, f 313, f 314, f 315, f 316, f 317, f 318, f 319, f 320, f 321, f 322, f 323, f 324, f 325, f 326, f 327, f 328, f 329, f 330, f 331, f 332, f 333, f 334, f 335, f 336, f 337, f 338, f 339, f 340, f 341, f 342, f 343, f 344, f 345, f 346, f 347, f 348, f 349, f 350, f 351, f 352, f 353, f 354, f 355, f 356, f 357, f 358, f 359, f 360, f 361, f 362, f 363, f 364, f 365, f 366, f 367, f 368, f 369, f 370, f 371, f 372, f 373, f 374, f 375, f 376, f 377, f 378, f 379, f 380, f 381, f 382, f 383, f 384, f 385, f 386, f 387, f 388, f 389, f 390, f 391, f 392, f 393, f 394, f 395, f 396, f 397, f 398, f 399, f 400, f 401, f 402, f 403, f 404, f 405, f 406] := by rfl

theorem frame407 (A : Array Value) (h : A.size = 407) : ∃ f : Nat → Value, A = #[f 0, f 1, f 2, f 3, f 4, f 5, f 6, f 7, f 8, f 9, f 10, f 11, f 12, f 13, f 14, f 15, f 16, f 17, f 18, f 19, f 20, f 21, f 22, f 23, f 24, f 25, f 26, f 27, f 28, f 29, f 30, f 31, f 32, f 33, f 34, f 35, f 36, f 37, f 38, f 39, f 40, f 41, f 42, f 43, f 44, f 45, f 46, f 47, f 48, f 49, f 50, f 51, f 52, f 53, f 54, f 55, f 56, f 57, f 58, f 59, f 60, f 61, f 62, f 63, f 64, f 65, f 66, f 67, f 68, f 69, f 70, f 71, f 72, f 73, f 74, f 75, f 76, f 77, f 78, f 79, f 80, f 81, f 82, f 83, f 84, f 85, f 86, f 87, f 88, f 89, f 90, f 91, f 92, f 93, f 94, f 95, f 96, f 97, f 98, f 99, f 100, f 101, f 102, f 103, f 104, f 105, f 106, f 107, f 108, f 109, f 110, f 111, f 112, f 113, f 114, f 115, f 116, f 117, f 118, f 119, f 120, f 121, f 122, f 123, f 124, f 125, f 126, f 127, f 128, f 129, f 130, f 131, f 132, f 133, f 134, f 135, f 136, f 137, f 138, f 139, f 140, f 141, f 142, f 143, f 144, f 145, f 146, f 147, f 148, f 149, f 150, f 151, f 152, f 153, f 154, f 155, f 156, f 157, f 158, f 159, f 160, f 161, f 162, f 163, f 164, f 165, f 166, f 167, f 168, f 169, f 170, f 171, f 172, f 173, f 174, f 175, f 176, f 177, f 178, f 179, f 180, f 181, f 182, f 183, f 184, f 185, f 186, f 187, f 188, f 189, f 190, f 191, f 192, f 193, f 194, f 195, f 196, f 197, f 198, f 199, f 200, f 201, f 202, f 203, f 204, f 205, f 206, f 207, f 208, f 209, f 210, f 211, f 212, f 213, f 214, f 215, f 216, f 217, f 218, f 219, f 220, f 221, f 222, f 223, f 224, f 225, f 226, f 227, f 228, f 229, f 230, f 231, f 232, f 233, f 234, f 235, f 236, f 237, f 238, f 239, f 240, f 241, f 242, f 243, f 244, f 245, f 246, f 247, f 248, f 249, f 250, f 251, f 252, f 253, f 254, f 255, f 256, f 257, f 258, f 259, f 260, f 261, f 262, f 263, f 264, f 265, f 266, f 267, f 268, f 269, f 270, f 271, f 272, f 273, f 274, f 275, f 276, f 277, f 278, f 279, f 280, f 281, f 282, f 283, f 284, f 285, f 286, f 287, f 288, f 289, f 290, f 291, f 292, f 293, f 294, f 295, f 296, f 297, f 298, f 299, f 300, f 301, f 302, f 303, f 304, f 305, f 306, f 307, f 308, f 309, f 310, f 311, f 312, f 313, f 314, f 315, f 316, f 317, f 318, f 319, f 320, f 321, f 322, f 323, f 324, f 325, f 326, f 327, f 328, f 329, f 330, f 331, f 332, f 333, f 334, f 335, f 336, f 337, f 338, f 339, f 340, f 341, f 342, f 343, f 344, f 345, f 346, f 347, f 348, f 349, f 350, f 351, f 352, f 353, f 354, f 355, f 356, f 357, f 358, f 359, f 360, f 361, f 362, f 363, f 364, f 365, f 366, f 367, f 368, f 369, f 370, f 371, f 372, f 373, f 374, f 375, f 376, f 377, f 378, f 379, f 380, f 381, f 382, f 383, f 384, f 385, f 386, f 387, f 388, f 389, f 390, f 391, f 392, f 393, f 394, f 395, f 396, f 397, f 398, f 399, f 400, f 401, f 402, f 403, f 404, f 405, f 406] := ⟨fun i => (A[i]?).getD undef, (arr_lit A 407 h).trans (range407 _)⟩
end Go.Proofs.Ytnohimhihombmaa

namespace Go.Proofs.Ytnohimhihombmaa
set_option linter.unusedSimpArgs false
set_option linter.unusedVariables false
open Go.RowKit

theorem action_keep (w : World) : Calls Try.prog 28 #[.int .i64 1] w fun e w' => e = .returned (.int .i64 1) ∧ w = w' := by
  go_enter Try.func28, Try.ntmps28
  go_wp2
  go_ret
  exact ⟨rfl, rfl⟩

/-- What the function has kept: the slice v at ob; the N actions behind ab are all Keep. -/
structure KeepD (ob ab N base lim : Nat) (w : World) (acc : List (Int × Int)) (v : Value) : Prop where
  o : w.heap[ob]? = some (.cells #[v] 25 (0, 0))
  own : OwnE itemE w v acc base
  act : ∃ qb qo qc, w.heap[ab]? = some (.cells #[.slice (some ⟨qb, qo, none⟩) N qc] 22 (0, 0)) ∧ qb < lim ∧ qb ≠ ob ∧ ∀ j, j < N → w.cell? ⟨qb, qo + j, none⟩ = some (.int .i64 1)
  lo : ob < lim
  la : ab < lim
  ne : ob ≠ ab
  lim_ : lim ≤ base
  rw_ : base ≤ w.heap.size

theorem KeepD.chg {ob ab N base lim : Nat} {w w' : World} {acc : List (Int × Int)} {v : Value} {A : Nat → Nat → Prop} (h : KeepD ob ab N base lim w acc v) (c : Chg A w w') (h1 : ∀ b o, b = ob ∨ b = ab ∨ b < lim → ¬ A b o) (h2 : ∀ b o, v.ownBlock = some b → ¬ A b o) : KeepD ob ab N base lim w' acc v := by
  obtain ⟨o, own, ⟨qb, qo, qc, g1, g2, g3, g4⟩, lo, la, ne, hlim, hr⟩ := h
  refine ⟨by rw [c.block (heap_lt o) (fun _ => h1 _ _ (.inl rfl))]; exact o, own.chgOwn c (fun b o hb => h2 b o hb), ⟨qb, qo, qc, by rw [c.block (heap_lt g1) (fun _ => h1 _ _ (.inr (.inl rfl)))]; exact g1, g2, g3, fun j hj => c.cell (h1 _ _ (.inr (.inr g2))) (g4 j hj)⟩, lo, la, ne, hlim, Nat.le_trans hr c.size⟩

set_option maxRecDepth 100000 in
set_option maxHeartbeats 1000000 in
theorem keep1_any {ob ab N base lim : Nat} {w : World} {acc : List (Int × Int)} {v : Value} (x : Int × Int) (h : KeepD ob ab N base lim w acc v) (hN : acc.length < N) (hlen : N ≤ 1000000000000) :
    Calls Try.prog 27 #[.agg #[.int .i64 x.1, .int .i64 x.2], .pointer (some ⟨ob, 0, none⟩), .pointer (some ⟨ab, 0, none⟩)] w fun e w' =>
      e = .returned (.int .i64 1) ∧ ∃ v', KeepD ob ab N base lim w' (acc ++ [x]) v' ∧ Chg (fun b _ => b = ob ∨ v.ownBlock = some b) w w' ∧ (v'.ownBlock = v.ownBlock ∨ ∃ nb, v'.ownBlock = some nb ∧ w.heap.size ≤ nb) := by
  obtain ⟨i0, hi0, hz0, hz1, hz2⟩ := info_parts infoItem
  have HK := Lib.hid h
  have hol : ∀ b, v.ownBlock = some b → base ≤ b ∧ b < w.heap.size := fun b hb => h.own.own_lt hb
  have HOL := Lib.hid hol
  clear h hol
  go_enter Try.func27, Try.ntmps27
  go_upto_region 1 with fail
  refine name_world (fun w1 => Chg (fun _ _ => False) w w1 ∧ w1.heap[w.heap.size]? = some (.cells #[.int .i64 x.1, .int .i64 x.2] 27 (0, 0))) ⟨(Chg.refl _ _).alloc _, ha_at _ _ rfl⟩ ?_
  rintro w1 ⟨hc1, hb1⟩
  have hk1 := HK.out.chg hc1 (fun _ _ _ h => h) (fun _ _ _ h => h)
  have o0 := cell_of_block hk1.o 0
  have z0 := frozen_of_block hk1.o 0
  have x0 := cell_of_block hb1 0
  have x1 := cell_of_block hb1 1
  simp only [List.getElem?_toArray, List.getElem?_cons_zero, List.getElem?_cons_succ] at o0 x0 x1
  have HK1 := Lib.hid hk1
  have hs1 := hc1.size
  have hlo := hk1.lo
  have hlm := hk1.lim_
  have hrw := HK.out.rw_
  clear hk1 hb1
  have hca := (Chg.refl (fun _ _ => False) w1).alloc (.cells #[.int .i64 x.1, .int .i64 x.2] 27)
  have HOW := Lib.hid (HK1.out.own.keep hca)
  go_wp2_with (refine wpList_append_E2 itemE (by rfl) _ _ _ (by rfl) i0 _ 16 Try.underlying25 hi0 hz0 hz1 hz2 rfl v (by rfl) acc base HOW.out (Nat.le_trans HK1.out.rw_ hca.size) ⟨w1.heap.size, 0, none⟩ 1 _ (by rfl) [x] rfl (by decide) ?_ ?_ ?_ ?_)
  · first | exact El.src1 itemE (c := #[.int .i64 x.1, .int .i64 x.2]) (ha_at _ _ (by first | rfl | simp)) _ rfl | exact fun _ _ h => h
  · unfold maxLen; omega
  · omega
  intro v6 w6 g1 g2 g3
  have hc6 : Chg (fun b _ => v.ownBlock = some b) w1 w6 := hca.trans' g2 (B := fun b _ => v.ownBlock = some b) (fun _ _ _ h => h.elim) (fun _ _ _ h => h)
  have hno : ¬ v.ownBlock = some ob := fun e => by have := (HOL.out ob e).1; omega
  have hb6 : w6.heap[ob]? = some (.cells #[v] 25 (0, 0)) := by rw [hc6.block (heap_lt HK1.out.o) (fun _ h => hno h)]; exact HK1.out.o
  have o6 := cell_of_block hb6 0
  have y6 := frozen_of_block hb6 0
  simp only [List.getElem?_toArray, List.getElem?_cons_zero] at o6
  have hb7 := hs_same (o := 0) hb6 v6
  have HB7 := Lib.hid hb7
  have hc7 : Chg (fun b _ => b = ob ∨ v.ownBlock = some b) w (w6.setCell ⟨ob, 0, none⟩ v6) := ((hc1.mono (fun _ _ _ h => h.elim)).trans (hc6.mono (fun _ _ _ h => .inr h))).setCell (.inl (.inl rfl)) _
  obtain ⟨qb, qo, qc, q1, q2, q3, q4⟩ := HK.out.act
  have hown6 : OwnE itemE (w6.setCell ⟨ob, 0, none⟩ v6) v6 (acc ++ [x]) base := g1.chg ((Chg.refl (fun b _ => b = ob) w6).setCell (.inl rfl) _) (fun b _ hb h => by omega)
  have hv6 : v6.ownBlock = v.ownBlock ∨ ∃ nb, v6.ownBlock = some nb ∧ w.heap.size ≤ nb := g3.imp id fun ⟨nb, h1, h2⟩ => ⟨nb, h1, by have := hca.size; omega⟩
  have HD : ∀ wf, Hid (wf = w6.setCell ⟨ob, 0, none⟩ v6 → KeepD ob ab N base lim wf (acc ++ [x]) v6) := fun wf => Lib.hid fun e => by
    subst e
    have hqo : ¬ (qb = ob ∨ v.ownBlock = some qb) := by
      rintro (e | e)
      · exact q3 e
      · have := (HOL.out qb e).1; omega
    have hao : ¬ (ab = ob ∨ v.ownBlock = some ab) := by
      rintro (e | e)
      · exact HK.out.ne e.symm
      · have := (HOL.out ab e).1; have := HK.out.la; omega
    exact ⟨hb7, hown6, ⟨qb, qo, qc, by rw [hc7.block (heap_lt q1) (fun _ h => hao h)]; exact q1, q2, q3, fun j hj => hc7.cell hqo (q4 j hj)⟩, HK.out.lo, HK.out.la, HK.out.ne, HK.out.lim_, Nat.le_trans HK.out.rw_ hc7.size⟩
  obtain ⟨va, vc, hv6f⟩ := g1.sl.form
  have hal : (acc ++ [x]).length = acc.length + 1 := by simp
  rw [hal] at hv6f
  subst hv6f
  have HC7 := Lib.hid hc7
  have HV6 := Lib.hid hv6
  clear hca g1 g2 g3 hc6 hb6 hb7 hc7 hown6 hv6 o0 z0 q1 q4
  go_upto_region 2 with fail
  refine name_world (fun wf => KeepD ob ab N base lim wf (acc ++ [x]) (.slice va (acc.length + 1) vc) ∧ Chg (fun b _ => b = ob ∨ v.ownBlock = some b) w wf) ⟨(HD _).out rfl, HC7.out⟩ ?_
  rintro w7 ⟨hk7, hc7⟩
  obtain ⟨qb, qo, qc, q1, q2, q3, q4⟩ := hk7.act
  have o7 := cell_of_block hk7.o 0
  have a7 := cell_of_block q1 0
  simp only [List.getElem?_toArray, List.getElem?_cons_zero] at o7 a7
  have c7 := q4 acc.length hN
  have n1 : ¬ (N : Int) < ((acc.length : Int) + 1) := by omega
  have n2 : IntKind.i64.wrap (((acc.length : Int) + 1) - 1) = (acc.length : Int) := (by rw [IntWalk.i64_in _ (by omega)]; omega)
  have n3 : (0 : Int) ≤ (acc.length : Int) := by omega
  have n4 : (acc.length : Int) < (N : Int) := by omega
  have HK7 := Lib.hid hk7
  have HC8 := Lib.hid hc7
  clear hk7 hc7 HD HC7 o6 y6 q1 q4
  go_wp2_with (go_at_call 28; refine (action_keep _).mono ?_; rintro e w' ⟨rfl, rfl⟩)
  go_ret
  exact ⟨rfl, _, HK7.out, HC8.out, HV6.out⟩
end Go.Proofs.Ytnohimhihombmaa

namespace Go.Proofs.Ytnohimhihombmaa
set_option linter.unusedSimpArgs false
set_option linter.unusedVariables false
open Go.RowKit

def stkE : El (Nat × Int) where
  es := 2
  enc := fun x => [.pointer (some ⟨x.1, 0, none⟩), .int .i64 x.2]
  T := 103
  epos := by omega
  elen := fun _ => rfl
  eone := by intro x v hv; simp at hv; rcases hv with rfl | rfl <;> rfl

theorem infoStk : (Try.prog.info? 103).map (fun i => (i.zero, i.size, i.bytes)) = some (some (.agg #[.pointer none, .int .i64 0]), 2, 16) := by kernel_rfl

structure StkTop (w : World) (st : Value) (l : List (Nat × Int)) (n : Nat) (i : Int) (base b o cap : Nat) : Prop where
  eq : st = .slice (some ⟨b, o, none⟩) (l.length + 1) cap
  room : l.length + 1 ≤ cap
  lo : base ≤ b
  hi : b < w.heap.size
  c0 : w.cell? ⟨b, o + l.length * 2, none⟩ = some (.pointer (some ⟨n, 0, none⟩))
  c1 : w.cell? ⟨b, o + l.length * 2 + 1, none⟩ = some (.int .i64 i)
  pop : OwnE stkE w (.slice (some ⟨b, o, none⟩) l.length cap) l base

theorem stk_top {w : World} {st : Value} {l : List (Nat × Int)} {n : Nat} {i : Int} {base : Nat} (h : OwnE stkE w st (l ++ [(n, i)]) base) : ∃ b o cap, StkTop w st l n i base b o cap := by
  rcases h with ⟨h0, _⟩ | ⟨b, o, cap, rfl, h2, h3, h4⟩
  · simp at h0
  · have hll : (l ++ [(n, i)]).length = l.length + 1 := by simp
    rw [hll] at h2 ⊢
    have hx : (l ++ [(n, i)])[l.length]? = some (n, i) := by simp
    have g0 := h4.cell (flat_get stkE.par hx (q := 0) (v := .pointer (some ⟨n, 0, none⟩)) rfl)
    have g1 := h4.cell (flat_get stkE.par hx (q := 1) (v := .int .i64 i) rfl)
    refine ⟨b, o, cap, rfl, h2, h3, h4.lt, g0, by rw [Nat.add_assoc]; exact g1, ?_⟩
    have h5 := h4.part 0 (l.length * 2) (cap * 2) (by rw [flat_len, hll]; show 0 + l.length * 2 ≤ (l.length + 1) * 2; omega) (by omega) (by rw [Nat.zero_add]; exact Nat.le_refl _)
    refine .inr ⟨b, o, cap, rfl, by omega, h3, ?_⟩
    rw [List.drop_zero, Nat.add_zero] at h5
    have e : (flat stkE.par (l ++ [(n, i)])).take (l.length * 2) = flat stkE.par l := by
      have hl : (flat stkE.par l).length = l.length * 2 := flat_len _ _
      rw [flat_append]; exact List.take_left' hl
    rw [e] at h5
    exact h5

/-- The frames from a node of height h up to the root, the nearest first: each a node and its place among its parent's children; what comes behind the node. -/
def FrmD {ord : List Int} (H : Nat → Option (NodeR (It ord))) (mn mx h0 : Nat) : List (Nat × Int) → Nat → Nat → List (It ord) → Prop
  | [], _, _, _ => False
  | e :: es, h, n, R => e.1 = n ∧ ((es = [] ∧ h = h0 ∧ R = []) ∨ ∃ (T : BT (It ord) (h + 1)) (k : Nat) (R' : List (It ord)), e.2 = (k : Int) ∧ IsT H (h + 1) T ∧ Sh mn mx (h + 1) T ∧ 1 ≤ (its T).length ∧ Srt ltM (toL (h + 1) T) ∧ (toL (h + 1) T).length ≤ 1000000000000 ∧ k ≤ T.2.1.length ∧ FrmD H mn mx h0 es (h + 1) (rid T) R' ∧ R = post (T.2.1.drop k) ((T.2.2.map (toL h)).drop (k + 1)) ++ R')

theorem FrmD.len {ord : List Int} {H : Nat → Option (NodeR (It ord))} {mn mx h0 : Nat} : ∀ {es : List (Nat × Int)} {h n : Nat} {R : List (It ord)}, FrmD H mn mx h0 es h n R → es.length + h = h0 + 1
  | [], _, _, _, hf => hf.elim
  | e :: es, h, n, R, ⟨_, hf⟩ => by
    rcases hf with ⟨rfl, rfl, _⟩ | ⟨T, k, R', _, _, _, _, _, _, _, hf, _⟩
    · simp; omega
    · have := hf.len; rw [List.length_cons]; omega

theorem FrmD.pos {ord : List Int} {H : Nat → Option (NodeR (It ord))} {mn mx h0 : Nat} : ∀ {es : List (Nat × Int)} {h n : Nat} {R : List (It ord)}, FrmD H mn mx h0 es h n R → 1 ≤ es.length
  | [], _, _, _, hf => hf.elim
  | e :: es, _, _, _, _ => by simp

/-- Each node on the stack is one of the tree. -/
theorem FrmD.nodes {ord : List Int} {H : Nat → Option (NodeR (It ord))} {mn mx h0 : Nat} : ∀ {es : List (Nat × Int)} {h n : Nat} {R : List (It ord)}, FrmD H mn mx h0 es h n R → (∃ T : BT (It ord) h, rid T = n ∧ IsT H h T ∧ (toL h T).length ≤ 1000000000000) → ∀ e ∈ es, ∃ (h' : Nat) (T : BT (It ord) h'), rid T = e.1 ∧ IsT H h' T ∧ (toL h' T).length ≤ 1000000000000
  | [], _, _, _, hf, _ => hf.elim
  | e :: es, h, n, R, ⟨h1, hf⟩, ⟨T0, hr, hT, hl⟩ => by
    intro e' he'
    rcases List.mem_cons.1 he' with rfl | he'
    · exact ⟨h, T0, by rw [hr, h1], hT, hl⟩
    · rcases hf with ⟨rfl, _, _⟩ | ⟨T, k, R', _, g1, _, _, _, g2, _, hf, _⟩
      · simp at he'
      · exact hf.nodes ⟨T, rfl, g1, g2⟩ e' he'

/-- What a walk of DeleteAscend has besides the tree: what was kept, the stack, the hint, the pivot. -/
structure DaB (ob ab N base bx hb : Nat) (key : Int × Int) (w0 w : World) (acc : List (Int × Int)) (v st : Value) (es : List (Nat × Int)) : Prop where
  kd : KeepD ob ab N base w0.heap.size w acc v
  stk : OwnE stkE w st es base
  ap : ∀ b, v.ownBlock = some b → st.ownBlock ≠ some b
  hint : HintB hb w
  bxc : w.heap[bx]? = some (.cells #[.int .i64 key.1, .int .i64 key.2] 27 (0, 0))
  chg : Chg (fun b _ => b = ob ∨ w0.heap.size ≤ b) w0 w
  lx : bx < base
  lh : hb < base
  xh : bx ≠ hb
  gb : w0.heap.size ≤ bx
  gh : w0.heap.size ≤ hb

section
variable {ob ab N base bx hb : Nat} {key : Int × Int} {w0 w w' : World} {acc : List (Int × Int)} {v st : Value} {es : List (Nat × Int)}

theorem DaB.keep (h : DaB ob ab N base bx hb key w0 w acc v st es) (c : Chg (fun _ _ => False) w w') : DaB ob ab N base bx hb key w0 w' acc v st es :=
  ⟨h.kd.chg c (fun _ _ _ h => h) (fun _ _ _ h => h), h.stk.keep c, h.ap, h.hint.chg c (fun _ h => h), by rw [c.block (heap_lt h.bxc) (fun _ h => h)]; exact h.bxc, h.chg.trans (c.mono (fun _ _ _ h => h.elim)), h.lx, h.lh, h.xh, h.gb, h.gh⟩

/-- A search with the hint. -/
theorem DaB.srch (h : DaB ob ab N base bx hb key w0 w acc v st es) (c : Chg (fun b _ => some hb = some b) w w') (hh : HintB hb w') : DaB ob ab N base bx hb key w0 w' acc v st es := by
  have c' : Chg (fun b _ => hb = b) w w' := c.mono (fun _ _ _ e => Option.some.inj e)
  have hgh := h.gh
  have hlh := h.lh
  have hlo := h.kd.lo
  have hla := h.kd.la
  refine ⟨h.kd.chg c' (fun b o hb2 e => ?_) (fun b o hb2 e => ?_), h.stk.chgOwn c' (fun b o hb2 e => ?_), h.ap, hh, ?_, h.chg.trans (c'.mono (fun b o _ e => .inr (by omega))), h.lx, h.lh, h.xh, h.gb, h.gh⟩
  · rcases hb2 with hb2 | hb2 | hb2 <;> omega
  · have := (h.kd.own.own_lt hb2).1; omega
  · have := (h.stk.own_lt hb2).1; omega
  · rw [c'.block (heap_lt h.bxc) (fun _ e => h.xh e.symm)]; exact h.bxc

/-- The function was called. -/
theorem DaB.call (h : DaB ob ab N base bx hb key w0 w acc v st es) {v' : Value} {x : Int × Int} (hk : KeepD ob ab N base w0.heap.size w' (acc ++ [x]) v') (c : Chg (fun b _ => b = ob ∨ v.ownBlock = some b) w w') (hv : v'.ownBlock = v.ownBlock ∨ ∃ nb, v'.ownBlock = some nb ∧ w.heap.size ≤ nb) : DaB ob ab N base bx hb key w0 w' (acc ++ [x]) v' st es := by
  have hgh := h.gh
  have hgb := h.gb
  have hlh := h.lh
  have hlx := h.lx
  have hlo := h.kd.lo
  have hlm := h.kd.lim_
  have hvo : ∀ b, v.ownBlock = some b → base ≤ b := fun b hb2 => (h.kd.own.own_lt hb2).1
  refine ⟨hk, h.stk.chgOwn c (fun b o hb2 e => ?_), fun b hb2 hs => ?_, h.hint.chg c (fun o e => ?_), ?_, h.chg.trans (c.mono (fun b o _ e => ?_)), h.lx, h.lh, h.xh, h.gb, h.gh⟩
  · have h1 := (h.stk.own_lt hb2).1
    rcases e with e | e
    · omega
    · exact h.ap b e hb2
  · rcases hv with hv | ⟨nb, hv, hn⟩
    · exact h.ap b (hv ▸ hb2) hs
    · have h1 := (h.stk.own_lt hs).2
      rw [hv] at hb2
      have := Option.some.inj hb2
      omega
  · rcases e with e | e
    · omega
    · have := hvo _ e; omega
  · rw [c.block (heap_lt h.bxc) (fun _ e => ?_)]
    · exact h.bxc
    · rcases e with e | e
      · omega
      · have := hvo _ e; omega
  · rcases e with e | e
    · exact .inl e
    · have := hvo _ e; exact .inr (by omega)

/-- The stack has grown or got smaller. -/
theorem DaB.stack (h : DaB ob ab N base bx hb key w0 w acc v st es) {st' : Value} {es' : List (Nat × Int)} (hs : OwnE stkE w' st' es' base) (c : Chg (fun b _ => st.ownBlock = some b) w w') (hv : st'.ownBlock = st.ownBlock ∨ st'.ownBlock = none ∨ ∃ nb, st'.ownBlock = some nb ∧ w.heap.size ≤ nb) : DaB ob ab N base bx hb key w0 w' acc v st' es' := by
  have hgh := h.gh
  have hgb := h.gb
  have hlh := h.lh
  have hlx := h.lx
  have hlo := h.kd.lo
  have hla := h.kd.la
  have hlm := h.kd.lim_
  have hso : ∀ b, st.ownBlock = some b → base ≤ b := fun b hb2 => (h.stk.own_lt hb2).1
  refine ⟨h.kd.chg c (fun b o hb2 e => ?_) (fun b o hb2 e => h.ap b hb2 e), hs, fun b hb2 he => ?_, h.hint.chg c (fun o e => ?_), ?_, h.chg.trans (c.mono (fun b o _ e => ?_)), h.lx, h.lh, h.xh, h.gb, h.gh⟩
  · have := hso _ e
    rcases hb2 with hb2 | hb2 | hb2 <;> omega
  · rcases hv with hv | hv | ⟨nb, hv, hn⟩
    · exact h.ap b hb2 (hv ▸ he)
    · rw [hv] at he; cases he
    · have h1 := (h.kd.own.own_lt hb2).2
      rw [hv] at he
      have := Option.some.inj he
      omega
  · have := hso _ e; omega
  · rw [c.block (heap_lt h.bxc) (fun _ e => ?_)]
    · exact h.bxc
    · have := hso _ e; omega
  · have := hso _ e; exact .inr (by omega)

theorem DaB.len (h : DaB ob ab N base bx hb key w0 w acc v st es) : ∃ a c, v = .slice a acc.length c := h.kd.own.sl.form
end
end Go.Proofs.Ytnohimhihombmaa

namespace Go.Proofs.Ytnohimhihombmaa
set_option linter.unusedSimpArgs false
set_option linter.unusedVariables false
open Go.RowKit

def fnD (ob ab : Nat) : Value := .func (.func 27) #[] #[.pointer (some ⟨ob, 0, none⟩), .pointer (some ⟨ab, 0, none⟩)]

/-- The slots that stay. -/
def DaFr (t bx hb : Nat) (pv fn : Value) (a : Act) : Prop :=
  a.defers = [] ∧ a.tmps.size = 407 ∧ a.tmps[0]? = some (.pointer (some ⟨t, 0, none⟩)) ∧ a.tmps[1]? = some pv ∧ a.tmps[2]? = some fn ∧ a.tmps[4]? = some (.pointer (some ⟨bx, 0, none⟩)) ∧ a.tmps[6]? = some (.pointer (some ⟨hb, 0, none⟩))

set_option maxRecDepth 100000 in
theorem DaFr.lit {t bx hb : Nat} {pv fn : Value} {a : Act} (h : DaFr t bx hb pv fn a) : ∃ f : Nat → Value, a = { tmps := #[f 0, f 1, f 2, f 3, f 4, f 5, f 6, f 7, f 8, f 9, f 10, f 11, f 12, f 13, f 14, f 15, f 16, f 17, f 18, f 19, f 20, f 21, f 22, f 23, f 24, f 25, f 26, f 27, f 28, f 29, f 30, f 31, f 32, f 33, f 34, f 35, f 36, f 37, f 38, f 39, f 40, f 41, f 42, f 43, f 44, f 45, f 46, f 47, f 48, f 49, f 50, f 51, f 52, f 53, f 54, f 55, f 56, f 57, f 58, f 59, f 60, f 61, f 62, f 63, f 64, f 65, f 66, f 67, f 68, f 69, f 70, f 71, f 72, f 73, f 74, f 75, f 76, f 77, f 78, f 79, f 80, f 81, f 82, f 83, f 84, f 85, f 86, f 87, f 88, f 89, f 90, f 91, f 92, f 93, f 94, f 95, f 96, f 97, f 98, f 99, f 100, f 101, f 102, f 103, f 104, f 105, f 106, f 107, f 108, f 109, f 110, f 111, f 112, f 113, f 114, f 115, f 116, f 117, f 118, f 119, f 120, f 121, f 122, f 123, f 124, f 125, f 126, f 127, f 128, f 129, f 130, f 131, f 132, f 133, f 134, f 135, f 136, f 137, f 138, f 139, f 140, f 141, f 142, f 143, f 144, f 145, f 146, f 147, f 148, f 149, f 150, f 151, f 152, f 153, f 154, f 155, f 156, f 157, f 158, f 159, f 160, f 161, f 162, f 163, f 164, f 165, f 166, f 167, f 168, f 169, f 170, f 171, f 172, f 173, f 174, f 175, f 176, f 177, f 178, f 179, f 180, f 181, f 182, f 183, f 184, f 185, f 186, f 187, f 188, f 189, f 190, f 191, f 192, f 193, f 194, f 195, f 196, f 197, f 198, f 199, f 200, f 201, f 202, f 203, f 204, f 205, f 206, f 207, f 208, f 209, f 210, f 211, f 212, f 213, f 214, f 215, f 216, f 217, f 218, f 219, f 220, f 221, f 222, f 223, f 224, f 225, f 226, f 227, f 228, f 229, f 230, f 231, f 232, f 233, f 234, f 235, f 236, f 237, f 238, f 239, f 240, f 241, f 242, f 243, f 244, f 245, f 246, f 247, f 248, f 249, f 250, f 251, f 252, f 253, f 254, f 255, f 256, f 257, f 258, f 259, f 260, f 261, f 262, f 263, f 264, f 265, f 266, f 267, f 268, f 269, f 270, f 271, f 272, f 273, f 274, f 275, f 276, f 277, f 278, f 279, f 280, f 281, f 282, f 283, f 284, f 285, f 286, f 287, f 288, f 289, f 290, f 291, f 292, f 293, f 294, f 295, f 296, f 297, f 298, f 299, f 300, f 301, f 302, f 303, f 304, f 305, f 306, f 307, f 308, f 309, f 310, f 311, f 312, f 313, f 314, f 315, f 316, f 317, f 318, f 319, f 320, f 321, f 322, f 323, f 324, f 325, f 326, f 327, f 328, f 329, f 330, f 331, f 332, f 333, f 334, f 335, f 336, f 337, f 338, f 339, f 340, f 341, f 342, f 343, f 344, f 345, f 346, f 347, f 348, f 349, f 350, f 351, f 352, f 353, f 354, f 355, f 356, f 357, f 358, f 359, f 360, f 361, f 362, f 363, f 364, f 365, f 366, f 367, f 368, f 369, f 370, f 371, f 372, f 373, f 374, f 375, f 376, f 377, f 378, f 379, f 380, f 381, f 382, f 383, f 384, f 385, f 386, f 387, f 388, f 389, f 390, f 391, f 392, f 393, f 394, f 395, f 396, f 397, f 398, f 399, f 400, f 401, f 402, f 403, f 404, f 405, f 406], defers := [] } ∧ f 0 = .pointer (some ⟨t, 0, none⟩) ∧ f 1 = pv ∧ f 2 = fn ∧ f 4 = .pointer (some ⟨bx, 0, none⟩) ∧ f 6 = .pointer (some ⟨hb, 0, none⟩) := by
  obtain ⟨tmps, defers⟩ := a
  obtain ⟨hd, hs, h0, h1, h2, h4, h6⟩ := h
  obtain ⟨f, rfl⟩ := frame407 tmps hs
  simp only [List.getElem?_toArray, List.getElem?_cons_succ, List.getElem?_cons_zero, Option.some.injEq] at h0 h1 h2 h4 h6
  exact ⟨f, by rw [show defers = [] from hd], h0, h1, h2, h4, h6⟩

variable {ord : List Int}

def DaT (H : Nat → Option (NodeR (It ord))) (mn mx h0 h : Nat) (T : BT (It ord) h) (es : List (Nat × Int)) (R : List (It ord)) : Prop :=
  IsT H h T ∧ Sh mn mx h T ∧ 1 ≤ (its T).length ∧ Srt ltM (toL h T) ∧ (toL h T).length ≤ 1000000000000 ∧ FrmD H mn mx h0 es h (rid T) R

/-- What is still to be handed on, at place i of a node. -/
def PosR (key : It ord) : (h : Nat) → BT (It ord) h → Nat → Bool → List (It ord) → List (It ord) → Prop
  | 0, T, i, fd, R, rem => i ≤ T.2.length ∧ (fd = true → i < T.2.length) ∧ rem = T.2.drop i ++ R
  | h + 1, T, i, true, R, rem => i < T.2.1.length ∧ rem = post (T.2.1.drop i) ((T.2.2.map (toL h)).drop (i + 1)) ++ R
  | h + 1, T, i, false, R, rem => PosAt ltM T.2.1 key i ∧ rem = upp ltM key (toL (h + 1) T) ++ R

/-- At the label next. -/
def LabJ (H : Nat → Option (NodeR (It ord))) (mn mx h0 t bx hb ob ab N base : Nat) (pv fn : Value) (key : It ord) (w0 : World) (tot : List (It ord)) (n0 : Nat) (a : Act) (w : World) : Prop :=
  DaFr t bx hb pv fn a ∧ ∃ (h : Nat) (T : BT (It ord) h) (es : List (Nat × Int)) (R rem acc : List (It ord)) (v st : Value) (i : Nat) (fd : Bool),
    a.tmps[7]? = some st ∧ a.tmps[8]? = some (.pointer (some ⟨rid T, 0, none⟩)) ∧ a.tmps[9]? = some (.int .i64 i) ∧ a.tmps[10]? = some (.bool fd) ∧
    DaB ob ab N base bx hb key w0 w acc v st es.reverse ∧ DaT H mn mx h0 h T es R ∧ PosR key h T i fd R rem ∧ acc ++ rem = tot ∧ (fd = false → rid T = n0)

/-- At the head of the loop. -/
def LabL (H : Nat → Option (NodeR (It ord))) (mn mx h0 t bx hb ob ab N base : Nat) (pv fn : Value) (key : It ord) (w0 : World) (tot : List (It ord)) (a : Act) (w : World) : Prop :=
  DaFr t bx hb pv fn a ∧ ∃ (h : Nat) (T : BT (It ord) h) (es : List (Nat × Int)) (R acc : List (It ord)) (v st : Value),
    a.tmps[7]? = some st ∧ a.tmps[8]? = some (.pointer (some ⟨rid T, 0, none⟩)) ∧
    DaB ob ab N base bx hb key w0 w acc v st es.reverse ∧ DaT H mn mx h0 h T es R ∧ acc ++ (upp ltM key (toL h T) ++ R) = tot

/-- On the way down along the first children. -/
def LabK (H : Nat → Option (NodeR (It ord))) (mn mx h0 t bx hb ob ab N base : Nat) (pv fn : Value) (key : It ord) (w0 : World) (tot acc : List (It ord)) (v : Value) (a : Act) (w : World) : Prop :=
  DaFr t bx hb pv fn a ∧ ∃ (h : Nat) (T : BT (It ord) h) (es : List (Nat × Int)) (R : List (It ord)) (st : Value),
    a.tmps[7]? = some st ∧ a.tmps[8]? = some (.pointer (some ⟨rid T, 0, none⟩)) ∧ a.tmps[9]? = some (.int .i64 0) ∧
    DaB ob ab N base bx hb key w0 w acc v st es.reverse ∧ DaT H mn mx h0 h T es R ∧ acc ++ (toL h T ++ R) = tot

/-- Going through the stack, where nothing is taken from the counts. -/
def LabC (t bx hb : Nat) (pv fn st n iv : Value) (m : Nat) (w9 : World) (a : Act) (w : World) : Prop :=
  DaFr t bx hb pv fn a ∧ a.tmps[7]? = some st ∧ a.tmps[8]? = some n ∧ a.tmps[9]? = some iv ∧ a.tmps[13]? = some (.int .i64 1) ∧ a.tmps[14]? = some (.int .i64 0) ∧ (∃ j : Nat, j ≤ m ∧ a.tmps[16]? = some (.int .i64 j)) ∧ Chg (fun _ _ => False) w9 w

/-- On the way up. -/
def LabZ (H : Nat → Option (NodeR (It ord))) (mn mx h0 t bx hb ob ab N base : Nat) (pv fn : Value) (key : It ord) (w0 : World) (tot : List (It ord)) (m0 : Nat) (a : Act) (w : World) : Prop :=
  DaFr t bx hb pv fn a ∧ ∃ (h n : Nat) (es : List (Nat × Int)) (R acc : List (It ord)) (v st : Value),
    a.tmps[7]? = some st ∧ DaB ob ab N base bx hb key w0 w acc v st es.reverse ∧ FrmD H mn mx h0 es h n R ∧ acc ++ R = tot ∧ 2 * (N - acc.length) < m0

/-- At a leaf. -/
def LabM (H : Nat → Option (NodeR (It ord))) (mn mx h0 t bx hb ob ab N base : Nat) (pv fn : Value) (key : It ord) (w0 : World) (tot : List (It ord)) (m0 : Nat) (a : Act) (w : World) : Prop :=
  DaFr t bx hb pv fn a ∧ ∃ (T : BT (It ord) 0) (es : List (Nat × Int)) (R acc : List (It ord)) (v st : Value) (i : Nat),
    a.tmps[7]? = some st ∧ a.tmps[8]? = some (.pointer (some ⟨rid T, 0, none⟩)) ∧ a.tmps[9]? = some (.int .i64 i) ∧
    DaB ob ab N base bx hb key w0 w acc v st es.reverse ∧ DaT H mn mx h0 0 T es R ∧ i ≤ T.2.length ∧ acc ++ (T.2.drop i ++ R) = tot ∧ (i < T.2.length → 2 * (N - acc.length) ≤ m0) ∧ (T.2.length ≤ i → 2 * (N - acc.length) < m0)

def slLen (o : Option Value) : Nat := match o with
  | some (.slice _ n _) => n
  | _ => 0

def daMu (N ob : Nat) (a : Act) (w : World) : Nat := 2 * (N - slLen (w.cell? ⟨ob, 0, none⟩)) + (match a.tmps[10]? with | some (.bool true) => 0 | _ => 1)

theorem DaB.mu {ob ab N base bx hb : Nat} {key : It ord} {w0 w : World} {acc : List (It ord)} {v st : Value} {es : List (Nat × Int)} (h : DaB ob ab N base bx hb key w0 w acc v st es) : slLen (w.cell? ⟨ob, 0, none⟩) = acc.length := by
  obtain ⟨a, c, rfl⟩ := h.len
  rw [cell_of_block h.kd.o]; rfl
end Go.Proofs.Ytnohimhihombmaa
