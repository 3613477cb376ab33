/- delete at a leaf: the item not there, and the last item. -/
import Derived.StillTailTactics
import Derived.Deep.Cut
import Derived.Test.YtcabnhpnkaielaaA2
import Derived.Test.YtcabnhpnkaielaaA4
import Derived.Test.YtcabnhpnkaielaaHo
import Derived.Test.YtcabnhpnkaielaaD1
namespace Go.Proofs.Ytcabnhpnkaielaa
set_option linter.unusedSimpArgs false
set_option linter.unusedVariables false
open Go.RowKit

variable {ord : List Int}

/-- What a deletion below a node leaves. -/
def DelPost (k : Kc ord) (F : Nat → Prop) (hv : Option Nat) (Z : (Nat → Option (NodeR (It ord))) → Option (It ord) → Prop) (w : World) (e : Ending) (w' : World) : Prop :=
  ∃ H' o, e = .returned (endV o) ∧ Fam (parM k) w' (grow F w w') H' ∧ Chg (fun b _ => F b ∨ hv = some b) w w' ∧ HintO hv w' ∧ Z H' o

set_option maxRecDepth 100000 in
set_option maxHeartbeats 4000000 in
theorem delete_leaf_hit {k : Kc ord} {mn mx t n d : Nat} {pa : Addr} {x y : It ord} {i : Nat} {r : NodeR (It ord)} {w : World} {F : Nat → Prop} {H : Nat → Option (NodeR (It ord))} {hv : Option Nat} (hF : Fam (parM k) w F H) (ht : MapAt k mn mx w t) (htF : ∀ b, MOwn k t b → ¬ F b) (hn : H n = some r)
    (hpa : w.cell? pa = some (.pointer (some ⟨n, 0, none⟩))) (hs : Srt ltM r.items) (hlen : r.items.length ≤ 1000) (hk : r.kids = none) (hy : HitAt ltM r.items x i y) (hc0 : 0 ≤ r.cnt ∧ r.cnt ≤ 100000000000000)
    (hh : HintO hv w) (hvF : ∀ b, hv = some b → ¬ F b) (hvt : ∀ b, hv = some b → ¬ MOwn k t b) (hd : d ≤ 1000000000000) :
    Calls Try.prog 127 #[.pointer (some ⟨t, 0, none⟩), .pointer (some pa), .bool false, aggM x, hintV hv, .int .i64 d] w (DelPost k F hv (fun H' o => o = some y ∧ H' = upd H n ⟨r.cnt - 1, r.items.take i ++ r.items.drop (i + 1), r.kids⟩) w) := by
  have hpos : 1 ≤ r.items.length := by have := (List.getElem?_eq_some_iff.1 hy.at_).1; omega
  obtain ⟨l0, hn0⟩ := hF.node hn
  have t0 := ht.c0
  have n0 := hn0.c0
  have hpk : (parM k).k = k.iso := rfl
  rw [hpk] at n0
  unfold aggM hintV
  go_enter Try.func127, Try.ntmps127
  go_wp2_with fail
  refine (isoLoad_any t n k pa true _ hpa n0 t0).mono ?_
  rintro e w1 ⟨rfl, m, hw1⟩
  have hc1 : Chg (fun _ _ => False) w w1 := by rw [hw1]; exact (Chg.refl _ _).drewN _
  clear hw1
  have hna1 := hn0.chg hc1 (fun _ _ _ h => h)
  have ht1' := ht.chg hc1 (by simp)
  skip
  clear t0 n0 hn0 hpa
  go_wp2_with fail
  skip
  refine (find_o hv t d x ht1' hna1 hs (by omega) hpos (hh.keep hc1) hd).mono ?_
  rintro e w3 ⟨i', f, rfl, hw3, hh3, hf⟩
  have hnv : ∀ b, w.heap.size ≤ b → ¬ hv = some b := fun b hb e => by have := hh.lt e; omega
  have hcw3 : Chg (fun b _ => hv = some b) w w3 := (hc1.mono (fun _ _ _ h => h.elim)).trans hw3
  have hF3 := hF.chg hcw3 (fun b _ hb e => hvF b e hb)
  have htt3 := ht.chg hcw3 (fun b _ hb e => hvt b e hb)
  clear hw3 hc1 ht1' hna1
  have hfi : f = true ∧ i = i' := by
    rcases hf with ⟨h1, y', h2⟩ | ⟨h1, h2⟩
    · exact ⟨h1, (hit_same h2 hy).symm⟩
    · exact absurd hy.n2 (by rw [h2.right i y (hit_le h2 hy) hy.at_]; simp)
  obtain ⟨rfl, rfl⟩ := hfi
  have hi := (List.getElem?_eq_some_iff.1 hy.at_).1
  have HY := Lib.hid hy.at_
  clear hf ht hy
  have nF : ∀ b, w.heap.size ≤ b → ¬ F b := fun b hb h => Nat.lt_irrefl _ (Nat.lt_of_lt_of_le (hF.lt h) hb)
  obtain ⟨l, hna, hb, ho, cl⟩ := hF3.work hn
  have n3 := hna.c3n hk
  have n2 := hna.c2
  have iv : w3.cell? ⟨l.ib, l.io + i, none⟩ = some (.iface 26 (.agg #[.int .i64 y.1, .int .i64 y.2])) := hna.mval (j := i) HY.out
  have j0 : (0 : Int) ≤ (i : Int) := by omega
  have j1 : (i : Int) < (r.items.length : Int) := by omega
  have HM := Lib.hid htt3
  have HR := Lib.hid (Run.start hna)
  have HH3 := Lib.hid hh3
  have HCW := Lib.hid hcw3
  have HCL := Lib.hid cl
  have HBF := Lib.hid hb
  clear hna htt3 hh3 hcw3 cl ho hF3
  go_wp2_with (go_at_call 93; refine (leaf_any _ none _ n3).mono ?_; rintro e w' ⟨rfl, rfl⟩)
  clear n2 n3 iv j0 j1
  have N2 : w3.cell? ⟨n, 2, none⟩ = some (.slice (some ⟨l.ib, l.io, none⟩) r.items.length l.ic) := HR.out.at_.c2
  have hlenc : r.items.length ≤ l.ic := HR.out.at_.len
  have s0 : (0 : Int) ≤ (i : Int) := by omega
  have s2 : (0 : Int) ≤ (i : Int) + 1 := by omega
  have s3 : ((i : Int) + 1).toNat = i + 1 := by omega
  have s4 : (i : Int) ≤ (r.items.length : Int) := by omega
  have s5 : (i : Int) + 1 ≤ (r.items.length : Int) := by omega
  have hck2 : ¬ l.ic = i := by omega
  obtain ⟨sp, hif, hsp⟩ : ∃ sp, (if l.ic = i + 1 then some (⟨l.ib, l.io, none⟩ : Addr) else some ⟨l.ib, l.io + (i + 1), none⟩) = some sp ∧ (i + 1 < r.items.length → sp = ⟨l.ib, l.io + (i + 1), none⟩) := by
    by_cases h : l.ic = i + 1
    · exact ⟨_, by rw [if_pos h], fun h2 => by omega⟩
    · exact ⟨_, by rw [if_neg h], fun _ => rfl⟩
  have s1 : IntKind.i64.wrap ((i : Int) + 1) = (i : Int) + 1 := IntWalk.i64_in _ (by omega)
  have HSP := Lib.hid hsp
  clear hsp
  go_still_tail 13, (by kernel_rfl)
  refine wpList_down (p := parM k) (by rfl) _ _ _ _ (by rfl) 20 (by kernel_rfl) infoPairSize (HR.out.still ((Chg.refl _ _).drew)) i (l.io + i) _ _ _ _ (show i < r.items.length by omega) (by simp [parM]) (by rfl) sp (by rfl) (by simpa [parM] using HSP.out) (by first | rfl | simp) (by first | rfl | simp) ?_
  intro w8 ys r8 hys1 hys2
  replace hys1 := Lib.hid hys1
  replace hys2 := Lib.hid hys2
  clear s0 s1 s2 s3 s4 s5 hck2 hif N2 hlenc HSP
  go_upto_region 11 with fail
  refine name_world (fun wz => ∃ ys, ys.length = r.items.length ∧ ys.take (r.items.length - 1) = r.items.take i ++ r.items.drop (i + 1) ∧ Run (parM k) w3 n r l wz { r with items := ys } l) ⟨ys, hys1.out, hys2.out, r8⟩ ?_
  clear r8 hys1 hys2 HR
  rintro w4 ⟨y3, hly3, hy3, hR⟩
  replace hly3 := Lib.hid hly3
  replace hy3 := Lib.hid hy3
  have HR := Lib.hid hR
  clear hR
  have hyb : 1 ≤ y3.length ∧ y3.length ≤ 1001 := by rw [hly3.out]; omega
  have N2 : w4.cell? ⟨n, 2, none⟩ = some (.slice (some ⟨l.ib, l.io, none⟩) y3.length l.ic) := HR.out.at_.c2
  have hm1 := HM.out.chg HR.out.chg (fun b o hm h => htF b hm (hb _ h.blk))
  have e4 := hm1.c4
  have hlenc : y3.length ≤ l.ic := HR.out.at_.len
  have s0 : (0 : Int) ≤ (y3.length : Int) - 1 := by omega
  have s2 : (y3.length : Int) - 1 < (y3.length : Int) := by omega
  have s3 : ((y3.length : Int) - 1).toNat = y3.length - 1 := by omega
  have s1 : IntKind.i64.wrap ((y3.length : Int) - 1) = (y3.length : Int) - 1 := IntWalk.i64_in _ (by omega)
  have hlt : y3.length - 1 < y3.length := by omega
  have z0 := HR.out.at_.ifz (l.io + (y3.length - 1))
  obtain ⟨y6, hy6⟩ : ∃ y, y3[y3.length - 1]? = some y := ⟨_, List.getElem?_eq_getElem hlt⟩
  have iv := HR.out.at_.mval (j := y3.length - 1) hy6
  have r8 := ((Run.opt.1 HR.out).still ((Chg.refl _ _).drew)).setItemO (y3.length - 1) none (show y3.length - 1 < (y3.map some).length by rw [List.length_map]; exact hlt)
  have HR8 := Lib.hid r8
  clear hm1 hy6 r8
  go_still_tail 14, (by kernel_rfl)
  go_upto_region 12 with fail
  refine name_world (fun wz => Run (parO k) w3 n r.opt l wz ⟨r.cnt, (y3.map some).set (y3.length - 1) none, r.kids⟩ l) HR8.out ?_
  clear N2 e4 hlenc s0 s1 s2 s3 hlt z0 iv HR8 HR y6
  rintro w5 hR
  have HR := Lib.hid hR
  clear hR
  have hsl : ((y3.map some).set (y3.length - 1) none : List (Option (It ord))).length = y3.length := by simp
  have N2 : w5.cell? ⟨n, 2, none⟩ = some (.slice (some ⟨l.ib, l.io, none⟩) y3.length l.ic) := by
    have h := HR.out.at_.c2
    simp only [List.length_set, List.length_map] at h
    exact h
  have z2 := HR.out.at_.fz 2
  have hlenc : y3.length ≤ l.ic := by
    have h := HR.out.at_.len
    simpa using h
  have s0 : (0 : Int) ≤ (y3.length : Int) - 1 := by omega
  have s2 : (y3.length : Int) - 1 ≤ (l.ic : Int) := by omega
  have s3 : ((y3.length : Int) - 1).toNat = y3.length - 1 := by omega
  have s1 : IntKind.i64.wrap ((y3.length : Int) - 1) = (y3.length : Int) - 1 := IntWalk.i64_in _ (by omega)
  have ck : ¬ l.ic = 0 := by omega
  have s6 : ¬ ((y3.length : Int) < 1) := by omega
  have s7 : (1 : Int) ≤ (y3.length : Int) := by omega
  have r8 := (HR.out.still ((Chg.refl _ _).drew)).cut 0 (y3.length - 1) l.ic (by show 0 + (y3.length - 1) ≤ ((y3.map some).set (y3.length - 1) none).length; rw [hsl]; omega) (by omega) (by omega)
  simp only [Nat.zero_mul, Nat.add_zero, List.drop_zero] at r8
  have r9 := Run.back (r := ⟨r.cnt, y3.take (y3.length - 1), r.kids⟩) r8 (by simp [NodeR.opt, List.take_set_of_le, List.map_take])
  have HR8 := Lib.hid r9
  clear r8 r9 hsl
  go_still_tail 12, (by kernel_rfl)
  go_upto_region 13 with fail
  refine name_world (fun wz => Run (parM k) w3 n r l wz ⟨r.cnt, y3.take (y3.length - 1), r.kids⟩ l) HR8.out ?_
  clear N2 z2 hlenc s0 s1 s2 s3 s6 s7 ck HR8 HR
  rintro w6 hR
  have HR := Lib.hid hR
  clear hR
  have C1 := HR.out.at_.c1
  have z1 := HR.out.at_.fz 1
  have s1 : IntKind.i64.wrap (r.cnt - 1) = r.cnt - 1 := IntWalk.i64_in _ (by omega)
  have r8 := HR.out.setCnt (r.cnt - 1)
  go_upto_region 14 with fail
  refine name_world (fun wz => Run (parM k) w3 n r l wz ⟨r.cnt - 1, y3.take (y3.length - 1), r.kids⟩ l) r8 ?_
  clear C1 z1 s1 r8
  rintro w7 hR7
  have hit : y3.take (y3.length - 1) = r.items.take i ++ r.items.drop (i + 1) := by
    have h1 := hy3.out
    rw [← hly3.out] at h1
    exact h1
  rw [hit] at hR7
  obtain ⟨f7, g7⟩ := HCL.out _ _ _ hR7
  have hh7 : HintO hv w7 := HH3.out.chg g7 (fun b _ e => hvF b e)
  have hc07 : Chg (fun b _ => F b ∨ hv = some b) w w7 := (HCW.out.mono (fun _ _ _ h => .inr h)).trans (g7.mono (fun _ _ _ h => .inl h))
  have hsz3 := HCW.out.size
  have HF7 := Lib.hid f7
  have HH7 := Lib.hid hh7
  clear hR7 hit HR hly3 hy3 f7 hh7 g7
  go_wp2_with fail
  refine bodyPost_ret (v := .tuple #[.iface 26 (.agg #[.int .i64 y.1, .int .i64 y.2]), .bool true]) (by simp [results, Try.results127, go_sem]) rfl ?_
  refine ⟨_, some y, rfl, HF7.out.mono (fun b hb => ?_) (fun b hb => ?_), hc07, HH7.out, rfl, rfl⟩
  · rcases hb with hb | hb
    · exact .inl hb
    · exact .inr ⟨by have := hb.1; omega, hb.2⟩
  · rcases hb with hb | hb
    · exact HF7.out.lt (.inl hb)
    · exact hb.2
end Go.Proofs.Ytcabnhpnkaielaa

namespace Go.Proofs.Ytcabnhpnkaielaa
set_option linter.unusedSimpArgs false
set_option linter.unusedVariables false
open Go.RowKit

variable {ord : List Int}

set_option maxRecDepth 100000 in
set_option maxHeartbeats 4000000 in
theorem delete_leaf_miss {k : Kc ord} {mn mx t n d : Nat} {pa : Addr} {x : It ord} {i : Nat} {r : NodeR (It ord)} {w : World} {F : Nat → Prop} {H : Nat → Option (NodeR (It ord))} {hv : Option Nat} (hF : Fam (parM k) w F H) (ht : MapAt k mn mx w t) (hn : H n = some r)
    (hpa : w.cell? pa = some (.pointer (some ⟨n, 0, none⟩))) (hs : Srt ltM r.items) (hlen : r.items.length ≤ 1000) (hpos : 1 ≤ r.items.length) (hk : r.kids = none) (hy : PosAt ltM r.items x i)
    (hh : HintO hv w) (hvF : ∀ b, hv = some b → ¬ F b) (hvt : ∀ b, hv = some b → ¬ MOwn k t b) (hd : d ≤ 1000000000000) :
    Calls Try.prog 127 #[.pointer (some ⟨t, 0, none⟩), .pointer (some pa), .bool false, aggM x, hintV hv, .int .i64 d] w (DelPost k F hv (fun H' o => o = none ∧ H' = H) w) := by
  obtain ⟨l0, hn0⟩ := hF.node hn
  have t0 := ht.c0
  have n0 := hn0.c0
  have hpk : (parM k).k = k.iso := rfl
  rw [hpk] at n0
  unfold aggM hintV
  go_enter Try.func127, Try.ntmps127
  go_wp2_with fail
  refine (isoLoad_any t n k pa true _ hpa n0 t0).mono ?_
  rintro e w1 ⟨rfl, m, hw1⟩
  have hc1 : Chg (fun _ _ => False) w w1 := by rw [hw1]; exact (Chg.refl _ _).drewN _
  clear hw1
  have hna1 := hn0.chg hc1 (fun _ _ _ h => h)
  have ht1' := ht.chg hc1 (by simp)
  skip
  clear t0 n0 hn0 hpa
  go_wp2_with fail
  skip
  refine (find_o hv t d x ht1' hna1 hs (by omega) hpos (hh.keep hc1) hd).mono ?_
  rintro e w3 ⟨i', f, rfl, hw3, hh3, hf⟩
  have hnv : ∀ b, w.heap.size ≤ b → ¬ hv = some b := fun b hb e => by have := hh.lt e; omega
  have hcw3 : Chg (fun b _ => hv = some b) w w3 := (hc1.mono (fun _ _ _ h => h.elim)).trans hw3
  have hF3 := hF.chg hcw3 (fun b _ hb e => hvF b e hb)
  have htt3 := ht.chg hcw3 (fun b _ hb e => hvt b e hb)
  clear hw3 hc1 ht1' hna1
  have hfi : f = false := by
    rcases hf with ⟨h1, y', h2⟩ | ⟨h1, h2⟩
    · exact absurd h2.n2 (by rw [hy.right i' y' (hit_le hy h2) h2.at_]; simp)
    · exact h1
  obtain rfl := hfi
  obtain ⟨l, hna⟩ := hF3.node hn
  have n3 := hna.c3n hk
  have e4 := htt3.c4
  have HH3 := Lib.hid hh3
  have HF3 := Lib.hid hF3
  have HCW := Lib.hid hcw3
  clear hf ht hy hna htt3 hh3 hF3 hcw3
  go_wp2_with (go_at_call 93; refine (leaf_any _ none _ n3).mono ?_; rintro e w' ⟨rfl, rfl⟩)
  refine bodyPost_ret (v := .tuple #[.nilIface, .bool false]) (by simp [results, Try.results127, go_sem]) rfl ?_
  refine ⟨H, none, rfl, HF3.out.mono (fun b hb => .inl hb) (fun b hb => ?_), HCW.out.mono (fun _ _ _ h => .inr h), HH3.out, rfl, rfl⟩
  rcases hb with hb | hb
  · exact HF3.out.lt hb
  · exact hb.2

set_option maxRecDepth 100000 in
set_option maxHeartbeats 4000000 in
theorem delete_leaf_max {k : Kc ord} {mn mx t n : Nat} {pa : Addr} {y : It ord} {i : Nat} {r : NodeR (It ord)} {w : World} {F : Nat → Prop} {H : Nat → Option (NodeR (It ord))} (hF : Fam (parM k) w F H) (ht : MapAt k mn mx w t) (htF : ∀ b, MOwn k t b → ¬ F b) (hn : H n = some r)
    (hpa : w.cell? pa = some (.pointer (some ⟨n, 0, none⟩))) (hlen : r.items.length ≤ 1000) (hk : r.kids = none) (hy : r.items[i]? = some y) (hil : r.items.length = i + 1) (hc0 : 0 ≤ r.cnt ∧ r.cnt ≤ 100000000000000) :
    Calls Try.prog 127 #[.pointer (some ⟨t, 0, none⟩), .pointer (some pa), .bool true, .nilIface, .pointer none, .int .i64 0] w (DelPost k F none (fun H' o => o = some y ∧ H' = upd H n ⟨r.cnt - 1, r.items.take i ++ r.items.drop (i + 1), r.kids⟩) w) := by
  have hi : i < r.items.length := by omega
  obtain ⟨l0, hn0⟩ := hF.node hn
  have t0 := ht.c0
  have n0 := hn0.c0
  have hpk : (parM k).k = k.iso := rfl
  rw [hpk] at n0
  skip
  go_enter Try.func127, Try.ntmps127
  go_wp2_with fail
  refine (isoLoad_any t n k pa true _ hpa n0 t0).mono ?_
  rintro e w3 ⟨rfl, m, hw1⟩
  have hc1 : Chg (fun _ _ => False) w w3 := by rw [hw1]; exact (Chg.refl _ _).drewN _
  clear hw1
  have hna1 := hn0.chg hc1 (fun _ _ _ h => h)
  have ht1' := ht.chg hc1 (by simp)
  (have n2 := hna1.c2; have s1 : IntKind.i64.wrap ((r.items.length : Int) - 1) = (i : Int) := (by rw [IntWalk.i64_in _ (by omega)]; omega); replace hil := Lib.hid hil)
  clear t0 n0 hn0 hpa
  go_wp2_with fail
  clear n2 s1
  have hh : HintO none w := HintO.none w
  have hvF : ∀ b, (none : Option Nat) = some b → ¬ F b := fun b e => by cases e
  have hcw3 : Chg (fun b _ => (none : Option Nat) = some b) w w3 := hc1.mono (fun _ _ _ h => h.elim)
  have hF3 := hF.chg hc1 (fun _ _ _ h => h)
  have htt3 := ht.chg hc1 (fun _ _ _ h => h)
  have hh3 := hh.keep hc1
  have HY := Lib.hid hy
  have HTT := Lib.hid ht1'
  clear ht1' hna1 hy hc1
  have nF : ∀ b, w.heap.size ≤ b → ¬ F b := fun b hb h => Nat.lt_irrefl _ (Nat.lt_of_lt_of_le (hF.lt h) hb)
  obtain ⟨l, hna, hb, ho, cl⟩ := hF3.work hn
  have n3 := hna.c3n hk
  have n2 := hna.c2
  have iv : w3.cell? ⟨l.ib, l.io + i, none⟩ = some (.iface 26 (.agg #[.int .i64 y.1, .int .i64 y.2])) := hna.mval (j := i) HY.out
  have j0 : (0 : Int) ≤ (i : Int) := by omega
  have j1 : (i : Int) < (r.items.length : Int) := by omega
  have HM := Lib.hid htt3
  have HR := Lib.hid (Run.start hna)
  have HH3 := Lib.hid hh3
  have HCW := Lib.hid hcw3
  have HCL := Lib.hid cl
  have HBF := Lib.hid hb
  clear hna htt3 hh3 hcw3 cl ho hF3
  go_wp2_with (go_at_call 93; refine (leaf_any _ none _ n3).mono ?_; rintro e w' ⟨rfl, rfl⟩)
  clear n2 n3 iv j0 j1
  have N2 : w3.cell? ⟨n, 2, none⟩ = some (.slice (some ⟨l.ib, l.io, none⟩) r.items.length l.ic) := HR.out.at_.c2
  have hlenc : r.items.length ≤ l.ic := HR.out.at_.len
  have s0 : (0 : Int) ≤ (i : Int) := by omega
  have s2 : (0 : Int) ≤ (i : Int) + 1 := by omega
  have s3 : ((i : Int) + 1).toNat = i + 1 := by omega
  have s4 : (i : Int) ≤ (r.items.length : Int) := by omega
  have s5 : (i : Int) + 1 ≤ (r.items.length : Int) := by omega
  have hck2 : ¬ l.ic = i := by omega
  obtain ⟨sp, hif, hsp⟩ : ∃ sp, (if l.ic = i + 1 then some (⟨l.ib, l.io, none⟩ : Addr) else some ⟨l.ib, l.io + (i + 1), none⟩) = some sp ∧ (i + 1 < r.items.length → sp = ⟨l.ib, l.io + (i + 1), none⟩) := by
    by_cases h : l.ic = i + 1
    · exact ⟨_, by rw [if_pos h], fun h2 => by omega⟩
    · exact ⟨_, by rw [if_neg h], fun _ => rfl⟩
  have s1 : IntKind.i64.wrap ((i : Int) + 1) = (i : Int) + 1 := IntWalk.i64_in _ (by omega)
  have HSP := Lib.hid hsp
  clear hsp
  go_still_tail 13, (by kernel_rfl)
  refine wpList_down (p := parM k) (by rfl) _ _ _ _ (by rfl) 20 (by kernel_rfl) infoPairSize (HR.out.still ((Chg.refl _ _).drew)) i (l.io + i) _ _ _ _ (show i < r.items.length by omega) (by simp [parM]) (by rfl) sp (by rfl) (by simpa [parM] using HSP.out) (by first | rfl | simp) (by first | rfl | simp) ?_
  intro w8 ys r8 hys1 hys2
  replace hys1 := Lib.hid hys1
  replace hys2 := Lib.hid hys2
  clear s0 s1 s2 s3 s4 s5 hck2 hif N2 hlenc HSP
  go_upto_region 11 with fail
  refine name_world (fun wz => ∃ ys, ys.length = r.items.length ∧ ys.take (r.items.length - 1) = r.items.take i ++ r.items.drop (i + 1) ∧ Run (parM k) w3 n r l wz { r with items := ys } l) ⟨ys, hys1.out, hys2.out, r8⟩ ?_
  clear r8 hys1 hys2 HR
  rintro w4 ⟨y3, hly3, hy3, hR⟩
  replace hly3 := Lib.hid hly3
  replace hy3 := Lib.hid hy3
  have HR := Lib.hid hR
  clear hR
  have hyb : 1 ≤ y3.length ∧ y3.length ≤ 1001 := by rw [hly3.out]; omega
  have N2 : w4.cell? ⟨n, 2, none⟩ = some (.slice (some ⟨l.ib, l.io, none⟩) y3.length l.ic) := HR.out.at_.c2
  have hm1 := HM.out.chg HR.out.chg (fun b o hm h => htF b hm (hb _ h.blk))
  have e4 := hm1.c4
  have hlenc : y3.length ≤ l.ic := HR.out.at_.len
  have s0 : (0 : Int) ≤ (y3.length : Int) - 1 := by omega
  have s2 : (y3.length : Int) - 1 < (y3.length : Int) := by omega
  have s3 : ((y3.length : Int) - 1).toNat = y3.length - 1 := by omega
  have s1 : IntKind.i64.wrap ((y3.length : Int) - 1) = (y3.length : Int) - 1 := IntWalk.i64_in _ (by omega)
  have hlt : y3.length - 1 < y3.length := by omega
  have z0 := HR.out.at_.ifz (l.io + (y3.length - 1))
  obtain ⟨y6, hy6⟩ : ∃ y, y3[y3.length - 1]? = some y := ⟨_, List.getElem?_eq_getElem hlt⟩
  have iv := HR.out.at_.mval (j := y3.length - 1) hy6
  have r8 := ((Run.opt.1 HR.out).still ((Chg.refl _ _).drew)).setItemO (y3.length - 1) none (show y3.length - 1 < (y3.map some).length by rw [List.length_map]; exact hlt)
  have HR8 := Lib.hid r8
  clear hm1 hy6 r8
  go_still_tail 14, (by kernel_rfl)
  go_upto_region 12 with fail
  refine name_world (fun wz => Run (parO k) w3 n r.opt l wz ⟨r.cnt, (y3.map some).set (y3.length - 1) none, r.kids⟩ l) HR8.out ?_
  clear N2 e4 hlenc s0 s1 s2 s3 hlt z0 iv HR8 HR y6
  rintro w5 hR
  have HR := Lib.hid hR
  clear hR
  have hsl : ((y3.map some).set (y3.length - 1) none : List (Option (It ord))).length = y3.length := by simp
  have N2 : w5.cell? ⟨n, 2, none⟩ = some (.slice (some ⟨l.ib, l.io, none⟩) y3.length l.ic) := by
    have h := HR.out.at_.c2
    simp only [List.length_set, List.length_map] at h
    exact h
  have z2 := HR.out.at_.fz 2
  have hlenc : y3.length ≤ l.ic := by
    have h := HR.out.at_.len
    simpa using h
  have s0 : (0 : Int) ≤ (y3.length : Int) - 1 := by omega
  have s2 : (y3.length : Int) - 1 ≤ (l.ic : Int) := by omega
  have s3 : ((y3.length : Int) - 1).toNat = y3.length - 1 := by omega
  have s1 : IntKind.i64.wrap ((y3.length : Int) - 1) = (y3.length : Int) - 1 := IntWalk.i64_in _ (by omega)
  have ck : ¬ l.ic = 0 := by omega
  have s6 : ¬ ((y3.length : Int) < 1) := by omega
  have s7 : (1 : Int) ≤ (y3.length : Int) := by omega
  have r8 := (HR.out.still ((Chg.refl _ _).drew)).cut 0 (y3.length - 1) l.ic (by show 0 + (y3.length - 1) ≤ ((y3.map some).set (y3.length - 1) none).length; rw [hsl]; omega) (by omega) (by omega)
  simp only [Nat.zero_mul, Nat.add_zero, List.drop_zero] at r8
  have r9 := Run.back (r := ⟨r.cnt, y3.take (y3.length - 1), r.kids⟩) r8 (by simp [NodeR.opt, List.take_set_of_le, List.map_take])
  have HR8 := Lib.hid r9
  clear r8 r9 hsl
  go_still_tail 12, (by kernel_rfl)
  go_upto_region 13 with fail
  refine name_world (fun wz => Run (parM k) w3 n r l wz ⟨r.cnt, y3.take (y3.length - 1), r.kids⟩ l) HR8.out ?_
  clear N2 z2 hlenc s0 s1 s2 s3 s6 s7 ck HR8 HR
  rintro w6 hR
  have HR := Lib.hid hR
  clear hR
  have C1 := HR.out.at_.c1
  have z1 := HR.out.at_.fz 1
  have s1 : IntKind.i64.wrap (r.cnt - 1) = r.cnt - 1 := IntWalk.i64_in _ (by omega)
  have r8 := HR.out.setCnt (r.cnt - 1)
  go_upto_region 14 with fail
  refine name_world (fun wz => Run (parM k) w3 n r l wz ⟨r.cnt - 1, y3.take (y3.length - 1), r.kids⟩ l) r8 ?_
  clear C1 z1 s1 r8
  rintro w7 hR7
  have hit : y3.take (y3.length - 1) = r.items.take i ++ r.items.drop (i + 1) := by
    have h1 := hy3.out
    rw [← hly3.out] at h1
    exact h1
  rw [hit] at hR7
  obtain ⟨f7, g7⟩ := HCL.out _ _ _ hR7
  have hh7 : HintO (none : Option Nat) w7 := HH3.out.chg g7 (fun b _ e => hvF b e)
  have hc07 : Chg (fun b _ => F b ∨ (none : Option Nat) = some b) w w7 := (HCW.out.mono (fun _ _ _ h => .inr h)).trans (g7.mono (fun _ _ _ h => .inl h))
  have hsz3 := HCW.out.size
  have HF7 := Lib.hid f7
  have HH7 := Lib.hid hh7
  clear hR7 hit HR hly3 hy3 f7 hh7 g7
  go_wp2_with fail
  refine bodyPost_ret (v := .tuple #[.iface 26 (.agg #[.int .i64 y.1, .int .i64 y.2]), .bool true]) (by simp [results, Try.results127, go_sem]) rfl ?_
  refine ⟨_, some y, rfl, HF7.out.mono (fun b hb => ?_) (fun b hb => ?_), hc07, HH7.out, rfl, rfl⟩
  · rcases hb with hb | hb
    · exact .inl hb
    · exact .inr ⟨by have := hb.1; omega, hb.2⟩
  · rcases hb with hb | hb
    · exact HF7.out.lt (.inl hb)
    · exact hb.2
end Go.Proofs.Ytcabnhpnkaielaa
