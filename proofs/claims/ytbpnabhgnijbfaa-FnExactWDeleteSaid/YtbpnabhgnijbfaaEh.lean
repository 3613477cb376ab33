/- Delete: the key not there. -/
import Derived.Test.YtbpnabhgnijbfaaA10
import Derived.Test.YtbpnabhgnijbfaaEg
namespace Go.Proofs.Ytbpnabhgnijbfaa
set_option linter.unusedSimpArgs false
set_option linter.unusedVariables false
open Go.RowKit

def DelAns (mn mx : Nat) (w : World) (F : Nat → Prop) (t : Nat) (l : List (ByteArray × Int)) (x : ByteArray × Int) (e : Ending) (w' : World) : Prop :=
  SetRet l x e ∧ ∃ F', MapIn mn mx w' F' t (delL ltM x l) ∧ Chg (fun b _ => F b ∨ b = t) w w' ∧ (∀ b, F' b → F b ∨ w.heap.size ≤ b)

set_option maxRecDepth 100000 in
set_option maxHeartbeats 4000000 in
theorem delete_tree_miss {mn mx : Nat} {w : World} {F : Nat → Prop} {H : Nat → Option (NodeR (ByteArray × Int))} {t h : Nat} {T : BT (ByteArray × Int) h} (x : ByteArray × Int) (hI : TreeIn 0 mn mx w F H t h T) (hB : MapBlk 0 mn mx w t (some (rid T)) (toL h T).length) (h1 : 1 ≤ (its T).length) (hmn : 1 ≤ mn) (hn : fndL ltM x (toL h T) = none) :
    Calls Try.prog 39 #[.pointer (some ⟨t, 0, none⟩), .string x.1] w (DelAns mn mx w F t (toL h T) x) := by
  have HB := Lib.hid hB
  have HI := Lib.hid hI
  have HN := Lib.hid hn
  have htl := hB.lt
  clear hB hI hn
  go_enter Try.func39, Try.ntmps39
  refine name_world (fun w0 => Chg (fun _ _ => False) w w0) (Chg.refl _ _) ?_
  intro w0 hc0
  have hI0 := HI.out.at (HI.out.fam.chg hc0 (fun _ _ _ h => h)) (HI.out.map.chg hc0 (fun _ _ _ h => h))
  have c2 : w0.cell? ⟨t, 2, none⟩ = some (.pointer (some ⟨rid T, 0, none⟩)) := (HB.out.chg hc0 (fun _ _ _ h => h)).c2
  have HD := Lib.hid (delKey h 0 mn mx t ⟨t, 2, none⟩ x w0 F H T hI0 hmn h1 c2)
  clear hI0
  go_wp2_with fail
  refine HD.out.mono ?_
  rintro e w3 ⟨H', o, rfl, hF3, hc3, ⟨T', hd, hg⟩, hsame⟩
  have ho : o = none := by have := hg.1; rw [HN.out] at this; exact this
  subst ho
  obtain rfl := hsame rfl
  unfold pairV
  have hc03 : Chg (fun b _ => F b) w w3 := (hc0.mono (fun _ _ _ h => h.elim)).trans hc3
  have hm3 := HB.out.at_.chg hc03 (fun b _ hm e => HI.out.out b hm e)
  have FIN := Lib.hid (show ∀ wl, Chg (fun _ _ => False) w3 wl → DelAns mn mx w F t (toL h T) x (.returned (.tuple #[.int .i64 0, .bool false])) wl from fun wl c => by
    have hcl := hc03.trans (c.mono (B := fun b _ => F b) (fun _ _ _ h => h.elim))
    refine ⟨.inr ⟨HN.out, rfl⟩, grow F w0 w3, .inr ⟨H', h, T, ?_, HB.out.chg hcl (fun b _ hm e => HI.out.out b hm e), (delL_none HN.out).symm, h1⟩, hcl.mono (fun _ _ _ h => .inl h), fun b hb => ?_⟩
    · exact ⟨hF3.chg c (fun _ _ _ h => h), hm3.chg c (fun _ _ _ h => h), fun b hm hb => by
        rcases hb with hb | hb
        · exact HI.out.out b hm hb
        · have := HB.out.at_.lt hm; have := hc0.size; have := hb.1; omega, HI.out.isT, HI.out.nd, HI.out.sh, HI.out.srt, HI.out.big, HI.out.m3, HI.out.m1000, HI.out.mh, HI.out.mh2⟩
    · rcases hb with hb | hb
      · exact .inl hb
      · exact .inr (by have := hb.1; have := hc0.size; omega))
  go_upto_region 4 with fail
  refine name_world (fun w4 => Chg (fun _ _ => False) w3 w4) ?_ ?_
  · repeat (first | refine Chg.drew ?_ | refine Chg.drewN ?_ _ | refine Chg.setCell ?_ (.inr (Nat.le_refl _)) _ | refine Chg.alloc ?_ _ | exact Chg.refl _ _)
  intro w4 hc4
  have e4 := (hm3.chg hc4 (fun _ _ _ h => h)).c4
  clear hm3 hF3
  go_wp2_with fail
  refine bodyPost_ret (v := .tuple #[.int .i64 0, .bool false]) (by simp [results, Try.results39, go_sem]) rfl ?_
  refine FIN.out _ (hc4.trans ?_)
  repeat (first | refine Chg.drew ?_ | refine Chg.drewN ?_ _ | refine Chg.setCell ?_ (.inr (Nat.le_refl _)) _ | refine Chg.alloc ?_ _ | exact Chg.refl _ _)
end Go.Proofs.Ytbpnabhgnijbfaa
