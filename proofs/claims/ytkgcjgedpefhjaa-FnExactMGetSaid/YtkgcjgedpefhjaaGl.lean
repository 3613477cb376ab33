/- mGet: the two agree. -/
import Derived.Test.YtkgcjgedpefhjaaGm
namespace Go.Proofs.Ytkgcjgedpefhjaa
open Go.RowKit

set_option maxRecDepth 100000 in
theorem mGet_any (d : Int) (p : Option Addr) (cap : Nat) (l : List (Int × Int)) (kv : Value) (ks : List Int) (w : World) (h1 : 2 ≤ d) (h2 : d ≤ 128) (hl : ItemsAt w p l) (hk : SlE intE w kv ks) (hlen : l.length ≤ 2147483647) (hkl : ks.length ≤ 2147483647) :
    Calls Try.prog 24 #[.int .i64 d, .slice p l.length cap, kv] w fun e w' => e = .returned (.bool true) ∧ Chg (fun _ _ => False) w w' := by
  have hM := MGet_any d p cap l kv ks w h1 h2 hl hk hlen hkl
  have hI := fun w1 (c : Chg (fun _ _ => False) w w1) => specItems_any kv ks w1 (hk.chg c) (by omega)
  have hG := fun w1 (c : Chg (fun _ _ => False) w w1) (v1 : Value) h => GGet_nil p cap l v1 (ks.map fun k => (k, 0)) w1 (hl.chg c) h hlen (by simp; omega)
  have e1 : growL l = treeL (ltR id) l := rfl
  rw [e1] at hM
  simp only [List.map_map, Function.comp_def] at hG
  unfold makeV at hG
  have HM := Lib.hid hM
  have HI := Lib.hid hI
  have HG := Lib.hid hG
  obtain ⟨a, kcap, rfl⟩ := hk.form
  clear hM hI hG hl hk e1
  go_enter Try.func24, Try.ntmps24
  go_wp2_with fail
  refine HM.out.mono ?_
  rintro e w1 ⟨v1, rfl, how1, hc1⟩
  go_wp2_with fail
  refine (HI.out _ hc1).mono ?_
  rintro e w2 ⟨v2, rfl, how2, hc2⟩
  go_wp2_with fail
  refine (HG.out _ (hc1.trans hc2) _ how2.sl).mono ?_
  rintro e w3 ⟨v3, rfl, how3, hc3⟩
  go_wp2_with fail
  refine (equal_found _ _ _ _ (how1.sl.chg (hc2.trans hc3)) how3.sl (by simp; omega)).mono ?_
  rintro e w4 ⟨rfl, hc4⟩
  go_wp2_with fail
  go_ret
  exact ⟨rfl, ((hc1.trans hc2).trans hc3).trans hc4⟩
end Go.Proofs.Ytkgcjgedpefhjaa
