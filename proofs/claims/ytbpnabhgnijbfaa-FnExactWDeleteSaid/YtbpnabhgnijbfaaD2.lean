/- nodeRebalance over trees, all ways: child j has one item too few. -/
import Derived.Test.YtbpnabhgnijbfaaD1
import Derived.Test.YtbpnabhgnijbfaaRe
import Derived.Test.YtbpnabhgnijbfaaRf
import Derived.Test.YtbpnabhgnijbfaaRi
import Derived.Test.YtbpnabhgnijbfaaRj
import Derived.Test.YtbpnabhgnijbfaaRm
import Derived.Test.YtbpnabhgnijbfaaRn
import Derived.Test.YtbpnabhgnijbfaaRo
namespace Go.Proofs.Ytbpnabhgnijbfaa
set_option linter.unusedSimpArgs false
set_option linter.unusedVariables false
open Go.RowKit

def RebAny (k : Int) (mn mx : Nat) (w : World) (F : Nat → Prop) (H : Nat → Option (NodeR (ByteArray × Int))) (h : Nat) (T : BT (ByteArray × Int) (h + 1)) (e : Ending) (w' : World) : Prop :=
  e = .returned (.tuple #[]) ∧ ∃ H' T', Fam (parM k) w' (grow F w w') H' ∧ Chg (fun x _ => F x) w w' ∧ RebOut mn mx H H' h T T'

theorem Tri.fam {α : Type} {p : Par α} {w w1 : World} {F : Nat → Prop} {H : Nat → Option (NodeR α)} {n a b : Nat} {rn ra rb : NodeR α} (h0 : Fam p w F H) (h : Tri p w F H n a b w1 rn ra rb) :
    ∃ H', Fam p w1 (grow F w w1) H' ∧ Chg (fun x _ => F x) w w1 ∧ H' n = some rn ∧ H' a = some ra ∧ H' b = some rb ∧ ∀ m, m ≠ n → m ≠ a → m ≠ b → H' m = H m := by
  obtain ⟨F', H', hF, h2, h3, g1, g2, g3, g4⟩ := h
  refine ⟨H', hF.mono (fun x hx => ?_) (fun x hx => ?_), h3, g1, g2, g3, g4⟩
  · rcases h2 x hx with h | h
    · exact .inl h
    · exact .inr ⟨h, hF.lt hx⟩
  · rcases hx with hx | hx
    · exact Nat.lt_of_lt_of_le (h0.lt hx) h3.size
    · exact hx.2

theorem two_ne {α : Type} {h : Nat} {n : Nat} {X : List α} {L R : List (BT α h)} {A B : BT α h} (hd : (ids (h + 1) ((n, X, L ++ A :: B :: R) : BT α (h + 1))).Nodup) : n ≠ rid A ∧ n ≠ rid B ∧ rid A ≠ rid B := by
  rw [ids_two] at hd
  obtain ⟨d1, d2⟩ := List.nodup_cons.1 hd
  obtain ⟨_, d4, _⟩ := List.nodup_append.1 d2
  obtain ⟨d6, _, _⟩ := List.nodup_append.1 d4
  obtain ⟨_, _, d11⟩ := List.nodup_append.1 d6
  refine ⟨?_, ?_, d11 _ (rid_mem A) _ (rid_mem B)⟩
  · rintro rfl; exact d1 (List.mem_append_right _ (List.mem_append_left _ (List.mem_append_left _ (rid_mem A))))
  · rintro rfl; exact d1 (List.mem_append_right _ (List.mem_append_left _ (List.mem_append_right _ (rid_mem B))))

theorem rec_root {α : Type} {H : Nat → Option (NodeR α)} {h : Nat} {T : BT α (h + 1)} (hT : IsT H (h + 1) T) : H T.1 = some ⟨(recOf (h + 1) T).cnt, T.2.1, some ((T.2.2.map rid).map some)⟩ := by
  have := hT.1
  rw [List.map_map]
  exact this


theorem reb_join {k : Int} {mn mx : Nat} {w : World} {F : Nat → Prop} {H : Nat → Option (NodeR (ByteArray × Int))} {t h : Nat} {n : Nat} {X Y : List (ByteArray × Int)} {x : ByteArray × Int} {L R : List (BT (ByteArray × Int) h)} {A B : BT (ByteArray × Int) h}
    (hF : Fam (parM k) w F H) (hm : MapAt k mn mx w t) (hout : ∀ b, MOwn k t b → ¬ F b) (hL : L.length = X.length) (hR : R.length = Y.length)
    (hT : IsT H (h + 1) ((n, X ++ x :: Y, L ++ A :: B :: R) : BT (ByteArray × Int) (h + 1))) (hd : (ids (h + 1) ((n, X ++ x :: Y, L ++ A :: B :: R) : BT (ByteArray × Int) (h + 1))).Nodup)
    (hA : Sh mn mx h A) (hB : Sh mn mx h B) (hs : ∀ c, (c ∈ L ∨ c ∈ R) → mn ≤ (its c).length ∧ Sh mn mx h c) (hx : (X ++ x :: Y).length ≤ mx) (hmx : mx ≤ 1000) (hsum : (its A).length + (its B).length < mx) (hmn : mn ≤ (its A).length + (its B).length + 1)
    (hba : (toL h A).length ≤ 100000000000000) (hbb : (toL h B).length ≤ 100000000000000) (arg : Int) (harg : arg = (L.length : Int) ∨ (arg = ((X ++ x :: Y).length : Int) ∧ Y = [])) :
    Calls Try.prog 65 #[.pointer (some ⟨t, 0, none⟩), .pointer (some ⟨n, 0, none⟩), .int .i64 arg] w (RebAny k mn mx w F H h ((n, X ++ x :: Y, L ++ A :: B :: R) : BT (ByteArray × Int) (h + 1))) := by
  obtain ⟨na, nb, ab⟩ := two_ne hd
  have hn : H n = some ⟨(recOf (h + 1) ((n, X ++ x :: Y, L ++ A :: B :: R) : BT (ByteArray × Int) (h + 1))).cnt, X ++ x :: Y, some (((L ++ A :: B :: R).map rid).map some)⟩ := rec_root hT
  have mA : A ∈ L ++ A :: B :: R := List.mem_append_right _ List.mem_cons_self
  have mB : B ∈ L ++ A :: B :: R := List.mem_append_right _ (List.mem_cons_of_mem _ List.mem_cons_self)
  have rA := (hT.2 A mA).root
  have rB := (hT.2 B mB).root
  have hk : ((L ++ A :: B :: R).map rid).length = (X ++ x :: Y).length + 1 := by simp; omega
  have hia : ((L ++ A :: B :: R).map rid)[L.length]? = some (rid A) := by simp
  have hib : ((L ++ A :: B :: R).map rid)[L.length + 1]? = some (rid B) := by
    rw [List.getElem?_map, List.getElem?_append_right (by omega)]; simp
  have hxi : (X ++ x :: Y)[L.length]? = some x := by rw [hL]; simp
  have hi : L.length < (X ++ x :: Y).length := by simp; omega
  have ca := recOf_cnt A
  have cb := recOf_cnt B
  have fin : ∀ w' rb, Tri (parM k) w F H n (rid A) (rid B) w' ⟨(recOf (h + 1) ((n, X ++ x :: Y, L ++ A :: B :: R) : BT (ByteArray × Int) (h + 1))).cnt, (X ++ x :: Y).take L.length ++ (X ++ x :: Y).drop (L.length + 1), some ((((L ++ A :: B :: R).map rid).map some).take (L.length + 1) ++ (((L ++ A :: B :: R).map rid).map some).drop (L.length + 1 + 1))⟩ (recOf h (catT A x B)) rb →
      RebAny k mn mx w F H h ((n, X ++ x :: Y, L ++ A :: B :: R) : BT (ByteArray × Int) (h + 1)) (.returned (.tuple #[])) w' := by
    intro w' rb hTri
    obtain ⟨H', f1, f2, g1, g2, _, g4⟩ := hTri.fam hF
    rw [rec_join hL hR hA] at g1
    exact ⟨rfl, H', _, f1, f2, join_out hL hR hT hd hA hB hs hx hsum hmn g1 g2 g4⟩
  have wa : 0 ≤ (recOf h A).cnt ∧ (recOf h A).cnt ≤ 100000000000000 := by rw [ca]; omega
  have wb : 0 ≤ (recOf h B).cnt ∧ (recOf h B).cnt ≤ 100000000000000 := by rw [cb]; omega
  have hxl := Nat.le_trans hx hmx
  match h, A, B with
  | 0, A, B =>
    have e := rec_catT x (b := B) hA
    rcases harg with rfl | ⟨rfl, rfl⟩
    · refine (reb_merge_leaf (mn := mn) hF hm hout hn hk rA rB hia hib na nb ab hxi hi hxl hmx hsum wa wb).mono ?_
      rintro e' w' ⟨rfl, hTri⟩
      refine fin w' (recOf 0 B) ?_
      rw [e]
      exact hTri
    · refine (reb_merge_leaf_end (mn := mn) hF hm hout hn hk rA rB hia hib na nb ab hxi hi (by simp [hL]) hxl hmx hsum wa wb).mono ?_
      rintro e' w' ⟨rfl, hTri⟩
      refine fin w' (recOf 0 B) ?_
      rw [e]
      exact hTri
  | h + 1, A, B =>
    have e := rec_catT x (b := B) hA
    have hkb : (A.2.2.map fun c => some (rid c)).length + (B.2.2.map fun c => some (rid c)).length ≤ 2000 := by
      have h1 := hA.2.1
      have h2 := hB.2.1
      have h3 : A.2.1.length + B.2.1.length < mx := hsum
      simp only [List.length_map]
      omega
    rcases harg with rfl | ⟨rfl, rfl⟩
    · refine (reb_merge_kids (mn := mn) hF hm hout hn hk rA rB hia hib na nb ab hxi hi hxl hmx hsum wa hkb wb).mono ?_
      rintro e' w' ⟨rfl, hTri⟩
      refine fin w' (recOf (h + 1) B) ?_
      rw [e]
      exact hTri
    · refine (reb_merge_kids_end (mn := mn) hF hm hout hn hk rA rB hia hib na nb ab hxi hi (by simp [hL]) hxl hmx hsum wa hkb wb).mono ?_
      rintro e' w' ⟨rfl, hTri⟩
      refine fin w' (recOf (h + 1) B) ?_
      rw [e]
      exact hTri
end Go.Proofs.Ytbpnabhgnijbfaa

namespace Go.Proofs.Ytbpnabhgnijbfaa
set_option linter.unusedSimpArgs false
set_option linter.unusedVariables false
open Go.RowKit

theorem kid_ne {α : Type} {h : Nat} {n : Nat} {X : List α} {L R : List (BT α (h + 1))} {A B : BT α (h + 1)} (hd : (ids (h + 1 + 1) ((n, X, L ++ A :: B :: R) : BT α (h + 1 + 1))).Nodup) {c : BT α h} (hc : c ∈ A.2.2 ∨ c ∈ B.2.2) : rid c ≠ n ∧ rid c ≠ rid A ∧ rid c ≠ rid B := by
  rw [ids_two] at hd
  obtain ⟨d1, d2⟩ := List.nodup_cons.1 hd
  obtain ⟨_, d4, _⟩ := List.nodup_append.1 d2
  obtain ⟨d6, _, _⟩ := List.nodup_append.1 d4
  obtain ⟨d9, d10, d11⟩ := List.nodup_append.1 d6
  have hm := rid_mem c
  rcases hc with hc | hc
  · refine ⟨?_, fun e => nodup_root d9 hc (e ▸ hm), d11 _ (ids_kid hc hm) _ (rid_mem B)⟩
    intro e
    exact d1 (List.mem_append_right _ (List.mem_append_left _ (List.mem_append_left _ (e ▸ ids_kid hc hm))))
  · refine ⟨?_, fun e => d11 _ (rid_mem A) _ (ids_kid hc hm) e.symm, fun e => nodup_root d10 hc (e ▸ hm)⟩
    intro e
    exact d1 (List.mem_append_right _ (List.mem_append_left _ (List.mem_append_right _ (e ▸ ids_kid hc hm))))


theorem reb_left {k : Int} {mn mx : Nat} {w : World} {F : Nat → Prop} {H : Nat → Option (NodeR (ByteArray × Int))} {t h : Nat} {n : Nat} {X Y : List (ByteArray × Int)} {x : ByteArray × Int} {L R : List (BT (ByteArray × Int) h)} {A B : BT (ByteArray × Int) h}
    (hF : Fam (parM k) w F H) (hm : MapAt k mn mx w t) (hout : ∀ b, MOwn k t b → ¬ F b) (hL : L.length = X.length) (hR : R.length = Y.length)
    (hT : IsT H (h + 1) ((n, X ++ x :: Y, L ++ A :: B :: R) : BT (ByteArray × Int) (h + 1))) (hd : (ids (h + 1) ((n, X ++ x :: Y, L ++ A :: B :: R) : BT (ByteArray × Int) (h + 1))).Nodup)
    (hA : Sh mn mx h A) (hB : Sh mn mx h B) (hs : ∀ c, (c ∈ L ∨ c ∈ R) → mn ≤ (its c).length ∧ Sh mn mx h c) (hx : (X ++ x :: Y).length ≤ mx) (hmx : mx ≤ 1000) (hsum : mx ≤ (its A).length + (its B).length) (hlt : (its A).length < (its B).length) (hla : mn ≤ (its A).length + 1) (hlb : mn + 1 ≤ (its B).length)
    (hba : (toL h A).length ≤ 100000000000000) (hbb : (toL h B).length ≤ 100000000000000) :
    Calls Try.prog 65 #[.pointer (some ⟨t, 0, none⟩), .pointer (some ⟨n, 0, none⟩), .int .i64 (L.length : Nat)] w (RebAny k mn mx w F H h ((n, X ++ x :: Y, L ++ A :: B :: R) : BT (ByteArray × Int) (h + 1))) := by
  obtain ⟨na, nb, ab⟩ := two_ne hd
  have hn : H n = some ⟨(recOf (h + 1) ((n, X ++ x :: Y, L ++ A :: B :: R) : BT (ByteArray × Int) (h + 1))).cnt, X ++ x :: Y, some (((L ++ A :: B :: R).map rid).map some)⟩ := rec_root hT
  have mA : A ∈ L ++ A :: B :: R := List.mem_append_right _ List.mem_cons_self
  have mB : B ∈ L ++ A :: B :: R := List.mem_append_right _ (List.mem_cons_of_mem _ List.mem_cons_self)
  have rA := (hT.2 A mA).root
  have rB := (hT.2 B mB).root
  have hk : ((L ++ A :: B :: R).map rid).length = (X ++ x :: Y).length + 1 := by simp; omega
  have hia : ((L ++ A :: B :: R).map rid)[L.length]? = some (rid A) := by simp
  have hib : ((L ++ A :: B :: R).map rid)[L.length + 1]? = some (rid B) := by
    rw [List.getElem?_map, List.getElem?_append_right (by omega)]; simp
  have hxi : (X ++ x :: Y)[L.length]? = some x := by rw [hL]; simp
  have hi : L.length < (X ++ x :: Y).length := by simp; omega
  obtain ⟨y, hy⟩ : ∃ y, (its B)[0]? = some y := ⟨_, List.getElem?_eq_getElem (by omega)⟩
  have ca := recOf_cnt A
  have cb := recOf_cnt B
  have lA := hA.len
  have lB := hB.len
  have hsh := sh_lft x hA hB (by omega) (by omega)
  have htl := toL_lft x hA hB hy
  have fin : ∀ w', Tri (parM k) w F H n (rid A) (rid B) w' ⟨(recOf (h + 1) ((n, X ++ x :: Y, L ++ A :: B :: R) : BT (ByteArray × Int) (h + 1))).cnt, (X ++ x :: Y).set L.length y, some (((L ++ A :: B :: R).map rid).map some)⟩ (recOf h (lftA A x B)) (recOf h (lftB B)) →
      RebAny k mn mx w F H h ((n, X ++ x :: Y, L ++ A :: B :: R) : BT (ByteArray × Int) (h + 1)) (.returned (.tuple #[])) w' := by
    intro w' hTri
    obtain ⟨H', f1, f2, g1, g2, g3, g4⟩ := hTri.fam hF
    rw [rec_lend (mn := mn) (mx := mx) hL hR htl (rid_lftA A B x) (rid_lftB B)] at g1
    exact ⟨rfl, H', _, f1, f2, lend_out hL hR hT hd hsh.1 hsh.2 hs hx (by rw [its_lftA]; simp; omega) (by rw [its_lftB]; simp; omega) (rid_lftA A B x) (rid_lftB B) (ids_lft A B x) htl (fun e c hc => lft_kids e c hc) g1 g2 g3 g4⟩
  have wa : 0 ≤ (recOf h A).cnt ∧ (recOf h A).cnt ≤ 100000000000000 := by rw [ca]; omega
  have wb : 0 ≤ (recOf h B).cnt ∧ (recOf h B).cnt ≤ 100000000000000 := by rw [cb]; omega
  have hxl := Nat.le_trans hx hmx
  match h, A, B with
  | 0, A, B =>
    refine (reb_left_leaf (mn := mn) hF hm hout hn hk rA rB hia hib na nb ab hxi hy hi hxl hmx hsum hlt (Nat.le_trans lB hmx) wa wb).mono ?_
    rintro e' w' ⟨rfl, hTri⟩
    refine fin w' ?_
    rw [← rec_lftA0, ← rec_lftB0 B (by omega)]
    exact hTri
  | h + 1, A, B =>
    have h1 := hA.2.1
    have h2 := hB.2.1
    have lA' : A.2.1.length ≤ mx := lA
    have lB' : B.2.1.length ≤ mx := lB
    obtain ⟨c, hc⟩ : ∃ c, B.2.2[0]? = some c := ⟨_, List.getElem?_eq_getElem (by omega)⟩
    have hcm : c ∈ B.2.2 := List.mem_of_getElem? hc
    obtain ⟨cN, cA, cB⟩ := kid_ne hd (.inr hcm)
    have hcc := ((hT.2 B mB).2 c hcm).root
    have hfst := toL_first hB hy hc
    have hcs : 0 ≤ (recOf h c).cnt ∧ (recOf h c).cnt ≤ 100000000000000 := by
      rw [recOf_cnt]
      rw [hfst] at hbb
      simp only [List.length_append] at hbb
      omega
    refine (reb_left_kids (mn := mn) hF hm hout hn hk rA rB hia hib na nb ab hxi hy hi hxl hmx hsum hlt (Nat.le_trans lB hmx) wa wb (by rw [List.getElem?_map, hc]; rfl) hcc cN cA cB hcs (by simp only [List.length_map]; omega) (by simp only [List.length_map]; omega)).mono ?_
    rintro e' w' ⟨rfl, hTri⟩
    refine fin w' ?_
    rw [← rec_lftA1 x hA hc, ← rec_lftB1 hB hy hc]
    exact hTri

theorem reb_right {k : Int} {mn mx : Nat} {w : World} {F : Nat → Prop} {H : Nat → Option (NodeR (ByteArray × Int))} {t h : Nat} {n : Nat} {X : List (ByteArray × Int)} {x : ByteArray × Int} {L : List (BT (ByteArray × Int) h)} {A B : BT (ByteArray × Int) h}
    (hF : Fam (parM k) w F H) (hm : MapAt k mn mx w t) (hout : ∀ b, MOwn k t b → ¬ F b) (hL : L.length = X.length)
    (hT : IsT H (h + 1) ((n, X ++ x :: [], L ++ A :: B :: []) : BT (ByteArray × Int) (h + 1))) (hd : (ids (h + 1) ((n, X ++ x :: [], L ++ A :: B :: []) : BT (ByteArray × Int) (h + 1))).Nodup)
    (hA : Sh mn mx h A) (hB : Sh mn mx h B) (hs : ∀ c, (c ∈ L ∨ c ∈ ([] : List (BT (ByteArray × Int) h))) → mn ≤ (its c).length ∧ Sh mn mx h c) (hx : (X ++ x :: []).length ≤ mx) (hmx : mx ≤ 1000) (hsum : mx ≤ (its A).length + (its B).length) (hlt : (its B).length < (its A).length) (hla : mn + 1 ≤ (its A).length) (hlb : mn ≤ (its B).length + 1)
    (hba : (toL h A).length ≤ 100000000000000) (hbb : (toL h B).length ≤ 100000000000000) :
    Calls Try.prog 65 #[.pointer (some ⟨t, 0, none⟩), .pointer (some ⟨n, 0, none⟩), .int .i64 ((X ++ x :: []).length : Nat)] w (RebAny k mn mx w F H h ((n, X ++ x :: [], L ++ A :: B :: []) : BT (ByteArray × Int) (h + 1))) := by
  obtain ⟨na, nb, ab⟩ := two_ne hd
  have hn : H n = some ⟨(recOf (h + 1) ((n, X ++ x :: [], L ++ A :: B :: []) : BT (ByteArray × Int) (h + 1))).cnt, X ++ x :: [], some (((L ++ A :: B :: []).map rid).map some)⟩ := rec_root hT
  have mA : A ∈ L ++ A :: B :: [] := List.mem_append_right _ List.mem_cons_self
  have mB : B ∈ L ++ A :: B :: [] := List.mem_append_right _ (List.mem_cons_of_mem _ List.mem_cons_self)
  have rA := (hT.2 A mA).root
  have rB := (hT.2 B mB).root
  have hk : ((L ++ A :: B :: []).map rid).length = (X ++ x :: []).length + 1 := by simp; omega
  have hia : ((L ++ A :: B :: []).map rid)[L.length]? = some (rid A) := by simp
  have hib : ((L ++ A :: B :: []).map rid)[L.length + 1]? = some (rid B) := by
    rw [List.getElem?_map, List.getElem?_append_right (by omega)]; simp
  have hxi : (X ++ x :: [])[L.length]? = some x := by rw [hL]; simp
  have hi : L.length < (X ++ x :: []).length := by simp; omega
  obtain ⟨z, hz⟩ : ∃ z, (its A)[(its A).length - 1]? = some z := ⟨_, List.getElem?_eq_getElem (by omega)⟩
  have ca := recOf_cnt A
  have cb := recOf_cnt B
  have lA := hA.len
  have lB := hB.len
  have hsh := sh_rgt x hA hB (by omega) (by omega)
  have htl := toL_rgt x hA hB hz
  have fin : ∀ w', Tri (parM k) w F H n (rid A) (rid B) w' ⟨(recOf (h + 1) ((n, X ++ x :: [], L ++ A :: B :: []) : BT (ByteArray × Int) (h + 1))).cnt, (X ++ x :: []).set L.length z, some (((L ++ A :: B :: []).map rid).map some)⟩ (recOf h (rgtA A)) (recOf h (rgtB A x B)) →
      RebAny k mn mx w F H h ((n, X ++ x :: [], L ++ A :: B :: []) : BT (ByteArray × Int) (h + 1)) (.returned (.tuple #[])) w' := by
    intro w' hTri
    obtain ⟨H', f1, f2, g1, g2, g3, g4⟩ := hTri.fam hF
    rw [rec_lend (mn := mn) (mx := mx) hL rfl htl (rid_rgtA A) (rid_rgtB A B x)] at g1
    exact ⟨rfl, H', _, f1, f2, lend_out hL rfl hT hd hsh.1 hsh.2 hs hx (by rw [its_rgtA]; simp; omega) (by rw [its_rgtB]; simp; omega) (rid_rgtA A) (rid_rgtB A B x) (ids_rgt A B x) htl (fun e c hc => rgt_kids e c hc) g1 g2 g3 g4⟩
  have wa : 0 ≤ (recOf h A).cnt ∧ (recOf h A).cnt ≤ 100000000000000 := by rw [ca]; omega
  have wb : 0 ≤ (recOf h B).cnt ∧ (recOf h B).cnt ≤ 100000000000000 := by rw [cb]; omega
  have hxl := Nat.le_trans hx hmx
  match h, A, B with
  | 0, A, B =>
    refine (reb_right_leaf (mn := mn) hF hm hout hn hk rA rB hia hib na nb ab hxi hz hi (by simp [hL]) hxl hmx hsum hlt (Nat.le_trans lA hmx) wa wb).mono ?_
    rintro e' w' ⟨rfl, hTri⟩
    refine fin w' ?_
    rw [← rec_rgtA0 A (by omega), ← rec_rgtB0]
    exact hTri
  | h + 1, A, B =>
    have h1 := hA.2.1
    have h2 := hB.2.1
    have lA' : A.2.1.length ≤ mx := lA
    have lB' : B.2.1.length ≤ mx := lB
    obtain ⟨c, hc⟩ : ∃ c, A.2.2[A.2.2.length - 1]? = some c := ⟨_, List.getElem?_eq_getElem (by omega)⟩
    have hcm : c ∈ A.2.2 := List.mem_of_getElem? hc
    obtain ⟨cN, cA, cB⟩ := kid_ne hd (.inl hcm)
    have hcc := ((hT.2 A mA).2 c hcm).root
    have hlst := toL_last hA hz hc
    have hcs : 0 ≤ (recOf h c).cnt ∧ (recOf h c).cnt ≤ 100000000000000 := by
      rw [recOf_cnt]
      rw [hlst] at hba
      simp only [List.length_append, List.length_cons] at hba
      omega
    refine (reb_right_kids (mn := mn) hF hm hout hn hk rA rB hia hib na nb ab hxi hz hi (by simp [hL]) hxl hmx hsum hlt (Nat.le_trans lA hmx) wa wb (by rw [List.length_map, List.getElem?_map, hc]; rfl) hcc cN cA cB hcs (by simp only [List.length_map]; omega) (by simp only [List.length_map]; omega) (by simp only [List.length_map]; omega)).mono ?_
    rintro e' w' ⟨rfl, hTri⟩
    refine fin w' ?_
    rw [← rec_rgtA1 hA hz hc, ← rec_rgtB1 x hc]
    exact hTri
end Go.Proofs.Ytbpnabhgnijbfaa

namespace Go.Proofs.Ytbpnabhgnijbfaa
set_option linter.unusedSimpArgs false
set_option linter.unusedVariables false
open Go.RowKit


theorem reb_any {k : Int} {mn mx : Nat} {w : World} {F : Nat → Prop} {H : Nat → Option (NodeR (ByteArray × Int))} {t h j : Nat} {T : BT (ByteArray × Int) (h + 1)} {c0 : BT (ByteArray × Int) h}
    (hF : Fam (parM k) w F H) (hm : MapAt k mn mx w t) (hout : ∀ b, MOwn k t b → ¬ F b) (hT : IsT H (h + 1) T) (hd : (ids (h + 1) T).Nodup) (hx1 : 1 ≤ T.2.1.length) (hx : T.2.1.length ≤ mx) (hlen : T.2.2.length = T.2.1.length + 1)
    (hsh : ∀ c ∈ T.2.2, Sh mn mx h c) (hoth : ∀ i c, T.2.2[i]? = some c → i ≠ j → mn ≤ (its c).length) (hj : T.2.2[j]? = some c0) (hdef : (its c0).length + 1 = mn) (hmn : mn + mn ≤ mx) (hmx : mx ≤ 1000) (big : (toL (h + 1) T).length ≤ 100000000000000) :
    Calls Try.prog 65 #[.pointer (some ⟨t, 0, none⟩), .pointer (some ⟨T.1, 0, none⟩), .int .i64 (j : Nat)] w (RebAny k mn mx w F H h T) := by
  have hjl := (List.getElem?_eq_some_iff.1 hj).1
  obtain ⟨i, hi, hij⟩ : ∃ i, i < T.2.1.length ∧ (i = j ∨ (i + 1 = j ∧ j = T.2.1.length)) := by
    rcases Nat.lt_or_ge j T.2.1.length with h | h
    · exact ⟨j, h, .inl rfl⟩
    · exact ⟨j - 1, by omega, .inr ⟨by omega, by omega⟩⟩
  obtain ⟨A, hA⟩ : ∃ A, T.2.2[i]? = some A := ⟨_, List.getElem?_eq_getElem (by omega)⟩
  obtain ⟨B, hB⟩ : ∃ B, T.2.2[i + 1]? = some B := ⟨_, List.getElem?_eq_getElem (by omega)⟩
  obtain ⟨x, hxi⟩ : ∃ x, T.2.1[i]? = some x := ⟨_, List.getElem?_eq_getElem hi⟩
  obtain ⟨e, hL, hR⟩ := two_at hlen hA hB hxi
  have sA := hsh A (List.mem_of_getElem? hA)
  have sB := hsh B (List.mem_of_getElem? hB)
  have lL : (T.2.2.take i).length = i := by simp; omega
  have hs : ∀ c, (c ∈ T.2.2.take i ∨ c ∈ T.2.2.drop (i + 2)) → mn ≤ (its c).length ∧ Sh mn mx h c := by
    rintro c (hc | hc)
    · obtain ⟨q, q1, q2⟩ := mem_take_get hc
      exact ⟨hoth q c q2 (by omega), hsh c (List.mem_of_getElem? q2)⟩
    · obtain ⟨q, q1, q2⟩ := mem_drop_get hc
      exact ⟨hoth q c q2 (by omega), hsh c (List.mem_of_getElem? q2)⟩
  have hxl : (T.2.1.take i ++ x :: T.2.1.drop (i + 1)).length = T.2.1.length := by simp; omega
  have hbig : (toL h A).length ≤ 100000000000000 ∧ (toL h B).length ≤ 100000000000000 := by
    have h1 : (toL (h + 1) T).length = (toL (h + 1) ((T.1, T.2.1.take i ++ x :: T.2.1.drop (i + 1), T.2.2.take i ++ A :: B :: T.2.2.drop (i + 2)) : BT (ByteArray × Int) (h + 1))).length := by rw [← e]
    rw [toL_two (mn := mn) (mx := mx) hL hR] at h1
    simp only [List.length_append, List.length_cons] at h1
    omega
  revert hT hd
  generalize hX : T.2.1.take i = X at *
  generalize hY : T.2.1.drop (i + 1) = Y at *
  generalize hLL : T.2.2.take i = L at *
  generalize hRR : T.2.2.drop (i + 2) = R at *
  generalize hn : T.1 = n at *
  rw [e]
  intro hT hd
  rcases hij with rfl | ⟨rfl, hend⟩
  · obtain rfl : c0 = A := Option.some.inj (hj.symm.trans hA)
    have hBm := hoth (i + 1) B hB (by omega)
    rcases Nat.lt_or_ge ((its c0).length + (its B).length) mx with h1 | h1
    · exact reb_join hF hm hout hL hR hT hd sA sB hs (by omega) hmx h1 (by omega) hbig.1 hbig.2 _ (.inl (by rw [lL]))
    · have := reb_left hF hm hout hL hR hT hd sA sB hs (by omega) hmx h1 (by omega) (by omega) (by omega) hbig.1 hbig.2
      rw [lL] at this
      exact this
  · obtain rfl : c0 = B := Option.some.inj (hj.symm.trans hB)
    have hAm := hoth i A hA (by omega)
    have y0 : Y = [] := by rw [← hY]; exact List.drop_eq_nil_of_le (by omega)
    subst y0
    have r0 : R = [] := List.eq_nil_of_length_eq_zero (by simpa using hR)
    subst r0
    rcases Nat.lt_or_ge ((its A).length + (its c0).length) mx with h1 | h1
    · exact reb_join hF hm hout hL hR hT hd sA sB hs (by omega) hmx h1 (by omega) hbig.1 hbig.2 _ (.inr ⟨by rw [hxl, hend], rfl⟩)
    · have := reb_right hF hm hout hL hT hd sA sB hs (by omega) hmx h1 (by omega) (by omega) (by omega) hbig.1 hbig.2
      rw [hxl, ← hend] at this
      exact this
end Go.Proofs.Ytbpnabhgnijbfaa
