/- spec: From, GAscend. -/
import Derived.Test.YtjggkpmlffhjgaaCk
namespace Go.Proofs.Ytjggkpmlffhjgaa
set_option linter.unusedSimpArgs false
set_option linter.unusedVariables false
open Go.RowKit

/-- What does not come before the pivot. -/
def uppL {α : Type} (lt : α → α → Bool) (x : α) (l : List α) : List α := l.dropWhile fun y => lt y x

theorem upp_drop {α : Type} {lt : α → α → Bool} {x : α} : ∀ {l : List α} {i : Nat}, (∀ j y, j < i → l[j]? = some y → lt y x = true) → (∀ y, l[i]? = some y → lt y x = false) → l.drop i = uppL lt x l
  | [], i, _, _ => by simp [uppL]
  | a :: t, 0, _, h2 => by
    have := h2 a rfl
    simp [uppL, List.dropWhile_cons, this]
  | a :: t, i + 1, h1, h2 => by
    have ha := h1 0 a (by omega) rfl
    have ih := upp_drop (lt := lt) (x := x) (l := t) (i := i) (fun j y hj hy => h1 (j + 1) y (by omega) (by simpa using hy)) (fun y hy => h2 y (by simpa using hy))
    simp only [List.drop_succ_cons, ih, uppL, List.dropWhile_cons, ha, if_true]

theorem SlE.drop {w : World} {b o n c : Nat} {xs : List (Int × Int)} (h : SlE itemE w (.slice (some ⟨b, o, none⟩) n c) xs) (i : Nat) (hi : i ≤ xs.length) : SlE itemE w (.slice (some ⟨b, o + i * 2, none⟩) (n - i) (c - i)) (xs.drop i) := by
  obtain ⟨a, cap, e, h2, h3⟩ := h
  injection e with e1 e2 e3
  subst e1
  subst e3
  have hl : (xs.drop i).length = n - i := by rw [List.length_drop, e2]
  refine ⟨some ⟨b, o + i * 2, none⟩, c - i, by rw [hl], by omega, ?_⟩
  rcases h3 with h3 | ⟨b', o', e4, h4⟩
  · subst h3; exact .inl (by simp)
  · obtain ⟨rfl, rfl⟩ : b = b' ∧ o = o' := by simpa using e4
    refine .inr ⟨b, o + i * 2, rfl, fun j u hj => ?_⟩
    have hd := flat_drop itemE.par xs i
    have hd' : (flat itemE.par xs).drop (i * 2) = flat itemE.par (xs.drop i) := hd
    rw [← hd', List.getElem?_drop] at hj
    have := h4 (i * 2 + j) u hj
    rw [Nat.add_assoc]; exact this


set_option maxRecDepth 100000 in
theorem From_any (sv : Value) (p : Option Addr) (cap : Nat) (l : List (Int × Int)) (x : Int × Int) (w : World) (hR : RankOk sv id w) (hs : ∃ a n c, sv = .slice a n c) (hl : ItemsAt w p l) (hcap : l.length ≤ cap) (hlen : l.length ≤ 2147483647) :
    Calls Try.prog 94 #[sv, .slice p l.length cap, .agg #[.int .i64 x.1, .int .i64 x.2]] w fun e w' => ∃ v', e = .returned v' ∧ SlE itemE w' v' (uppL (ltR id) x l) ∧ Chg (fun _ _ => False) w w' := by
  have HP := Lib.hid (fun w1 (c : Chg (fun _ _ => False) w w1) => place_any sv id p cap l x w1 (hR.chg c) (hl.chg c) (by omega))
  have HL := Lib.hid (hl.sl hcap)
  have HI := Lib.hid hl
  obtain ⟨sa, sn, sc, rfl⟩ := hs
  clear hR hl
  unfold itemV at HP
  go_enter Try.func94, Try.ntmps94
  go_wp2_with fail
  have hca : Chg (fun _ _ => False) w (w.alloc (.cells #[.int .i64 x.1, .int .i64 x.2] 53)) := (Chg.refl _ _).alloc _
  refine (HP.out _ hca).mono ?_
  rintro e w2 ⟨⟨i, b, rfl, hpl⟩, hc2⟩
  have hc := hca.trans hc2
  have hi := hpl.1
  have hu := upp_drop hpl.2.1 hpl.2.2.1
  have i0 : (0 : Int) ≤ (i : Int) := by omega
  have i1 : (i : Int) ≤ (l.length : Int) := by omega
  have i2 : (l.length : Int) ≤ (cap : Int) := by omega
  clear hpl
  rcases HI.out with hl0 | ⟨pb, po, rfl, _⟩
  · subst hl0
    have hi0 : i = 0 := by simpa using hi
    subst hi0
    have FIN : ∀ a' c', Hid (SlE itemE w2 (.slice a' 0 c') (uppL (ltR id) x [])) := fun a' c' => Lib.hid ⟨a', c', rfl, Nat.zero_le _, .inl rfl⟩
    clear hu HL
    rcases p with _ | ⟨pb, po, pf⟩
    · go_wp2_with fail
      go_ret
      exact ⟨_, rfl, (FIN _ _).out, hc⟩
    · by_cases hci : cap = 0
      · subst hci
        go_wp2_with fail
        go_ret
        exact ⟨_, rfl, (FIN _ _).out, hc⟩
      · go_wp2_with fail
        go_ret
        exact ⟨_, rfl, (FIN _ _).out, hc⟩
  · by_cases hci : cap = i
    · have hil : i = l.length := by omega
      have hn : uppL (ltR id) x l = [] := by rw [← hu, hil, List.drop_length]
      have e0 : l.length - i = 0 := by omega
      have FIN : ∀ a' c', Hid (SlE itemE w2 (.slice a' 0 c') (uppL (ltR id) x l)) := fun a' c' => Lib.hid (by rw [hn]; exact ⟨a', c', rfl, Nat.zero_le _, .inl rfl⟩)
      subst hci
      clear hu HL hn
      go_wp2_with fail
      go_ret
      exact ⟨_, rfl, (FIN _ _).out, hc⟩
    · have hci2 : ¬ i = cap := fun e => hci e.symm
      have hd := SlE.drop (HL.out.chg hc) i hi
      rw [hu] at hd
      have HD := Lib.hid hd
      clear hd hu
      go_wp2_with fail
      go_ret
      exact ⟨_, rfl, HD.out, hc⟩
end Go.Proofs.Ytjggkpmlffhjgaa
