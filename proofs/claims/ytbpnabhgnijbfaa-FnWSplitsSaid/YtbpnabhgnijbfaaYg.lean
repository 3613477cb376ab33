/- The law FnWSplits. -/
import Derived.BigQuiet
import Derived.Test.YtbpnabhgnijbfaaA9
import Derived.Test.YtbpnabhgnijbfaaA11
import Derived.Test.YtbpnabhgnijbfaaCc
import Derived.Test.YtbpnabhgnijbfaaCl
import Derived.Test.YtbpnabhgnijbfaaYf
namespace Go.Proofs.Ytbpnabhgnijbfaa
set_option linter.unusedSimpArgs false
set_option linter.unusedVariables false
open Go.RowKit

theorem parts_of (L : List (ByteArray × Int)) (key : ByteArray) (hs : Srt ltM L) :
    ((∀ y B, upp ltM (key, 0) L = y :: B → (y.1.toList == key.toList) = false) ∧ dwn ltM (key, 0) L ++ upp ltM (key, 0) L = L) ∨ ∃ y A B, (y.1.toList == key.toList) = true ∧ L = A ++ y :: B ∧ dwn ltM (key, 0) L = A ++ [y] ∧ upp ltM (key, 0) L = y :: B := by
  rcases pos_or_hit swoM (x := (key, 0)) hs with ⟨i, hp⟩ | ⟨i, y, hy⟩
  · refine .inl ⟨fun y B h => ?_, ?_⟩
    · rw [upp_leaf_pos hp] at h
      have hy : L[i]? = some y := by
        have := congrArg (fun l : List (ByteArray × Int) => l[0]?) h
        simpa using this
      have hr := hp.right i y (Nat.le_refl _) hy
      cases hq : y.1.toList == key.toList with
      | false => rfl
      | true =>
        exfalso
        have e : y.1.toList = key.toList := by simpa using hq
        have hr2 : Op.bytesLess key.toList y.1.toList = true := hr
        rw [e] at hr2
        have := swoS.irrefl key
        unfold sLt at this
        rw [hr2] at this; cases this
    · rw [dwn_leaf_pos hp, upp_leaf_pos hp, List.take_append_drop]
  · have e := split_at hy.at_
    refine .inr ⟨y, L.take i, L.drop (i + 1), ?_, e, ?_, ?_⟩
    · have := bl_eq _ _ hy.n1 hy.n2
      simpa using this
    · rw [dwn_leaf_hit hs hy, List.take_add_one, hy.at_]; rfl
    · rw [upp_leaf_hit hs hy, drop_cons hy.at_]

theorem firstN0 {α : Type} (l : List α) : firstN 0 l = l := by simp [firstN]

theorem SlE.tail {w : World} {b o n c : Nat} {y : ByteArray × Int} {B : List (ByteArray × Int)} (h : SlE wordE w (.slice (some ⟨b, o, none⟩) n c) (y :: B)) : SlE wordE w (.slice (some ⟨b, o + 2, none⟩) (n - 1) (c - 1)) B := by
  obtain ⟨a, cap, e, h2, h3⟩ := h
  injection e with e1 e2 e3
  subst e1
  subst e3
  rw [List.length_cons] at h2 e2
  refine ⟨some ⟨b, o + 2, none⟩, c - 1, by rw [e2, Nat.add_sub_cancel], by omega, .inr ⟨b, o + 2, rfl, fun j u hj => ?_⟩⟩
  rcases h3 with h3 | ⟨b', o', e4, h4⟩
  · cases h3
  · obtain ⟨rfl, rfl⟩ : b = b' ∧ o = o' := by simpa using e4
    have hd := flat_drop wordE.par (y :: B) 1
    have hd' : (flat wordE.par (y :: B)).drop 2 = flat wordE.par B := hd
    rw [← hd', List.getElem?_drop] at hj
    have := h4 (2 + j) u hj
    rw [Nat.add_assoc]; exact this

theorem SlE.tail0 {w : World} {b o n : Nat} {y : ByteArray × Int} {B : List (ByteArray × Int)} (h : SlE wordE w (.slice (some ⟨b, o, none⟩) n 1) (y :: B)) : SlE wordE w (.slice (some ⟨b, o, none⟩) (n - 1) 0) B := by
  obtain ⟨a, cap, e, h2, h3⟩ := h
  injection e with e1 e2 e3
  subst e3
  rw [List.length_cons] at h2 e2
  have hb : B.length = 0 := by omega
  refine ⟨some ⟨b, o, none⟩, 0, by rw [e2, Nat.add_sub_cancel], by omega, .inl (List.eq_nil_of_length_eq_zero hb)⟩

theorem alive3 : (growL (exW.take 3)).length = 3 := by
  simp [growL, exW, insL, ltM, sLt, bytes_toList, Op.bytesLess]

theorem exWords_row (w : World) : Calls Try.prog 8 #[] w fun e w' => e = .returned (.slice (some ⟨w.heap.size, 0, none⟩) 4 4) ∧ SlE wordE w' (.slice (some ⟨w.heap.size, 0, none⟩) 3 4) (exW.take 3) ∧ Chg (fun _ _ => False) w w' := by
  have hown : SlE wordE (w.alloc (.cells #[.string ⟨#[98]⟩, .int .i64 1, .string ⟨#[]⟩, .int .i64 2, .string ⟨#[97, 98]⟩, .int .i64 3, .string ⟨#[98]⟩, .int .i64 4] 35)) (.slice (some ⟨w.heap.size, 0, none⟩) 3 4) (exW.take 3) := by
    refine ⟨_, _, rfl, by decide, .inr ⟨w.heap.size, 0, rfl, fun j u hj => ?_⟩⟩
    rw [cell_of_block (ha_at _ _ rfl)]
    have e : flat wordE.par (exW.take 3) = [.string ⟨#[98]⟩, .int .i64 1, .string ⟨#[]⟩, .int .i64 2, .string ⟨#[97, 98]⟩, .int .i64 3] := rfl
    rw [e] at hj
    rw [Nat.zero_add]
    have hlt := (List.getElem?_eq_some_iff.1 hj).1
    simp only [List.length_cons, List.length_nil] at hlt
    have e2 : ([.string ⟨#[98]⟩, .int .i64 1, .string ⟨#[]⟩, .int .i64 2, .string ⟨#[97, 98]⟩, .int .i64 3, .string ⟨#[98]⟩, .int .i64 4] : List Value)[j]? = some u := by
      rw [show ([.string ⟨#[98]⟩, .int .i64 1, .string ⟨#[]⟩, .int .i64 2, .string ⟨#[97, 98]⟩, .int .i64 3, .string ⟨#[98]⟩, .int .i64 4] : List Value) = [.string ⟨#[98]⟩, .int .i64 1, .string ⟨#[]⟩, .int .i64 2, .string ⟨#[97, 98]⟩, .int .i64 3] ++ [.string ⟨#[98]⟩, .int .i64 4] from rfl, List.getElem?_append_left (by simpa using hlt)]
      exact hj
    simpa using e2
  have HO := Lib.hid hown
  clear hown
  go_enter Try.func8, Try.ntmps8
  go_wp2
  go_ret
  exact ⟨rfl, HO.out, (Chg.refl _ _).alloc _⟩

theorem aliveW_any (w : World) : Calls Try.prog 14 #[] w fun e w' => e = .returned (.bool true) ∧ Chg (fun _ _ => False) w w' := by
  have HA := Lib.hid alive3
  go_enter Try.func14, Try.ntmps14
  go_wp2_with fail
  refine (exWords_row _).mono ?_
  rintro e w1 ⟨rfl, h1, hc1⟩
  have HK := Lib.hid (WKeys_any 2 _ (exW.take 3) w1 (by decide) (by decide) h1 (by decide))
  unfold OwnPost at HK
  clear h1
  generalize hb : w.heap.size = b at HK ⊢
  clear hb
  generalize growL (exW.take 3) = G at HA HK
  go_wp2_with fail
  refine HK.out.mono ?_
  rintro e w2 ⟨v, rfl, how, hc2⟩
  obtain ⟨a, c, rfl⟩ := how.sl.form
  have hq : ((G.length : Int) == 3) = true := by rw [HA.out]; rfl
  clear how
  go_wp2_with fail
  go_ret
  exact ⟨rfl, hc1.trans hc2⟩
end Go.Proofs.Ytbpnabhgnijbfaa
