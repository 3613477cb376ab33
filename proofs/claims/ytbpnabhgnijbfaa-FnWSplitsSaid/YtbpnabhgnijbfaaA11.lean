/- spec: spot; the list of a map, set by set. -/
import Derived.BigQuiet
import Derived.Lib.Strings
import Derived.Test.YtbpnabhgnijbfaaA9
import Derived.Test.YtbpnabhgnijbfaaA10
namespace Go.Proofs.Ytbpnabhgnijbfaa
set_option linter.unusedSimpArgs false
set_option linter.unusedVariables false
open Go.RowKit

/-- The place of a key in a list of words. -/
def sptL (key : ByteArray) : List (ByteArray × Int) → Nat
  | [] => 0
  | y :: l => if sLt y.1 key then sptL key l + 1 else 0

theorem spt_le (key : ByteArray) : ∀ l : List (ByteArray × Int), sptL key l ≤ l.length
  | [] => Nat.le_refl _
  | y :: l => by
    unfold sptL
    have := spt_le key l
    split
    · simp; exact this
    · exact Nat.zero_le _

theorem spt_lt {key : ByteArray} : ∀ {l : List (ByteArray × Int)} {j : Nat} {y : ByteArray × Int}, l[j]? = some y → j < sptL key l → sLt y.1 key = true
  | [], j, y, h, _ => by simp at h
  | z :: l, j, y, h, h2 => by
    unfold sptL at h2
    split at h2
    · rename_i hz
      cases j with
      | zero => obtain rfl : z = y := by simpa using h
                exact hz
      | succ j => exact spt_lt (l := l) (j := j) (by simpa using h) (by omega)
    · omega

theorem spt_stop {key : ByteArray} : ∀ {l : List (ByteArray × Int)} {y : ByteArray × Int}, l[sptL key l]? = some y → sLt y.1 key = false
  | [], y, h => by simp at h
  | z :: l, y, h => by
    unfold sptL at h
    split at h
    · exact spt_stop (l := l) (by simpa using h)
    · rename_i hz
      obtain rfl : z = y := by simpa using h
      simpa using hz

theorem bytes_toList (a : ByteArray) : a.toList = a.data.toList := Lib.toList_data a

theorem bytes_ext {a b : ByteArray} (h : a.toList = b.toList) : a = b := by
  rw [bytes_toList, bytes_toList] at h
  cases a; cases b
  congr 1
  exact Array.toList_inj.1 h

def spotQ (key : ByteArray) (l : List (ByteArray × Int)) : Bool := match l[sptL key l]? with
  | some y => y.1.toList == key.toList
  | none => false

def SpotPost (key : ByteArray) (l : List (ByteArray × Int)) (w : World) (e : Ending) (w' : World) : Prop :=
  e = .returned (.tuple #[.int .i64 (sptL key l : Nat), .bool (spotQ key l)]) ∧ Chg (fun _ _ => False) w w'

set_option maxRecDepth 100000 in
theorem spot_any (v : Value) (l : List (ByteArray × Int)) (key : ByteArray) (w : World) (h : SlE wordE w v l) (hlen : l.length ≤ 1000000000000) :
    Calls Try.prog 41 #[v, .string key] w (SpotPost key l w) := by
  obtain ⟨a, cap, rfl⟩ := h.form
  have HS := Lib.hid h
  clear h
  have hle := spt_le key l
  go_enter Try.func41, Try.ntmps41
  go_wp2
  go_loopw [6] (fun i wr => ∃ (j : Nat), j ≤ sptL key l ∧ i = .int .i64 j ∧ Chg (fun _ _ => False) w wr) (fun i _ => l.length - (intOf i).toNat)
  case atStart => exact ⟨0, Nat.zero_le _, rfl, Chg.refl _ _⟩
  case round =>
    obtain ⟨j, hj, rfl, hc⟩ := hrel
    by_cases hlt : j < l.length
    · obtain ⟨y, hy⟩ : ∃ y, l[j]? = some y := ⟨_, List.getElem?_eq_getElem hlt⟩
      obtain ⟨b, o, rfl, g0, g1⟩ := (HS.out.chg hc).word hy
      have i0 : (0 : Int) ≤ (j : Int) := by omega
      have i1 : (j : Int) < (l.length : Int) := by omega
      cases hx : Op.bytesLess y.1.toList key.toList
      · have hje : j = sptL key l := by
          rcases Nat.lt_or_ge j (sptL key l) with h | h
          · have := spt_lt hy h
            unfold sLt at this
            rw [hx] at this; cases this
          · omega
        have hq : spotQ key l = (y.1.toList == key.toList) := by unfold spotQ; rw [← hje, hy]
        have HQ := Lib.hid hq
        have HJ := Lib.hid hje
        clear hq hje hy
        go_wp2
        go_quiet (fail)
        go_wp2
        go_ret2
        exact ⟨by rw [HQ.out, ← HJ.out]; rfl, hc.drewN _⟩
      · have hj2 : j < sptL key l := by
          rcases Nat.lt_or_ge j (sptL key l) with h | h
          · exact h
          · have : j = sptL key l := by omega
            subst this
            have := spt_stop hy
            unfold sLt at this
            rw [hx] at this; cases this
        clear hy
        go_wp2
        go_roundw
        case rel => exact ⟨j + 1, by omega, by go_num, hc⟩
        case measure => simp [intOf]; omega
    · have hje : j = sptL key l := by omega
      have hq : spotQ key l = false := by unfold spotQ; rw [← hje, List.getElem?_eq_none (by omega)]
      have HQ := Lib.hid hq
      have HJ := Lib.hid hje
      have i2 : ¬ (j : Int) < (l.length : Int) := by omega
      clear hq hje
      go_wp2
      go_quiet (fail)
      go_wp2
      go_ret2
      exact ⟨by rw [HQ.out, ← HJ.out]; rfl, hc.drewN _⟩

/-- What a set leaves of a sorted list. -/
theorem ins_spot {l : List (ByteArray × Int)} (hs : Srt ltM l) (x : ByteArray × Int) : insL ltM x l = l.take (sptL x.1 l) ++ x :: l.drop (if spotQ x.1 l then sptL x.1 l + 1 else sptL x.1 l) := by
  have hP : ∀ a ∈ l.take (sptL x.1 l), ltM a x = true := fun a ha => by
    obtain ⟨j, hj, h⟩ := mem_take_get ha
    exact spt_lt h hj
  have hcut := (List.take_append_drop (sptL x.1 l) l).symm
  cases hy : l[sptL x.1 l]? with
  | none =>
    have hq : spotQ x.1 l = false := by unfold spotQ; rw [hy]
    have hle := spt_le x.1 l
    have hge : l.length ≤ sptL x.1 l := by
      rcases Nat.lt_or_ge (sptL x.1 l) l.length with h | h
      · rw [List.getElem?_eq_getElem h] at hy; cases hy
      · exact h
    rw [hq]
    conv => lhs; rw [hcut]
    exact insL_gap swoM hP (by rw [List.drop_of_length_le hge]; intro c hc; cases hc)
  | some y =>
    have h1 : ltM y x = false := spt_stop hy
    have hlt := (List.getElem?_eq_some_iff.1 hy).1
    have hd : l.drop (sptL x.1 l) = y :: l.drop (sptL x.1 l + 1) := by
      rw [List.drop_eq_getElem_cons hlt, (List.getElem?_eq_some_iff.1 hy).2]
    by_cases hq : spotQ x.1 l = true
    · have he : y.1.toList = x.1.toList := by
        unfold spotQ at hq
        rw [hy] at hq
        simpa using hq
      have h2 : ltM x y = false := by
        unfold ltM sLt at h1 ⊢
        rw [he] at h1 ⊢; exact h1
      rw [if_pos hq]
      conv => lhs; rw [hcut, hd]
      exact insL_hit hP h1 h2
    · have hq' : spotQ x.1 l = false := by simpa using hq
      have h2 : ltM x y = true := by
        cases h : ltM x y with
        | true => rfl
        | false =>
          exfalso
          have := bl_eq _ _ h1 h
          apply hq
          unfold spotQ
          rw [hy]
          simpa using this
      rw [if_neg hq]
      conv => lhs; rw [hcut]
      refine insL_gap swoM hP ?_
      rw [hd]
      intro c hc
      rcases List.mem_cons.1 hc with rfl | hc
      · exact h2
      · have : Srt ltM (y :: l.drop (sptL x.1 l + 1)) := by rw [← hd]; exact hs.sublist (List.drop_sublist _ _)
        exact swoM.trans h2 (List.rel_of_pairwise_cons this hc)

theorem grow_srt (l : List (ByteArray × Int)) : Srt ltM (growL l) := by
  have : ∀ (l acc : List (ByteArray × Int)), Srt ltM acc → Srt ltM (l.foldl (fun acc x => insL ltM x acc) acc) := by
    intro l
    induction l with
    | nil => intro acc h; exact h
    | cons x l ih => intro acc h; exact ih _ (insL_srt swoM x h)
  exact this l [] List.Pairwise.nil
end Go.Proofs.Ytbpnabhgnijbfaa
