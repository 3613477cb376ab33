/- spec: WSet, Words. -/
import Derived.BigQuiet
import Derived.Lib.Strings
import Derived.Deep.Cut
import Derived.Deep.CutRange
import Derived.StillTailTactics
import Derived.Test.YtbpnabhgnijbfaaA9
import Derived.Test.YtbpnabhgnijbfaaA10
namespace Go.Proofs.Ytbpnabhgnijbfaa
set_option linter.unusedSimpArgs false
set_option linter.unusedVariables false
open Go.RowKit

/-- The place of a key in a list of words. -/
def sptL (key : ByteArray) : List (ByteArray × Int) → Nat
  | [] => 0
  | y :: l => if sLt y.1 key then sptL key l + 1 else 0

theorem spt_le (key : ByteArray) : ∀ l : List (ByteArray × Int), sptL key l ≤ l.length
  | [] => Nat.le_refl _
  | y :: l => by
    unfold sptL
    have := spt_le key l
    split
    · simp; exact this
    · exact Nat.zero_le _

theorem spt_lt {key : ByteArray} : ∀ {l : List (ByteArray × Int)} {j : Nat} {y : ByteArray × Int}, l[j]? = some y → j < sptL key l → sLt y.1 key = true
  | [], j, y, h, _ => by simp at h
  | z :: l, j, y, h, h2 => by
    unfold sptL at h2
    split at h2
    · rename_i hz
      cases j with
      | zero => obtain rfl : z = y := by simpa using h
                exact hz
      | succ j => exact spt_lt (l := l) (j := j) (by simpa using h) (by omega)
    · omega

theorem spt_stop {key : ByteArray} : ∀ {l : List (ByteArray × Int)} {y : ByteArray × Int}, l[sptL key l]? = some y → sLt y.1 key = false
  | [], y, h => by simp at h
  | z :: l, y, h => by
    unfold sptL at h
    split at h
    · exact spt_stop (l := l) (by simpa using h)
    · rename_i hz
      obtain rfl : z = y := by simpa using h
      simpa using hz

theorem bytes_toList (a : ByteArray) : a.toList = a.data.toList := Lib.toList_data a

theorem bytes_ext {a b : ByteArray} (h : a.toList = b.toList) : a = b := by
  rw [bytes_toList, bytes_toList] at h
  cases a; cases b
  congr 1
  exact Array.toList_inj.1 h

def spotQ (key : ByteArray) (l : List (ByteArray × Int)) : Bool := match l[sptL key l]? with
  | some y => y.1.toList == key.toList
  | none => false

def SpotPost (key : ByteArray) (l : List (ByteArray × Int)) (w : World) (e : Ending) (w' : World) : Prop :=
  e = .returned (.tuple #[.int .i64 (sptL key l : Nat), .bool (spotQ key l)]) ∧ Chg (fun _ _ => False) w w'

set_option maxRecDepth 100000 in
theorem spot_any (v : Value) (l : List (ByteArray × Int)) (key : ByteArray) (w : World) (h : SlE wordE w v l) (hlen : l.length ≤ 1000000000000) :
    Calls Try.prog 41 #[v, .string key] w (SpotPost key l w) := by
  obtain ⟨a, cap, rfl⟩ := h.form
  have HS := Lib.hid h
  clear h
  have hle := spt_le key l
  go_enter Try.func41, Try.ntmps41
  go_wp2
  go_loopw [6] (fun i wr => ∃ (j : Nat), j ≤ sptL key l ∧ i = .int .i64 j ∧ Chg (fun _ _ => False) w wr) (fun i _ => l.length - (intOf i).toNat)
  case atStart => exact ⟨0, Nat.zero_le _, rfl, Chg.refl _ _⟩
  case round =>
    obtain ⟨j, hj, rfl, hc⟩ := hrel
    by_cases hlt : j < l.length
    · obtain ⟨y, hy⟩ : ∃ y, l[j]? = some y := ⟨_, List.getElem?_eq_getElem hlt⟩
      obtain ⟨b, o, rfl, g0, g1⟩ := (HS.out.chg hc).word hy
      have i0 : (0 : Int) ≤ (j : Int) := by omega
      have i1 : (j : Int) < (l.length : Int) := by omega
      cases hx : Op.bytesLess y.1.toList key.toList
      · have hje : j = sptL key l := by
          rcases Nat.lt_or_ge j (sptL key l) with h | h
          · have := spt_lt hy h
            unfold sLt at this
            rw [hx] at this; cases this
          · omega
        have hq : spotQ key l = (y.1.toList == key.toList) := by unfold spotQ; rw [← hje, hy]
        have HQ := Lib.hid hq
        have HJ := Lib.hid hje
        clear hq hje hy
        go_wp2
        go_quiet (fail)
        go_wp2
        go_ret2
        exact ⟨by rw [HQ.out, ← HJ.out]; rfl, hc.drewN _⟩
      · have hj2 : j < sptL key l := by
          rcases Nat.lt_or_ge j (sptL key l) with h | h
          · exact h
          · have : j = sptL key l := by omega
            subst this
            have := spt_stop hy
            unfold sLt at this
            rw [hx] at this; cases this
        clear hy
        go_wp2
        go_roundw
        case rel => exact ⟨j + 1, by omega, by go_num, hc⟩
        case measure => simp [intOf]; omega
    · have hje : j = sptL key l := by omega
      have hq : spotQ key l = false := by unfold spotQ; rw [← hje, List.getElem?_eq_none (by omega)]
      have HQ := Lib.hid hq
      have HJ := Lib.hid hje
      have i2 : ¬ (j : Int) < (l.length : Int) := by omega
      clear hq hje
      go_wp2
      go_quiet (fail)
      go_wp2
      go_ret2
      exact ⟨by rw [HQ.out, ← HJ.out]; rfl, hc.drewN _⟩

/-- What a set leaves of a sorted list. -/
theorem ins_spot {l : List (ByteArray × Int)} (hs : Srt ltM l) (x : ByteArray × Int) : insL ltM x l = l.take (sptL x.1 l) ++ x :: l.drop (if spotQ x.1 l then sptL x.1 l + 1 else sptL x.1 l) := by
  have hP : ∀ a ∈ l.take (sptL x.1 l), ltM a x = true := fun a ha => by
    obtain ⟨j, hj, h⟩ := mem_take_get ha
    exact spt_lt h hj
  have hcut := (List.take_append_drop (sptL x.1 l) l).symm
  cases hy : l[sptL x.1 l]? with
  | none =>
    have hq : spotQ x.1 l = false := by unfold spotQ; rw [hy]
    have hle := spt_le x.1 l
    have hge : l.length ≤ sptL x.1 l := by
      rcases Nat.lt_or_ge (sptL x.1 l) l.length with h | h
      · rw [List.getElem?_eq_getElem h] at hy; cases hy
      · exact h
    rw [hq]
    conv => lhs; rw [hcut]
    exact insL_gap swoM hP (by rw [List.drop_of_length_le hge]; intro c hc; cases hc)
  | some y =>
    have h1 : ltM y x = false := spt_stop hy
    have hlt := (List.getElem?_eq_some_iff.1 hy).1
    have hd : l.drop (sptL x.1 l) = y :: l.drop (sptL x.1 l + 1) := by
      rw [List.drop_eq_getElem_cons hlt, (List.getElem?_eq_some_iff.1 hy).2]
    by_cases hq : spotQ x.1 l = true
    · have he : y.1.toList = x.1.toList := by
        unfold spotQ at hq
        rw [hy] at hq
        simpa using hq
      have h2 : ltM x y = false := by
        unfold ltM sLt at h1 ⊢
        rw [he] at h1 ⊢; exact h1
      rw [if_pos hq]
      conv => lhs; rw [hcut, hd]
      exact insL_hit hP h1 h2
    · have hq' : spotQ x.1 l = false := by simpa using hq
      have h2 : ltM x y = true := by
        cases h : ltM x y with
        | true => rfl
        | false =>
          exfalso
          have := bl_eq _ _ h1 h
          apply hq
          unfold spotQ
          rw [hy]
          simpa using this
      rw [if_neg hq]
      conv => lhs; rw [hcut]
      refine insL_gap swoM hP ?_
      rw [hd]
      intro c hc
      rcases List.mem_cons.1 hc with rfl | hc
      · exact h2
      · have : Srt ltM (y :: l.drop (sptL x.1 l + 1)) := by rw [← hd]; exact hs.sublist (List.drop_sublist _ _)
        exact swoM.trans h2 (List.rel_of_pairwise_cons this hc)

theorem grow_srt (l : List (ByteArray × Int)) : Srt ltM (growL l) := by
  have : ∀ (l acc : List (ByteArray × Int)), Srt ltM acc → Srt ltM (l.foldl (fun acc x => insL ltM x acc) acc) := by
    intro l
    induction l with
    | nil => intro acc h; exact h
    | cons x l ih => intro acc h; exact ih _ (insL_srt swoM x h)
  exact this l [] List.Pairwise.nil
end Go.Proofs.Ytbpnabhgnijbfaa

namespace Go.Proofs.Ytbpnabhgnijbfaa
set_option linter.unusedSimpArgs false
set_option linter.unusedVariables false
open Go.RowKit


set_option maxRecDepth 100000 in
set_option maxHeartbeats 4000000 in
theorem WSet_any (v : Value) (l : List (ByteArray × Int)) (w : World) (hl : SlE wordE w v l) (hlen : l.length ≤ 2147483647) :
    Calls Try.prog 51 #[v] w fun e w' => ∃ a b u, e = .returned (.tuple #[a, b, u]) ∧ OwnE wordE w' u (growL l) w.heap.size ∧ Chg (fun _ _ => False) w w' := by
  obtain ⟨pp, cap, rfl⟩ := hl.form
  have HS := Lib.hid hl
  clear hl
  obtain ⟨i0, hi0, hz0, hz1, hz2⟩ := info_parts infoWord
  obtain ⟨k0, ki0, kz0, kz1, kz2⟩ := info_parts infoBool
  go_enter Try.func51, Try.ntmps51
  go_wp2
  go_loopw [5, 6, 7, 16] (fun v5 v6 v7 iv wr => ∃ (j : Nat) (A : List (ByteArray × Int)) (B : List Bool), j ≤ l.length ∧ iv = .int .i64 j ∧ OwnE wordE wr v5 A w.heap.size ∧ A.length = j ∧ OwnE wordE wr v6 (growL (l.take j)) w.heap.size ∧ OwnE boolE wr v7 B w.heap.size ∧ B.length = j ∧ Apart v5 v6 ∧ Apart v7 v6 ∧ Apart v5 v7 ∧ Chg (fun _ _ => False) w wr) (fun _ _ _ iv _ => l.length - (intOf iv).toNat)
  case atStart => exact ⟨0, [], [], Nat.zero_le _, rfl, OwnE.nil _ _ _, rfl, OwnE.nil _ _ _, OwnE.nil _ _ _, rfl, (fun b hb => by cases hb), (fun b hb => by cases hb), (fun b hb => by cases hb), Chg.refl _ _⟩
  case round =>
    obtain ⟨j, A, B, hj, rfl, hA, hAl, hI, hB, hBl, a56, a76, a57, hc⟩ := hrel
    by_cases hlt : j < l.length
    · obtain ⟨x, hx⟩ : ∃ x, l[j]? = some x := ⟨_, List.getElem?_eq_getElem hlt⟩
      obtain ⟨b, o, rfl, g0, g1⟩ := (HS.out.chg hc).word hx
      have hgt := growL_take hx
      have hgl := growL_take_len l j
      have hsr := grow_srt (l.take j)
      obtain ⟨L, hL⟩ : ∃ L, growL (l.take j) = L := ⟨_, rfl⟩
      rw [hL] at hI hgt hgl hsr
      have hins := ins_spot hsr x
      have hile := spt_le x.1 L
      have hqs : spotQ x.1 L = true → ∃ y, L[sptL x.1 L]? = some y := fun h => by
        unfold spotQ at h
        cases hy : L[sptL x.1 L]? with
        | some y => exact ⟨y, rfl⟩
        | none => rw [hy] at h; cases h
      have hsp := fun w1 (c : Chg (fun _ _ => False) wr w1) => spot_any u6 L x.1 w1 (hI.sl.chg c) (by omega)
      unfold SpotPost at hsp
      obtain ⟨i, hi⟩ : ∃ i, sptL x.1 L = i := ⟨_, rfl⟩
      obtain ⟨q, hq⟩ : ∃ q, spotQ x.1 L = q := ⟨_, rfl⟩
      rw [hi] at hins hile hqs
      rw [hq] at hins hqs
      simp only [hi, hq] at hsp
      have HSP := Lib.hid hsp
      have HGT := Lib.hid hgt
      have HINS := Lib.hid hins
      have HA := Lib.hid hA
      have HB := Lib.hid hB
      have HAP57 := Lib.hid a57
      have HC := Lib.hid hc
      have HAL := Lib.hid hAl
      have HBL := Lib.hid hBl
      have hLl : L.length ≤ 2147483647 := by omega
      clear hx hsp hgt hins hA hB a56 a76 a57 hc hAl hBl hi hq hsr hL hgl
      have j0 : (0 : Int) ≤ (j : Int) := by omega
      have j1 : (j : Int) < (l.length : Int) := by omega
      go_wp2_with fail
      refine name_calls (fun w1 => Chg (fun _ _ => False) wr w1 ∧ w1.heap[wr.heap.size]? = some (.cells #[.string x.1, .int .i64 x.2] 35 (0, 0))) ⟨(Chg.refl _ _).alloc _, ha_at _ _ rfl⟩ ?_
      rintro w1 ⟨hc01, hb1⟩
      refine (HSP.out w1 hc01).mono ?_
      rintro e w2 ⟨rfl, hc2⟩
      have HB1 := Lib.hid hb1
      have hb2 : w2.heap[wr.heap.size]? = some (.cells #[.string x.1, .int .i64 x.2] 35 (0, 0)) := by rw [hc2.block (heap_lt hb1) (fun _ h => h)]; exact hb1
      have p9 := cell_of_block hb2 0
      simp only [List.getElem?_toArray, List.getElem?_cons_zero] at p9
      clear hb1 hb2
      go_upto_region 8 with fail
      refine name_world (fun w3 => Chg (fun _ _ => False) w2 w3 ∧ w3.heap[w2.heap.size]? = some (.cells #[.string x.1, .int .i64 0] 35 (0, 0))) ⟨(Chg.refl _ _).alloc _, ha_at _ _ rfl⟩ ?_
      rintro w3 ⟨hc3, q12⟩
      have HQ12 := Lib.hid q12
      have hq12 := heap_lt q12
      have hcw3 : Chg (fun _ _ => False) wr w3 := (hc01.trans hc2).trans hc3
      have hs2w := (hc01.trans hc2).size
      clear q12
      clear p9
      rcases hI with ⟨hL0, rfl⟩ | ⟨b', o', ccap, rfl, hcap, hbb, hrow⟩
      · have HL0 := Lib.hid hL0
        obtain rfl : i = 0 := by rw [hL0] at hile; simpa using hile
        obtain rfl : q = false := by
          cases q with
          | false => rfl
          | true => obtain ⟨y, hy⟩ := hqs rfl; rw [hL0] at hy; simp at hy
        clear hqs hL0
        go_wp2_with (refine wpList_append_P wordE (by rfl) _ _ _ (by rfl) i0 _ 24 Try.underlying22 hi0 hz0 hz1 hz2 rfl w3.heap.size 0 0 0 (by rfl) [] rfl (Nat.le_refl _) ?_ none 0 _ (by rfl) (L.take 0) rfl (.inr rfl) ?_ ?_ ?_)
        · exact RowAt.of_block (c := #[]) (ha_at _ _ rfl) _ _ (by simp [flat]) (by simp) (by simp [flat])
        · unfold maxLen; omega
        · omega
        intro b4 o4 cap4 w4 hap4
        obtain ⟨r4, room4, hc4, pl4⟩ := hap4
        replace r4 : RowAt w4 wordE.T b4 o4 (cap4 * wordE.es) (flat wordE.par (L.take (0))) := by first | exact r4 | simpa using r4
        replace room4 : 0 ≤ cap4 := by omega
        have hb4 : w3.heap.size ≤ b4 := by
          rcases pl4 with h | h
          · omega
          · simp at h; omega
        have hca3 := (Chg.refl (fun _ _ => False) w3).alloc (.cells #[] 35)
        have hc34 : Chg (fun _ _ => False) w3 w4 := hca3.trans' hc4 (fun _ _ _ h => h) (fun b o hb h => by omega)
        have q9 : w4.heap[wr.heap.size]? = some (.cells #[.string x.1, .int .i64 x.2] 35 (0, 0)) := by rw [hc34.block (by have := hc3.size; omega) (fun _ h => h), (hc2.trans hc3).block (heap_lt HB1.out) (fun _ h => h)]; exact HB1.out
        have p0 := cell_of_block q9 0
        have p1 := cell_of_block q9 1
        simp only [List.getElem?_toArray, List.getElem?_cons_zero, List.getElem?_cons_succ] at p0 p1
        replace HQ12 := Lib.hid (show w4.heap[w2.heap.size]? = some (.cells #[.string x.1, .int .i64 0] 35 (0, 0)) by rw [hc34.block hq12 (fun _ h => h)]; exact HQ12.out)
        have hcw4 := hcw3.trans hc34
        clear hc4 pl4 q9 hc34 hca3
        go_wp2_with (refine wpList_append_P wordE (by rfl) _ _ _ (by rfl) i0 _ 24 Try.underlying22 hi0 hz0 hz1 hz2 rfl b4 o4 (0) cap4 (by rfl) (L.take (0)) (by rw [List.length_take]; omega) room4 (r4.alloc _) (some ⟨w4.heap.size, 0, none⟩) 1 _ (by rfl) [x] (by rfl) (.inl ⟨_, rfl, El.src1 wordE (c := #[.string x.1, .int .i64 x.2]) (ha_at _ _ (by simp)) _ rfl⟩) ?_ ?_ ?_)
        · unfold maxLen; omega
        · omega
        intro b5 o5 cap5 w5 hap5
        obtain ⟨r5, room5, hc5, pl5⟩ := hap5
        replace r5 : RowAt w5 wordE.T b5 o5 (cap5 * wordE.es) (flat wordE.par (L.take (0) ++ [x])) := by first | exact r5 | simpa using r5
        replace room5 : 0 + 1 ≤ cap5 := by omega
        have hs34 : w3.heap.size ≤ w4.heap.size := by have := r4.lt; have := hcw3.size; omega
        have hb5 : w3.heap.size ≤ b5 := by
          rcases pl5 with h | h
          · omega
          · simp at h; omega
        have hca4 := (Chg.refl (fun _ _ => False) w4).alloc (.cells #[.string x.1, .int .i64 x.2] 35)
        have hc45 := hca4.trans' hc5 (B := fun b _ => b = b4) (fun _ _ _ h => h.elim) (fun _ _ _ h => h)
        have hcw5 : Chg (fun _ _ => False) wr w5 := hcw4.trans' hc45 (fun _ _ _ h => h) (fun b o hb h => by have := hcw3.size; omega)
        have q12 : w5.heap[w2.heap.size]? = some (.cells #[.string x.1, .int .i64 0] 35 (0, 0)) := by rw [hc45.block (heap_lt HQ12.out) (fun _ h => by omega)]; exact HQ12.out
        have HPL5 := Lib.hid (show wr.heap.size < b5 ∧ w2.heap.size < b5 by omega)
        clear r4 room4 hc5 pl5 hca4 hc45 hb4 hb5 hcw4 p0 p1 HQ12
        have HQ12 := Lib.hid q12
        have HCW := Lib.hid hcw5
        clear q12 hcw5
        go_wp2_with (refine wpList_append_P wordE (by rfl) _ _ _ (by rfl) i0 _ 24 Try.underlying22 hi0 hz0 hz1 hz2 rfl b5 o5 (0 + 1) cap5 (by rfl) (L.take 0 ++ [x]) (by simp) room5 r5 none 0 _ (by rfl) [] rfl (.inr rfl) ?_ ?_ ?_)
        · unfold maxLen; omega
        · omega
        intro b6 o6 cap6 w6 hap6
        obtain ⟨r6, room6, hc6, pl6⟩ := hap6
        clear r5 room5
        have hcw6 : Chg (fun _ _ => False) wr w6 := HCW.out.trans' hc6 (fun _ _ _ h => h) (fun b o hb h => by have h1 := HPL5.out.1; omega)
        have hpl6 : wr.heap.size ≤ b6 := by have h1 := HPL5.out.1; have h2 := HCW.out.size; omega
        have q12 : w6.heap[w2.heap.size]? = some (.cells #[.string x.1, .int .i64 0] 35 (0, 0)) := by rw [hc6.block (heap_lt HQ12.out) (fun _ h => by have h1 := HPL5.out.2; omega)]; exact HQ12.out
        have p0 := cell_of_block q12 0
        have p1 := cell_of_block q12 1
        simp only [List.getElem?_toArray, List.getElem?_cons_zero, List.getElem?_cons_succ] at p0 p1
        have hgn : growL (l.take (j + 1)) = L.take 0 ++ [x] ++ [] := by
          rw [HGT.out, HINS.out]; rw [HL0.out]; simp
        have hown6 : OwnE wordE w6 (.slice (some ⟨b6, o6, none⟩) (0 + 1 + 0) cap6) (growL (l.take (j + 1))) w.heap.size := by
          refine .inr ⟨b6, o6, cap6, ?_, ?_, Nat.le_trans HC.out.size hpl6, by rw [hgn]; first | exact r6 | simpa using r6⟩
          · rw [hgn]; first | rfl | (congr 1; simp <;> omega)
          · rw [hgn]; refine Nat.le_trans (Nat.le_of_eq ?_) room6; simp <;> omega
        have HOW6 := Lib.hid hown6
        have HPL6 := Lib.hid hpl6
        have HC6 := Lib.hid hcw6
        have hca6 := (Chg.refl (fun _ _ => False) w6).alloc (.cells #[.string x.1, .int .i64 0] 35)
        have HOA := Lib.hid ((HA.out.keep hcw6).keep hca6)
        have hsw6 := hcw6.size
        have hswr := HC.out.size
        clear hcw6 hpl6 hgn hown6 r6 room6 hc6 q12
        go_wp2_with (refine wpList_append_E2 wordE (by rfl) _ _ _ (by rfl) i0 _ 24 Try.underlying22 hi0 hz0 hz1 hz2 rfl _ (by rfl) A w.heap.size HOA.out (Nat.le_trans hswr (Nat.le_trans hsw6 hca6.size)) ⟨w6.heap.size, 0, none⟩ 1 _ (by rfl) [(x.1, 0)] rfl (by decide) ?_ ?_ ?_ ?_)
        · exact El.src1 wordE (c := #[.string x.1, .int .i64 0]) (ha_at _ _ (by simp)) _ rfl
        · have := HAL.out; unfold maxLen; omega
        · have := HAL.out; omega
        intro v7 w7 h1 h2 h3
        have hc67 := hca6.trans' h2 (B := fun b _ => u5.ownBlock = some b) (fun _ _ _ h => h.elim) (fun _ _ _ h => h)
        have hs67 := hc67.size
        have hca7 := (Chg.refl (fun _ _ => False) w7).alloc (.cells #[.bool false] 4)
        have hob7 : OwnE boolE (w7.alloc (.cells #[.bool false] 4)) u7 B w.heap.size := ((HB.out.keep HC6.out).chgOwn hc67 (fun b _ hb e => HAP57.out b e hb)).keep hca7
        have HOB := Lib.hid hob7
        have hA7 : ∀ b, v7.ownBlock = some b → (u5.ownBlock = some b ∨ w6.heap.size ≤ b) := fun b hb => by
          rcases h3 with h | ⟨nb, h, hn⟩
          · exact .inl (h ▸ hb)
          · rw [h] at hb
            have e : nb = b := Option.some.inj hb
            exact .inr (by have := hca6.size; omega)
        have HV7 := Lib.hid hA7
        have H71 := Lib.hid h1
        have H72 := Lib.hid hc67
        clear h1 h2 h3 hob7 hc67 hA7 p0 p1
        go_wp2_with (refine wpList_append_E2 boolE (by rfl) _ _ _ (by rfl) k0 _ 1 Try.underlying42 ki0 kz0 kz1 kz2 rfl _ (by rfl) B w.heap.size HOB.out (Nat.le_trans hswr (Nat.le_trans hsw6 (Nat.le_trans hs67 hca7.size))) ⟨w7.heap.size, 0, none⟩ 1 _ (by rfl) [false] rfl (by decide) ?_ ?_ ?_ ?_)
        · exact El.src1 boolE (c := #[.bool false]) (ha_at _ _ (by simp)) _ rfl
        · have := HBL.out; unfold maxLen; omega
        · have := HBL.out; omega
        intro v8 w8 h1 h2 h3
        have hc78 := hca7.trans' h2 (B := fun b _ => u7.ownBlock = some b) (fun _ _ _ h => h.elim) (fun _ _ _ h => h)
        have f5 : ∀ b, u5.ownBlock = some b → b < wr.heap.size := fun b hb => (HA.out.own_lt hb).2
        have f7 : ∀ b, u7.ownBlock = some b → b < wr.heap.size := fun b hb => (HB.out.own_lt hb).2
        have f8 : ∀ b, v8.ownBlock = some b → (u7.ownBlock = some b ∨ w7.heap.size ≤ b) := fun b hb => by
          rcases h3 with h | ⟨nb, h, hn⟩
          · exact .inl (h ▸ hb)
          · rw [h] at hb
            have e : nb = b := Option.some.inj hb
            exact .inr (by have := hca7.size; omega)
        have g5 : OwnE wordE w8 v7 (A ++ [(x.1, 0)]) w.heap.size := H71.out.chgOwn hc78 (fun b _ hb e => by
          rcases HV7.out b hb with h | h
          · exact HAP57.out b h e
          · have := f7 b e; omega)
        have g6 := (HOW6.out.chgOwn H72.out (fun b _ hb e => by
          have e1 : b6 = b := Option.some.inj hb
          have := f5 b e
          have := HPL6.out
          omega)).chgOwn hc78 (fun b _ hb e => by
          have e1 : b6 = b := Option.some.inj hb
          have := f7 b e
          have := HPL6.out
          omega)
        have hp6 : b6 < w6.heap.size := (HOW6.out.own_lt rfl).2
        have a56 : Apart v7 (.slice (some ⟨b6, o6, none⟩) (0 + 1 + 0) cap6) := fun b hb hb2 => by
          have e1 : b6 = b := Option.some.inj hb2
          have := HPL6.out
          rcases HV7.out b hb with h | h
          · have := f5 b h; omega
          · omega
        have a76 : Apart v8 (.slice (some ⟨b6, o6, none⟩) (0 + 1 + 0) cap6) := fun b hb hb2 => by
          have e1 : b6 = b := Option.some.inj hb2
          have := HPL6.out
          rcases f8 b hb with h | h
          · have := f7 b h; omega
          · omega
        have a57 : Apart v7 v8 := fun b hb hb2 => by
          have hlt7 := (H71.out.own_lt hb).2
          rcases HV7.out b hb with h | h
          · rcases f8 b hb2 with h2 | h2
            · exact HAP57.out b h h2
            · have := f5 b h; omega
          · rcases f8 b hb2 with h2 | h2
            · have := f7 b h2; omega
            · omega
        have hcf : Chg (fun _ _ => False) w w8 := ((HC.out.trans HC6.out).trans' H72.out (fun _ _ _ h => h) (fun b o hb e => by have := (HA.out.own_lt e).1; omega)).trans' hc78 (fun _ _ _ h => h) (fun b o hb e => by have := (HB.out.own_lt e).1; omega)
        have HREL := Lib.hid (And.intro g5 (And.intro g6 (And.intro h1 (And.intro a56 (And.intro a76 (And.intro a57 hcf))))))
        clear h1 h2 h3 g5 g6 a56 a76 a57 hcf hc78 f5 f7 f8
        go_wp2
        go_roundw
        case rel => exact ⟨j + 1, _, _, by omega, by go_num, HREL.out.1, by have := HAL.out; simp; omega, HREL.out.2.1, HREL.out.2.2.1, by have := HBL.out; simp; omega, HREL.out.2.2.2.1, HREL.out.2.2.2.2.1, HREL.out.2.2.2.2.2.1, HREL.out.2.2.2.2.2.2⟩
        case measure => simp [intOf]; omega
      · have j2 : (0 : Int) ≤ (i : Int) := by omega
        have j3 : (i : Int) ≤ (ccap : Int) := by omega
        have j4 : i ≤ ccap := by omega
        have HROW := Lib.hid hrow
        clear hrow
        go_wp2_with (refine wpList_append_P wordE (by rfl) _ _ _ (by rfl) i0 _ 24 Try.underlying22 hi0 hz0 hz1 hz2 rfl w3.heap.size 0 0 0 (by rfl) [] rfl (Nat.le_refl _) ?_ (some ⟨b', o', none⟩) i _ (by rfl) (L.take i) (by rw [List.length_take]; omega) (.inl ⟨_, rfl, ((HROW.out.chg hcw3 (fun _ _ h => h)).alloc _).srcTake i⟩) ?_ ?_ ?_)
        · exact RowAt.of_block (c := #[]) (ha_at _ _ rfl) _ _ (by simp [flat]) (by simp) (by simp [flat])
        · unfold maxLen; omega
        · omega
        intro b4 o4 cap4 w4 hap4
        obtain ⟨r4, room4, hc4, pl4⟩ := hap4
        replace r4 : RowAt w4 wordE.T b4 o4 (cap4 * wordE.es) (flat wordE.par (L.take (i))) := by first | exact r4 | simpa using r4
        replace room4 : i ≤ cap4 := by omega
        have hb4 : w3.heap.size ≤ b4 := by
          rcases pl4 with h | h
          · omega
          · simp at h; omega
        have hca3 := (Chg.refl (fun _ _ => False) w3).alloc (.cells #[] 35)
        have hc34 : Chg (fun _ _ => False) w3 w4 := hca3.trans' hc4 (fun _ _ _ h => h) (fun b o hb h => by omega)
        have q9 : w4.heap[wr.heap.size]? = some (.cells #[.string x.1, .int .i64 x.2] 35 (0, 0)) := by rw [hc34.block (by have := hc3.size; omega) (fun _ h => h), (hc2.trans hc3).block (heap_lt HB1.out) (fun _ h => h)]; exact HB1.out
        have p0 := cell_of_block q9 0
        have p1 := cell_of_block q9 1
        simp only [List.getElem?_toArray, List.getElem?_cons_zero, List.getElem?_cons_succ] at p0 p1
        replace HQ12 := Lib.hid (show w4.heap[w2.heap.size]? = some (.cells #[.string x.1, .int .i64 0] 35 (0, 0)) by rw [hc34.block hq12 (fun _ h => h)]; exact HQ12.out)
        have hcw4 := hcw3.trans hc34
        clear hc4 pl4 q9 hc34 hca3
        go_wp2_with (refine wpList_append_P wordE (by rfl) _ _ _ (by rfl) i0 _ 24 Try.underlying22 hi0 hz0 hz1 hz2 rfl b4 o4 (i) cap4 (by rfl) (L.take (i)) (by rw [List.length_take]; omega) room4 (r4.alloc _) (some ⟨w4.heap.size, 0, none⟩) 1 _ (by rfl) [x] (by rfl) (.inl ⟨_, rfl, El.src1 wordE (c := #[.string x.1, .int .i64 x.2]) (ha_at _ _ (by simp)) _ rfl⟩) ?_ ?_ ?_)
        · unfold maxLen; omega
        · omega
        intro b5 o5 cap5 w5 hap5
        obtain ⟨r5, room5, hc5, pl5⟩ := hap5
        replace r5 : RowAt w5 wordE.T b5 o5 (cap5 * wordE.es) (flat wordE.par (L.take (i) ++ [x])) := by first | exact r5 | simpa using r5
        replace room5 : i + 1 ≤ cap5 := by omega
        have hs34 : w3.heap.size ≤ w4.heap.size := by have := r4.lt; have := hcw3.size; omega
        have hb5 : w3.heap.size ≤ b5 := by
          rcases pl5 with h | h
          · omega
          · simp at h; omega
        have hca4 := (Chg.refl (fun _ _ => False) w4).alloc (.cells #[.string x.1, .int .i64 x.2] 35)
        have hc45 := hca4.trans' hc5 (B := fun b _ => b = b4) (fun _ _ _ h => h.elim) (fun _ _ _ h => h)
        have hcw5 : Chg (fun _ _ => False) wr w5 := hcw4.trans' hc45 (fun _ _ _ h => h) (fun b o hb h => by have := hcw3.size; omega)
        have q12 : w5.heap[w2.heap.size]? = some (.cells #[.string x.1, .int .i64 0] 35 (0, 0)) := by rw [hc45.block (heap_lt HQ12.out) (fun _ h => by omega)]; exact HQ12.out
        have HPL5 := Lib.hid (show wr.heap.size < b5 ∧ w2.heap.size < b5 by omega)
        clear r4 room4 hc5 pl5 hca4 hc45 hb4 hb5 hcw4 p0 p1 HQ12
        have j5 : (i : Int) ≤ (L.length : Int) := by omega
        cases q
        · have HQ12 := Lib.hid q12
          have HCW := Lib.hid hcw5
          obtain ⟨od, hif, hod⟩ : ∃ od, (if ccap = i then some (⟨b', o', none⟩ : Addr) else some ⟨b', o' + i * 2, none⟩) = some ⟨b', od, none⟩ ∧ (i < L.length → od = o' + i * 2) := by
            by_cases h : ccap = i
            · exact ⟨o', by rw [if_pos h], fun h2 => by omega⟩
            · exact ⟨_, by rw [if_neg h], fun _ => rfl⟩
          have HOD := Lib.hid hod
          clear q12 hod
          go_wp2_with (refine wpList_append_P wordE (by rfl) _ _ _ (by rfl) i0 _ 24 Try.underlying22 hi0 hz0 hz1 hz2 rfl b5 o5 (i + 1) cap5 (by rfl) (L.take i ++ [x]) (by simp; omega) room5 r5 (some ⟨b', od, none⟩) (L.length - i) _ (by rfl) (L.drop i) (by simp) ?_ ?_ ?_ ?_)
          · rcases Nat.lt_or_ge i L.length with h | h
            · refine .inl ⟨_, rfl, ?_⟩
              rw [HOD.out h]
              exact (HROW.out.chg hcw5 (fun _ _ h => h)).srcDrop i
            · exact .inr (List.drop_of_length_le h)
          · unfold maxLen; omega
          · omega
          intro b6 o6 cap6 w6 hap6
          obtain ⟨r6, room6, hc6, pl6⟩ := hap6
          clear r5 room5 hcw5 hif
          have hcw6 : Chg (fun _ _ => False) wr w6 := HCW.out.trans' hc6 (fun _ _ _ h => h) (fun b o hb h => by have h1 := HPL5.out.1; omega)
          have hpl6 : wr.heap.size ≤ b6 := by have h1 := HPL5.out.1; have h2 := HCW.out.size; omega
          have q12 : w6.heap[w2.heap.size]? = some (.cells #[.string x.1, .int .i64 0] 35 (0, 0)) := by rw [hc6.block (heap_lt HQ12.out) (fun _ h => by have h1 := HPL5.out.2; omega)]; exact HQ12.out
          have p0 := cell_of_block q12 0
          have p1 := cell_of_block q12 1
          simp only [List.getElem?_toArray, List.getElem?_cons_zero, List.getElem?_cons_succ] at p0 p1
          have hgn : growL (l.take (j + 1)) = L.take i ++ [x] ++ L.drop i := by
            rw [HGT.out, HINS.out]; simp
          have hown6 : OwnE wordE w6 (.slice (some ⟨b6, o6, none⟩) (i + 1 + (L.length - i)) cap6) (growL (l.take (j + 1))) w.heap.size := by
            refine .inr ⟨b6, o6, cap6, ?_, ?_, Nat.le_trans HC.out.size hpl6, by rw [hgn]; first | exact r6 | simpa using r6⟩
            · rw [hgn]; first | rfl | (congr 1; simp <;> omega)
            · rw [hgn]; refine Nat.le_trans (Nat.le_of_eq ?_) room6; simp <;> omega
          have HOW6 := Lib.hid hown6
          have HPL6 := Lib.hid hpl6
          have HC6 := Lib.hid hcw6
          have hca6 := (Chg.refl (fun _ _ => False) w6).alloc (.cells #[.string x.1, .int .i64 0] 35)
          have HOA := Lib.hid ((HA.out.keep hcw6).keep hca6)
          have hsw6 := hcw6.size
          have hswr := HC.out.size
          clear hcw6 hpl6 hgn hown6 r6 room6 hc6 q12
          go_wp2_with (refine wpList_append_E2 wordE (by rfl) _ _ _ (by rfl) i0 _ 24 Try.underlying22 hi0 hz0 hz1 hz2 rfl _ (by rfl) A w.heap.size HOA.out (Nat.le_trans hswr (Nat.le_trans hsw6 hca6.size)) ⟨w6.heap.size, 0, none⟩ 1 _ (by rfl) [(x.1, 0)] rfl (by decide) ?_ ?_ ?_ ?_)
          · exact El.src1 wordE (c := #[.string x.1, .int .i64 0]) (ha_at _ _ (by simp)) _ rfl
          · have := HAL.out; unfold maxLen; omega
          · have := HAL.out; omega
          intro v7 w7 h1 h2 h3
          have hc67 := hca6.trans' h2 (B := fun b _ => u5.ownBlock = some b) (fun _ _ _ h => h.elim) (fun _ _ _ h => h)
          have hs67 := hc67.size
          have hca7 := (Chg.refl (fun _ _ => False) w7).alloc (.cells #[.bool false] 4)
          have hob7 : OwnE boolE (w7.alloc (.cells #[.bool false] 4)) u7 B w.heap.size := ((HB.out.keep HC6.out).chgOwn hc67 (fun b _ hb e => HAP57.out b e hb)).keep hca7
          have HOB := Lib.hid hob7
          have hA7 : ∀ b, v7.ownBlock = some b → (u5.ownBlock = some b ∨ w6.heap.size ≤ b) := fun b hb => by
            rcases h3 with h | ⟨nb, h, hn⟩
            · exact .inl (h ▸ hb)
            · rw [h] at hb
              have e : nb = b := Option.some.inj hb
              exact .inr (by have := hca6.size; omega)
          have HV7 := Lib.hid hA7
          have H71 := Lib.hid h1
          have H72 := Lib.hid hc67
          clear h1 h2 h3 hob7 hc67 hA7 p0 p1
          go_wp2_with (refine wpList_append_E2 boolE (by rfl) _ _ _ (by rfl) k0 _ 1 Try.underlying42 ki0 kz0 kz1 kz2 rfl _ (by rfl) B w.heap.size HOB.out (Nat.le_trans hswr (Nat.le_trans hsw6 (Nat.le_trans hs67 hca7.size))) ⟨w7.heap.size, 0, none⟩ 1 _ (by rfl) [false] rfl (by decide) ?_ ?_ ?_ ?_)
          · exact El.src1 boolE (c := #[.bool false]) (ha_at _ _ (by simp)) _ rfl
          · have := HBL.out; unfold maxLen; omega
          · have := HBL.out; omega
          intro v8 w8 h1 h2 h3
          have hc78 := hca7.trans' h2 (B := fun b _ => u7.ownBlock = some b) (fun _ _ _ h => h.elim) (fun _ _ _ h => h)
          have f5 : ∀ b, u5.ownBlock = some b → b < wr.heap.size := fun b hb => (HA.out.own_lt hb).2
          have f7 : ∀ b, u7.ownBlock = some b → b < wr.heap.size := fun b hb => (HB.out.own_lt hb).2
          have f8 : ∀ b, v8.ownBlock = some b → (u7.ownBlock = some b ∨ w7.heap.size ≤ b) := fun b hb => by
            rcases h3 with h | ⟨nb, h, hn⟩
            · exact .inl (h ▸ hb)
            · rw [h] at hb
              have e : nb = b := Option.some.inj hb
              exact .inr (by have := hca7.size; omega)
          have g5 : OwnE wordE w8 v7 (A ++ [(x.1, 0)]) w.heap.size := H71.out.chgOwn hc78 (fun b _ hb e => by
            rcases HV7.out b hb with h | h
            · exact HAP57.out b h e
            · have := f7 b e; omega)
          have g6 := (HOW6.out.chgOwn H72.out (fun b _ hb e => by
            have e1 : b6 = b := Option.some.inj hb
            have := f5 b e
            have := HPL6.out
            omega)).chgOwn hc78 (fun b _ hb e => by
            have e1 : b6 = b := Option.some.inj hb
            have := f7 b e
            have := HPL6.out
            omega)
          have hp6 : b6 < w6.heap.size := (HOW6.out.own_lt rfl).2
          have a56 : Apart v7 (.slice (some ⟨b6, o6, none⟩) (i + 1 + (L.length - i)) cap6) := fun b hb hb2 => by
            have e1 : b6 = b := Option.some.inj hb2
            have := HPL6.out
            rcases HV7.out b hb with h | h
            · have := f5 b h; omega
            · omega
          have a76 : Apart v8 (.slice (some ⟨b6, o6, none⟩) (i + 1 + (L.length - i)) cap6) := fun b hb hb2 => by
            have e1 : b6 = b := Option.some.inj hb2
            have := HPL6.out
            rcases f8 b hb with h | h
            · have := f7 b h; omega
            · omega
          have a57 : Apart v7 v8 := fun b hb hb2 => by
            have hlt7 := (H71.out.own_lt hb).2
            rcases HV7.out b hb with h | h
            · rcases f8 b hb2 with h2 | h2
              · exact HAP57.out b h h2
              · have := f5 b h; omega
            · rcases f8 b hb2 with h2 | h2
              · have := f7 b h2; omega
              · omega
          have hcf : Chg (fun _ _ => False) w w8 := ((HC.out.trans HC6.out).trans' H72.out (fun _ _ _ h => h) (fun b o hb e => by have := (HA.out.own_lt e).1; omega)).trans' hc78 (fun _ _ _ h => h) (fun b o hb e => by have := (HB.out.own_lt e).1; omega)
          have HREL := Lib.hid (And.intro g5 (And.intro g6 (And.intro h1 (And.intro a56 (And.intro a76 (And.intro a57 hcf))))))
          clear h1 h2 h3 g5 g6 a56 a76 a57 hcf hc78 f5 f7 f8
          go_wp2
          go_roundw
          case rel => exact ⟨j + 1, _, _, by omega, by go_num, HREL.out.1, by have := HAL.out; simp; omega, HREL.out.2.1, HREL.out.2.2.1, by have := HBL.out; simp; omega, HREL.out.2.2.2.1, HREL.out.2.2.2.2.1, HREL.out.2.2.2.2.2.1, HREL.out.2.2.2.2.2.2⟩
          case measure => simp [intOf]; omega
        · obtain ⟨y, hy⟩ := hqs rfl
          have hilt := (List.getElem?_eq_some_iff.1 hy).1
          have gv := (HROW.out.chg hcw5 (fun _ _ h => h)).cell (flat_get wordE.par hy (q := 1) (v := .int .i64 y.2) rfl)
          replace gv : w5.cell? ⟨b', o' + i * 2 + 1, none⟩ = some (.int .i64 y.2) := by rw [Nat.add_assoc]; exact gv
          have j6 : (i : Int) < (L.length : Int) := by omega
          have z1 := frozen_of_block q12 1
          have p1 := cell_of_block q12 1
          simp only [List.getElem?_toArray, List.getElem?_cons_zero, List.getElem?_cons_succ] at p1
          have s1 : IntKind.i64.wrap ((i : Int) + 1) = (i : Int) + 1 := IntWalk.i64_in _ (by omega)
          have hb12 : (w5.setCell ⟨w2.heap.size, 1, none⟩ (.int .i64 y.2)).heap[w2.heap.size]? = some (.cells #[.string x.1, .int .i64 y.2] 35 (0, 0)) := by rw [hs_same q12]; rfl
          have HB12 := Lib.hid hb12
          clear hb12 hqs hy q12
          go_upto_region 13 with fail
          refine name_world (fun wn => Chg (fun b _ => b = w2.heap.size) w5 wn ∧ wn.heap[w2.heap.size]? = some (.cells #[.string x.1, .int .i64 y.2] 35 (0, 0))) ⟨(Chg.refl _ _).setCell (.inl rfl) _, HB12.out⟩ ?_
          clear HB12 gv z1 p1
          rintro wn ⟨hcn, q12⟩
          have hcwn : Chg (fun _ _ => False) wr wn := hcw5.trans' hcn (fun _ _ _ h => h) (fun b o hb h => by omega)
          replace r5 := r5.chg hcn (fun j _ h => by have := HPL5.out.2; omega)
          have HQ12 := Lib.hid q12
          have HCW := Lib.hid hcwn
          have s2 : (0 : Int) ≤ (i : Int) + 1 := by omega
          have s3 : ((i : Int) + 1).toNat = i + 1 := by omega
          have s4 : (i : Int) + 1 ≤ (L.length : Int) := by omega
          have s5 : (i : Int) + 1 ≤ (ccap : Int) := by omega
          obtain ⟨od, hif, hod⟩ : ∃ od, (if ccap = i + 1 then some (⟨b', o', none⟩ : Addr) else some ⟨b', o' + (i + 1) * 2, none⟩) = some ⟨b', od, none⟩ ∧ (i + 1 < L.length → od = o' + (i + 1) * 2) := by
            by_cases h : ccap = i + 1
            · exact ⟨o', by rw [if_pos h], fun h2 => by omega⟩
            · exact ⟨_, by rw [if_neg h], fun _ => rfl⟩
          have HOD := Lib.hid hod
          clear q12 hod
          go_wp2_with (refine wpList_append_P wordE (by rfl) _ _ _ (by rfl) i0 _ 24 Try.underlying22 hi0 hz0 hz1 hz2 rfl b5 o5 (i + 1) cap5 (by rfl) (L.take i ++ [x]) (by simp; omega) room5 r5 (some ⟨b', od, none⟩) (L.length - (i + 1)) _ (by rfl) (L.drop (i + 1)) (by simp) ?_ ?_ ?_ ?_)
          · rcases Nat.lt_or_ge (i + 1) L.length with h | h
            · refine .inl ?_
              intro j u hj
              have h2 := (HROW.out.chg hcwn (fun _ _ h => h)).srcDrop (i + 1) j u hj
              rw [add_none] at h2
              rw [HOD.out h]
              exact h2
            · exact .inr h
          · unfold maxLen; omega
          · omega
          intro b6 o6 cap6 w6 hap6
          obtain ⟨r6, room6, hc6, pl6⟩ := hap6
          clear r5 room5 hcw5 hcwn hcn hif s1 s2 s3 s4 s5
          have hcw6 : Chg (fun _ _ => False) wr w6 := HCW.out.trans' hc6 (fun _ _ _ h => h) (fun b o hb h => by have h1 := HPL5.out.1; omega)
          have hpl6 : wr.heap.size ≤ b6 := by have h1 := HPL5.out.1; have h2 := HCW.out.size; omega
          have q12 : w6.heap[w2.heap.size]? = some (.cells #[.string x.1, .int .i64 y.2] 35 (0, 0)) := by rw [hc6.block (heap_lt HQ12.out) (fun _ h => by have h1 := HPL5.out.2; omega)]; exact HQ12.out
          have p0 := cell_of_block q12 0
          have p1 := cell_of_block q12 1
          simp only [List.getElem?_toArray, List.getElem?_cons_zero, List.getElem?_cons_succ] at p0 p1
          have hgn : growL (l.take (j + 1)) = L.take i ++ [x] ++ L.drop (i + 1) := by
            rw [HGT.out, HINS.out]; simp
          have hown6 : OwnE wordE w6 (.slice (some ⟨b6, o6, none⟩) (i + 1 + (L.length - (i + 1))) cap6) (growL (l.take (j + 1))) w.heap.size := by
            refine .inr ⟨b6, o6, cap6, ?_, ?_, Nat.le_trans HC.out.size hpl6, by rw [hgn]; first | exact r6 | simpa using r6⟩
            · rw [hgn]; first | rfl | (congr 1; simp <;> omega)
            · rw [hgn]; refine Nat.le_trans (Nat.le_of_eq ?_) room6; simp <;> omega
          have HOW6 := Lib.hid hown6
          have HPL6 := Lib.hid hpl6
          have HC6 := Lib.hid hcw6
          have hca6 := (Chg.refl (fun _ _ => False) w6).alloc (.cells #[.string x.1, .int .i64 y.2] 35)
          have HOA := Lib.hid ((HA.out.keep hcw6).keep hca6)
          have hsw6 := hcw6.size
          have hswr := HC.out.size
          clear hcw6 hpl6 hgn hown6 r6 room6 hc6 q12
          go_wp2_with (refine wpList_append_E2 wordE (by rfl) _ _ _ (by rfl) i0 _ 24 Try.underlying22 hi0 hz0 hz1 hz2 rfl _ (by rfl) A w.heap.size HOA.out (Nat.le_trans hswr (Nat.le_trans hsw6 hca6.size)) ⟨w6.heap.size, 0, none⟩ 1 _ (by rfl) [(x.1, y.2)] rfl (by decide) ?_ ?_ ?_ ?_)
          · exact El.src1 wordE (c := #[.string x.1, .int .i64 y.2]) (ha_at _ _ (by simp)) _ rfl
          · have := HAL.out; unfold maxLen; omega
          · have := HAL.out; omega
          intro v7 w7 h1 h2 h3
          have hc67 := hca6.trans' h2 (B := fun b _ => u5.ownBlock = some b) (fun _ _ _ h => h.elim) (fun _ _ _ h => h)
          have hs67 := hc67.size
          have hca7 := (Chg.refl (fun _ _ => False) w7).alloc (.cells #[.bool true] 4)
          have hob7 : OwnE boolE (w7.alloc (.cells #[.bool true] 4)) u7 B w.heap.size := ((HB.out.keep HC6.out).chgOwn hc67 (fun b _ hb e => HAP57.out b e hb)).keep hca7
          have HOB := Lib.hid hob7
          have hA7 : ∀ b, v7.ownBlock = some b → (u5.ownBlock = some b ∨ w6.heap.size ≤ b) := fun b hb => by
            rcases h3 with h | ⟨nb, h, hn⟩
            · exact .inl (h ▸ hb)
            · rw [h] at hb
              have e : nb = b := Option.some.inj hb
              exact .inr (by have := hca6.size; omega)
          have HV7 := Lib.hid hA7
          have H71 := Lib.hid h1
          have H72 := Lib.hid hc67
          clear h1 h2 h3 hob7 hc67 hA7 p0 p1
          go_wp2_with (refine wpList_append_E2 boolE (by rfl) _ _ _ (by rfl) k0 _ 1 Try.underlying42 ki0 kz0 kz1 kz2 rfl _ (by rfl) B w.heap.size HOB.out (Nat.le_trans hswr (Nat.le_trans hsw6 (Nat.le_trans hs67 hca7.size))) ⟨w7.heap.size, 0, none⟩ 1 _ (by rfl) [true] rfl (by decide) ?_ ?_ ?_ ?_)
          · exact El.src1 boolE (c := #[.bool true]) (ha_at _ _ (by simp)) _ rfl
          · have := HBL.out; unfold maxLen; omega
          · have := HBL.out; omega
          intro v8 w8 h1 h2 h3
          have hc78 := hca7.trans' h2 (B := fun b _ => u7.ownBlock = some b) (fun _ _ _ h => h.elim) (fun _ _ _ h => h)
          have f5 : ∀ b, u5.ownBlock = some b → b < wr.heap.size := fun b hb => (HA.out.own_lt hb).2
          have f7 : ∀ b, u7.ownBlock = some b → b < wr.heap.size := fun b hb => (HB.out.own_lt hb).2
          have f8 : ∀ b, v8.ownBlock = some b → (u7.ownBlock = some b ∨ w7.heap.size ≤ b) := fun b hb => by
            rcases h3 with h | ⟨nb, h, hn⟩
            · exact .inl (h ▸ hb)
            · rw [h] at hb
              have e : nb = b := Option.some.inj hb
              exact .inr (by have := hca7.size; omega)
          have g5 : OwnE wordE w8 v7 (A ++ [(x.1, y.2)]) w.heap.size := H71.out.chgOwn hc78 (fun b _ hb e => by
            rcases HV7.out b hb with h | h
            · exact HAP57.out b h e
            · have := f7 b e; omega)
          have g6 := (HOW6.out.chgOwn H72.out (fun b _ hb e => by
            have e1 : b6 = b := Option.some.inj hb
            have := f5 b e
            have := HPL6.out
            omega)).chgOwn hc78 (fun b _ hb e => by
            have e1 : b6 = b := Option.some.inj hb
            have := f7 b e
            have := HPL6.out
            omega)
          have hp6 : b6 < w6.heap.size := (HOW6.out.own_lt rfl).2
          have a56 : Apart v7 (.slice (some ⟨b6, o6, none⟩) (i + 1 + (L.length - (i + 1))) cap6) := fun b hb hb2 => by
            have e1 : b6 = b := Option.some.inj hb2
            have := HPL6.out
            rcases HV7.out b hb with h | h
            · have := f5 b h; omega
            · omega
          have a76 : Apart v8 (.slice (some ⟨b6, o6, none⟩) (i + 1 + (L.length - (i + 1))) cap6) := fun b hb hb2 => by
            have e1 : b6 = b := Option.some.inj hb2
            have := HPL6.out
            rcases f8 b hb with h | h
            · have := f7 b h; omega
            · omega
          have a57 : Apart v7 v8 := fun b hb hb2 => by
            have hlt7 := (H71.out.own_lt hb).2
            rcases HV7.out b hb with h | h
            · rcases f8 b hb2 with h2 | h2
              · exact HAP57.out b h h2
              · have := f5 b h; omega
            · rcases f8 b hb2 with h2 | h2
              · have := f7 b h2; omega
              · omega
          have hcf : Chg (fun _ _ => False) w w8 := ((HC.out.trans HC6.out).trans' H72.out (fun _ _ _ h => h) (fun b o hb e => by have := (HA.out.own_lt e).1; omega)).trans' hc78 (fun _ _ _ h => h) (fun b o hb e => by have := (HB.out.own_lt e).1; omega)
          have HREL := Lib.hid (And.intro g5 (And.intro g6 (And.intro h1 (And.intro a56 (And.intro a76 (And.intro a57 hcf))))))
          clear h1 h2 h3 g5 g6 a56 a76 a57 hcf hc78 f5 f7 f8
          go_wp2
          go_roundw
          case rel => exact ⟨j + 1, _, _, by omega, by go_num, HREL.out.1, by have := HAL.out; simp; omega, HREL.out.2.1, HREL.out.2.2.1, by have := HBL.out; simp; omega, HREL.out.2.2.2.1, HREL.out.2.2.2.2.1, HREL.out.2.2.2.2.2.1, HREL.out.2.2.2.2.2.2⟩
          case measure => simp [intOf]; omega
    · obtain rfl : j = l.length := by omega
      rw [List.take_length] at hI
      go_wp2
      go_ret3
      exact ⟨_, _, _, rfl, hI, hc⟩

theorem Words_any (v : Value) (l : List (ByteArray × Int)) (w : World) (hl : SlE wordE w v l) (hlen : l.length ≤ 2147483647) :
    Calls Try.prog 38 #[v] w (OwnPost wordE (growL l) w) := by
  have HW := Lib.hid (WSet_any v l w hl hlen)
  obtain ⟨pp, cap, rfl⟩ := hl.form
  clear hl
  go_enter Try.func38, Try.ntmps38
  go_wp2_with fail
  refine HW.out.mono ?_
  rintro e w2 ⟨a, b, u, rfl, how, hc⟩
  have HOW := Lib.hid how
  clear how
  go_wp2_with fail
  go_ret
  exact ⟨u, rfl, HOW.out, hc⟩
end Go.Proofs.Ytbpnabhgnijbfaa
