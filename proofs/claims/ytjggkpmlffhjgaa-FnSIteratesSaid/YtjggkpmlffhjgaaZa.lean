/- Insert; growSet; spec.Items of numbers. -/
import Derived.Test.YtjggkpmlffhjgaaA9
import Derived.Test.YtjggkpmlffhjgaaA10
namespace Go.Proofs.Ytjggkpmlffhjgaa
set_option linter.unusedSimpArgs false
set_option linter.unusedVariables false
open Go.RowKit

/-- A number as an item. -/
def itK (k : Int) : Int × Int := (k, 0)

def InsPost (w : World) (F : Nat → Prop) (t : Nat) (l : List (Int × Int)) (k : Int) (e : Ending) (w' : World) : Prop :=
  e = .returned (.tuple #[]) ∧ ∃ F', MapIn 31 63 w' F' t (insL ltM (itK k) l) ∧ Chg (fun b _ => F b ∨ b = t) w w' ∧ ∀ b, F' b → F b ∨ w.heap.size ≤ b

theorem Insert_any {w : World} {F : Nat → Prop} {t : Nat} {l : List (Int × Int)} (h : MapIn 31 63 w F t l) (k : Int) (hl : l.length < 100000000000000) :
    Calls Try.prog 98 #[.pointer (some ⟨t, 0, none⟩), .int .i64 k] w (InsPost w F t l k) := by
  have HS := Lib.hid (set_any h (itK k) hl)
  have htl := h.own MOwn.self
  have ht0 : Hid (∃ c, w.heap[t]? = some (.cells c 141 (0, 0))) := Lib.hid (by
    rcases h with ⟨_, _, hB⟩ | ⟨H, hh, T, _, hB, _⟩
    · exact ⟨_, hB⟩
    · exact ⟨_, hB⟩)
  clear h
  unfold itK at HS
  go_enter Try.func98, Try.ntmps98
  go_wp2_with fail
  refine HS.out.mono ?_
  rintro e w2 ⟨hr, F', h2, h3, h4⟩
  have FIN := Lib.hid (show InsPost w F t l k (.returned (.tuple #[])) w2 from ⟨rfl, F', h2, h3, h4⟩)
  clear h2 h3 h4
  rcases hr with ⟨y, _, rfl⟩ | ⟨_, rfl⟩
  all_goals
    go_wp2_with fail
    refine bodyPost_end (v := .tuple #[]) (by simp [results, Try.results98, go_sem]) rfl ?_
    exact FIN.out

def GrowPost (w : World) (l : List Int) (e : Ending) (w' : World) : Prop :=
  ∃ t F, e = .returned (.pointer (some ⟨t, 0, none⟩)) ∧ w.heap.size ≤ t ∧ MapIn 31 63 w' F t (growL (l.map itK)) ∧ Chg (fun _ _ => False) w w' ∧ ∀ b, F b → w.heap.size ≤ b

theorem growL_lenK (l : List Int) (j : Nat) : (growL ((l.map itK).take j)).length ≤ l.length := by
  have := growL_take_len (l.map itK) j
  simpa using this

set_option maxRecDepth 100000 in
theorem growSet_any (v : Value) (l : List Int) (w : World) (hs : SlE intE w v l) (hlen : l.length ≤ 2147483647) :
    Calls Try.prog 57 #[v] w (GrowPost w l) := by
  obtain ⟨a, cap, rfl⟩ := hs.form
  have HS := Lib.hid hs
  clear hs
  go_enter Try.func57, Try.ntmps57
  go_wp2_with fail
  refine name_world (fun w1 => Chg (fun _ _ => False) w w1 ∧ MapBlk 0 0 0 w1 w.heap.size none 0) ⟨(Chg.refl _ _).alloc _, ha_at _ _ rfl⟩ ?_
  rintro w1 ⟨hc1, hB1⟩
  have hlt1 := hB1.lt
  have HB1 := Lib.hid hB1
  clear hB1
  go_wp2_with fail
  go_loopw [9] (fun i wr => ∃ (j : Nat) (F : Nat → Prop), j ≤ l.length ∧ i = .int .i64 j ∧ MapIn 31 63 wr F w.heap.size (growL ((l.map itK).take j)) ∧ Chg (fun _ _ => False) w wr ∧ (∀ b, F b → w.heap.size ≤ b)) (fun i _ => l.length - (intOf i).toNat)
  case atStart => exact ⟨0, fun _ => False, Nat.zero_le _, rfl, .inl ⟨rfl, fun _ h => h, HB1.out⟩, hc1, fun _ h => h.elim⟩
  case round =>
    obtain ⟨j, F, hj, rfl, hM, hc, hF⟩ := hrel
    have hsz := hc.size
    by_cases hlt : j < l.length
    · obtain ⟨x, hx⟩ : ∃ x, l[j]? = some x := ⟨_, List.getElem?_eq_getElem hlt⟩
      obtain ⟨b, o, rfl, g0⟩ := (HS.out.chg hc).int hx
      have i0 : (0 : Int) ≤ (j : Int) := by omega
      have i1 : (j : Int) < (l.length : Int) := by omega
      have hgl := growL_lenK l j
      have hgt := growL_take (l := l.map itK) (j := j) (x := itK x) (by rw [List.getElem?_map, hx]; rfl)
      have HGT := Lib.hid hgt
      have HI := Lib.hid (Insert_any hM x (by omega))
      unfold InsPost at HI
      clear hx hgt hM
      go_wp2_with fail
      refine HI.out.mono ?_
      rintro e w2 ⟨rfl, F', hM2, hc2, hF2⟩
      have hc02 : Chg (fun _ _ => False) w w2 := hc.trans' hc2 (fun _ _ _ h => h) (fun b o hb h => by
        rcases h with h | h
        · have := hF b h; omega
        · omega)
      have hF2' : ∀ b, F' b → w.heap.size ≤ b := fun b hb => by
        rcases hF2 b hb with h | h
        · exact hF b h
        · omega
      have HM2 := Lib.hid hM2
      clear hM2 HI
      go_wp2_with fail
      go_roundw
      case rel => exact ⟨j + 1, F', by omega, by go_num, by rw [HGT.out]; exact HM2.out, hc02, hF2'⟩
      case measure => simp [intOf]; omega
    · obtain rfl : j = l.length := by omega
      have HM := Lib.hid hM
      clear hM
      go_wp2_with fail
      go_ret
      exact ⟨w.heap.size, F, rfl, Nat.le_refl _, by have h := HM.out; rw [List.take_of_length_le (by simp)] at h; exact h, hc, hF⟩

set_option maxRecDepth 100000 in
theorem specItems_any (v : Value) (xs : List Int) (w : World) (h : SlE intE w v xs) (hlen : xs.length ≤ 2147483648) :
    Calls Try.prog 23 #[v] w (OwnPost itemE (xs.map itK) w) := by
  obtain ⟨a, cap, rfl⟩ := h.form
  have HS := Lib.hid h
  clear h
  obtain ⟨i0, hi0, hz0, hz1, hz2⟩ := info_parts infoItem
  go_enter Try.func23, Try.ntmps23
  go_wp2
  go_loopw [3, 8] (fun v i wr => ∃ (j : Nat), j ≤ xs.length ∧ i = .int .i64 j ∧ OwnE itemE wr v ((xs.map itK).take j) w.heap.size ∧ Chg (fun _ _ => False) w wr) (fun _ i _ => xs.length - (intOf i).toNat)
  case atStart => exact ⟨0, Nat.zero_le _, rfl, OwnE.nil _ _ _, Chg.refl _ _⟩
  case round =>
    obtain ⟨j, hj, rfl, how, hc⟩ := hrel
    have hsz := hc.size
    by_cases hlt : j < xs.length
    · obtain ⟨x, hx⟩ : ∃ x, xs[j]? = some x := ⟨_, List.getElem?_eq_getElem hlt⟩
      obtain ⟨b, o, rfl, g0⟩ := (HS.out.chg hc).int hx
      have ht : (xs.map itK).take (j + 1) = (xs.map itK).take j ++ [itK x] := by rw [List.take_add_one, List.getElem?_map, hx]; rfl
      have HT := Lib.hid ht
      clear hx ht
      have i0' : (0 : Int) ≤ (j : Int) := by omega
      have i1 : (j : Int) < (xs.length : Int) := by omega
      have hc2 : Chg (fun _ _ => False) w (wr.alloc (.cells #[.int .i64 x, .int .i64 0] 53)) := hc.alloc _
      have how2 := how.keep ((Chg.refl (fun _ _ => False) wr).alloc (.cells #[.int .i64 x, .int .i64 0] 53))
      have HOW := Lib.hid how2
      have hll : ((xs.map itK).take j).length ≤ xs.length := by simp; omega
      clear how how2
      go_wp2_with (refine wpList_append_E2 itemE (by rfl) _ _ _ (by rfl) i0 _ 16 Try.underlying35 hi0 hz0 hz1 hz2 rfl _ (by rfl) _ w.heap.size HOW.out hc2.size ⟨wr.heap.size, 0, none⟩ 1 _ (by rfl) [itK x] rfl (by decide) ?_ ?_ ?_ ?_)
      · exact El.src1 itemE (c := #[.int .i64 x, .int .i64 0]) (ha_at _ _ (by simp)) _ rfl
      · unfold maxLen; omega
      · omega
      intro v' w' h1 h2 _
      have hc3 : Chg (fun _ _ => False) w w' := hc2.trans' h2 (fun _ _ _ h => h) (fun b o hb h => by have := (HOW.out.own_lt h).1; omega)
      go_wp2
      go_roundw
      case rel => exact ⟨j + 1, by omega, by go_num, by rw [HT.out]; exact h1, hc3⟩
      case measure => simp [intOf]; omega
    · obtain rfl : j = xs.length := by omega
      go_wp2
      go_ret
      exact ⟨_, rfl, by rw [List.take_of_length_le (by simp)] at how; exact how, hc⟩
end Go.Proofs.Ytjggkpmlffhjgaa
