/- Delete: the key is there. -/
import Derived.Test.YtbpnabhgnijbfaaEh
namespace Go.Proofs.Ytbpnabhgnijbfaa
set_option linter.unusedSimpArgs false
set_option linter.unusedVariables false
open Go.RowKit

set_option maxRecDepth 100000 in
set_option maxHeartbeats 4000000 in
theorem delete_tree_hit {mn mx : Nat} {w : World} {F : Nat → Prop} {H : Nat → Option (NodeR (ByteArray × Int))} {t h : Nat} {T : BT (ByteArray × Int) h} (x vx : ByteArray × Int) (hI : TreeIn 0 mn mx w F H t h T) (hB : MapBlk 0 mn mx w t (some (rid T)) (toL h T).length) (h1 : 1 ≤ (its T).length) (hmn : 1 ≤ mn) (hn : fndL ltM x (toL h T) = some vx) :
    Calls Try.prog 39 #[.pointer (some ⟨t, 0, none⟩), .string x.1] w (DelAns mn mx w F t (toL h T) x) := by
  have HB := Lib.hid hB
  have HI := Lib.hid hI
  have HN := Lib.hid hn
  have htl := hB.lt
  clear hB hI hn
  go_enter Try.func39, Try.ntmps39
  refine name_world (fun w0 => Chg (fun _ _ => False) w w0) (Chg.refl _ _) ?_
  intro w0 hc0
  have hI0 := HI.out.at (HI.out.fam.chg hc0 (fun _ _ _ h => h)) (HI.out.map.chg hc0 (fun _ _ _ h => h))
  have c2 : w0.cell? ⟨t, 2, none⟩ = some (.pointer (some ⟨rid T, 0, none⟩)) := (HB.out.chg hc0 (fun _ _ _ h => h)).c2
  have HD0 := Lib.hid (delKey h 0 mn mx t ⟨t, 2, none⟩ x w0 F H T hI0 hmn h1 c2)
  clear hI0
  go_wp2_with fail
  refine HD0.out.mono ?_
  rintro e w3 ⟨H', o, rfl, hF3, hc3, ⟨T', hd, hg⟩, _⟩
  have ho : o = some vx := by have := hg.1; rw [HN.out] at this; exact this
  subst ho
  unfold pairV
  have hc03 : Chg (fun b _ => F b) w w3 := (hc0.mono (fun _ _ _ h => h.elim)).trans hc3
  obtain ⟨G, hGd⟩ : ∃ G, G = grow F w0 w3 := ⟨_, rfl⟩
  rw [← hGd] at hF3
  have hG0 : ∀ b, G b → F b ∨ w.heap.size ≤ b := fun b h => by
    rw [hGd] at h
    rcases h with h | h
    · exact .inl h
    · exact .inr (by have := h.1; have := hc0.size; omega)
  clear hGd HD0 c2
  have hst3 := hc03.size
  go_upto_region 4 with fail
  refine name_world (fun w4 => Chg (fun _ _ => False) w3 w4 ∧ w4.heap[w3.heap.size]? = some (.cells #[.int .i64 vx.2, .string vx.1] 77 (0, 0))) ⟨?_, by first | exact ha_at _ _ rfl | exact blk2 (ha_at _ _ rfl) _ _⟩ ?_
  · repeat (first | refine Chg.drew ?_ | refine Chg.drewN ?_ _ | refine Chg.setCell ?_ (.inr (Nat.le_refl _)) _ | refine Chg.alloc ?_ _ | exact Chg.refl _ _)
  rintro w4 ⟨hc4, hb6⟩
  have HB6 := Lib.hid hb6
  have hne7 : ¬ w3.heap.size = t := by omega
  have hF4 := hF3.chg hc4 (fun _ _ _ h => h)
  have hc04 : Chg (fun b _ => F b) w w4 := hc03.trans (hc4.mono (fun _ _ _ h => h.elim))
  have hB4 := HB.out.chg hc04 (fun b _ hm e => HI.out.out b hm e)
  have e30 := hB4.c3
  have z32 := hB4.fz 2
  have z33 := hB4.fz 3
  have c2 : w4.cell? ⟨t, 2, none⟩ = some (.pointer (some ⟨rid T, 0, none⟩)) := hB4.c2
  have HB4 := Lib.hid hB4
  have HF4 := Lib.hid hF4
  have HC04 := Lib.hid hc04
  have HG0 := Lib.hid hG0
  have HSRT := Lib.hid HI.out.srt
  have HBIG := Lib.hid HI.out.big
  have hs4 := Lib.hid (show _ ∧ _ ∧ _ ∧ _ from ⟨HI.out.m3, HI.out.m1000, HI.out.mh, HI.out.mh2⟩)
  have HD := Lib.hid hd
  have HGN := Lib.hid hg
  have HFL := Lib.hid (show some vx = fndL ltM x (toL h T) from hg.1)
  have HLE := Lib.hid (show toL h T' = delL ltM x (toL h T) from hg.2)
  have HO4 := Lib.hid (show ∀ b, MOwn 0 t b → ¬ G b from fun b hm h => (hG0 b h).elim (HI.out.out b hm) (fun h => by have := HB.out.at_.lt hm; omega))
  clear hd hg hB4 hF4 hF3 hc04 hc03 hc3 hc4 hG0 hb6
  have hroot : H' (rid T) = some (recOf h T') := by rw [← HD.out.rid']; exact HD.out.isT.root
  obtain ⟨ln, hnr⟩ := HF4.out.node hroot
  have n2 := hnr.c2
  rw [recOf_items] at n2
  have hlen := HGN.out.len
  have hsl := HD.out.sh.len
  have hbg := HBIG.out
  have h1000 := hs4.out.2.1
  have s1 : IntKind.i64.wrap (((toL h T).length : Int) - 1) = ((toL h T').length : Int) := (by rw [IntWalk.i64_in _ (by omega)]; omega)
  have srt' : Srt ltM (toL h T') := HSRT.out.sublist HGN.out.sub
  have HS' := Lib.hid srt'
  replace hlen := Lib.hid hlen
  have fin : ∀ w9 (F9 : Nat → Prop), Chg (fun b _ => b = t) w4 w9 → MapIn mn mx w9 F9 t (toL h T') → (∀ b, F9 b → G b) → DelAns mn mx w F t (toL h T) x (.returned (.tuple #[.int .i64 vx.2, .bool true])) w9 := by
    intro w9 F9 c1 hM hFG
    refine ⟨.inl ⟨vx, HFL.out.symm, rfl⟩, F9, ?_, ?_, fun b hb => HG0.out b (hFG b hb)⟩
    · rw [← HLE.out]; exact hM
    · exact (HC04.out.mono (B := fun b _ => F b ∨ b = t) (fun _ _ _ h => .inl h)).trans (c1.mono (fun _ _ _ h => .inr h))
  have FIN := Lib.hid fin
  clear srt' fin
  by_cases h0 : 1 ≤ (its T').length
  · have g0 : (((its T').length : Int) == 0) = false := beq_eq_false_iff_ne.2 (by omega)
    have hp := its_head HD.out.sh h0
    have g1 : (((toL h T').length : Int) == 0) = false := beq_eq_false_iff_ne.2 (by omega)
    clear hp
    have HB9 := Lib.hid (HB4.out.setCnt ((toL h T').length : Int))
    have hc9 : Chg (fun b _ => b = t) w4 (w4.setCell ⟨t, 3, none⟩ (.int .i64 ((toL h T').length : Int))) := (Chg.refl _ _).setCell (.inl rfl) _
    have HC9 := Lib.hid hc9
    clear hc9
    have pz6 := cell_of_block (show (w4.setCell ⟨t, 3, none⟩ (.int .i64 ((toL h T').length : Int))).heap[w3.heap.size]? = some (.cells #[.int .i64 vx.2, .string vx.1] 77 (0, 0)) by rw [hs_ne _ hne7]; exact HB6.out) 0
    simp only [List.getElem?_toArray, List.getElem?_cons_zero] at pz6
    go_wp2_with fail
    refine bodyPost_ret (v := .tuple #[.int .i64 vx.2, .bool true]) (by simp [results, Try.results39, go_sem]) rfl ?_
    refine FIN.out _ G HC9.out (.inr ⟨H', h, T', ⟨HF4.out.chg HC9.out (fun b _ hb e => HO4.out t MOwn.self (e ▸ hb)), HB9.out.at_, HO4.out, HD.out.isT, HD.out.nd, HD.out.sh, HS'.out, by have := hlen.out; omega, hs4.out.1, hs4.out.2.1, hs4.out.2.2.1, hs4.out.2.2.2⟩, ?_, rfl, h0⟩) (fun _ h => h)
    rw [HD.out.rid']; exact HB9.out
  · have hnil : its T' = [] := List.eq_nil_of_length_eq_zero (by omega)
    have g0 : (((its T').length : Int) == 0) = true := beq_iff_eq.2 (by omega)
    rcases h with _ | h
    · have ht0 : toL 0 T' = [] := hnil
      have g1 : (((toL 0 T').length : Int) == 0) = true := by rw [ht0]; rfl
      have n3 := hnr.c3n rfl
      have hB9 := (HB4.out.setCnt ((toL 0 T').length : Int)).setRoot none
      have hB9' : MapBlk 0 mn mx ((w4.setCell ⟨t, 3, none⟩ (.int .i64 ((toL 0 T').length : Int))).setCell ⟨t, 2, none⟩ (.pointer none)) t none 0 := by
        have e : ((toL 0 T').length : Int) = 0 := by rw [ht0]; rfl
        have h2 := hB9
        rw [e] at h2 ⊢
        exact h2
      have HB9 := Lib.hid hB9'
      have hc9 : Chg (fun b _ => b = t) w4 ((w4.setCell ⟨t, 3, none⟩ (.int .i64 ((toL 0 T').length : Int))).setCell ⟨t, 2, none⟩ (.pointer none)) := ((Chg.refl _ _).setCell (.inl rfl) _).setCell (.inl rfl) _
      have HC9 := Lib.hid hc9
      have HT0 := Lib.hid ht0
      clear hB9 hB9' hc9 ht0 hnil hnr
      have pz6 := cell_of_block (show ((w4.setCell ⟨t, 3, none⟩ (.int .i64 ((toL 0 T').length : Int))).setCell ⟨t, 2, none⟩ (.pointer none)).heap[w3.heap.size]? = some (.cells #[.int .i64 vx.2, .string vx.1] 77 (0, 0)) by rw [hs_ne _ hne7, hs_ne _ hne7]; exact HB6.out) 0
      simp only [List.getElem?_toArray, List.getElem?_cons_zero] at pz6
      go_wp2_with (go_at_call 53; refine (leaf_any _ none _ ?_).mono ?_; (focus go_simp); rintro e w' ⟨rfl, rfl⟩)
      refine bodyPost_ret (v := .tuple #[.int .i64 vx.2, .bool true]) (by simp [results, Try.results39, go_sem]) rfl ?_
      exact FIN.out _ (fun _ => False) HC9.out (.inl ⟨HT0.out, fun _ h => h, HB9.out⟩) (fun _ h => h.elim)
    · have hk1 : T'.2.2.length = 1 := by have := HD.out.sh.2.1; have e : T'.2.1 = [] := hnil; rw [e] at this; exact this
      obtain ⟨c, hc⟩ : ∃ c, T'.2.2 = [c] := by
        match h2 : T'.2.2, hk1 with
        | [c], _ => exact ⟨c, rfl⟩
      have hcm : c ∈ T'.2.2 := by rw [hc]; exact List.mem_singleton.2 rfl
      have ht1 : toL (h + 1) T' = toL h c := by
        show inter T'.2.1 (T'.2.2.map (toL h)) = toL h c
        have e : T'.2.1 = [] := hnil
        rw [e, hc]
        exact inter_last _
      obtain ⟨hcm1, hcs⟩ := HD.out.sh.2.2 c hcm
      have hc1' : 1 ≤ (its c).length := by omega
      have hp := its_head hcs hc1'
      have hkk : (recOf (h + 1) T').kids = some [some (rid c)] := by
        show some (T'.2.2.map fun c => some (rid c)) = _
        rw [hc]; rfl
      have n3 := hnr.c3s hkk
      have nc : w4.cell? ⟨ln.cc, 0, none⟩ = some (.slice (some ⟨ln.cb, ln.co, none⟩) 1 ln.ck) := hnr.cc hkk
      have k0 : w4.cell? ⟨ln.cb, ln.co, none⟩ = some (.pointer (some ⟨rid c, 0, none⟩)) := by
        have := hnr.kidc hkk (j := 0) (o := some (rid c)) rfl
        rw [Nat.add_zero] at this
        exact this
      rw [ht1] at s1
      have g1 : (((toL h c).length : Int) == 0) = false := beq_eq_false_iff_ne.2 (by omega)
      have HB9 := Lib.hid ((HB4.out.setRoot (some (rid c))).setCnt ((toL h c).length : Int))
      have hc9 : Chg (fun b _ => b = t) w4 ((w4.setCell ⟨t, 2, none⟩ (.pointer (some ⟨rid c, 0, none⟩))).setCell ⟨t, 3, none⟩ (.int .i64 ((toL h c).length : Int))) := ((Chg.refl _ _).setCell (.inl rfl) _).setCell (.inl rfl) _
      have HC9 := Lib.hid hc9
      have HT1 := Lib.hid ht1
      have HCM := Lib.hid hcm
      have HP := Lib.hid (And.intro hcs hc1')
      clear hc9 ht1 hnil hnr hc hk1 hcm hcs hc1' hp hcm1 hkk
      have pz6 := cell_of_block (show ((w4.setCell ⟨t, 2, none⟩ (.pointer (some ⟨rid c, 0, none⟩))).setCell ⟨t, 3, none⟩ (.int .i64 ((toL h c).length : Int))).heap[w3.heap.size]? = some (.cells #[.int .i64 vx.2, .string vx.1] 77 (0, 0)) by rw [hs_ne _ hne7, hs_ne _ hne7]; exact HB6.out) 0
      simp only [List.getElem?_toArray, List.getElem?_cons_zero] at pz6
      go_wp2_with (go_at_call 53; refine (leaf_any _ (some ⟨ln.cc, 0, none⟩) _ ?_).mono ?_; (focus go_simp); rintro e w' ⟨rfl, rfl⟩)
      refine bodyPost_ret (v := .tuple #[.int .i64 vx.2, .bool true]) (by simp [results, Try.results39, go_sem]) rfl ?_
      have hs2 := HS'.out
      rw [HT1.out] at hs2
      exact FIN.out _ G HC9.out (.inr ⟨H', h, c, ⟨HF4.out.chg HC9.out (fun b _ hb e => HO4.out t MOwn.self (e ▸ hb)), HB9.out.at_, HO4.out, HD.out.isT.kid HCM.out, nodup_kid HD.out.nd HCM.out, HP.out.1, hs2, by have := hlen.out; rw [HT1.out] at this; omega, hs4.out.1, hs4.out.2.1, hs4.out.2.2.1, hs4.out.2.2.2⟩, HB9.out, HT1.out.symm, HP.out.2⟩) (fun _ h => h)

theorem Delete_any {mn mx : Nat} {w : World} {F : Nat → Prop} {t : Nat} {l : List (ByteArray × Int)} (x : ByteArray × Int) (hM : MapIn mn mx w F t l) (hmn : 1 ≤ mn) :
    Calls Try.prog 39 #[.pointer (some ⟨t, 0, none⟩), .string x.1] w (DelAns mn mx w F t l x) := by
  rcases hM with ⟨rfl, hF, hB⟩ | ⟨H, h, T, hI, hB, rfl, h1⟩
  · have c2 : w.cell? ⟨t, 2, none⟩ = some (.pointer none) := hB.c2
    have c4 := hB.at_.c4
    have HB := Lib.hid hB
    clear hB
    go_enter Try.func39, Try.ntmps39
    go_wp2_with fail
    refine bodyPost_ret (v := .tuple #[.int .i64 0, .bool false]) (by simp [results, Try.results39, go_sem]) rfl ?_
    exact ⟨.inr ⟨rfl, rfl⟩, F, .inl ⟨rfl, hF, HB.out⟩, Chg.refl _ _, fun _ h => .inl h⟩
  · cases hn : fndL ltM x (toL h T) with
    | none => exact delete_tree_miss x hI hB h1 hmn hn
    | some vx => exact delete_tree_hit x vx hI hB h1 hmn hn
end Go.Proofs.Ytbpnabhgnijbfaa
