/- PopMax of a set that holds something. -/
import Derived.Test.YtjggkpmlffhjgaaQb
namespace Go.Proofs.Ytjggkpmlffhjgaa
set_option linter.unusedSimpArgs false
set_option linter.unusedVariables false
open Go.RowKit

set_option maxRecDepth 100000 in
set_option maxHeartbeats 4000000 in
theorem popMax_tree {mn mx : Nat} {w : World} {F : Nat → Prop} {H : Nat → Option (NodeR (Int × Int))} {t h : Nat} {T : BT (Int × Int) h} (hI : TreeIn 0 mn mx w F H t h T) (hB : MapBlk 0 mn mx w t (some (rid T)) (toL h T).length) (h1 : 1 ≤ (its T).length) (hmn : 1 ≤ mn) (hsz : (toL h T).length ≤ 1000000000000) :
    Calls Try.prog 164 #[.pointer (some ⟨t, 0, none⟩)] w (PopAns mn mx w F t true (toL h T)) := by
  have hol : ∀ b, MOwn 0 t b → b < w.heap.size := fun b hb => hB.at_.lt hb
  have hfl : ∀ b, F b → b < w.heap.size := fun b hb => hI.fam.lt hb
  have htl := hol t MOwn.self
  have HOL := Lib.hid hol
  have HFL := Lib.hid hfl
  have hbig := hI.m1000
  have HB := Lib.hid hB
  have HI := Lib.hid hI
  have HOUT := Lib.hid hI.out
  clear hol hfl hB hI
  go_enter Try.func164, Try.ntmps164
  go_upto_region 1 with fail
  refine name_world (fun w0 => Chg (fun _ _ => False) w w0) ((Chg.refl _ _).alloc _) ?_
  intro w0 hc00
  have c2 : w0.cell? ⟨t, 2, none⟩ = some (.pointer (some ⟨rid T, 0, none⟩)) := (HB.out.chg hc00 (fun _ _ _ h => h)).c2
  have c0 := (HB.out.at_.chg hc00 (fun _ _ _ h => h)).c0
  obtain ⟨l0, hn0⟩ := (HI.out.fam.chg hc00 (fun _ _ _ h => h)).node HI.out.isT.root
  have n0 := hn0.c0
  clear hn0
  go_wp2_with fail
  refine (isoLoad_any t (rid T) 0 _ _ _ c2 n0 c0).mono ?_
  rintro e w1 ⟨rfl, m, hw1⟩
  have hc01 : Chg (fun _ _ => False) w w1 := by rw [hw1]; exact hc00.drewN _
  clear hw1 n0 c0 c2 hc00
  go_wp2_with fail
  refine name_world (fun w2 => Chg (fun _ _ => False) w w2 ∧ w2.heap[w1.heap.size]? = some (.cells #[.int .i64 0] 107 (0, 0))) ⟨hc01.alloc _, ha_at _ _ rfl⟩ ?_
  rintro w2 ⟨hc02, hb6⟩
  have hb6g := hc01.size
  clear hc01
  generalize w1.heap.size = b6 at hb6 hb6g ⊢
  have nF6 : ¬ F b6 := fun h => by have := HFL.out b6 h; omega
  have hb6t : ¬ b6 = t := by omega
  have NF6 := Lib.hid nF6
  clear nF6
  go_loopw [5] (fun nv wr => ∃ (h' : Nat) (T' : BT (Int × Int) h') (off : Nat) (B P : List Nat), nv = .pointer (some ⟨rid T', 0, none⟩) ∧ Road h T B P off h' T' ∧ Side true h T P off h' T' ∧ 1 ≤ (its T').length ∧ Fam (parM 0) wr F (bmp H P (-1)) ∧ Chg (fun b _ => F b) w wr ∧ wr.heap[b6]? = some (.cells #[.int .i64 0] 107 (0, 0))) (fun nv _ => mOf H nv)
  case atStart => exact ⟨h, T, 0, [], [], rfl, .nil, Side.start _ _ _, h1, by rw [bmp_nil]; exact HI.out.fam.chg hc02 (fun _ _ _ h => h), hc02.mono (fun _ _ _ h => h.elim), hb6⟩
  case round =>
    obtain ⟨h', T', off, B, P, rfl, hr, hsd, hit, hfam, hcr, hb6r⟩ := hrel
    obtain ⟨hT', hs', hm', hn', A, C, hA, hL, hcl⟩ := hr.close (mn := mn) (mx := mx) HI.out.isT HI.out.nd HI.out.sh
    obtain ⟨hsub, hnd', hPo⟩ := hr.out HI.out.nd
    have hrP : rid T' ∉ P := fun hm => (hPo _ hm).1 (rid_mem _)
    have hrec : bmp H P (-1) (rid T') = some (recOf h' T') := (bmp_out hrP).trans hT'.root
    obtain ⟨l2, hn2⟩ := hfam.node hrec
    have n1 := hn2.c1
    have fz := hn2.fz 1
    rw [recOf_cnt] at n1
    have hsc := hfam.setCnt hrec ((recOf h' T').cnt + -1)
    rw [bmp_snoc hT'.root, recOf_cnt] at hsc
    have hbl : (toL h' T').length ≤ (toL h T).length := by rw [hL]; simp; omega
    have s1 : IntKind.i64.wrap (((toL h' T').length : Int) - 1) = ((toL h' T').length : Int) - 1 := IntWalk.i64_in _ (by omega)
    have HSC := Lib.hid hsc
    have HCL := Lib.hid hcl
    have HL := Lib.hid hL
    have HA := Lib.hid hA
    have HRD := Lib.hid hr
    have HSD := Lib.hid hsd
    have HCR := Lib.hid hcr
    have HB6 := Lib.hid hb6r
    clear hsc hn2 hfam hrec hcl hL hA hr hcr hsd hb6r hb6
    go_wp2_with fail
    refine name_calls (fun w4 => Fam (parM 0) w4 F (bmp H (P ++ [rid T']) (-1)) ∧ Chg (fun b _ => F b) wr w4) ⟨HSC.out.1, HSC.out.2⟩ ?_
    rintro w4 ⟨hf4, hc4⟩
    have hb64 : w4.heap[b6]? = some (.cells #[.int .i64 0] 107 (0, 0)) := by rw [hc4.block (heap_lt HB6.out) (fun _ h => NF6.out h)]; exact HB6.out
    have hc04 := HCR.out.trans hc4
    have hrec4 : bmp H (P ++ [rid T']) (-1) (rid T') = some { recOf h' T' with cnt := (recOf h' T').cnt + -1 } := bmp_in (List.mem_append.2 (.inr (List.mem_singleton.2 rfl))) hT'.root
    clear n1 fz s1 HSC HB6
    rcases h' with _ | h'
    · skip
      have hle0 : 1 ≤ T'.2.length := hit
      have hle1 : T'.2.length ≤ mx := hs'
      have i4 : (1 : Int) ≤ (T'.2.length : Int) := by omega
      have i0 : (0 : Int) ≤ (T'.2.length : Int) - 1 := by omega
      have i1 : (T'.2.length : Int) - 1 < (T'.2.length : Int) := by omega
      have i2 : ((T'.2.length : Int) - 1).toNat = T'.2.length - 1 := by omega
      have i3 : IntKind.i64.wrap ((T'.2.length : Int) - 1) = (T'.2.length : Int) - 1 := IntWalk.i64_in _ (by omega)
      have hr4 : bmp H (P ++ [rid T']) (-1) (rid T') = some (⟨((T'.2.length : Nat) : Int) + -1, T'.2, none⟩ : NodeR (Int × Int)) := hrec4
      have hql : 1 ≤ T'.2.length := hit
      have hqm : T'.2.length ≤ mx := hs'
      obtain ⟨y, hyq⟩ : ∃ y, T'.2[(T'.2.length - 1)]? = some y := ⟨_, List.getElem?_eq_getElem (by omega)⟩
      have hoff : off + (T'.2.length - 1) = sideI true ((toL h T).length - 1) := by
        have h1 := HSD.out.lo
        have h2 := HSD.out.hi
        have h3 : (toL 0 T').length = T'.2.length := rfl
        have h4 := h2 rfl; simp only [sideI, if_true]; omega
      have hyi : (toL h T)[off + (T'.2.length - 1)]? = some y := by
        have h3 : (toL 0 T') = T'.2 := rfl
        rw [HL.out, ← HA.out, List.append_assoc, List.getElem?_append_right (by omega), Nat.add_sub_cancel_left, List.getElem?_append_left (by rw [h3]; omega), h3]
        exact hyq
      have hpf : popF true (toL h T) = some y := by unfold popF; rw [← hoff]; exact hyi
      have HOFF := Lib.hid hoff
      have HPF := Lib.hid hpf
      have HYI := Lib.hid hyi
      obtain ⟨l3, hn3⟩ := hf4.node hr4
      have n3 := hn3.c3n rfl
      have n2 : w4.cell? ⟨rid T', 2, none⟩ = some (.slice (some ⟨l3.ib, l3.io, none⟩) T'.2.length l3.ic) := hn3.c2
      have iv := hn3.mval (j := (T'.2.length - 1)) hyq
      have q0 : (0 : Int) < (T'.2.length : Int) := by omega
      have p6 := cell_of_block hb64 0
      have z6 := frozen_of_block hb64 0
      simp only [List.getElem?_toArray, List.getElem?_cons_zero] at p6
      have HB6 := Lib.hid hb64
      have HR4 := Lib.hid hr4
      have HF4 := Lib.hid hf4
      have hlt6 := heap_lt hb64
      clear hn3 hf4 hrec4 hr4 hyq hoff hpf hyi hb64
      skip
      go_wp2_with (go_at_call 162; refine (leaf_any _ none _ n3).mono ?_; rintro e w' ⟨rfl, rfl⟩)
      go_still_tail 12, (by kernel_rfl); go_upto_region 8 with fail; clear i4 i0 i1 i2 i3
      refine name_world (fun w5 => Chg (fun b _ => b = b6) w4 w5 ∧ w5.heap[b6]? = some (.cells #[.int .i64 y.1] 107 (0, 0))) ⟨?_, blk1 HB6.out _⟩ ?_
      · repeat (first | refine Chg.drew ?_ | refine Chg.drewN ?_ _ | refine Chg.setCell ?_ (.inl rfl) _ | exact Chg.refl _ _)
      rintro w5 ⟨hc45, hb65⟩
      clear p6 z6 iv HB6
      have hc05 : Chg (fun b _ => F b) w w5 := hc04.trans' hc45 (fun _ _ _ h => h) (fun b o hb e => by omega)
      have hf5 := HF4.out.chg hc45 (fun b o hb e => NF6.out (e ▸ hb))
      replace n2 := hc45.cell (a := ⟨rid T', 2, none⟩) (fun h => NF6.out (h ▸ hf5.mem HR4.out)) n2
      have e6 := (HI.out.map.chg hc05 (fun b _ hm h => HOUT.out b hm h)).c6
      have HB6 := Lib.hid hb65
      clear hb65
      go_wp2_with fail
      by_cases hlm : T'.2.length = mn
      · have hcmp : ((T'.2.length : Int) == (mn : Int)) = true := by simp [hlm]
        have HLM := Lib.hid hlm
        clear hlm
        go_quiet (fail)
        refine name_prop (fun w6 => Chg (fun _ _ => False) w5 w6) ((Chg.refl _ _).drewN _) ?_
        intro w6 hc6
        clear n2 e6
        have hc06 : Chg (fun b _ => F b) w w6 := hc05.trans (hc6.mono (fun _ _ _ h => h.elim))
        have hb66 : w6.heap[b6]? = some (.cells #[.int .i64 y.1] 107 (0, 0)) := by rw [hc6.block (heap_lt HB6.out) (fun _ h => h)]; exact HB6.out
        have hfx := hf5.chg hc6 (fun _ _ _ h => h)
        have hsp : spineD true h T = P ++ [rid T'] := HSD.out.sp
        rw [← hsp] at hfx
        have HFX := Lib.hid hfx
        have c2 : w6.cell? ⟨t, 2, none⟩ = some (.pointer (some ⟨rid T, 0, none⟩)) := (HB.out.chg hc06 (fun b _ hm h => HOUT.out b hm h)).c2
        clear hf5 hfx hsp
        go_wp2_with fail
        go_loopw [5] (fun nv wr => ∃ (h2 : Nat) (T2 : BT (Int × Int) h2), nv = .pointer (some ⟨rid T2, 0, none⟩) ∧ IsT H h2 T2 ∧ Sh mn mx h2 T2 ∧ (ids h2 T2).Nodup ∧ (toL h2 T2).length ≤ 1000000000000 ∧ 1 ≤ (its T2).length ∧ Fam (parM 0) wr F (bmp H (spineD true h2 T2) (-1)) ∧ Chg (fun b _ => F b) w wr ∧ wr.heap[b6]? = some (.cells #[.int .i64 y.1] 107 (0, 0))) (fun nv _ => mOf H nv)
        case atStart => exact ⟨h, T, rfl, HI.out.isT, HI.out.sh, HI.out.nd, hsz, h1, HFX.out, hc06, hb66⟩
        case round =>
          obtain ⟨h2, T2, rfl, hT2, hs2, hnd2, hbg2, hit2, hfm, hcw, hb6w⟩ := hrel
          clear c2
          have hsp1 : ∃ S, spineD true h2 T2 = rid T2 :: S ∧ rid T2 ∉ S := by
            rcases h2 with _ | h2
            · exact ⟨[], rfl, by simp⟩
            · obtain ⟨c, hc⟩ := side_kid (d := true) hs2
              exact ⟨_, spineD_cons hc, spineD_head hnd2 hc⟩
          obtain ⟨S, hS1, hS2⟩ := hsp1
          rw [hS1] at hfm
          have hrec : bmp H (rid T2 :: S) (-1) (rid T2) = some { recOf h2 T2 with cnt := (recOf h2 T2).cnt + -1 } := bmp_in List.mem_cons_self hT2.root
          obtain ⟨ln, hnn⟩ := hfm.node hrec
          have n1 : wr.cell? ⟨rid T2, 1, none⟩ = some (.int .i64 ((recOf h2 T2).cnt + -1)) := hnn.c1
          rw [recOf_cnt] at n1
          replace n1 : wr.cell? ⟨rid T2, 1, none⟩ = some (.int .i64 (((toL h2 T2).length : Int) - 1)) := n1
          have fz := hnn.fz 1
          have s1 : IntKind.i64.wrap (((toL h2 T2).length : Int) - 1 + 1) = ((toL h2 T2).length : Int) := by rw [IntWalk.i64_in _ (by omega)]; omega
          have s2 : ((toL h2 T2).length : Int) - 1 + 1 = ((toL h2 T2).length : Int) := by omega
          have hrcs : ({ recOf h2 T2 with cnt := ((toL h2 T2).length : Int) } : NodeR (Int × Int)) = recOf h2 T2 := by rw [← recOf_cnt]
          have hback : upd (bmp H (rid T2 :: S) (-1)) (rid T2) { recOf h2 T2 with cnt := ((toL h2 T2).length : Int) } = bmp H S (-1) := by rw [hrcs]; exact bmp_cons hS2 hT2.root
          have h1x := hfm.setCnt hrec ((toL h2 T2).length : Int)
          have h1x2 : Fam (parM 0) (wr.setCell ⟨rid T2, 1, none⟩ (.int .i64 ((toL h2 T2).length : Int))) F (bmp H S (-1)) ∧ Chg (fun b _ => F b) wr (wr.setCell ⟨rid T2, 1, none⟩ (.int .i64 ((toL h2 T2).length : Int))) := by rw [← hback]; exact h1x
          have HFIN := Lib.hid h1x2
          have HS1 := Lib.hid hS1
          have HS2 := Lib.hid hS2
          have HBW := Lib.hid hb6w
          clear h1x h1x2 hback hrcs hrec hnn hfm hS1 hS2 hb6w
          go_wp2_with fail
          try rw [s2]
          refine name_calls (fun wx => Fam (parM 0) wx F (bmp H S (-1)) ∧ Chg (fun b _ => F b) wr wx) HFIN.out ?_
          clear n1 fz s1 s2 HFIN
          rintro wx ⟨hfx, hcx⟩
          have hbx : wx.heap[b6]? = some (.cells #[.int .i64 y.1] 107 (0, 0)) := by rw [hcx.block (heap_lt HBW.out) (fun _ h => NF6.out h)]; exact HBW.out
          clear HBW
          rcases h2 with _ | h2
          · obtain rfl : S = [] := (List.cons.inj (show [T2.1] = rid T2 :: S from HS1.out)).2.symm
            rw [bmp_nil] at hfx
            obtain ⟨lx, hnx⟩ := hfx.node hT2.root
            have n3 := hnx.c3n rfl
            have hcr := hcw.trans hcx
            have hy : fndL ltM y (toL h T) = some y := fnd_mem HI.out.srt (List.mem_of_getElem? HYI.out)
            have hIX : TreeIn 0 mn mx wx F H t h T := ⟨hfx, HI.out.map.chg hcr (fun b _ hm h => HOUT.out b hm h), HI.out.out, HI.out.isT, HI.out.nd, HI.out.sh, HI.out.srt, HI.out.big, HI.out.m3, HI.out.m1000, HI.out.mh, HI.out.mh2⟩
            have hdel := delete_tree_hit y y hIX (HB.out.chg hcr (fun b _ hm h => HOUT.out b hm h)) h1 hmn hy
            have HDEL := Lib.hid hdel
            have HCRX := Lib.hid hcr
            have p6 := cell_of_block hbx 0
            simp only [List.getElem?_toArray, List.getElem?_cons_zero] at p6
            have HBX := Lib.hid hbx
            have HY := Lib.hid hy
            clear hdel hIX hnx hfx hcr hbx hy
            refine (leaf_any _ none _ n3).mono ?_
            rintro e w' ⟨rfl, rfl⟩
            go_wp2_with fail
            refine HDEL.out.mono ?_
            rintro e wd ⟨hret, F', hMd, hcd, hFd⟩
            have he : e = .returned (.tuple #[.agg #[], .bool true]) := by
              rcases hret with ⟨z, hz, e1⟩ | ⟨hz, _⟩
              · exact e1
              · rw [HY.out] at hz; cases hz
            subst he
            rw [delL_at HI.out.srt HYI.out, HOFF.out] at hMd
            have hbd : wd.heap[b6]? = some (.cells #[.int .i64 y.1] 107 (0, 0)) := by rw [hcd.block (heap_lt HBX.out) (fun _ h => h.elim NF6.out (fun h => hb6t h))]; exact HBX.out
            have HMD := Lib.hid hMd
            have HCD := Lib.hid hcd
            have HFD := Lib.hid hFd
            have HBD := Lib.hid hbd
            clear hMd hcd hFd hret hbd p6
            go_wp2_with fail
            refine name_world (fun we => Chg (fun _ _ => False) wd we) ?_ ?_
            · repeat (first | refine Chg.drew ?_ | refine Chg.drewN ?_ _ | refine Chg.setCell ?_ (.inr (Nat.le_refl _)) _ | refine Chg.alloc ?_ _ | exact Chg.refl _ _)
            intro we hce
            have pz6 := block_pz (show we.drew.heap[b6]? = some (.cells #[.int .i64 y.1] 107 (0, 0)) from (by rw [hd_drew, hce.block (heap_lt HBD.out) (fun _ h => h)]; exact HBD.out)) 0
            have p6 := cell_of_block (show we.drew.heap[b6]? = some (.cells #[.int .i64 y.1] 107 (0, 0)) from (by rw [hd_drew, hce.block (heap_lt HBD.out) (fun _ h => h)]; exact HBD.out)) 0
            simp only [List.getElem?_toArray, List.getElem?_cons_zero] at p6
            refine wp_region_scr (fun w' => w'.cell? ⟨b6, 0, none⟩ = some (.int .i64 y.1) ∧ (partAt ⟨b6, 0, none⟩ 0 0).run Try.prog w' = .ok ⟨b6, 0, none⟩ w') (.soft 0 (.soft 1 (.soft 2 (.soft 3 (.hard 4 (.soft 5 .nil)))))) (by kernel_rfl) (by kernel_rfl) (fun _ _ _ _ _ h => h) ⟨p6, pz6⟩ ?_
            repeat
              first
              | (refine scr_soft (by rfl) ?_ ?_ ?_ ?_
                 rotate_left
                 · simp [Region.wanted, yielded]; done
                 · intro w' hS
                   try obtain ⟨a1, a2⟩ := hS
                   go_simp
                   try with_reducible rfl
                 simp only [Act.put, List.setIfInBounds_toArray, List.set_cons_zero, List.set_cons_succ])
              | (refine scr_skip (by rfl) ?_ ?_
                 · simp [Region.wanted, yielded]; done
                 simp only [Act.put, List.setIfInBounds_toArray, List.set_cons_zero, List.set_cons_succ])
            refine scr_hard (by rfl) (by simp [Region.wanted, yielded]) (fun K hK => ?_)
            go_simp
            refine hK _ _ ⟨p6, pz6⟩ ?_
            clear hK K
            repeat
              first
              | (refine scr_soft (by rfl) ?_ ?_ ?_ ?_
                 rotate_left
                 · simp [Region.wanted, yielded]; done
                 · intro w' hS
                   try obtain ⟨a1, a2⟩ := hS
                   go_simp
                   try with_reducible rfl
                 simp only [Act.put, List.setIfInBounds_toArray, List.set_cons_zero, List.set_cons_succ])
              | (refine scr_skip (by rfl) ?_ ?_
                 · simp [Region.wanted, yielded]; done
                 simp only [Act.put, List.setIfInBounds_toArray, List.set_cons_zero, List.set_cons_succ])
            refine scr_nil ?_
            go_wp2_with fail
            refine bodyPost_ret (v := .tuple #[.int .i64 y.1, .agg #[], .bool true]) (by simp [results, Try.results164, go_sem]) rfl ?_
            have hcl2 : Chg (fun _ _ => False) wd we.drew := hce.drew
            refine ⟨by rw [HPF.out]; rfl, F', ?_, (HCRX.out.mono (B := fun b _ => F b ∨ b = t) (fun _ _ _ h => .inl h)).trans' (HCD.out.trans (hcl2.mono (fun _ _ _ h => h.elim))) (fun _ _ _ h => h) (fun b o hb h => ?_), fun b hb => ?_⟩
            · exact (show MapE mn mx wd F' t (popL true (toL h T)) from HMD.out).chg hcl2
            · exact h
            · rcases HFD.out b hb with h | h
              · exact .inl h
              · exact .inr (Nat.le_trans HCRX.out.size h)
          · obtain ⟨c, hc3⟩ := side_kid (d := true) hs2
            obtain rfl : S = spineD true h2 c := by
              have := HS1.out
              rw [spineD_cons hc3] at this
              exact (List.cons.inj this).2.symm
            have hcm3 : c ∈ T2.2.2 := List.mem_of_getElem? hc3
            have hk : (recOf (h2 + 1) T2).kids = some (T2.2.2.map fun c => some (rid c)) := rfl
            have hrr : bmp H (spineD true h2 c) (-1) (rid T2) = some (recOf (h2 + 1) T2) := (bmp_out HS2.out).trans hT2.root
            obtain ⟨lx, hnx⟩ := hfx.node hrr
            have n3 := hnx.c3s hk
            have nc := hnx.cc hk
            rw [List.length_map] at nc
            have hkl2 : T2.2.2.length = T2.2.1.length + 1 := hs2.2.1
            have kc : wx.cell? ⟨lx.cb, lx.co + sideI true T2.2.1.length, none⟩ = some (.pointer (some ⟨rid c, 0, none⟩)) := hnx.kidc hk (j := sideI true T2.2.1.length) (o := some (rid c)) (by simp [hc3])
            have hbg3 : (toL h2 c).length ≤ 1000000000000 := Nat.le_trans (kid_leD hs2 hcm3) hbg2
            have hgt2 := kid_lt hs2 hcm3 hit2
            have m1 := mOf_root hT2
            have m2 := mOf_root (hT2.kid hcm3)
            have hks : mn ≤ (its c).length := (hs2.2.2 c hcm3).1
            have b1 : (0 : Int) < (T2.2.2.length : Int) := by omega
            have b2 : 0 < T2.2.2.length := by omega
            have kc' : wx.cell? ⟨lx.cb, lx.co + (T2.2.2.length - 1), none⟩ = some (.pointer (some ⟨rid c, 0, none⟩)) := (by rw [hkl2, Nat.add_sub_cancel]; exact kc); have hkx : T2.2.1.length ≤ mx := hs2.1; have i4 : (1 : Int) ≤ (T2.2.2.length : Int) := (by omega); have i0 : (0 : Int) ≤ (T2.2.2.length : Int) - 1 := (by omega); have i1 : (T2.2.2.length : Int) - 1 < (T2.2.2.length : Int) := (by omega); have i2 : ((T2.2.2.length : Int) - 1).toNat = T2.2.2.length - 1 := (by omega); have i3 : IntKind.i64.wrap ((T2.2.2.length : Int) - 1) = (T2.2.2.length : Int) - 1 := IntWalk.i64_in _ (by omega); clear kc hkl2
            have HFXX := Lib.hid hfx
            have HCX := Lib.hid (hcw.trans hcx)
            have HBX := Lib.hid hbx
            clear hnx hfx hbx
            refine (leaf_any _ (some ⟨lx.cc, 0, none⟩) _ n3).mono ?_
            rintro e w' ⟨rfl, rfl⟩
            go_wp2_with fail
            go_quiet (fail); go_wp2_with fail
            go_roundw
            case rel => exact ⟨h2, c, rfl, hT2.kid hcm3, (hs2.2.2 c hcm3).2, nodup_kid hnd2 hcm3, hbg3, by omega, HFXX.out.chg ((Chg.refl (fun _ _ => False) _).drewN _) (fun _ _ _ h => h), HCX.out.drewN _, HBX.out⟩
            case measure => rw [m1, m2]; exact hgt2
      · have hcmp : ((T'.2.length : Int) == (mn : Int)) = false := beq_eq_false_iff_ne.2 (by omega)
        have HLM := Lib.hid hlm
        clear hlm
        go_quiet (fail)
        refine name_prop (fun w6 => Chg (fun _ _ => False) w5 w6) ((Chg.refl _ _).drewN _) ?_
        intro w6 hc6
        go_wp2_with fail
        have hc06 := hc05.trans (hc6.mono (B := fun b _ => F b) (fun _ _ _ h => h.elim))
        replace HB6 := Lib.hid (show w6.heap[b6]? = some (.cells #[.int .i64 y.1] 107 (0, 0)) by rw [hc6.block (heap_lt HB6.out) (fun _ h => h)]; exact HB6.out)
        have hf6 := hf5.chg hc6 (fun _ _ _ h => h)
        obtain ⟨r, hrd⟩ : ∃ r : NodeR (Int × Int), r = ⟨((T'.2.length : Nat) : Int) + -1, T'.2, none⟩ := ⟨_, rfl⟩
        have hr6 : bmp H (P ++ [rid T']) (-1) (rid T') = some r := by rw [hrd]; exact HR4.out
        have hri : r.items.length = T'.2.length := by rw [hrd]
        have hlr0 : 1 ≤ r.items.length := by omega
        have hlr1 : r.items.length ≤ 1000 := by omega
        have HRD0 := Lib.hid hrd
        obtain ⟨l, hna, hb, ho, cl⟩ := hf6.work hr6
        have HM := Lib.hid (HI.out.map.chg hc06 (fun b _ hm h => HOUT.out b hm h))
        have HRN := Lib.hid (Run.start hna)
        have HCL2 := Lib.hid cl
        have HBF := Lib.hid hb
        have HRI := Lib.hid hri
        clear hri hrd hna hb ho cl hf5 hf6 hr6 n2 e6 hcmp
        have N2 : w6.cell? ⟨rid T', 2, none⟩ = some (.slice (some ⟨l.ib, l.io, none⟩) r.items.length l.ic) := HRN.out.at_.c2
        have hm1 := HM.out.chg HRN.out.chg (fun b o hm h => HOUT.out b hm (HBF.out _ h.blk))
        have e4 := hm1.c4
        have hlenc : r.items.length ≤ l.ic := HRN.out.at_.len
        have s0 : (0 : Int) ≤ (r.items.length : Int) - 1 := by omega
        have s2 : (r.items.length : Int) - 1 < (r.items.length : Int) := by omega
        have s3 : ((r.items.length : Int) - 1).toNat = r.items.length - 1 := by omega
        have s1 : IntKind.i64.wrap ((r.items.length : Int) - 1) = (r.items.length : Int) - 1 := IntWalk.i64_in _ (by omega)
        have hlt : r.items.length - 1 < r.items.length := by omega
        have z0 := HRN.out.at_.ifz (l.io + (r.items.length - 1))
        obtain ⟨y6, hy6⟩ : ∃ y, r.items[r.items.length - 1]? = some y := ⟨_, List.getElem?_eq_getElem hlt⟩
        have iv := HRN.out.at_.mval (j := r.items.length - 1) hy6
        have r8 := (HRN.out.still ((Chg.refl _ _).drew)).setItemM (r.items.length - 1) ((0, 0) : Int × Int) hlt
        have HR8 := Lib.hid r8
        clear hm1 hy6 r8
        go_still_tail 14, (by kernel_rfl)
        go_upto_region 10 with fail
        refine name_world (fun wz => ∃ ys, ys.length = r.items.length ∧ ys.take (r.items.length - 1) = r.items.take (r.items.length - 1) ∧ Run (parM 0) w6 (rid T') r l wz ⟨r.cnt, ys, r.kids⟩ l) ⟨_, List.length_set, take_set_last _ _ _, HR8.out⟩ ?_
        clear N2 e4 hlenc s0 s1 s2 s3 hlt z0 iv HR8 HRN y6
        rintro wv ⟨y4, hly4, hy4, hR⟩
        replace hly4 := Lib.hid hly4
        replace hy4 := Lib.hid hy4
        have HRN := Lib.hid hR
        clear hR
        have hyb2 : 1 ≤ y4.length ∧ y4.length ≤ 1001 := by rw [hly4.out]; omega
        have N2 : wv.cell? ⟨rid T', 2, none⟩ = some (.slice (some ⟨l.ib, l.io, none⟩) y4.length l.ic) := HRN.out.at_.c2
        have z2 := HRN.out.at_.fz 2
        have hlenc : y4.length ≤ l.ic := HRN.out.at_.len
        have s0 : (0 : Int) ≤ (y4.length : Int) - 1 := by omega
        have s2 : (y4.length : Int) - 1 ≤ (l.ic : Int) := by omega
        have s3 : ((y4.length : Int) - 1).toNat = y4.length - 1 := by omega
        have s1 : IntKind.i64.wrap ((y4.length : Int) - 1) = (y4.length : Int) - 1 := IntWalk.i64_in _ (by omega)
        have ck : ¬ l.ic = 0 := by omega
        have s6 : ¬ ((y4.length : Int) < 1) := by omega
        have s7 : (1 : Int) ≤ (y4.length : Int) := by omega
        have r8 := (HRN.out.still ((Chg.refl _ _).drew)).cut 0 (y4.length - 1) l.ic (by show 0 + (y4.length - 1) ≤ y4.length; omega) (by omega) (by omega)
        simp only [Nat.zero_mul, Nat.add_zero, List.drop_zero] at r8
        have HR8 := Lib.hid r8
        clear r8
        go_still_tail 12, (by kernel_rfl)
        go_upto_region 11 with fail
        refine name_world (fun wz => Run (parM 0) w6 (rid T') r l wz ⟨r.cnt, y4.take (y4.length - 1), r.kids⟩ l) HR8.out ?_
        clear N2 z2 hlenc s0 s1 s2 s3 s6 s7 ck HR8 HRN
        rintro w9 hR
        have HRN := Lib.hid hR
        clear hR
        have hit4 : y4.take (y4.length - 1) = T'.2.take (T'.2.length - 1) ++ T'.2.drop (T'.2.length - 1 + 1) := by
          have h2 := hy4.out
          rw [← hly4.out] at h2
          have h3 := hly4.out
          rw [h2, h3, HRD0.out, List.drop_of_length_le (by omega), List.append_nil]
        have hR9 := HRN.out
        rw [hit4] at hR9
        have hre : (⟨r.cnt, T'.2.take ((T'.2.length - 1)) ++ T'.2.drop ((T'.2.length - 1) + 1), r.kids⟩ : NodeR (Int × Int)) = ⟨((T'.2.length : Nat) : Int) + -1, T'.2.take ((T'.2.length - 1)) ++ T'.2.drop ((T'.2.length - 1) + 1), none⟩ := by rw [HRD0.out]
        rw [hre] at hR9
        obtain ⟨f9, g9⟩ := HCL2.out _ _ _ hR9
        have hql2 : (T'.2.length - 1) < T'.2.length := by omega
        rw [leaf_fam hT' hrP hql2] at f9
        have hD := delIn_leaf (mn := mn) (mx := mx) (H := H) hnd' hs' hql2
        have hl2 : (T'.2.take ((T'.2.length - 1)) ++ T'.2.drop ((T'.2.length - 1) + 1)).length + 1 = T'.2.length := by simp; omega
        obtain ⟨Tf, d1, d2, d3, d4⟩ := HCL.out _ _ hD (fun hp => by
          show mn ≤ (T'.2.take ((T'.2.length - 1)) ++ T'.2.drop ((T'.2.length - 1) + 1)).length
          have h1 : mn ≤ T'.2.length := hm' hp
          have := HLM.out
          omega) hl2
        have hlist : toL h Tf = popL true (toL h T) := by
          unfold popL
          rw [← HOFF.out, d2, HL.out, ← HA.out]
          exact cut_mid A T'.2 C ((T'.2.length - 1)) hql2
        have hil := (List.getElem?_eq_some_iff.1 HYI.out).1
        have hlenf : (toL h Tf).length + 1 = (toL h T).length := by
          rw [hlist]; unfold popL; rw [← HOFF.out]; simp; omega
        have hone : 2 ≤ (toL h T).length → 1 ≤ (its Tf).length := by
          intro h2
          by_cases hp : P = []
          · rw [d3 hp]
            have h3 : (toL h T).length = T'.2.length := HRD.out.root hp
            show 1 ≤ (T'.2.take ((T'.2.length - 1)) ++ T'.2.drop ((T'.2.length - 1) + 1)).length
            omega
          · rw [d4 hp]; exact h1
        have hc09 := hc06.trans g9
        have hb69 : w9.heap[b6]? = some (.cells #[.int .i64 y.1] 107 (0, 0)) := by rw [g9.block (heap_lt HB6.out) (fun _ h => NF6.out h)]; exact HB6.out
        have hB9 := HB.out.chg hc09 (fun b _ hm h => HOUT.out b hm h)
        have c3 := hB9.c3
        have z3 := hB9.fz 3
        have z2 := hB9.fz 2
        have c2 := hB9.c2
        have hszg := g9.size
        have s1 : IntKind.i64.wrap (((toL h T).length : Int) - 1) = ((toL h T).length : Int) - 1 := IntWalk.i64_in _ (by omega)
        have HF9 := Lib.hid f9
        have HB9 := Lib.hid hB9
        have HD1 := Lib.hid d1
        have HLIST := Lib.hid hlist
        have HONE := Lib.hid hone
        have HC09 := Lib.hid hc09
        have HC06 := Lib.hid hc06
        have HLF := Lib.hid hlenf
        have HB69 := Lib.hid hb69
        have htF9 : ∀ b, MOwn 0 t b → ¬ grow F w6 w9 b := fun b hm h => by
          rcases h with h | h
          · exact HOUT.out b hm h
          · have := HOL.out b hm; have := hc06.size; have := h.1; omega
        have HT9 := Lib.hid htF9
        clear f9 hB9 d1 d2 d3 d4 hlist hone hD hR9 hre hit4 HRN htF9 hc09 hc06 hl2 hil hlenf hb69 HB6
        by_cases hone1 : (toL h T).length = 1
        · have hz : (((toL h T).length : Int) - 1 == 0) = true := by rw [hone1]; rfl
          have HON := Lib.hid hone1
          clear hone1
          go_upto_region 14 with fail
          have hcl : Chg (fun b _ => b = t) w9 ((w9.setCell ⟨t, 3, none⟩ (.int .i64 (((toL h T).length : Int) - 1))).setCell ⟨t, 2, none⟩ (.pointer none)) := ((Chg.refl _ _).setCell (.inl rfl) _).setCell (.inl rfl) _
          have hBz := (HB9.out.setCnt (((toL h T).length : Int) - 1)).setRoot none
          have ez : ((toL h T).length : Int) - 1 = 0 := by have := HON.out; omega
          rw [ez] at hBz hcl ⊢
          refine name_world (fun wf => Chg (fun b _ => b = t) w9 wf ∧ MapBlk 0 mn mx wf t none 0) ⟨hcl, hBz⟩ ?_
          clear hcl hBz ez c3 c2 z2 z3 s1 hz
          rintro wf ⟨hcl, hBz⟩
          have pz6 := block_pz (show wf.drew.heap[b6]? = some (.cells #[.int .i64 y.1] 107 (0, 0)) from (by rw [hd_drew, hcl.block (heap_lt HB69.out) (fun _ h => hb6t h)]; exact HB69.out)) 0
          have p6 := cell_of_block (show wf.drew.heap[b6]? = some (.cells #[.int .i64 y.1] 107 (0, 0)) from (by rw [hd_drew, hcl.block (heap_lt HB69.out) (fun _ h => hb6t h)]; exact HB69.out)) 0
          simp only [List.getElem?_toArray, List.getElem?_cons_zero] at p6
          refine wp_region_scr (fun w' => w'.cell? ⟨b6, 0, none⟩ = some (.int .i64 y.1) ∧ (partAt ⟨b6, 0, none⟩ 0 0).run Try.prog w' = .ok ⟨b6, 0, none⟩ w') (.soft 0 (.soft 1 (.soft 2 (.soft 3 (.soft 4 (.hard 5 (.soft 6 .nil))))))) (by kernel_rfl) (by kernel_rfl) (fun _ _ _ _ _ h => h) ⟨p6, pz6⟩ ?_
          repeat
            first
            | (refine scr_soft (by rfl) ?_ ?_ ?_ ?_
               rotate_left
               · simp [Region.wanted, yielded]; done
               · intro w' hS
                 try obtain ⟨a1, a2⟩ := hS
                 go_simp
                 try with_reducible rfl
               simp only [Act.put, List.setIfInBounds_toArray, List.set_cons_zero, List.set_cons_succ])
            | (refine scr_skip (by rfl) ?_ ?_
               · simp [Region.wanted, yielded]; done
               simp only [Act.put, List.setIfInBounds_toArray, List.set_cons_zero, List.set_cons_succ])
          refine scr_hard (by rfl) (by simp [Region.wanted, yielded]) (fun K hK => ?_)
          go_simp
          refine hK _ _ ⟨p6, pz6⟩ ?_
          clear hK K
          repeat
            first
            | (refine scr_soft (by rfl) ?_ ?_ ?_ ?_
               rotate_left
               · simp [Region.wanted, yielded]; done
               · intro w' hS
                 try obtain ⟨a1, a2⟩ := hS
                 go_simp
                 try with_reducible rfl
               simp only [Act.put, List.setIfInBounds_toArray, List.set_cons_zero, List.set_cons_succ])
            | (refine scr_skip (by rfl) ?_ ?_
               · simp [Region.wanted, yielded]; done
               simp only [Act.put, List.setIfInBounds_toArray, List.set_cons_zero, List.set_cons_succ])
          refine scr_nil ?_
          go_wp2_with fail
          refine bodyPost_ret (v := .tuple #[.int .i64 y.1, .agg #[], .bool true]) (by simp [results, Try.results164, go_sem]) rfl ?_
          refine ⟨by rw [HPF.out]; rfl, fun _ => False, .inr ⟨?_, fun _ h => h, hBz.chg ((Chg.refl (fun _ _ => False) _).drew) (fun _ _ _ h => h)⟩, ?_, fun _ h => h.elim⟩
          · rw [← HLIST.out]; exact List.eq_nil_of_length_eq_zero (by have := HON.out; have := HLF.out; omega)
          · exact (HC09.out.mono (B := fun b _ => F b ∨ b = t) (fun _ _ _ h => .inl h)).trans' hcl.drew (fun _ _ _ h => h) (fun _ _ _ h => .inr h)
        · have hz : (((toL h T).length : Int) - 1 == 0) = false := beq_eq_false_iff_ne.2 (by omega)
          go_upto_region 14 with fail
          have hBf := HB9.out.setCnt (((toL h T).length : Int) - 1)
          have ez : ((toL h T).length : Int) - 1 = ((toL h Tf).length : Int) := by have := HLF.out; omega
          have hcs : Chg (fun b _ => b = t) w9 (w9.setCell ⟨t, 3, none⟩ (.int .i64 (((toL h T).length : Int) - 1))) := (Chg.refl (fun b _ => b = t) w9).setCell (.inl rfl) _
          rw [ez] at hBf hcs ⊢
          refine name_world (fun wf => Chg (fun b _ => b = t) w9 wf ∧ MapBlk 0 mn mx wf t (some (rid T)) ((toL h Tf).length : Int)) ⟨hcs, hBf⟩ ?_
          clear hcs hBf ez c3 c2 z2 z3 s1 hz
          rintro wf ⟨hcs, hBf⟩
          have pz6 := block_pz (show wf.drew.heap[b6]? = some (.cells #[.int .i64 y.1] 107 (0, 0)) from (by rw [hd_drew, hcs.block (heap_lt HB69.out) (fun _ h => hb6t h)]; exact HB69.out)) 0
          have p6 := cell_of_block (show wf.drew.heap[b6]? = some (.cells #[.int .i64 y.1] 107 (0, 0)) from (by rw [hd_drew, hcs.block (heap_lt HB69.out) (fun _ h => hb6t h)]; exact HB69.out)) 0
          simp only [List.getElem?_toArray, List.getElem?_cons_zero] at p6
          refine wp_region_scr (fun w' => w'.cell? ⟨b6, 0, none⟩ = some (.int .i64 y.1) ∧ (partAt ⟨b6, 0, none⟩ 0 0).run Try.prog w' = .ok ⟨b6, 0, none⟩ w') (.soft 0 (.soft 1 (.soft 2 (.soft 3 (.soft 4 (.hard 5 (.soft 6 .nil))))))) (by kernel_rfl) (by kernel_rfl) (fun _ _ _ _ _ h => h) ⟨p6, pz6⟩ ?_
          repeat
            first
            | (refine scr_soft (by rfl) ?_ ?_ ?_ ?_
               rotate_left
               · simp [Region.wanted, yielded]; done
               · intro w' hS
                 try obtain ⟨a1, a2⟩ := hS
                 go_simp
                 try with_reducible rfl
               simp only [Act.put, List.setIfInBounds_toArray, List.set_cons_zero, List.set_cons_succ])
            | (refine scr_skip (by rfl) ?_ ?_
               · simp [Region.wanted, yielded]; done
               simp only [Act.put, List.setIfInBounds_toArray, List.set_cons_zero, List.set_cons_succ])
          refine scr_hard (by rfl) (by simp [Region.wanted, yielded]) (fun K hK => ?_)
          go_simp
          refine hK _ _ ⟨p6, pz6⟩ ?_
          clear hK K
          repeat
            first
            | (refine scr_soft (by rfl) ?_ ?_ ?_ ?_
               rotate_left
               · simp [Region.wanted, yielded]; done
               · intro w' hS
                 try obtain ⟨a1, a2⟩ := hS
                 go_simp
                 try with_reducible rfl
               simp only [Act.put, List.setIfInBounds_toArray, List.set_cons_zero, List.set_cons_succ])
            | (refine scr_skip (by rfl) ?_ ?_
               · simp [Region.wanted, yielded]; done
               simp only [Act.put, List.setIfInBounds_toArray, List.set_cons_zero, List.set_cons_succ])
          refine scr_nil ?_
          go_wp2_with fail
          refine bodyPost_ret (v := .tuple #[.int .i64 y.1, .agg #[], .bool true]) (by simp [results, Try.results164, go_sem]) rfl ?_
          have hFf := HF9.out.chg hcs.drew (fun b o hb e => HT9.out t MOwn.self (e ▸ hb))
          have hBf' := hBf.chg ((Chg.refl (fun _ _ => False) _).drew) (fun _ _ _ h => h)
          have hsl : (toL h Tf).Sublist (toL h T) := by
            rw [HLIST.out]
            unfold popL
            have := (List.drop_sublist 1 ((toL h T).drop (sideI true ((toL h T).length - 1))))
            rw [List.drop_drop] at this
            have h2 := (List.Sublist.refl ((toL h T).take (sideI true ((toL h T).length - 1)))).append this
            rw [List.take_append_drop] at h2
            exact h2
          refine ⟨by rw [HPF.out]; rfl, grow F w6 w9, .inl (.inr ⟨_, h, Tf, ⟨hFf, hBf'.at_, HT9.out, HD1.out.isT, HD1.out.nd, HD1.out.sh, HI.out.srt.sublist hsl, Nat.le_trans hsl.length_le HI.out.big, HI.out.m3, HI.out.m1000, HI.out.mh, HI.out.mh2⟩, ?_, HLIST.out, HONE.out (by have := HLF.out; omega)⟩), ?_, fun b hb => ?_⟩
          · rw [HD1.out.rid']; exact hBf'
          · exact (HC09.out.mono (B := fun b _ => F b ∨ b = t) (fun _ _ _ h => .inl h)).trans' hcs.drew (fun _ _ _ h => h) (fun b o hb e => .inr e)
          · rcases hb with hb | hb
            · exact .inl hb
            · exact .inr (by have := hb.1; have := HC06.out.size; omega)
    · obtain ⟨l3, hn3⟩ := hf4.node hrec4
      obtain ⟨c, hcj⟩ := side_kid (d := true) hs'
      have hk : (recOf (h' + 1) T').kids = some (T'.2.2.map fun c => some (rid c)) := rfl
      have n3 := hn3.c3s hk
      have nc := hn3.cc hk
      rw [List.length_map] at nc
      have hkl : T'.2.2.length = T'.2.1.length + 1 := hs'.2.1
      have hkm : T'.2.1.length ≤ mx := hs'.1
      have hcm : c ∈ T'.2.2 := List.mem_of_getElem? hcj
      have kc0 : w4.cell? ⟨l3.cb, l3.co + T'.2.1.length, none⟩ = some (.pointer (some ⟨rid c, 0, none⟩)) := hn3.kidc hk (j := sideI true T'.2.1.length) (o := some (rid c)) (by simp [hcj])
      have kc : w4.cell? ⟨l3.cb, l3.co + (T'.2.2.length - 1), none⟩ = some (.pointer (some ⟨rid c, 0, none⟩)) := by rw [hkl, Nat.add_sub_cancel]; exact kc0
      have hrc : bmp H (P ++ [rid T']) (-1) (rid c) = some (recOf h' c) := (bmp_out (fun hm => by
        rcases List.mem_append.1 hm with hm | hm
        · exact (hPo _ hm).1 (ids_kid hcm (rid_mem c))
        · rw [List.mem_singleton] at hm; exact nodup_root hnd' hcm (hm ▸ rid_mem c))).trans (hT'.kid hcm).root
      obtain ⟨lc, hnc⟩ := hf4.node hrc
      have nc0 := hnc.c0
      have cw0 := (HI.out.map.chg hc04 (fun b _ hm h => HOUT.out b hm h)).c0
      have hgt2 := kid_lt hs' hcm hit
      have m1 := mOf_root hT'
      have m2 := mOf_root (hT'.kid hcm)
      have i4 : (1 : Int) ≤ (T'.2.2.length : Int) := by omega
      have i0 : (0 : Int) ≤ (T'.2.2.length : Int) - 1 := by omega
      have i1 : (T'.2.2.length : Int) - 1 < (T'.2.2.length : Int) := by omega
      have i2 : ((T'.2.2.length : Int) - 1).toNat = T'.2.2.length - 1 := by omega
      have i3 : IntKind.i64.wrap ((T'.2.2.length : Int) - 1) = (T'.2.2.length : Int) - 1 := IntWalk.i64_in _ (by omega)
      have hks : mn ≤ (its c).length := (hs'.2.2 c hcm).1
      have HF4 := Lib.hid hf4
      have HB6 := Lib.hid hb64
      have HSS := Lib.hid (HSD.out.step hs' hcj)
      have HRS := Lib.hid (HRD.out.snoc hcj)
      clear hn3 hnc hf4 hrec4 hrc hcj kc0 hkl hb64
      go_wp2_with (go_at_call 162; refine (leaf_any _ (some ⟨l3.cc, 0, none⟩) _ n3).mono ?_; rintro e w' ⟨rfl, rfl⟩)
      refine wp_region_scr (fun w' => w'.cell? ⟨rid T', 3, none⟩ = some (.pointer (some ⟨l3.cc, 0, none⟩)) ∧ w'.cell? ⟨l3.cc, 0, none⟩ = some (.slice (some ⟨l3.cb, l3.co, none⟩) T'.2.2.length l3.ck)) (.soft 0 (.soft 1 (.soft 2 (.soft 3 (.soft 4 (.soft 5 (.soft 6 (.soft 7 (.soft 8 (.soft 9 (.soft 10 (.soft 11 (.soft 12 (.soft 13 (.soft 14 (.soft 15 (.hard 16 (.soft 17 .nil)))))))))))))))))) (by kernel_rfl) (by kernel_rfl) (fun _ _ _ _ _ h => h) ⟨n3, nc⟩ ?_
      repeat
        first
        | (refine scr_soft (by rfl) ?_ ?_ ?_ ?_
           rotate_left
           · simp [Region.wanted, yielded]; done
           · intro w' hS
             try obtain ⟨a1, a2⟩ := hS
             go_simp
             try with_reducible rfl
           simp only [Act.put, List.setIfInBounds_toArray, List.set_cons_zero, List.set_cons_succ])
        | (refine scr_skip (by rfl) ?_ ?_
           · simp [Region.wanted, yielded]; done
           simp only [Act.put, List.setIfInBounds_toArray, List.set_cons_zero, List.set_cons_succ])
      refine scr_hard (by rfl) (by simp [Region.wanted, yielded]) (fun K hK => ?_)
      go_simp
      refine (isoLoad_any t (rid c) 0 _ _ w4.drew kc nc0 cw0).mono ?_
      rintro e w5 ⟨rfl, m, hw5⟩
      have hc5 : Chg (fun _ _ => False) w4 w5 := by rw [hw5]; exact (Chg.refl _ _).drew.drewN _
      refine hK _ _ ⟨hc5.cell (fun h => h) n3, hc5.cell (fun h => h) nc⟩ ?_
      clear hw5 hK K
      repeat
        first
        | (refine scr_soft (by rfl) ?_ ?_ ?_ ?_
           rotate_left
           · simp [Region.wanted, yielded]; done
           · intro w' hS
             try obtain ⟨a1, a2⟩ := hS
             go_simp
             try with_reducible rfl
           simp only [Act.put, List.setIfInBounds_toArray, List.set_cons_zero, List.set_cons_succ])
        | (refine scr_skip (by rfl) ?_ ?_
           · simp [Region.wanted, yielded]; done
           simp only [Act.put, List.setIfInBounds_toArray, List.set_cons_zero, List.set_cons_succ])
      refine scr_nil ?_
      go_wp2_with fail
      go_roundw
      case rel => exact ⟨h', c, _, _, P ++ [rid T'], rfl, HRS.out, HSS.out, by omega, HF4.out.chg hc5 (fun _ _ _ h => h), hc04.trans (hc5.mono (fun _ _ _ h => h.elim)), by rw [hc5.block (heap_lt HB6.out) (fun _ h => h)]; exact HB6.out⟩
      case measure => rw [m1, m2]; exact hgt2
end Go.Proofs.Ytjggkpmlffhjgaa
