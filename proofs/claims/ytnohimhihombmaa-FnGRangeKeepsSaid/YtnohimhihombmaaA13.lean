/- find with a hint or without one. -/
import Derived.ScopeJumps
import Derived.WalkMore
import Derived.Deep.Cut
import Derived.Deep.CutRange
import Derived.Test.YtnohimhihombmaaA12
namespace Go.Proofs.Ytnohimhihombmaa
set_option linter.unusedSimpArgs false
set_option linter.unusedVariables false
set_option maxRecDepth 100000
set_option maxHeartbeats 40000000
open Value renaming int → Ii, pointer → Ip, slice → Is, tuple → Iu
open IntKind renaming i64 → Ij
open Obj renaming cells → Ic
open Ending renaming returned → Ir
open Option.some renaming inj → Iq
open _root_.Go.Proofs.Try renaming prog → Tp
open List renaming setIfInBounds_toArray → zA, set_cons_zero → zB, set_cons_succ → zC, getElem?_cons_zero → zD, getElem?_cons_succ → zE, getElem?_toArray → zF, getElem?_eq_some_iff → zG, getElem?_eq_getElem → zH
open Region renaming wanted → zI
open Act renaming put → zJ
open Chg renaming refl → zK
open Lib renaming hid → zL
section
open Go.RowKit
section
variable {P:Program} {a:Act} {w:World} {Q:Exit→Act→World→Prop}
theorem jump_mono {l:Nat} {X:Act→World→Prop} {e:Exit} {a:Act} {w:World} (h:Exit.jump l (fun _ _=>False) Q e a w):Exit.jump l X Q e a w:=by
 cases e with
 | goto _=>exact h.2.elim
 | _=>exact h
theorem wp_scope_fwd {c tail:Code} (l:Nat) (J:Act→World→Prop) (hf:findLabel c l=some (.seq .skip tail))
  (pass:∀a w,J a w→tail.wp P (Exit.jump l (fun _ _=>False) Q) a w)
  (first:(∀a w,J a w→tail.wp P (Exit.jump l J Q) a w)→c.wp P (Exit.jump l J Q) a w):(Code.scope c).wp P Q a w:=by
 refine wp_scope_jumps l J (fun _ _=>0) hf (first fun a w h=>wp_mono (pass a w h) fun e a w h=>jump_mono h) fun a w h=>?_
 refine wp_seq (wp_skip ?_)
 exact wp_mono (pass a w h) fun e a w h=>jump_mono h
end
variable {α:Type} {u:α→α→Bool} {l:List α} {i j:Nat}
theorem srt_get (hs:Srt u l) {a b:α} (hij:i < j) (ha:l[i]?=some a) (hb:l[j]?=some b):u a b=true:=by
 obtain ⟨hi,rfl⟩:=zG.1 ha
 obtain ⟨hj,rfl⟩:=zG.1 hb
 exact List.pairwise_iff_getElem.1 hs i j hi hj hij
variable {x y z:α}
theorem srt_right (s:Swo u) (hs:Srt u l) (hy:l[i]?=some y) (h:u x y=true) (hij:i≤j) (hz:l[j]?=some z):u x z=true:=by
 rcases Nat.eq_or_lt_of_le hij with rfl | hlt
 ·rw [hy] at hz;obtain rfl:=Iq hz;exact h
 ·exact s.trans h (srt_get hs hlt hy hz)
theorem srt_left (s:Swo u) (hs:Srt u l) (hy:l[i]?=some y) (h:u y x=true) (hij:j≤i) (hz:l[j]?=some z):u z x=true:=by
 rcases Nat.eq_or_lt_of_le hij with rfl | hlt
 ·rw [hy] at hz;obtain rfl:=Iq hz;exact h
 ·exact s.trans (srt_get hs hlt hz hy) h
theorem srt_nright (s:Swo u) (hs:Srt u l) (hy:l[i]?=some y) (h:u x y=false) (hij:j≤i) (hz:l[j]?=some z):u x z=false:=by
 rcases Nat.eq_or_lt_of_le hij with rfl | hlt
 ·rw [hy] at hz;obtain rfl:=Iq hz;exact h
 ·cases h2:u x z with
  | false=>rfl
  | true =>
   have:=s.trans h2 (srt_get hs hlt hz hy)
   rw [h] at this;cases this
structure HintC (c:Array Value):Prop where
 sz:c.size=16
 used:∀o,o < 8→∃b,c[o]?=some (.bool b)
 path:∀o,o < 8→∃z:Int,0≤z∧z≤255∧c[8+o]?=some (.int .u8 z)
theorem HintC.setUsed {c:Array Value} (h:HintC c) {d:Nat} (hd:d < 8) (b:Bool):HintC (c.setIfInBounds d (.bool b)):=by
 refine ⟨by simpa using h.sz,fun o ho=>?_,fun o ho=>?_⟩
 ·by_cases e:d=o
  ·subst e;exact ⟨b,by rw [Array.getElem?_setIfInBounds_self_of_lt (by rw [h.sz];omega)]⟩
  ·rw [Array.getElem?_setIfInBounds_ne e];exact h.used o ho
 ·rw [Array.getElem?_setIfInBounds_ne (by omega)];exact h.path o ho
theorem HintC.setPath {c:Array Value} (h:HintC c) {d:Nat} (hd:d < 8) {z:Int} (h0:0≤z) (h1:z≤255):HintC (c.setIfInBounds (8+d) (.int .u8 z)):=by
 refine ⟨by simpa using h.sz,fun o ho=>?_,fun o ho=>?_⟩
 ·rw [Array.getElem?_setIfInBounds_ne (by omega)];exact h.used o ho
 ·by_cases e:d=o
  ·subst e;exact ⟨z,h0,h1,by rw [Array.getElem?_setIfInBounds_self_of_lt (by rw [h.sz];omega)]⟩
  ·rw [Array.getElem?_setIfInBounds_ne (by omega)];exact h.path o ho
def HintB (b:Nat) (w:World):Prop:=∃c,w.heap[b]?=some (.cells c 93 (0,0))∧HintC c
theorem HintB.chg {A:Nat→Nat→Prop} {b:Nat} {w w':World} (h:HintB b w) (c:Chg A w w') (hA:∀o,¬A b o):HintB b w':=by
 obtain ⟨x,h1,h2⟩:=h
 exact ⟨x,by rw [c.block (kbF h1) hA];exact h1,h2⟩
variable {w:World}
theorem HintB.lt {b:Nat} (h:HintB b w):b < w.heap.size:=by
 obtain ⟨x,h1,h2⟩:=h
 exact kbF h1
def HintJ {ord:List Int} (t n hb kb d:Nat) (xs:List (It ord)) (x:It ord) (w:World) (a:Act) (w':World):Prop :=
 ∃(i:Nat) (f:Bool) (u:Nat→Value),a={ tmps:=#[Ip (some ⟨t,0,none⟩),Ip (some ⟨n,0,none⟩),u 2,Ip (some ⟨hb,0,none⟩),Ii Ij (d:Int),u 5,u 6,Ip (some ⟨kb,0,none⟩),u 8,u 9,Ii Ij (i:Int),.bool f,u 12,u 13,u 14,u 15,u 16,u 17,u 18,u 19,u 20,u 21,u 22,u 23,u 24,u 25,u 26,u 27,u 28,u 29,u 30,u 31,u 32,u 33,u 34,u 35,u 36,u 37,u 38,u 39,u 40,u 41,u 42,u 43,u 44,u 45,u 46,u 47,u 48,u 49,u 50,u 51,u 52,u 53,u 54,u 55,u 56,u 57,u 58,u 59,u 60,u 61,u 62,u 63,u 64,u 65,u 66,u 67,u 68,u 69,u 70,u 71,u 72,u 73,u 74,u 75,u 76,u 77,u 78,u 79,u 80,u 81,u 82,u 83,u 84,u 85,u 86,u 87,u 88,u 89,u 90,u 91,u 92,u 93,u 94,u 95,u 96,u 97,u 98,u 99,u 100,u 101,u 102,u 103,u 104,u 105,u 106,u 107,u 108,u 109,u 110,u 111,u 112,u 113,u 114,u 115,u 116,u 117,u 118,u 119,u 120,u 121,u 122,u 123,u 124,u 125,u 126,u 127,u 128,u 129,u 130,u 131,u 132,u 133,u 134,u 135,u 136,u 137,u 138,u 139,u 140,u 141,u 142,u 143,u 144,u 145,u 146,u 147,u 148,u 149,u 150,u 151,u 152,u 153,u 154,u 155,u 156,u 157,u 158,u 159,u 160,u 161,u 162,u 163,u 164,u 165,u 166,u 167,u 168,u 169,u 170,u 171,u 172,u 173,u 174,u 175,u 176,u 177,u 178,u 179,u 180,u 181,u 182,u 183,u 184,u 185,u 186,u 187,u 188,u 189,u 190,u 191,u 192,u 193,u 194,u 195,u 196,u 197,u 198,u 199],defers:=[] }∧Chg (fun _ _=>False) w w'∧i≤xs.length∧((f=true∧∃y,HitAt ltM xs x i y)∨(f=false∧PosAt ltM xs x i))
theorem HintJ.intro {ord:List Int} {t n hb kb d:Nat} {xs:List (It ord)} {x:It ord} {a:Act} {w':World} (i:Nat) (f:Bool) (h:a={ tmps:=#[Ip (some ⟨t,0,none⟩),Ip (some ⟨n,0,none⟩),a.tmps.getD 2 undef,Ip (some ⟨hb,0,none⟩),Ii Ij (d:Int),a.tmps.getD 5 undef,a.tmps.getD 6 undef,Ip (some ⟨kb,0,none⟩),a.tmps.getD 8 undef,a.tmps.getD 9 undef,Ii Ij (i:Int),.bool f,a.tmps.getD 12 undef,a.tmps.getD 13 undef,a.tmps.getD 14 undef,a.tmps.getD 15 undef,a.tmps.getD 16 undef,a.tmps.getD 17 undef,a.tmps.getD 18 undef,a.tmps.getD 19 undef,a.tmps.getD 20 undef,a.tmps.getD 21 undef,a.tmps.getD 22 undef,a.tmps.getD 23 undef,a.tmps.getD 24 undef,a.tmps.getD 25 undef,a.tmps.getD 26 undef,a.tmps.getD 27 undef,a.tmps.getD 28 undef,a.tmps.getD 29 undef,a.tmps.getD 30 undef,a.tmps.getD 31 undef,a.tmps.getD 32 undef,a.tmps.getD 33 undef,a.tmps.getD 34 undef,a.tmps.getD 35 undef,a.tmps.getD 36 undef,a.tmps.getD 37 undef,a.tmps.getD 38 undef,a.tmps.getD 39 undef,a.tmps.getD 40 undef,a.tmps.getD 41 undef,a.tmps.getD 42 undef,a.tmps.getD 43 undef,a.tmps.getD 44 undef,a.tmps.getD 45 undef,a.tmps.getD 46 undef,a.tmps.getD 47 undef,a.tmps.getD 48 undef,a.tmps.getD 49 undef,a.tmps.getD 50 undef,a.tmps.getD 51 undef,a.tmps.getD 52 undef,a.tmps.getD 53 undef,a.tmps.getD 54 undef,a.tmps.getD 55 undef,a.tmps.getD 56 undef,a.tmps.getD 57 undef,a.tmps.getD 58 undef,a.tmps.getD 59 undef,a.tmps.getD 60 undef,a.tmps.getD 61 undef,a.tmps.getD 62 undef,a.tmps.getD 63 undef,a.tmps.getD 64 undef,a.tmps.getD 65 undef,a.tmps.getD 66 undef,a.tmps.getD 67 undef,a.tmps.getD 68 undef,a.tmps.getD 69 undef,a.tmps.getD 70 undef,a.tmps.getD 71 undef,a.tmps.getD 72 undef,a.tmps.getD 73 undef,a.tmps.getD 74 undef,a.tmps.getD 75 undef,a.tmps.getD 76 undef,a.tmps.getD 77 undef,a.tmps.getD 78 undef,a.tmps.getD 79 undef,a.tmps.getD 80 undef,a.tmps.getD 81 undef,a.tmps.getD 82 undef,a.tmps.getD 83 undef,a.tmps.getD 84 undef,a.tmps.getD 85 undef,a.tmps.getD 86 undef,a.tmps.getD 87 undef,a.tmps.getD 88 undef,a.tmps.getD 89 undef,a.tmps.getD 90 undef,a.tmps.getD 91 undef,a.tmps.getD 92 undef,a.tmps.getD 93 undef,a.tmps.getD 94 undef,a.tmps.getD 95 undef,a.tmps.getD 96 undef,a.tmps.getD 97 undef,a.tmps.getD 98 undef,a.tmps.getD 99 undef,a.tmps.getD 100 undef,a.tmps.getD 101 undef,a.tmps.getD 102 undef,a.tmps.getD 103 undef,a.tmps.getD 104 undef,a.tmps.getD 105 undef,a.tmps.getD 106 undef,a.tmps.getD 107 undef,a.tmps.getD 108 undef,a.tmps.getD 109 undef,a.tmps.getD 110 undef,a.tmps.getD 111 undef,a.tmps.getD 112 undef,a.tmps.getD 113 undef,a.tmps.getD 114 undef,a.tmps.getD 115 undef,a.tmps.getD 116 undef,a.tmps.getD 117 undef,a.tmps.getD 118 undef,a.tmps.getD 119 undef,a.tmps.getD 120 undef,a.tmps.getD 121 undef,a.tmps.getD 122 undef,a.tmps.getD 123 undef,a.tmps.getD 124 undef,a.tmps.getD 125 undef,a.tmps.getD 126 undef,a.tmps.getD 127 undef,a.tmps.getD 128 undef,a.tmps.getD 129 undef,a.tmps.getD 130 undef,a.tmps.getD 131 undef,a.tmps.getD 132 undef,a.tmps.getD 133 undef,a.tmps.getD 134 undef,a.tmps.getD 135 undef,a.tmps.getD 136 undef,a.tmps.getD 137 undef,a.tmps.getD 138 undef,a.tmps.getD 139 undef,a.tmps.getD 140 undef,a.tmps.getD 141 undef,a.tmps.getD 142 undef,a.tmps.getD 143 undef,a.tmps.getD 144 undef,a.tmps.getD 145 undef,a.tmps.getD 146 undef,a.tmps.getD 147 undef,a.tmps.getD 148 undef,a.tmps.getD 149 undef,a.tmps.getD 150 undef,a.tmps.getD 151 undef,a.tmps.getD 152 undef,a.tmps.getD 153 undef,a.tmps.getD 154 undef,a.tmps.getD 155 undef,a.tmps.getD 156 undef,a.tmps.getD 157 undef,a.tmps.getD 158 undef,a.tmps.getD 159 undef,a.tmps.getD 160 undef,a.tmps.getD 161 undef,a.tmps.getD 162 undef,a.tmps.getD 163 undef,a.tmps.getD 164 undef,a.tmps.getD 165 undef,a.tmps.getD 166 undef,a.tmps.getD 167 undef,a.tmps.getD 168 undef,a.tmps.getD 169 undef,a.tmps.getD 170 undef,a.tmps.getD 171 undef,a.tmps.getD 172 undef,a.tmps.getD 173 undef,a.tmps.getD 174 undef,a.tmps.getD 175 undef,a.tmps.getD 176 undef,a.tmps.getD 177 undef,a.tmps.getD 178 undef,a.tmps.getD 179 undef,a.tmps.getD 180 undef,a.tmps.getD 181 undef,a.tmps.getD 182 undef,a.tmps.getD 183 undef,a.tmps.getD 184 undef,a.tmps.getD 185 undef,a.tmps.getD 186 undef,a.tmps.getD 187 undef,a.tmps.getD 188 undef,a.tmps.getD 189 undef,a.tmps.getD 190 undef,a.tmps.getD 191 undef,a.tmps.getD 192 undef,a.tmps.getD 193 undef,a.tmps.getD 194 undef,a.tmps.getD 195 undef,a.tmps.getD 196 undef,a.tmps.getD 197 undef,a.tmps.getD 198 undef,a.tmps.getD 199 undef],defers:=[] }) (hc:Chg (fun _ _=>False) w w') (hi:i≤xs.length) (hf:(f=true∧∃y,HitAt ltM xs x i y)∨(f=false∧PosAt ltM xs x i)):HintJ t n hb kb d xs x w a w' :=
 ⟨i,f,fun j=>a.tmps.getD j undef,h,hc,hi,hf⟩
def SrchH {ord:List Int} (hb:Nat) (xs:List (It ord)) (x:It ord) (w:World) (e:Ending) (w':World):Prop :=
 ∃(i:Nat) (f:Bool),e=Ir (Iu #[Ii Ij i,.bool f])∧Chg (fun b _=>b=hb) w w'∧HintB hb w'∧((f=true∧∃y,HitAt ltM xs x i y)∨(f=false∧PosAt ltM xs x i))
theorem hintsearch_any {ord:List Int} {k:Kc ord} {mn mx:Nat} {n:Nat} {r:NodeR (It ord)} {l:Lay} (t hb d:Nat) (x:It ord) (hm:MapAt k mn mx w t) (h:NodeAt (parM k) w n r l) (hs:Srt ltM r.items) (hlen:r.items.length≤1000000) (hpos:1≤r.items.length) (hh:HintB hb w) (hd:d≤1000000000000) :
  Calls Tp 69 #[Ip (some ⟨t,0,none⟩),Ip (some ⟨n,0,none⟩),aggM x,Ip (some ⟨hb,0,none⟩),Ii Ij d] w (SrchH hb r.items x w):=by
 obtain ⟨hc,hblk,hcs⟩:=hh
 have hnb:n≠hb:=by
  rintro rfl
  have:=h.hd
  rw [hblk] at this
  simp [parM] at this
 have H:=zL h
 have HM:=zL hm
 have HS:=zL hs
 have HBLK:=zL hblk
 obtain ⟨N,hN⟩:∃N,r.items.length=N:=⟨_,rfl⟩
 have HN:=zL hN
 rw [hN] at hlen hpos
 clear h hm hs hblk hN
 unfold aggM
 go_enter Try.func69,Try.ntmps69
 go_wp2_with fail
 refine wp_scope_fwd 0 (HintJ t n hb w.heap.size d r.items x w) rfl ?_ ?_
 ·rintro a w2 ⟨i,f,u,rfl,hcw,hil,hf⟩
  have HF:=zL hf
  clear hf
  by_cases hd8:d < 8
  rotate_left
  ·have hd9:¬(d:Int) < 8:=by omega
   go_wp2_with fail
   simp only [Exit.jump]
   go_ret2
   exact ⟨i,f,rfl,hcw.mono (fun _ _ _ h=>h.elim),⟨hc,by rw [hcw.block (kbF HBLK.out) (fun _ h=>h)];exact HBLK.out,hcs⟩,HF.out⟩
  have hb2:w2.heap[hb]?=some (.cells hc 93 (0,0)):=by rw [hcw.block (kbF HBLK.out) (fun _ h=>h)];exact HBLK.out
  obtain ⟨bu,hbu⟩:=hcs.used d hd8
  obtain ⟨z,hz0,hz1,hz⟩:=hcs.path d hd8
  have cu:=kbB hb2 d
  rw [hbu] at cu
  have fu:=kbC hb2 d
  have HB2:=zL hb2
  have d0:(0:Int)≤(d:Int):=by omega
  have d8:(d:Int) < 8:=by omega
  clear hbu hb2
  go_wp2_with fail
  refine kbW (fun w3=>Chg (fun b _=>b=hb) w w3∧w3.heap[hb]?=some (.cells (hc.setIfInBounds d (.bool true)) 93 (0,0))) ⟨?_,kbV HB2.out _⟩ ?_
  ·exact (hcw.mono (fun _ _ _ h=>h.elim)).setCell (.inl rfl) _
  rintro w3 ⟨hc3,hb3⟩
  have n3:=hc3.cell (a:=⟨n,3,none⟩) (fun e=>hnb e) H.out.c3
  have fp:=kbC hb3 (8+d)
  have cp:=kbB hb3 (8+d)
  rw [Array.getElem?_setIfInBounds_ne (by omega),hz] at cp
  have HB3:=zL hb3
  clear hb3 cu fu hz
  obtain ⟨op,hop⟩:∃op:Option Addr,(r.kids.map fun _=>(⟨l.cc,0,none⟩:Addr))=op:=⟨_,rfl⟩
  rw [hop] at n3
  clear hop
  refine (kcJ n op _ n3).mono ?_
  rintro e w' ⟨rfl,rfl⟩
  clear n3
  rcases op with _ | op
  ·cases f
   ·go_wp2_with fail
    ·go_loopw [16] (fun i' wr=>∃(m:Nat),m≤8∧i'=Ii Ij m∧Chg (fun b _=>b=hb) w wr∧∃c,wr.heap[hb]?=some (.cells c 93 (0,0))∧HintC c) (fun i' _=>8 - (intOf i').toNat)
     case atStart=>exact ⟨d+1,by omega,by go_num,hc3.setCell (.inl rfl) _,_,kbV HB3.out _,(hcs.setUsed hd8 true).setPath hd8 (by omega) (by omega)⟩
     case round =>
      obtain ⟨m,hm8,rfl,hcr,c1,hb4,hc4⟩:=hrel
      have HB4:=zL hb4
      have HC4:=zL hc4
      by_cases hmm:m < 8
      ·obtain ⟨bu4,hbu4⟩:=hc4.used m hmm
       have cu:=kbB hb4 m
       rw [hbu4] at cu
       have fu:=kbC hb4 m
       have m0:(0:Int)≤(m:Int):=by omega
       have m8:(m:Int) < 8:=by omega
       clear hbu4 hb4 hc4 fp cp
       go_wp2_with fail
       go_roundw
       case rel=>exact ⟨m+1,by omega,by go_num,hcr.setCell (.inl rfl) _,_,kbV HB4.out _,HC4.out.setUsed hmm false⟩
       case measure=>simp [intOf];omega
      ·obtain rfl:m=8:=by omega
       clear hb4 hc4 fp cp
       go_wp2_with fail
       simp only [Exit.jump]
       go_ret2
       exact ⟨i,false,rfl,hcr,⟨_,HB4.out,HC4.out⟩,by simpa using HF.out⟩
    ·simp only [Exit.jump]
     go_ret2
     exact ⟨i,false,rfl,hc3,⟨_,HB3.out,hcs.setUsed hd8 true⟩,by simpa using HF.out⟩
   ·go_wp2_with fail
    ·go_loopw [16] (fun i' wr=>∃(m:Nat),m≤8∧i'=Ii Ij m∧Chg (fun b _=>b=hb) w wr∧∃c,wr.heap[hb]?=some (.cells c 93 (0,0))∧HintC c) (fun i' _=>8 - (intOf i').toNat)
     case atStart=>exact ⟨d+1,by omega,by go_num,hc3.setCell (.inl rfl) _,_,kbV HB3.out _,(hcs.setUsed hd8 true).setPath hd8 (by omega) (by omega)⟩
     case round =>
      obtain ⟨m,hm8,rfl,hcr,c1,hb4,hc4⟩:=hrel
      have HB4:=zL hb4
      have HC4:=zL hc4
      by_cases hmm:m < 8
      ·obtain ⟨bu4,hbu4⟩:=hc4.used m hmm
       have cu:=kbB hb4 m
       rw [hbu4] at cu
       have fu:=kbC hb4 m
       have m0:(0:Int)≤(m:Int):=by omega
       have m8:(m:Int) < 8:=by omega
       clear hbu4 hb4 hc4 fp cp
       go_wp2_with fail
       go_roundw
       case rel=>exact ⟨m+1,by omega,by go_num,hcr.setCell (.inl rfl) _,_,kbV HB4.out _,HC4.out.setUsed hmm false⟩
       case measure=>simp [intOf];omega
      ·obtain rfl:m=8:=by omega
       clear hb4 hc4 fp cp
       go_wp2_with fail
       simp only [Exit.jump]
       go_ret2
       exact ⟨i,true,rfl,hcr,⟨_,HB4.out,HC4.out⟩,by simpa using HF.out⟩
    ·simp only [Exit.jump]
     go_ret2
     exact ⟨i,true,rfl,hc3,⟨_,HB3.out,hcs.setUsed hd8 true⟩,by simpa using HF.out⟩
  ·go_wp2_with fail
   ·go_loopw [16] (fun i' wr=>∃(m:Nat),m≤8∧i'=Ii Ij m∧Chg (fun b _=>b=hb) w wr∧∃c,wr.heap[hb]?=some (.cells c 93 (0,0))∧HintC c) (fun i' _=>8 - (intOf i').toNat)
    case atStart=>exact ⟨d+1,by omega,by go_num,hc3.setCell (.inl rfl) _,_,kbV HB3.out _,(hcs.setUsed hd8 true).setPath hd8 (by omega) (by omega)⟩
    case round =>
     obtain ⟨m,hm8,rfl,hcr,c1,hb4,hc4⟩:=hrel
     have HB4:=zL hb4
     have HC4:=zL hc4
     by_cases hmm:m < 8
     ·obtain ⟨bu4,hbu4⟩:=hc4.used m hmm
      have cu:=kbB hb4 m
      rw [hbu4] at cu
      have fu:=kbC hb4 m
      have m0:(0:Int)≤(m:Int):=by omega
      have m8:(m:Int) < 8:=by omega
      clear hbu4 hb4 hc4 fp cp
      go_wp2_with fail
      go_roundw
      case rel=>exact ⟨m+1,by omega,by go_num,hcr.setCell (.inl rfl) _,_,kbV HB4.out _,HC4.out.setUsed hmm false⟩
      case measure=>simp [intOf];omega
     ·obtain rfl:m=8:=by omega
      clear hb4 hc4 fp cp
      go_wp2_with fail
      simp only [Exit.jump]
      go_ret2
      exact ⟨i,_,rfl,hcr,⟨_,HB4.out,HC4.out⟩,by simpa using HF.out⟩
   ·simp only [Exit.jump]
    go_ret2
    exact ⟨i,_,rfl,hc3,⟨_,HB3.out,hcs.setUsed hd8 true⟩,by simpa using HF.out⟩
 ·intro hrest
  have HR:=zL hrest
  clear hrest
  go_upto_region 1 with fail
  refine kbD (fun w1=>Chg (fun _ _=>False) w w1∧w1.heap[w.heap.size]?=some (Ic #[Ii Ij x.1,Ii Ij x.2] 27 (0,0))) ⟨(zK _ _).alloc _,kbT _ _ rfl⟩ ?_
  rintro w1 ⟨hc1,hb1⟩
  have hblk:w1.heap[hb]?=some (.cells hc 93 (0,0)):=by rw [hc1.block (kbF HBLK.out) (fun _ h=>h)];exact HBLK.out
  have n2:=hc1.q H.out.c2
  rw [HN.out] at n2
  have q0:=kbB hb1 0
  have q1:=kbB hb1 1
  simp only [zF,zD,zE] at q0 q1
  have HB1:=zL hb1
  have HB2:=zL hblk
  clear hb1 hblk
  go_upto_region 3 with fail
  go_cut [32] from 17 (fun b wx=>wx=w1∧∃q,b=.bool q∧(q=true→d < 8))
  case first =>
   by_cases hd8:d < 8
   ·obtain ⟨bu,hbu⟩:=hcs.used d hd8
    have cu:=kbB HB2.out d
    rw [hbu] at cu
    have d0:(0:Int)≤(d:Int):=by omega
    have d8:(d:Int) < 8:=by omega
    clear hbu
    go_wp2_with fail
    go_meet
    case rel=>exact ⟨rfl,_,rfl,fun _=>hd8⟩
   ·have hd9:¬(d:Int) < 8:=by omega
    go_wp2_with fail
    go_meet
    case rel=>exact ⟨rfl,_,rfl,fun h=>by cases h⟩
  case rest =>
   obtain ⟨hwc,q,rfl,hq8⟩:=hcut
   rw [hwc]
   clear hwc
   go_upto_if 32 with fail
   go_cut [12,13] from 14 (fun lo hi wx=>∃(a b:Nat) (z:Int),lo=Ii Ij a∧hi=Ii Ij z∧z=(b:Int) - 1∧a≤b∧b≤N∧(∀j y,j < a→r.items[j]?=some y→ltM x y=false)∧(∀j y,b≤j→r.items[j]?=some y→ltM x y=true)∧Chg (fun _ _=>False) w1 wx)
   case first =>
    cases q
    ·go_wp2_with fail
     go_meet
     case rel=>exact ⟨0,N,_,rfl,rfl,rfl,Nat.zero_le _,Nat.le_refl _,fun j y h=>by omega,fun j y h1 h2=>by have:=(zG.1 h2).1;have:=HN.out;omega,zK _ _⟩
    ·have hd8:=hq8 rfl
     obtain ⟨z,hz0,hz1,hz⟩:=hcs.path d hd8
     have cp:=kbB HB2.out (8+d)
     rw [hz] at cp
     have d0:(0:Int)≤(d:Int):=by omega
     have d8:(d:Int) < 8:=by omega
     have nl0:(1:Int)≤(N:Int):=by omega
     clear hz
     go_upto_if 46 with fail
     go_cut [10] from 14 (fun ix wx=>∃i:Nat,ix=Ii Ij (i:Int)∧i < N∧Chg (fun _ _=>False) w1 wx)
     case first =>
      by_cases hzN:(N:Int)≤z
      ·obtain ⟨y,hy⟩:∃y,r.items[N - 1]?=some y:=⟨_,zH (by have:=HN.out;omega)⟩
       have iv:=(H.out.chg hc1 i3).mval hy
       have ik:=(H.out.chg hc1 i3).mkey hy
       have HY:=zL hy
       have hcast2:((N:Int) - 1).toNat=N - 1:=by omega
       have s1:(0:Int)≤(N:Int) - 1:=by omega
       have s2:(N:Int) - 1 < (N:Int):=by omega
       have s3:Ij.wrap ((N:Int) - 1)=(N:Int) - 1:=IntWalk.i64_in _ (by omega)
       clear hy cp
       go_wp2_with fail
       refine kbM (fun w'=>w'.cell? ⟨w.heap.size,0,none⟩=some (Ii Ij x.1)∧w'.cell? ⟨w.heap.size,1,none⟩=some (Ii Ij x.2)∧w'.cell? ⟨n,2,none⟩=some (Is (some ⟨l.ib,l.io,none⟩) N l.ic)∧w'.cell? ⟨l.ib,l.io+(N - 1) * 2,none⟩=some (Ii Ij y.1)∧w'.cell? ⟨l.ib,l.io+(N - 1) * 2+1,none⟩=some (Ii Ij y.2)) (.soft 0 (.soft 1 (.soft 2 (.soft 3 (.soft 4 (.soft 5 (.soft 6 (.soft 7 (.soft 8 (.soft 9 (.soft 10 (.soft 11 (.soft 12 (.soft 13 (.hard 14 .nil))))))))))))))) (by kernel_rfl) (by kernel_rfl) (fun _ _ _ _ _ h=>h) ⟨q0,q1,n2,iv,ik⟩ ?_
       repeat (first | (refine kbH (by rfl) ?_ ?_ ?_ ?_;rotate_left;(· simp [zI,yielded];done);(· intro w' hS;try obtain ⟨a1,a2,a3,a4,a5⟩:=hS;go_simp;try with_reducible rfl);simp only [zJ,zA,zB,zC]) | (refine kbJ (by rfl) ?_ ?_;(· simp [zI,yielded];done);simp only [zJ,zA,zB,zC]))
       refine kbY (by rfl) (by simp [zI,yielded]) (fun K hK=>?_)
       go_simp
       refine (Less_any (HM.out.chg (hc1.trans (zK (fun _ _=>False) w1).drew) i3) y x).mono ?_
       rintro e w9 ⟨rfl,hc9'⟩
       refine hK _ _ ⟨hc9'.q q0,hc9'.q q1,hc9'.q n2,hc9'.q iv,hc9'.q ik⟩ ?_
       clear hK K
       repeat (first | (refine kbH (by rfl) ?_ ?_ ?_ ?_;rotate_left;(· simp [zI,yielded];done);(· intro w' hS;try obtain ⟨a1,a2,a3,a4,a5⟩:=hS;go_simp;try with_reducible rfl);simp only [zJ,zA,zB,zC]) | (refine kbJ (by rfl) ?_ ?_;(· simp [zI,yielded];done);simp only [zJ,zA,zB,zC]))
       refine kcT ?_
       have hc9:Chg (fun _ _=>False) w1 w9:=((zK (fun _ _=>False) w1).drew).trans hc9'
       replace q0:=((zK (fun _ _=>False) _).drew.trans hc9').q q0
       replace q1:=((zK (fun _ _=>False) _).drew.trans hc9').q q1
       replace n2:=((zK (fun _ _=>False) _).drew.trans hc9').q n2
       clear hc9'
       cases hlt:ltM y x
       ·go_wp2_with fail
        go_meet
        case rel=>exact ⟨N - 1,by go_num,by omega,hc9⟩
       ·go_wp2_with fail
        go_step3
        exact ⟨rfl,HintJ.intro N false rfl (hc1.trans hc9) (by have:=HN.out;omega) (.inr ⟨rfl,by have:=HN.out;omega,fun j z hj hz=>srt_left swoM HS.out HY.out hlt (by omega) hz,fun j z hj hz=>by have:=(zG.1 hz).1;have:=HN.out;omega⟩)⟩
      ·have hzN':¬(N:Int)≤z:=hzN
       go_wp2_with fail
       go_meet
       case rel=>exact ⟨z.toNat,by rw [Int.toNat_of_nonneg hz0],by omega,zK _ _⟩
     case rest =>
      obtain ⟨i,rfl,hiN,hcx1⟩:=hcut
      obtain ⟨y,hy⟩:∃y,r.items[i]?=some y:=⟨_,zH (by have:=HN.out;omega)⟩
      have hbx:wc.heap[w.heap.size]?=some (Ic #[Ii Ij x.1,Ii Ij x.2] 27 (0,0)):=by rw [hcx1.block (kbF HB1.out) (fun _ h=>h)];exact HB1.out
      have hcx:=hc1.trans hcx1
      have hnx:=H.out.chg hcx i3
      have iv:=hnx.mval hy
      have ik:=hnx.mkey hy
      have HY:=zL hy
      replace n2:=hnx.c2
      rw [HN.out] at n2
      replace q0:=kbB hbx 0
      replace q1:=kbB hbx 1
      simp only [zF,zD,zE] at q0 q1
      have i0:(0:Int)≤(i:Int):=by omega
      have i1:(i:Int) < (N:Int):=by omega
      clear hy cp hbx hnx
      go_wp2_with fail
      refine kbM (fun w'=>w'.cell? ⟨w.heap.size,0,none⟩=some (Ii Ij x.1)∧w'.cell? ⟨w.heap.size,1,none⟩=some (Ii Ij x.2)∧w'.cell? ⟨n,2,none⟩=some (Is (some ⟨l.ib,l.io,none⟩) N l.ic)∧w'.cell? ⟨l.ib,l.io+(i) * 2,none⟩=some (Ii Ij y.1)∧w'.cell? ⟨l.ib,l.io+(i) * 2+1,none⟩=some (Ii Ij y.2)) (.soft 0 (.soft 1 (.soft 2 (.soft 3 (.soft 4 (.soft 5 (.soft 6 (.soft 7 (.soft 8 (.hard 9 .nil)))))))))) (by kernel_rfl) (by kernel_rfl) (fun _ _ _ _ _ h=>h) ⟨q0,q1,n2,iv,ik⟩ ?_
      repeat (first | (refine kbH (by rfl) ?_ ?_ ?_ ?_;rotate_left;(· simp [zI,yielded];done);(· intro w' hS;try obtain ⟨a1,a2,a3,a4,a5⟩:=hS;go_simp;try with_reducible rfl);simp only [zJ,zA,zB,zC]) | (refine kbJ (by rfl) ?_ ?_;(· simp [zI,yielded];done);simp only [zJ,zA,zB,zC]))
      refine kbY (by rfl) (by simp [zI,yielded]) (fun K hK=>?_)
      go_simp
      refine (Less_any (HM.out.chg (hc1.trans hcx1.drew) i3) x y).mono ?_
      rintro e w9 ⟨rfl,hc9'⟩
      refine hK _ _ ⟨hc9'.q q0,hc9'.q q1,hc9'.q n2,hc9'.q iv,hc9'.q ik⟩ ?_
      clear hK K
      repeat (first | (refine kbH (by rfl) ?_ ?_ ?_ ?_;rotate_left;(· simp [zI,yielded];done);(· intro w' hS;try obtain ⟨a1,a2,a3,a4,a5⟩:=hS;go_simp;try with_reducible rfl);simp only [zJ,zA,zB,zC]) | (refine kbJ (by rfl) ?_ ?_;(· simp [zI,yielded];done);simp only [zJ,zA,zB,zC]))
      refine kcT ?_
      have hc9:Chg (fun _ _=>False) w1 w9:=(hcx1.drew).trans hc9'
      replace q0:=((zK (fun _ _=>False) _).drew.trans hc9').q q0
      replace q1:=((zK (fun _ _=>False) _).drew.trans hc9').q q1
      replace n2:=((zK (fun _ _=>False) _).drew.trans hc9').q n2
      clear hc9'
      cases hlt:ltM x y
      ·replace iv:=(H.out.chg (hc1.trans hc9) i3).mval HY.out
       replace ik:=(H.out.chg (hc1.trans hc9) i3).mkey HY.out
       have hc8:=hc9
       have HC8:=zL hc8
       clear hc9
       go_wp2_with fail
       refine kbM (fun w'=>w'.cell? ⟨w.heap.size,0,none⟩=some (Ii Ij x.1)∧w'.cell? ⟨w.heap.size,1,none⟩=some (Ii Ij x.2)∧w'.cell? ⟨n,2,none⟩=some (Is (some ⟨l.ib,l.io,none⟩) N l.ic)∧w'.cell? ⟨l.ib,l.io+(i) * 2,none⟩=some (Ii Ij y.1)∧w'.cell? ⟨l.ib,l.io+(i) * 2+1,none⟩=some (Ii Ij y.2)) (.soft 0 (.soft 1 (.soft 2 (.soft 3 (.soft 4 (.soft 5 (.soft 6 (.soft 7 (.soft 8 (.hard 9 .nil)))))))))) (by kernel_rfl) (by kernel_rfl) (fun _ _ _ _ _ h=>h) ⟨q0,q1,n2,iv,ik⟩ ?_
       repeat (first | (refine kbH (by rfl) ?_ ?_ ?_ ?_;rotate_left;(· simp [zI,yielded];done);(· intro w' hS;try obtain ⟨a1,a2,a3,a4,a5⟩:=hS;go_simp;try with_reducible rfl);simp only [zJ,zA,zB,zC]) | (refine kbJ (by rfl) ?_ ?_;(· simp [zI,yielded];done);simp only [zJ,zA,zB,zC]))
       refine kbY (by rfl) (by simp [zI,yielded]) (fun K hK=>?_)
       go_simp
       refine (Less_any (HM.out.chg (hc1.trans HC8.out.drew) i3) y x).mono ?_
       rintro e w9 ⟨rfl,hc9'⟩
       refine hK _ _ ⟨hc9'.q q0,hc9'.q q1,hc9'.q n2,hc9'.q iv,hc9'.q ik⟩ ?_
       clear hK K
       repeat (first | (refine kbH (by rfl) ?_ ?_ ?_ ?_;rotate_left;(· simp [zI,yielded];done);(· intro w' hS;try obtain ⟨a1,a2,a3,a4,a5⟩:=hS;go_simp;try with_reducible rfl);simp only [zJ,zA,zB,zC]) | (refine kbJ (by rfl) ?_ ?_;(· simp [zI,yielded];done);simp only [zJ,zA,zB,zC]))
       refine kcT ?_
       have hc9:Chg (fun _ _=>False) w1 w9:=(HC8.out.drew).trans hc9'
       replace q0:=((zK (fun _ _=>False) _).drew.trans hc9').q q0
       replace q1:=((zK (fun _ _=>False) _).drew.trans hc9').q q1
       replace n2:=((zK (fun _ _=>False) _).drew.trans hc9').q n2
       clear hc9'
       cases hlt2:ltM y x
       ·go_wp2_with fail
        go_step3
        exact ⟨rfl,HintJ.intro i true rfl (hc1.trans hc9) (by have:=HN.out;omega) (.inl ⟨rfl,y,HY.out,fun j z hj hz=>swoM.lt_of_lt_of_nlt (srt_get HS.out hj hz HY.out) hlt,hlt2,hlt⟩)⟩
       ·go_wp2_with fail
        go_meet
        case rel=>exact ⟨i+1,N,_,by go_num,rfl,rfl,by omega,Nat.le_refl _,fun j z hj hz=>srt_nright swoM HS.out HY.out hlt (by omega) hz,fun j z hj hz=>by have:=(zG.1 hz).1;have:=HN.out;omega,hc9⟩
      ·go_wp2_with fail
       rcases Nat.eq_zero_or_pos i with hi0 | hi0
       ·have hb0:((i:Int) == 0)=true:=by simp [hi0]
        have HI0:=zL hi0
        clear hi0
        refine kbM (fun w'=>True) (.soft 0 (.soft 1 (.soft 2 (.soft 3 (.soft 4 (.soft 5 (.soft 6 (.soft 7 (.soft 8 (.soft 9 (.soft 10 (.soft 11 (.soft 12 (.hard 13 (.soft 14 .nil))))))))))))))) (by kernel_rfl) (by kernel_rfl) (fun _ _ _ _ _ h=>h) trivial ?_
        repeat (first | (refine kbH (by rfl) ?_ ?_ ?_ ?_;rotate_left;(· simp [zI,yielded];done);(· intro w' hS;try obtain ⟨a1⟩:=hS;go_simp;try with_reducible rfl);simp only [zJ,zA,zB,zC]) | (refine kbJ (by rfl) ?_ ?_;(· simp [zI,yielded];done);simp only [zJ,zA,zB,zC]))
        refine kfW (by rfl) (by simp [zI,yielded]) ?_
        simp only [zJ,zA,zB,zC]
        repeat (first | (refine kbH (by rfl) ?_ ?_ ?_ ?_;rotate_left;(· simp [zI,yielded];done);(· intro w' hS;try obtain ⟨a1⟩:=hS;go_simp;try with_reducible rfl);simp only [zJ,zA,zB,zC]) | (refine kbJ (by rfl) ?_ ?_;(· simp [zI,yielded];done);simp only [zJ,zA,zB,zC]))
        refine kcT ?_
        go_wp2_with fail
        go_step3
        exact ⟨rfl,HintJ.intro i false rfl (hc1.trans hc9).drew (by have:=HN.out;omega) (.inr ⟨rfl,by have:=HN.out;omega,fun j z hj hz=>by have:=HI0.out;omega,fun j z hj hz=>srt_right swoM HS.out HY.out hlt hj hz⟩)⟩
       ·obtain ⟨y2,hy2⟩:∃y2,r.items[i - 1]?=some y2:=⟨_,zH (by have:=HN.out;omega)⟩
        have hb0:((i:Int) == 0)=false:=by simp;omega
        replace iv:=(H.out.chg (hc1.trans hc9) i3).mval hy2
        replace ik:=(H.out.chg (hc1.trans hc9) i3).mkey hy2
        have HY2:=zL hy2
        have hcast2:((i:Int) - 1).toNat=i - 1:=by omega
        have s1:(0:Int)≤(i:Int) - 1:=by omega
        have s4:(1:Int)≤(i:Int):=by omega
        have s2:(i:Int) - 1 < (N:Int):=by omega
        have s3:Ij.wrap ((i:Int) - 1)=(i:Int) - 1:=IntWalk.i64_in _ (by omega)
        have HC8:=zL hc9
        clear hy2 hc9
        refine kbM (fun w'=>w'.cell? ⟨w.heap.size,0,none⟩=some (Ii Ij x.1)∧w'.cell? ⟨w.heap.size,1,none⟩=some (Ii Ij x.2)∧w'.cell? ⟨n,2,none⟩=some (Is (some ⟨l.ib,l.io,none⟩) N l.ic)∧w'.cell? ⟨l.ib,l.io+(i - 1) * 2,none⟩=some (Ii Ij y2.1)∧w'.cell? ⟨l.ib,l.io+(i - 1) * 2+1,none⟩=some (Ii Ij y2.2)) (.soft 0 (.soft 1 (.soft 2 (.soft 3 (.soft 4 (.soft 5 (.soft 6 (.soft 7 (.soft 8 (.soft 9 (.soft 10 (.soft 11 (.soft 12 (.hard 13 (.soft 14 .nil))))))))))))))) (by kernel_rfl) (by kernel_rfl) (fun _ _ _ _ _ h=>h) ⟨q0,q1,n2,iv,ik⟩ ?_
        repeat (first | (refine kbH (by rfl) ?_ ?_ ?_ ?_;rotate_left;(· simp [zI,yielded];done);(· intro w' hS;try obtain ⟨a1,a2,a3,a4,a5⟩:=hS;go_simp;try with_reducible rfl);simp only [zJ,zA,zB,zC]) | (refine kbJ (by rfl) ?_ ?_;(· simp [zI,yielded];done);simp only [zJ,zA,zB,zC]))
        refine kbY (by rfl) (by simp [zI,yielded]) (fun K hK=>?_)
        go_simp
        refine (Less_any (HM.out.chg (hc1.trans HC8.out.drew) i3) y2 x).mono ?_
        rintro e w9 ⟨rfl,hc9'⟩
        refine hK _ _ ⟨hc9'.q q0,hc9'.q q1,hc9'.q n2,hc9'.q iv,hc9'.q ik⟩ ?_
        clear hK K
        repeat (first | (refine kbH (by rfl) ?_ ?_ ?_ ?_;rotate_left;(· simp [zI,yielded];done);(· intro w' hS;try obtain ⟨a1,a2,a3,a4,a5⟩:=hS;go_simp;try with_reducible rfl);simp only [zJ,zA,zB,zC]) | (refine kbJ (by rfl) ?_ ?_;(· simp [zI,yielded];done);simp only [zJ,zA,zB,zC]))
        refine kcT ?_
        have hc9:Chg (fun _ _=>False) w1 w9:=(HC8.out.drew).trans hc9'
        replace q0:=((zK (fun _ _=>False) _).drew.trans hc9').q q0
        replace q1:=((zK (fun _ _=>False) _).drew.trans hc9').q q1
        replace n2:=((zK (fun _ _=>False) _).drew.trans hc9').q n2
        clear hc9'
        cases hlt2:ltM y2 x
        ·go_wp2_with fail
         go_meet
         case rel=>exact ⟨0,i,_,rfl,by go_num,rfl,Nat.zero_le _,by omega,fun j z hj hz=>by omega,fun j z hj hz=>srt_right swoM HS.out HY.out hlt hj hz,hc9⟩
        ·go_wp2_with fail
         go_step3
         exact ⟨rfl,HintJ.intro i false rfl (hc1.trans hc9) (by have:=HN.out;omega) (.inr ⟨rfl,by have:=HN.out;omega,fun j z hj hz=>srt_left swoM HS.out HY2.out hlt2 (by omega) hz,fun j z hj hz=>srt_right swoM HS.out HY.out hlt hj hz⟩)⟩
   case rest =>
    obtain ⟨a0,b0,z0,rfl,rfl,hz0,hab0,hbN0,hA0,hB0,hcx1⟩:=hcut
    have HA0:=zL hA0
    have HB0:=zL hB0
    clear hA0 hB0 n2 q0 q1
    go_wp2_with fail
    go_loopw [12,13,14] (fun lo hi mid wr=>∃(a b:Nat) (z:Int),lo=Ii Ij a∧hi=Ii Ij z∧z=(b:Int) - 1∧a≤b∧b≤N∧(∀j y,j < a→r.items[j]?=some y→ltM x y=false)∧(∀j y,b≤j→r.items[j]?=some y→ltM x y=true)∧Chg (fun _ _=>False) w1 wr) (fun lo hi _ _=>(intOf hi+1 - intOf lo).toNat)
    case atStart=>exact ⟨a0,b0,z0,rfl,rfl,hz0,hab0,hbN0,HA0.out,HB0.out,hcx1⟩
    case round =>
     obtain ⟨a,b,z,rfl,rfl,hz,hab,hbN,hA,hB,hc⟩:=hrel
     have HA:=zL hA
     have HB:=zL hB
     have hcr:=hc1.trans hc
     have hbx:wr.heap[w.heap.size]?=some (Ic #[Ii Ij x.1,Ii Ij x.2] 27 (0,0)):=by rw [hc.block (kbF HB1.out) (fun _ h=>h)];exact HB1.out
     have hnx:=H.out.chg hcr i3
     have n2:=hnx.c2
     rw [HN.out] at n2
     have q0:=kbB hbx 0
     have q1:=kbB hbx 1
     simp only [zF,zD,zE] at q0 q1
     have HNX:=zL hnx
     clear hA hB hbx hnx
     by_cases hab2:a < b
     ·obtain ⟨b,rfl⟩:∃b',b=b'+1:=⟨b - 1,by omega⟩
      obtain rfl:z=(b:Int):=by omega
      obtain ⟨m,hm⟩:∃m,a+(b+1 - a) / 2=m:=⟨_,rfl⟩
      obtain ⟨y,hy⟩:∃y,r.items[m]?=some y:=⟨_,zH (by have:=HN.out;omega)⟩
      have iv:=HNX.out.mval hy
      have ik:=HNX.out.mkey hy
      have HY:=zL hy
      have e1:(a:Int)≤(b:Int):=by omega
      have m0:(0:Int)≤(m:Int):=by omega
      have m1:(m:Int) < (N:Int):=by omega
      have hM:(a:Int)+((b:Int)+1 - (a:Int)) / 2=(m:Int):=by omega
      clear hz hy
      go_wp2_with fail
      try rw [hM]
      clear hM
      refine kbM (fun w'=>w'.cell? ⟨w.heap.size,0,none⟩=some (Ii Ij x.1)∧w'.cell? ⟨w.heap.size,1,none⟩=some (Ii Ij x.2)∧w'.cell? ⟨n,2,none⟩=some (Is (some ⟨l.ib,l.io,none⟩) N l.ic)∧w'.cell? ⟨l.ib,l.io+(m) * 2,none⟩=some (Ii Ij y.1)∧w'.cell? ⟨l.ib,l.io+(m) * 2+1,none⟩=some (Ii Ij y.2)) (.soft 0 (.soft 1 (.soft 2 (.soft 3 (.soft 4 (.soft 5 (.soft 6 (.soft 7 (.soft 8 (.hard 9 (.soft 10 .nil))))))))))) (by kernel_rfl) (by kernel_rfl) (fun _ _ _ _ _ h=>h) ⟨q0,q1,n2,iv,ik⟩ ?_
      repeat (first | (refine kbH (by rfl) ?_ ?_ ?_ ?_;rotate_left;(· simp [zI,yielded];done);(· intro w' hS;try obtain ⟨a1,a2,a3,a4,a5⟩:=hS;go_simp;try with_reducible rfl);simp only [zJ,zA,zB,zC]) | (refine kbJ (by rfl) ?_ ?_;(· simp [zI,yielded];done);simp only [zJ,zA,zB,zC]))
      refine kbY (by rfl) (by simp [zI,yielded]) (fun K hK=>?_)
      go_simp
      refine (Less_any (HM.out.chg (hc1.trans hc.drew) i3) x y).mono ?_
      rintro e w9 ⟨rfl,hc9'⟩
      refine hK _ _ ⟨hc9'.q q0,hc9'.q q1,hc9'.q n2,hc9'.q iv,hc9'.q ik⟩ ?_
      clear hK K
      repeat (first | (refine kbH (by rfl) ?_ ?_ ?_ ?_;rotate_left;(· simp [zI,yielded];done);(· intro w' hS;try obtain ⟨a1,a2,a3,a4,a5⟩:=hS;go_simp;try with_reducible rfl);simp only [zJ,zA,zB,zC]) | (refine kbJ (by rfl) ?_ ?_;(· simp [zI,yielded];done);simp only [zJ,zA,zB,zC]))
      refine kcT ?_
      have hc9:Chg (fun _ _=>False) w1 w9:=(hc.drew).trans hc9'
      replace q0:=((zK (fun _ _=>False) _).drew.trans hc9').q q0
      replace q1:=((zK (fun _ _=>False) _).drew.trans hc9').q q1
      replace n2:=((zK (fun _ _=>False) _).drew.trans hc9').q n2
      clear hc9'
      cases hlt:ltM x y
      ·go_wp2_with fail
       go_roundw
       case rel=>exact ⟨m+1,b+1,(b:Int),by go_num,rfl,by omega,by omega,hbN,fun j z hj hz=>srt_nright swoM HS.out HY.out hlt (by omega) hz,HB.out,hc9⟩
       case measure=>simp [intOf];omega
      ·go_wp2_with fail
       go_roundw
       case rel=>exact ⟨a,m,(m:Int) - 1,rfl,by go_num,rfl,by omega,by omega,HA.out,fun j z hj hz=>srt_right swoM HS.out HY.out hlt hj hz,hc9⟩
       case measure=>simp [intOf];omega
     ·obtain rfl:a=b:=by omega
      have e1:¬(a:Int)≤z:=by omega
      rcases Nat.eq_zero_or_pos a with ha0 | ha0
      ·have hgt:¬0 < a:=by omega
       have HZ:=zL ha0
       clear ha0 hz
       go_wp2_with fail
       refine kbM (fun w'=>True) (.soft 0 (.soft 1 (.soft 2 (.soft 3 (.soft 4 (.soft 5 (.soft 6 (.soft 7 (.soft 8 (.soft 9 (.soft 10 (.soft 11 (.soft 12 (.hard 13 (.soft 14 (.soft 15 .nil)))))))))))))))) (by kernel_rfl) (by kernel_rfl) (fun _ _ _ _ _ h=>h) trivial ?_
       repeat (first | (refine kbH (by rfl) ?_ ?_ ?_ ?_;rotate_left;(· simp [zI,yielded];done);(· intro w' hS;try obtain ⟨a1⟩:=hS;go_simp;try with_reducible rfl);simp only [zJ,zA,zB,zC]) | (refine kbJ (by rfl) ?_ ?_;(· simp [zI,yielded];done);simp only [zJ,zA,zB,zC]))
       refine kfW (by rfl) (by simp [zI,yielded]) ?_
       simp only [zJ,zA,zB,zC]
       repeat (first | (refine kbH (by rfl) ?_ ?_ ?_ ?_;rotate_left;(· simp [zI,yielded];done);(· intro w' hS;try obtain ⟨a1⟩:=hS;go_simp;try with_reducible rfl);simp only [zJ,zA,zB,zC]) | (refine kbJ (by rfl) ?_ ?_;(· simp [zI,yielded];done);simp only [zJ,zA,zB,zC]))
       refine kcT ?_
       go_wp2_with fail
       go_step3
       rename_i hK
       refine hK _ _ ?_
       refine HR.out _ _ ?_
       exact HintJ.intro a false rfl (hc1.trans hc).drew (by have:=HN.out;omega) (.inr ⟨rfl,by have:=HN.out;omega,fun j y h=>by have:=HZ.out;omega,HB.out⟩)
      ·obtain ⟨y,hy⟩:∃y,r.items[a - 1]?=some y:=⟨_,zH (by have:=HN.out;omega)⟩
       have iv:=HNX.out.mval hy
       have ik:=HNX.out.mkey hy
       have HY:=zL hy
       have hcast2:((a:Int) - 1).toNat=a - 1:=by omega
       have s1:(0:Int)≤(a:Int) - 1:=by omega
       have s4:(1:Int)≤(a:Int):=by omega
       have s2:(a:Int) - 1 < (N:Int):=by omega
       have s3:Ij.wrap ((a:Int) - 1)=(a:Int) - 1:=IntWalk.i64_in _ (by omega)
       clear hz hy
       go_wp2_with fail
       refine kbM (fun w'=>w'.cell? ⟨w.heap.size,0,none⟩=some (Ii Ij x.1)∧w'.cell? ⟨w.heap.size,1,none⟩=some (Ii Ij x.2)∧w'.cell? ⟨n,2,none⟩=some (Is (some ⟨l.ib,l.io,none⟩) N l.ic)∧w'.cell? ⟨l.ib,l.io+(a - 1) * 2,none⟩=some (Ii Ij y.1)∧w'.cell? ⟨l.ib,l.io+(a - 1) * 2+1,none⟩=some (Ii Ij y.2)) (.soft 0 (.soft 1 (.soft 2 (.soft 3 (.soft 4 (.soft 5 (.soft 6 (.soft 7 (.soft 8 (.soft 9 (.soft 10 (.soft 11 (.soft 12 (.hard 13 (.soft 14 (.soft 15 .nil)))))))))))))))) (by kernel_rfl) (by kernel_rfl) (fun _ _ _ _ _ h=>h) ⟨q0,q1,n2,iv,ik⟩ ?_
       repeat (first | (refine kbH (by rfl) ?_ ?_ ?_ ?_;rotate_left;(· simp [zI,yielded];done);(· intro w' hS;try obtain ⟨a1,a2,a3,a4,a5⟩:=hS;go_simp;try with_reducible rfl);simp only [zJ,zA,zB,zC]) | (refine kbJ (by rfl) ?_ ?_;(· simp [zI,yielded];done);simp only [zJ,zA,zB,zC]))
       refine kbY (by rfl) (by simp [zI,yielded]) (fun K hK=>?_)
       go_simp
       refine (Less_any (HM.out.chg (hc1.trans hc.drew) i3) y x).mono ?_
       rintro e w9 ⟨rfl,hc9'⟩
       refine hK _ _ ⟨hc9'.q q0,hc9'.q q1,hc9'.q n2,hc9'.q iv,hc9'.q ik⟩ ?_
       clear hK K
       repeat (first | (refine kbH (by rfl) ?_ ?_ ?_ ?_;rotate_left;(· simp [zI,yielded];done);(· intro w' hS;try obtain ⟨a1,a2,a3,a4,a5⟩:=hS;go_simp;try with_reducible rfl);simp only [zJ,zA,zB,zC]) | (refine kbJ (by rfl) ?_ ?_;(· simp [zI,yielded];done);simp only [zJ,zA,zB,zC]))
       refine kcT ?_
       have hc9:Chg (fun _ _=>False) w1 w9:=(hc.drew).trans hc9'
       replace q0:=((zK (fun _ _=>False) _).drew.trans hc9').q q0
       replace q1:=((zK (fun _ _=>False) _).drew.trans hc9').q q1
       replace n2:=((zK (fun _ _=>False) _).drew.trans hc9').q n2
       clear hc9'
       have hnl:=HA.out (a - 1) y (by omega) HY.out
       cases hlt:ltM y x
       ·go_wp2_with fail
        have e:(a:Int) - 1=((a - 1:Nat):Int):=by omega
        rw [e]
        go_step3
        rename_i hK
        refine hK _ _ ?_
        refine HR.out _ _ ?_
        exact HintJ.intro (a - 1) true rfl (hc1.trans hc9) (by have:=HN.out;omega) (.inl ⟨rfl,y,HY.out,fun j z hj hz=>swoM.lt_of_lt_of_nlt (srt_get HS.out hj hz HY.out) hnl,hlt,hnl⟩)
       ·go_wp2_with fail
        go_step3
        rename_i hK
        refine hK _ _ ?_
        refine HR.out _ _ ?_
        exact HintJ.intro a false rfl (hc1.trans hc9) (by have:=HN.out;omega) (.inr ⟨rfl,by have:=HN.out;omega,fun j z hj hz=>srt_left swoM HS.out HY.out hlt (by omega) hz,HB.out⟩)
end
section
open Go.RowKit
def hintV (hv:Option Nat):Value:=.pointer (hv.map fun b=>⟨b,0,none⟩)
def HintO (hv:Option Nat) (w:World):Prop:=∀b,hv=some b→HintB b w
variable {hv:Option Nat} {w w':World}
theorem HintO.chg {A:Nat→Nat→Prop} (h:HintO hv w) (c:Chg A w w') (hA:∀b o,hv=some b→¬A b o):HintO hv w' :=
 fun b hb=>(h b hb).chg c (fun o=>hA b o hb)
theorem HintO.keep (h:HintO hv w) (c:Chg (fun _ _=>False) w w'):HintO hv w':=h.chg c i3
theorem HintO.lt {w:World} (h:HintO hv w) {b:Nat} (hb:hv=some b):b < w.heap.size:=(h b hb).lt
theorem HintO.none (w:World):HintO none w:=fun b hb=>by cases hb
def SrchO {ord:List Int} (hv:Option Nat) (xs:List (It ord)) (x:It ord) (w:World) (e:Ending) (w':World):Prop :=
 ∃(i:Nat) (f:Bool),e=Ir (Iu #[Ii Ij i,.bool f])∧Chg (fun b _=>hv=some b) w w'∧HintO hv w'∧((f=true∧∃y,HitAt ltM xs x i y)∨(f=false∧PosAt ltM xs x i))
theorem find_o {ord:List Int} {k:Kc ord} {mn mx:Nat} {w:World} {n:Nat} {r:NodeR (It ord)} {l:Lay} (hv:Option Nat) (t d:Nat) (x:It ord) (hm:MapAt k mn mx w t) (h:NodeAt (parM k) w n r l) (hs:Srt ltM r.items) (hlen:r.items.length≤1000000) (hpos:1≤r.items.length) (hh:HintO hv w) (hd:d≤1000000000000) :
  Calls Tp 49 #[Ip (some ⟨t,0,none⟩),Ip (some ⟨n,0,none⟩),aggM x,hintV hv,Ii Ij d] w (SrchO hv r.items x w):=by
 rcases hv with _ | hb
 ·refine (find_any t x (d:Int) hm h hs hlen).mono ?_
  rintro e w' ⟨i,f,rfl,hc,hf⟩
  exact ⟨i,f,rfl,hc.mono (fun _ _ _ h=>h.elim),HintO.none _,hf⟩
 ·have HS:=zL (fun (w1:World) (c:Chg (fun _ _=>False) w w1)=>hintsearch_any t hb d x (hm.chg c i3) (h.chg c i3) hs hlen hpos ((hh hb rfl).chg c (fun _ h=>h)) hd)
  clear hm h hs hh
  unfold aggM at HS ⊢
  unfold SrchH at HS
  show Calls _ _ #[_,_,_,Ip (some ⟨hb,0,none⟩),_] _ _
  go_enter Try.func49,Try.ntmps49
  go_wp2_with fail
  refine (HS.out _ ((zK _ _).alloc _)).mono ?_
  rintro e w2 ⟨i,f,rfl,hc,hb2,hf⟩
  have HB2:=zL hb2
  have HF:=zL hf
  clear hb2 hf
  go_wp2_with fail
  go_ret2
  refine ⟨i,f,rfl,?_,fun b e=>by obtain rfl:=Iq e;exact HB2.out,by simpa using HF.out⟩
  exact ((zK (fun b _=>some hb=some b) w).alloc (Ic #[Ii Ij x.1,Ii Ij x.2] 27)).trans (hc.mono (fun b o _ e=>by rw [e]))
def HintK (hv:Option Nat) (ob b2 b3 rb:Nat):Prop:=∀b,hv=some b→b≠ob∧b≠b2∧b≠b3∧b < rb
def HT (hv:Option Nat) (ob rb b:Nat):Prop:=TakeB ob rb b∨hv=some b
theorem HintK.take {ob b2 b3 rb b:Nat} (h:HintK hv ob b2 b3 rb) (hb:hv=some b):¬TakeB ob rb b:=by
 obtain ⟨h1,_,_,h4⟩:=h b hb
 rintro (e | e)
 ·exact h1 e
 ·omega
theorem Kept.hint {n:Int} {ob b2 b3 rb:Nat} {acc:List (Int×Int)} (h:Kept n ob b2 b3 rb w acc) (hk:HintK hv ob b2 b3 rb) (c:Chg (fun b _=>hv=some b) w w'):Kept n ob b2 b3 rb w' acc:=by
 obtain ⟨⟨v,h1,h2⟩,p2,p3,l0,l2,l3,n2,n3,hr⟩:=h
 have hb:∀{b:Nat} {o:Obj},¬hv=some b→w.heap[b]?=some o→w'.heap[b]?=some o:=fun hn h=>by rw [c.block (kbF h) (fun _=>hn)];exact h
 refine ⟨⟨v,hb (fun e=>(hk _ e).1 rfl) h1,h2.chgOwn c (fun b _ hb e=>?_)⟩,hb (fun e=>(hk _ e).2.1 rfl) p2,hb (fun e=>(hk _ e).2.2.1 rfl) p3,l0,l2,l3,n2,n3,Nat.le_trans hr c.size⟩
 have h5:=(h2.own_lt hb).1
 have h6:=(hk _ e).2.2.2
 omega
end
end Go.Proofs.Ytnohimhihombmaa
