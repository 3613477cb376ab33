/- Items, GItems; fits and alive: what the laws on trees share. -/
import Derived.Test.YtnohimhihombmaaA12
namespace Go.Proofs.Ytnohimhihombmaa
set_option linter.unusedSimpArgs false
set_option linter.unusedVariables false
set_option maxRecDepth 100000
set_option maxHeartbeats 40000000
section
open Go.RowKit
theorem Items_any {ord:List Int} {k:Kc ord} {mn mx:Nat} {w:World} {F:Nat→Prop} {t:Nat} {l:List (It ord)} (hM:MapIn k mn mx w F t l) (hmn:1≤mn) (hlen:l.length≤1000000000000) :
  Calls Try.prog 25 #[.pointer (some ⟨t,0,none⟩)] w (OwnPostI l w):=by
 have HK:=Lib.hid (items_any false hM hmn hlen)
 clear hM
 go_enter Try.func25,Try.ntmps25
 go_wp2_with fail
 refine HK.out.mono ?_
 rintro e w1 ⟨v1,rfl,h1,h2⟩
 go_wp2_with fail
 go_ret
 exact ⟨v1,rfl,h1,h2⟩
theorem GItems_any {ord:List Int} (sv:Value) (d:Int) (nl:Bool) (p:Option Addr) (cap:Nat) (l:List (It ord)) (w:World) (hs:SlE intE w sv ord) (hol:ord.length≤2147483647) (hd:FitD d) (hl:ItemsAt w p l) (hlen:l.length≤2147483647) :
  Calls Try.prog 10 #[.agg #[sv,.int .i64 d,.bool nl],.slice p l.length cap] w (OwnPostI (growL l) w):=by
 have HG:=Lib.hid (fun w1 (c:Chg (fun _ _=>False) w w1)=>grow_any (ord:=ord) sv d nl p cap l w1 hd (hs.chg c) hol (hl.chg c) hlen)
 have hdim:=hd.dims.1
 unfold GrowPost at HG
 have hgl:=growL_take_len l l.length
 rw [List.take_length] at hgl
 have HGL:=Lib.hid hgl
 obtain ⟨sa,sc,rfl⟩:∃a c,sv=.slice a ord.length c:=hs.form
 clear hs hl hgl
 go_enter Try.func10,Try.ntmps10
 go_wp2_with fail
 refine (HG.out _ ((Chg.refl _ _).alloc _)).mono ?_
 rintro e w2 ⟨k,t,F,rfl,hM,hc2,_,_⟩
 go_wp2_with fail
 refine (Items_any hM hdim (by have:=HGL.out;omega)).mono ?_
 rintro e w3 ⟨v,rfl,how,hc3⟩
 have hc0:=(((Chg.refl (fun _ _=>False) w).alloc _)).trans hc2
 go_wp2_with fail
 go_ret
 exact ⟨v,rfl,how.mono hc0.size,hc0.trans hc3⟩
theorem lawFits_yes (a:Option Addr) (m c:Nat) (d:Int) (nl:Bool) (w:World) (hd:FitD d) :
  Calls Try.prog 8 #[.agg #[.slice a m c,.int .i64 d,.bool nl]] w fun e w'=>e=.returned (.bool true)∧Chg (fun _ _=>False) w w':=by
 go_enter Try.func8,Try.ntmps8
 go_wp2_with fail
 refine (fits_fit d _ hd).mono ?_
 rintro e w' ⟨rfl,rfl⟩
 go_wp2_with fail
 go_ret
 exact ⟨rfl,(Chg.refl _ _).alloc _⟩
theorem lawFits_no (a:Option Addr) (m c:Nat) (d:Int) (nl:Bool) (w:World) (hd:¬FitD d) :
  Calls Try.prog 8 #[.agg #[.slice a m c,.int .i64 d,.bool nl]] w fun e w'=>e=.returned (.bool false)∧Chg (fun _ _=>False) w w':=by
 go_enter Try.func8,Try.ntmps8
 go_wp2_with fail
 refine (fits_not d _ hd).mono ?_
 rintro e w' ⟨rfl,rfl⟩
 go_wp2_with fail
 go_ret
 exact ⟨rfl,(Chg.refl _ _).alloc _⟩
def exL3:List (Int×Int):=[(5,1),(3,2),(9,3)]
theorem grow3:(growL (ord:=[]) exL3).length=3:=by decide
theorem ItemsAt.take {w:World} {p:Option Addr} {l:List (Int×Int)} (h:ItemsAt w p l) (n:Nat):ItemsAt w p (l.take n):=by
 rcases h with rfl | ⟨b,o,rfl,hc⟩
 ·exact .inl (by simp)
 ·refine .inr ⟨b,o,rfl,fun i x hx=>hc i x ?_⟩
  rw [List.getElem?_take] at hx
  split at hx
  ·exact hx
  ·cases hx
theorem alive_any (w:World):Calls Try.prog 9 #[] w fun e w'=>e=.returned (.bool true)∧Chg (fun _ _=>False) w w':=by
 have HI:=Lib.hid (fun q w1 (hq:ItemsAt w1 q exL3)=>GItems_any (ord:=[]) (.slice none 0 0) 2 false q 7 exL3 w1 ⟨none,0,rfl,Nat.le_refl _,.inl rfl⟩ (by simp) (.inr ⟨by omega,by omega⟩) hq (by decide))
 have q1:exL.length=7:=rfl
 have q3:exL3.length=3:=rfl
 unfold OwnPostI at HI
 rw [q3] at HI
 go_enter Try.func9,Try.ntmps9
 go_wp2_with fail
 refine (exMake_any _).mono ?_
 rintro e w1 ⟨rfl,hc1⟩
 go_wp2_with fail
 refine (exItems_any _).mono ?_
 rintro e w2 ⟨q,rfl,hq,hc2⟩
 go_wp2_with fail
 refine (HI.out q _ (hq.take 3)).mono ?_
 rintro e w3 ⟨v,rfl,how,hc3⟩
 obtain ⟨a,c,rfl⟩:=how.sl.form
 have hl3:(growL (ord:=[]) exL3).length=3:=grow3
 rw [hl3]
 clear how
 go_wp2_with fail
 go_ret
 exact ⟨rfl,(hc1.trans hc2).trans hc3⟩
end
end Go.Proofs.Ytnohimhihombmaa
