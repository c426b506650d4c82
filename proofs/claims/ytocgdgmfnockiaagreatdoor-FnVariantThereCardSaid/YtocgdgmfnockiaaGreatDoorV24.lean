/- Variants read: prepareArrayValidationFrame. Variants read: prepareValidationFrame. -/
import Derived.Test.YtocgdgmfnockiaaGreatDoorV18
import Derived.Test.YtocgdgmfnockiaaGreatDoorV19
import Derived.Test.YtocgdgmfnockiaaGreatDoorV16
set_option linter.unusedVariables false
set_option linter.unusedSimpArgs false
set_option maxRecDepth 100000
set_option maxHeartbeats 8000000
namespace Go.Proofs.YtocgdgmfnockiaaGreatDoor
open Go.RowKit
theorem prepArrC (sb p:Nat) (f:VF) (L R:List Value) (b o ln cap h s n k tot:Nat) (l:List Nat) (w:World) (hF:FrAt w sb p f L R) (hv:f.vb=b/\f.vo=o/\f.vn=ln/\f.vc=cap) (hbs:b≠sb) (hc:w.cell? ⟨b,o,none⟩=some (.int .u8 (h:Int)))
  (hk:k=if 255<n then 4 else 1) (hh:h=3+4*s+(if 255<n then 16 else 0)) (hs:s<=3) (hB1:Byt w b (o+1) (leBytes k n)) (hB2:Byt w b (o+(1+k)) (tabB (s+1) l)) (hn:n<=1000) (hl:l.length=n+1) (hl0:l[0]?=some 0) (hlm:∀i x y,l[i]?=some x->l[i+1]?=some y->x<=y)
  (hle:∀x ∈ l,x<=tot) (hln':l[n]?=some tot) (ht:tot<256^(s+1)) (htl:tot<=1000000000) (hln:1+k+(n+1)*(s+1)+tot<=ln) (hnm:ln<=1000000000) (hcap:ln<=cap):
  Calls Tryz.prog 184 #[.pointer (some ⟨sb,p,none⟩)] w fun e w'=>e=.returned .nilIface/\Keep [sb] w w'/\
   FrAt w' sb p {f with dstart:=1+k+(n+1)*(s+1),ostart:=1+k,osz:=s+1,num:=n,size:=1+k+(n+1)*(s+1)+tot} L R:=by
 have q0:=hF.cell0;rw[hv.1,hv.2.1,hv.2.2.1,hv.2.2.2]at q0;obtain⟨lg,hlg⟩:∃l:Nat,l=if 255<n then 1 else 0:=⟨_,rfl⟩;have hl1:lg=0/\k=1/\h=3+4*s/\n<=255\/lg=1/\k=4/\h=3+4*s+16:=by
  by_cases h2:255<n
  ·rw[if_pos h2]at hk hh hlg;exact .inr ⟨hlg,hk,hh⟩
  ·rw[if_neg h2]at hk hh hlg;exact .inl ⟨hlg,hk,hh,by omega⟩
 clear hk hh hlg;have hk1:1<=k:=by omega
 have hk4:k<=4:=by omega
 have hmul:(n+1)*1<=(n+1)*(s+1):=Nat.mul_le_mul_left _ (by omega);have hn0:0<ln:=by omega
 have hck:((1+k:Nat):Int)<=(cap:Int):=by omega
 have hck':1+k<=cap:=by omega
 have hlk:1+k<=ln:=by omega
 have hc1:¬cap=1:=by omega
 have hnk:n<256^k:=by
  rcases hl1 with⟨_,rfl,_,h⟩|⟨_,rfl,_⟩<;>omega
 have hU1:=fun(wx:World) (kk:Keep [] w wx)=>readLe b (o+1) k (cap-1) n wx (hB1.keep kk (by simp)) hnk (by omega) (by omega);have hU2:=fun(i x q':Nat) (hi:l[i]?=some x) (hq':q'=1+k+i*(s+1)) (wx:World) (kk:Keep [] w wx)=>readLe b (o+q') (s+1) (cap-q') x wx (by
  have:=(hB2.tab hi).keep kk (by simp);rw[Nat.add_assoc,<-hq']at this;exact this) (Nat.lt_of_le_of_lt (hle x (List.mem_of_getElem? hi)) ht) (by omega) (by omega)
 have hone:k=1->w.cell? ⟨b,o+1,none⟩=some (.int .u8 (n:Int)):=fun hk=>by
  subst hk;have:=hB1 0 (n%256) rfl;have e:n%256=n:=Nat.mod_eq_of_lt (by omega);rw[e]at this;exact this
 have HL:=qq5 hl hl0 hlm hle hln';have HF:=qq3 hF hv hbs;have HU:=qq2 hU1 hU2;clear hU1 hU2 hB1 hB2 ht hnk hl hl0 hlm hle hln' hF hv hbs;have hcase:s=0\/s=1\/s=2\/s=3:=by omega
 obtain⟨ds,hds⟩:∃ds,ds=1+k+(n+1)*(s+1):=⟨_,rfl⟩;obtain⟨z0,hz0⟩:∃z,z=s+1:=⟨_,rfl⟩;obtain⟨k1,hk1'⟩:∃z,z=1+k:=⟨_,rfl⟩;rw[<-hds,<-hz0,<-hk1'];have HD:=qq3 hds hz0 hk1';clear hds hz0 hk1';have bt0_3:bits .and .u8 0 3=0:=by decide
 have bt1_3:bits .and .u8 1 3=1:=by decide
 have bt2_3:bits .and .u8 2 3=2:=by decide
 have bt3_3:bits .and .u8 3 3=3:=by decide
 have bt4_3:bits .and .u8 4 3=0:=by decide
 have bt5_3:bits .and .u8 5 3=1:=by decide
 have bt6_3:bits .and .u8 6 3=2:=by decide
 have bt7_3:bits .and .u8 7 3=3:=by decide
 have bt10_3:bits .and .u8 10 3=2:=by decide
 have bt14_3:bits .and .u8 14 3=2:=by decide
 have bt11_3:bits .and .u8 11 3=3:=by decide
 have bt15_3:bits .and .u8 15 3=3:=by decide
 have bt19_3:bits .and .u8 19 3=3:=by decide
 have bt23_3:bits .and .u8 23 3=3:=by decide
 have bt27_3:bits .and .u8 27 3=3:=by decide
 have bt31_3:bits .and .u8 31 3=3:=by decide
 have bt0_1:bits .and .u8 0 1=0:=by decide
 have bt1_1:bits .and .u8 1 1=1:=by decide
 have bt2_1:bits .and .u8 2 1=0:=by decide
 have bt3_1:bits .and .u8 3 1=1:=by decide
 have bt0_63:bits .and .u8 0 63=0:=by decide
 have bt1_63:bits .and .u8 1 63=1:=by decide
 have bt2_63:bits .and .u8 2 63=2:=by decide
 have bt3_63:bits .and .u8 3 63=3:=by decide
 have bt4_63:bits .and .u8 4 63=4:=by decide
 have bt5_63:bits .and .u8 5 63=5:=by decide
 have bt6_63:bits .and .u8 6 63=6:=by decide
 have bt7_63:bits .and .u8 7 63=7:=by decide
 rcases hcase with rfl|rfl|rfl|rfl<;>rcases hl1 with⟨rfl,rfl,rfl,h255⟩|⟨rfl,rfl,rfl⟩
 all_goals
  first|replace hone:=hone rfl|clear hone
  go_enter Tryz.func184,Tryz.ntmps184
  go_wp2_with fail
  try
   refine(HU.out.1 _ (Keep.refl [] w)).mono ?_;rintro e w5 ⟨rfl,k5⟩
   replace q0:=k5.cell_some q0 (by simp)
   go_wp2_with fail
  go_loopw [10,11] (fun pv iv wr=>∃i x:Nat,i<=n+1/\iv=.int .u64 (i:Int)/\pv=.int .u32 (x:Int)/\l[i-1]?=some x/\Keep [] w wr) (fun _ iv _=>n+1-(intOf iv).toNat)
  case atStart=>exact⟨0,0,by omega,rfl,rfl,HL.out.2.1,by first|exact Keep.refl _ _|exact k5⟩
  case round=>
   obtain⟨i,x,hi,rfl,rfl,hx,kr⟩:=hrel;clear q0 hc;by_cases hin:i<=n
   ·have hini:(i:Int)<=(n:Int):=by omega
    obtain⟨y,hy⟩:∃y,l[i]?=some y:=⟨_,List.getElem?_eq_getElem (by rw[HL.out.1];omega)⟩;have hyt:y<=tot:=HL.out.2.2.2.1 y (List.mem_of_getElem? hy);by_cases hi0:i=0
    ·subst hi0;have hy0:y=0:=by have:=HL.out.2.1;rw[hy]at this;exact Option.some.inj this
     subst hy0;have Hy:=qq2 hy hx;clear hy hx;go_wp2_with fail
     refine(HU.out.2 _ _ _ Hy.out.1 (by omega) _ kr).mono ?_;rintro e w6 ⟨rfl,k6⟩;have K6:Keep [] w w6:=kr.trans k6 (by simp);go_wp2;go_roundw
     case rel=>exact⟨1,0,by omega,rfl,rfl,Hy.out.1,K6⟩
     case measure=>simp[intOf]<;>omega
    ·have hxy:x<=y:=HL.out.2.2.1 (i-1) x y hx (by rw[Nat.sub_add_cancel (by omega)];exact hy);have hxyi:¬(y:Int)<(x:Int):=by omega
     have hi0i:¬(i:Int)=0:=by omega
     have hi0p:(0:Int)<(i:Int):=by omega
     have Hy:=qq2 hy hx;clear hy hx;go_wp2_with fail
     refine(HU.out.2 _ _ _ Hy.out.1 (by omega) _ kr).mono ?_;rintro e w6 ⟨rfl,k6⟩;have K6:Keep [] w w6:=kr.trans k6 (by simp);go_wp2;go_roundw
     case rel=>exact⟨i+1,y,by omega,by simp,rfl,Hy.out.1,K6⟩
     case measure=>simp[intOf];omega
   ·have hie:i=n+1:=by omega
    subst hie;have hxt:x=tot:=by have:=HL.out.2.2.2.2;rw[Nat.add_sub_cancel]at hx;rw[hx]at this;exact Option.some.inj this
    subst hxt;have hfr:=HF.out.1.keep kr (by simp);have c1:=hfr.cell (j:=1) rfl;have c3:=hfr.cell (j:=3) rfl;have c4:=hfr.cell (j:=4) rfl;have c5:=hfr.cell (j:=5) rfl;have c11:=hfr.cell (j:=11) rfl;have hz:=hfr.frozen;have Hfr:=qq hfr;clear hfr hx;go_wp2;go_ret;have hd:=HD.out;refine⟨rfl,(((((kr.nil (T:=[sb])).set (.inl (by simp)) _ _ _).set (.inl (by simp)) _ _ _).set (.inl (by simp)) _ _ _).set (.inl (by simp)) _ _ _).set (.inl (by simp)) _ _ _,?_⟩;refine FrAt.setI (f:={f with dstart:=ds,ostart:=k1,osz:=z0,num:=n}) ?_ 1 .u64 _ (ds+x) (by omega) (by omega) rfl;refine FrAt.setI (f:={f with dstart:=ds,ostart:=k1,osz:=z0}) ?_ 5 .u32 _ n (by omega) (by omega) rfl;refine FrAt.setI (f:={f with dstart:=ds,ostart:=k1}) ?_ 11 .u8 _ z0 (by omega) (by omega) rfl;refine FrAt.setI (f:={f with dstart:=ds}) ?_ 4 .u64 _ k1 (by omega) (by omega) rfl;exact FrAt.setI Hfr.out 3 .u64 _ ds (by omega) (by omega) rfl
theorem prepShortC (sb p:Nat) (f:VF) (L R:List Value) (b o ln cap h m:Nat) (ma ko:Option Addr) (mn mc kn kc:Nat) (w:World) (hF:FrAt w sb p f L R) (hv:f.vb=b/\f.vo=o/\f.vn=ln/\f.vc=cap) (hbs:b≠sb) (hc:w.cell? ⟨b,o,none⟩=some (.int .u8 (h:Int))) (hh:h=1+4*m) (hm:m<64)
  (hln0:0<ln) (hln:1+m<=ln) (hnm:ln<=1000000000):
  Calls Tryz.prog 176 #[.agg #[.slice ma mn mc,.slice ko kn kc],.pointer (some ⟨sb,p,none⟩)] w fun e w'=>e=.returned .nilIface/\Keep [sb] w w'/\FrAt w' sb p {f with kind:=1,size:=1+m} L R:=by
 have hh256:h<256:=by omega
 have hsb:=hF.lt;have q0:=hF.cell0;rw[hv.1,hv.2.1,hv.2.2.1,hv.2.2.2]at q0;have hn0i:¬(ln:Int)=0:=by omega
 obtain⟨w1,hw1⟩:∃w1,w1=w.alloc (.cells #[.slice ma mn mc,.slice ko kn kc] 55):=⟨_,rfl⟩;have hbx:Blk w1 w.heap.size [.slice ma mn mc,.slice ko kn kc]:=by rw[hw1];exact Blk.new w _ _
 have kbx:Keep [] w w1:=by rw[hw1];exact(Keep.refl [] w).alloc _
 have q1:=kbx.cell_some q0 (by simp);have hc1:=kbx.cell_some hc (by simp);have hF1:=hF.keep kbx (by simp);have c12:=hF1.cell (j:=12) rfl;have hz:=hF1.frozen (p+12);have hF2:FrAt (w1.setCell ⟨sb,p+12,none⟩ (.int .u8 ((h%4:Nat):Int))) sb p {f with kind:=h%4} L R:=hF1.setI 12 .u8 _ (h%4) (by omega) rfl rfl;have kF2:Keep [sb] w (w1.setCell ⟨sb,p+12,none⟩ (.int .u8 ((h%4:Nat):Int))):=kbx.nil.set (.inl (by simp)) _ _ _;have hbx2:=hbx.set_other (c:=sb) (by omega) (p+12) none (.int .u8 ((h%4:Nat):Int));obtain⟨w2,hw2⟩:∃w2,w2=w1.setCell ⟨sb,p+12,none⟩ (.int .u8 ((h%4:Nat):Int)):=⟨_,rfl⟩;rw[<-hw2]at hF2 kF2 hbx2;obtain⟨kd,hkd⟩:∃kd,kd=h%4:=⟨_,rfl⟩;rw[<-hkd]at hF2 hw2;have hB4:=fun wx=>basicTypeC h wx hh256;rw[<-hkd]at hB4;have HB4:=qq hB4;have hkm:(kd:Int)%256=(kd:Int):=by omega
 have d0:=hF2.cell0;have d12:=hF2.cell (j:=12) (v:=.int .u8 (kd:Int)) rfl;rw[show({f with kind:=kd}:VF).vb=b from hv.1,show({f with kind:=kd}:VF).vo=o from hv.2.1,show({f with kind:=kd}:VF).vn=ln from hv.2.2.1,show({f with kind:=kd}:VF).vc=cap from hv.2.2.2]at d0;have e0:=kF2.cell_some hc (by simpa using hbs);obtain⟨e1,e2⟩:=hbx2.c2 0 1 rfl rfl;have hz2:=hF2.frozen;have d1:=hF2.cell (j:=1) rfl;have HF:=qq3 hF2 kF2 hbx2;have Hw:=qq hw2;have Hv:=qq hv;have Hw1:=qq hw1;rw[hw1]at q1 hc1 c12 hz;clear hF hF1 hF2 kF2 hbx hbx2 kbx hB4 hw2 q0 hc hv hsb hw1;have Hk1:=qq (show kd=1 by omega);have hd4:(h:Int) / 4=(m:Int):=by omega
 have hlt:¬(ln:Int)<1+(m:Int):=by omega
 clear hkd hh
 go_enter Tryz.func176,Tryz.ntmps176
 go_wp2_with fail
 rw[<-Hw1.out]at q1 hc1 c12 hz ⊢;refine(HB4.out _).mono ?_;rintro e w' ⟨rfl,rfl⟩
 go_upto_region 4 with(fail)
 rw[<-Hw.out];clear q1 hc1 c12 hz;have hk1:=Hk1.out;subst hk1;go_wp2;go_ret;exact⟨rfl,HF.out.2.1.set (.inl (by simp)) _ _ _,FrAt.setI HF.out.1 1 .u64 _ (1+m) (by omega) (by omega) rfl⟩
theorem prepFlatC (sb p:Nat) (f:VF) (L R:List Value) (b o ln cap h sz:Nat) (ma ko:Option Addr) (mn mc kn kc:Nat) (w:World) (hF:FrAt w sb p f L R) (hv:f.vb=b/\f.vo=o/\f.vn=ln/\f.vc=cap) (hbs:b≠sb) (hc:w.cell? ⟨b,o,none⟩=some (.int .u8 (h:Int))) (hh:h%4=0) (hh256:h<256)
  (hln0:0<ln) (hnm:ln<=1000000000) (hsz:sz<=1000000000) (hV:∀wx,Keep [sb] w wx->Calls Tryz.prog 185 #[.slice (some ⟨b,o,none⟩) ln cap] wx fun e w'=>e=.returned (.tuple #[.int .i64 (sz:Int),.nilIface])/\Keep [] wx w'):
  Calls Tryz.prog 176 #[.agg #[.slice ma mn mc,.slice ko kn kc],.pointer (some ⟨sb,p,none⟩)] w fun e w'=>e=.returned .nilIface/\Keep [sb] w w'/\FrAt w' sb p {f with kind:=0,size:=sz} L R:=by
 have hsb:=hF.lt;have q0:=hF.cell0;rw[hv.1,hv.2.1,hv.2.2.1,hv.2.2.2]at q0;have hn0i:¬(ln:Int)=0:=by omega
 obtain⟨w1,hw1⟩:∃w1,w1=w.alloc (.cells #[.slice ma mn mc,.slice ko kn kc] 55):=⟨_,rfl⟩;have hbx:Blk w1 w.heap.size [.slice ma mn mc,.slice ko kn kc]:=by rw[hw1];exact Blk.new w _ _
 have kbx:Keep [] w w1:=by rw[hw1];exact(Keep.refl [] w).alloc _
 have q1:=kbx.cell_some q0 (by simp);have hc1:=kbx.cell_some hc (by simp);have hF1:=hF.keep kbx (by simp);have c12:=hF1.cell (j:=12) rfl;have hz:=hF1.frozen (p+12);have hF2:FrAt (w1.setCell ⟨sb,p+12,none⟩ (.int .u8 ((h%4:Nat):Int))) sb p {f with kind:=h%4} L R:=hF1.setI 12 .u8 _ (h%4) (by omega) rfl rfl;have kF2:Keep [sb] w (w1.setCell ⟨sb,p+12,none⟩ (.int .u8 ((h%4:Nat):Int))):=kbx.nil.set (.inl (by simp)) _ _ _;have hbx2:=hbx.set_other (c:=sb) (by omega) (p+12) none (.int .u8 ((h%4:Nat):Int));obtain⟨w2,hw2⟩:∃w2,w2=w1.setCell ⟨sb,p+12,none⟩ (.int .u8 ((h%4:Nat):Int)):=⟨_,rfl⟩;rw[<-hw2]at hF2 kF2 hbx2;obtain⟨kd,hkd⟩:∃kd,kd=h%4:=⟨_,rfl⟩;rw[<-hkd]at hF2 hw2;have hB4:=fun wx=>basicTypeC h wx hh256;rw[<-hkd]at hB4;have HB4:=qq hB4;have hkm:(kd:Int)%256=(kd:Int):=by omega
 have d0:=hF2.cell0;have d12:=hF2.cell (j:=12) (v:=.int .u8 (kd:Int)) rfl;rw[show({f with kind:=kd}:VF).vb=b from hv.1,show({f with kind:=kd}:VF).vo=o from hv.2.1,show({f with kind:=kd}:VF).vn=ln from hv.2.2.1,show({f with kind:=kd}:VF).vc=cap from hv.2.2.2]at d0;have e0:=kF2.cell_some hc (by simpa using hbs);obtain⟨e1,e2⟩:=hbx2.c2 0 1 rfl rfl;have hz2:=hF2.frozen;have d1:=hF2.cell (j:=1) rfl;have HF:=qq3 hF2 kF2 hbx2;have Hw:=qq hw2;have Hv:=qq hv;have Hw1:=qq hw1;rw[hw1]at q1 hc1 c12 hz;clear hF hF1 hF2 kF2 hbx hbx2 kbx hB4 hw2 q0 hc hv hsb hw1;have Hk1:=qq (show kd=0 by omega);have HV:=qq hV;clear hkd hh hV
 go_enter Tryz.func176,Tryz.ntmps176
 go_wp2_with fail
 rw[<-Hw1.out]at q1 hc1 c12 hz ⊢;refine(HB4.out _).mono ?_;rintro e w' ⟨rfl,rfl⟩
 go_upto_region 4 with(fail)
 rw[<-Hw.out];clear q1 hc1 c12 hz;have hk1:=Hk1.out;subst hk1;go_wp2_with fail
 refine(HV.out _ HF.out.2.1).mono ?_;rintro e w5 ⟨rfl,k5⟩
 replace d1:=k5.cell_some d1 (by simp)
 have hz5:=(HF.out.1.keep k5 (by simp)).frozen;go_wp2;go_ret;exact⟨rfl,(HF.out.2.1.trans k5 (by simp)).set (.inl (by simp)) _ _ _,FrAt.setI (HF.out.1.keep k5 (by simp)) 1 .u64 _ sz (by omega) (by omega) rfl⟩
theorem prepNestObj (sb p:Nat) (f f':VF) (L R:List Value) (b o ln cap h:Nat) (ma ko:Option Addr) (mn mc kn kc:Nat) (w:World) (hF:FrAt w sb p f L R) (hv:f.vb=b/\f.vo=o/\f.vn=ln/\f.vc=cap) (hbs:b≠sb) (hc:w.cell? ⟨b,o,none⟩=some (.int .u8 (h:Int))) (hh:h%4=2) (hh256:h<256) (hln0:0<ln) (hnm:ln<=1000000000)
  (hV:∀wx,Keep [sb] w wx->FrAt wx sb p {f with kind:=2} L R->Calls Tryz.prog 183 #[.agg #[.slice ma mn mc,.slice ko kn kc],.pointer (some ⟨sb,p,none⟩)] wx fun e w'=>e=.returned .nilIface/\Keep [sb] wx w'/\FrAt w' sb p f' L R):
  Calls Tryz.prog 176 #[.agg #[.slice ma mn mc,.slice ko kn kc],.pointer (some ⟨sb,p,none⟩)] w fun e w'=>e=.returned .nilIface/\Keep [sb] w w'/\FrAt w' sb p f' L R:=by
 have hsb:=hF.lt;have q0:=hF.cell0;rw[hv.1,hv.2.1,hv.2.2.1,hv.2.2.2]at q0;have hn0i:¬(ln:Int)=0:=by omega
 obtain⟨w1,hw1⟩:∃w1,w1=w.alloc (.cells #[.slice ma mn mc,.slice ko kn kc] 55):=⟨_,rfl⟩;have hbx:Blk w1 w.heap.size [.slice ma mn mc,.slice ko kn kc]:=by rw[hw1];exact Blk.new w _ _
 have kbx:Keep [] w w1:=by rw[hw1];exact(Keep.refl [] w).alloc _
 have q1:=kbx.cell_some q0 (by simp);have hc1:=kbx.cell_some hc (by simp);have hF1:=hF.keep kbx (by simp);have c12:=hF1.cell (j:=12) rfl;have hz:=hF1.frozen (p+12);have hF2:FrAt (w1.setCell ⟨sb,p+12,none⟩ (.int .u8 ((h%4:Nat):Int))) sb p {f with kind:=h%4} L R:=hF1.setI 12 .u8 _ (h%4) (by omega) rfl rfl;have kF2:Keep [sb] w (w1.setCell ⟨sb,p+12,none⟩ (.int .u8 ((h%4:Nat):Int))):=kbx.nil.set (.inl (by simp)) _ _ _;have hbx2:=hbx.set_other (c:=sb) (by omega) (p+12) none (.int .u8 ((h%4:Nat):Int));obtain⟨w2,hw2⟩:∃w2,w2=w1.setCell ⟨sb,p+12,none⟩ (.int .u8 ((h%4:Nat):Int)):=⟨_,rfl⟩;rw[<-hw2]at hF2 kF2 hbx2;obtain⟨kd,hkd⟩:∃kd,kd=h%4:=⟨_,rfl⟩;rw[<-hkd]at hF2 hw2;have hB4:=fun wx=>basicTypeC h wx hh256;rw[<-hkd]at hB4;have HB4:=qq hB4;have hkm:(kd:Int)%256=(kd:Int):=by omega
 have d0:=hF2.cell0;have d12:=hF2.cell (j:=12) (v:=.int .u8 (kd:Int)) rfl;rw[show({f with kind:=kd}:VF).vb=b from hv.1,show({f with kind:=kd}:VF).vo=o from hv.2.1,show({f with kind:=kd}:VF).vn=ln from hv.2.2.1,show({f with kind:=kd}:VF).vc=cap from hv.2.2.2]at d0;have e0:=kF2.cell_some hc (by simpa using hbs);obtain⟨e1,e2⟩:=hbx2.c2 0 1 rfl rfl;have hz2:=hF2.frozen;have d1:=hF2.cell (j:=1) rfl;have HF:=qq3 hF2 kF2 hbx2;have Hw:=qq hw2;have Hv:=qq hv;have Hw1:=qq hw1;rw[hw1]at q1 hc1 c12 hz;clear hF hF1 hF2 kF2 hbx hbx2 kbx hB4 hw2 q0 hc hv hsb hw1;have Hk1:=qq (show kd=2 by omega);have HV:=qq hV;clear hkd hh hV
 go_enter Tryz.func176,Tryz.ntmps176
 go_wp2_with fail
 rw[<-Hw1.out]at q1 hc1 c12 hz ⊢;refine(HB4.out _).mono ?_;rintro e w' ⟨rfl,rfl⟩
 go_upto_region 4 with(fail)
 rw[<-Hw.out];clear q1 hc1 c12 hz;have hk1:=Hk1.out;subst hk1;go_wp2_with fail
 refine(HV.out _ HF.out.2.1 HF.out.1).mono ?_;rintro e w5 ⟨rfl,k5,hF5⟩;have H5:=qq2 k5 hF5;clear k5 hF5;go_wp2;go_ret;exact⟨rfl,HF.out.2.1.trans H5.out.1 (by simp),H5.out.2⟩
theorem prepNestArr (sb p:Nat) (f f':VF) (L R:List Value) (b o ln cap h:Nat) (ma ko:Option Addr) (mn mc kn kc:Nat) (w:World) (hF:FrAt w sb p f L R) (hv:f.vb=b/\f.vo=o/\f.vn=ln/\f.vc=cap) (hbs:b≠sb) (hc:w.cell? ⟨b,o,none⟩=some (.int .u8 (h:Int))) (hh:h%4=3) (hh256:h<256) (hln0:0<ln) (hnm:ln<=1000000000)
  (hV:∀wx,Keep [sb] w wx->FrAt wx sb p {f with kind:=3} L R->Calls Tryz.prog 184 #[.pointer (some ⟨sb,p,none⟩)] wx fun e w'=>e=.returned .nilIface/\Keep [sb] wx w'/\FrAt w' sb p f' L R):
  Calls Tryz.prog 176 #[.agg #[.slice ma mn mc,.slice ko kn kc],.pointer (some ⟨sb,p,none⟩)] w fun e w'=>e=.returned .nilIface/\Keep [sb] w w'/\FrAt w' sb p f' L R:=by
 have hsb:=hF.lt;have q0:=hF.cell0;rw[hv.1,hv.2.1,hv.2.2.1,hv.2.2.2]at q0;have hn0i:¬(ln:Int)=0:=by omega
 obtain⟨w1,hw1⟩:∃w1,w1=w.alloc (.cells #[.slice ma mn mc,.slice ko kn kc] 55):=⟨_,rfl⟩;have hbx:Blk w1 w.heap.size [.slice ma mn mc,.slice ko kn kc]:=by rw[hw1];exact Blk.new w _ _
 have kbx:Keep [] w w1:=by rw[hw1];exact(Keep.refl [] w).alloc _
 have q1:=kbx.cell_some q0 (by simp);have hc1:=kbx.cell_some hc (by simp);have hF1:=hF.keep kbx (by simp);have c12:=hF1.cell (j:=12) rfl;have hz:=hF1.frozen (p+12);have hF2:FrAt (w1.setCell ⟨sb,p+12,none⟩ (.int .u8 ((h%4:Nat):Int))) sb p {f with kind:=h%4} L R:=hF1.setI 12 .u8 _ (h%4) (by omega) rfl rfl;have kF2:Keep [sb] w (w1.setCell ⟨sb,p+12,none⟩ (.int .u8 ((h%4:Nat):Int))):=kbx.nil.set (.inl (by simp)) _ _ _;have hbx2:=hbx.set_other (c:=sb) (by omega) (p+12) none (.int .u8 ((h%4:Nat):Int));obtain⟨w2,hw2⟩:∃w2,w2=w1.setCell ⟨sb,p+12,none⟩ (.int .u8 ((h%4:Nat):Int)):=⟨_,rfl⟩;rw[<-hw2]at hF2 kF2 hbx2;obtain⟨kd,hkd⟩:∃kd,kd=h%4:=⟨_,rfl⟩;rw[<-hkd]at hF2 hw2;have hB4:=fun wx=>basicTypeC h wx hh256;rw[<-hkd]at hB4;have HB4:=qq hB4;have hkm:(kd:Int)%256=(kd:Int):=by omega
 have d0:=hF2.cell0;have d12:=hF2.cell (j:=12) (v:=.int .u8 (kd:Int)) rfl;rw[show({f with kind:=kd}:VF).vb=b from hv.1,show({f with kind:=kd}:VF).vo=o from hv.2.1,show({f with kind:=kd}:VF).vn=ln from hv.2.2.1,show({f with kind:=kd}:VF).vc=cap from hv.2.2.2]at d0;have e0:=kF2.cell_some hc (by simpa using hbs);obtain⟨e1,e2⟩:=hbx2.c2 0 1 rfl rfl;have hz2:=hF2.frozen;have d1:=hF2.cell (j:=1) rfl;have HF:=qq3 hF2 kF2 hbx2;have Hw:=qq hw2;have Hv:=qq hv;have Hw1:=qq hw1;rw[hw1]at q1 hc1 c12 hz;clear hF hF1 hF2 kF2 hbx hbx2 kbx hB4 hw2 q0 hc hv hsb hw1;have Hk1:=qq (show kd=3 by omega);have HV:=qq hV;clear hkd hh hV
 go_enter Tryz.func176,Tryz.ntmps176
 go_wp2_with fail
 rw[<-Hw1.out]at q1 hc1 c12 hz ⊢;refine(HB4.out _).mono ?_;rintro e w' ⟨rfl,rfl⟩
 go_upto_region 4 with(fail)
 rw[<-Hw.out];clear q1 hc1 c12 hz;have hk1:=Hk1.out;subst hk1;go_wp2_with fail
 refine(HV.out _ HF.out.2.1 HF.out.1).mono ?_;rintro e w5 ⟨rfl,k5,hF5⟩;have H5:=qq2 k5 hF5;clear k5 hF5;go_wp2;go_ret;exact⟨rfl,HF.out.2.1.trans H5.out.1 (by simp),H5.out.2⟩
end Go.Proofs.YtocgdgmfnockiaaGreatDoor
