/- Variants read: ObjectValue.ValueByKey. Variants back: an object's iterator. -/
import Derived.Test.YtocgdgmfnockiaaGreatDoorV38
import Derived.Test.YtocgdgmfnockiaaGreatDoorV16
import Derived.Test.YtocgdgmfnockiaaGreatDoorV18
import Derived.Test.YtocgdgmfnockiaaGreatDoorV19
import Derived.Test.YtocgdgmfnockiaaGreatDoorV23
import Derived.Test.YtocgdgmfnockiaaGreatDoorV45
import Derived.Test.YtocgdgmfnockiaaGreatDoorV43
set_option linter.unusedVariables false
set_option linter.unusedSimpArgs false
set_option maxRecDepth 100000
set_option maxHeartbeats 8000000
namespace Go.Proofs.YtocgdgmfnockiaaGreatDoor
open Go.RowKit

structure FieldsAt (b o c k:Nat) (xs:Nat->Nat) (ks:List ByteArray) (ma ko:Option Addr) (mn mc kn kc:Nat) (w:World):Prop where
 len:ks.length=k
 id:∀i,i<k->∀wx,Keep [] w wx->Calls Tryz.prog 121 #[.slice (some ⟨b,o+(2+i),none⟩) 1 (c-(2+i))] wx fun e w'=>e=.returned (.int .u32 (xs i:Int))/\Keep [] wx w'
 key:∀i kk,ks[i]?=some kk->∀wx,Keep [] w wx->Calls Tryz.prog 155 #[.agg #[.slice ma mn mc,.slice ko kn kc],.int .u32 (xs i:Int)] wx fun e w'=>e=.returned (.tuple #[.string kk,.nilIface])/\Keep [] wx w'
theorem byKeyLin (b o n c k q1 q2 sz t off g p m:Nat) (key:ByteArray) (xs:Nat->Nat) (ks:List ByteArray) (ma ko:Option Addr) (mn mc kn kc:Nat) (w:World) (hs1:1<=sz) (hs4:sz<=4) (hk:k<32) (ht:t<k) (hF:FieldsAt b o c k xs ks ma ko mn mc kn kc w) (hkt:ks[t]?=some key) (hne:∀i x,i<t->ks[i]?=some x->x≠key)
  (hp:p=q1+t*sz) (hB:Byt w b (o+p) (leBytes sz off)) (hoff:off<256^sz) (hpn:p+sz<=n) (hin:3+k<=n) (hm0:0<m) (hg:g=q2+off) (hqm:g+m<=n) (hn9:n<=1000000000) (hnc:n<=c)
  (hz:∀wx,Keep [] w wx->Calls Tryz.prog 82 #[.slice (some ⟨b,o+g,none⟩) (n-g) (c-g)] wx fun e w'=>e=.returned (.int .i64 (m:Int))/\Keep [] wx w'):
  Calls Tryz.prog 130 #[.agg #[.slice (some ⟨b,o,none⟩) n c,.slice ma mn mc,.slice ko kn kc,.int .u32 (k:Int),.int .u64 (q1:Int),.int .u64 (q2:Int),.int .u8 1,.int .u8 (sz:Int),.int .u64 2],.string key] w fun e w'=>e=.returned (.tuple #[.agg #[.string key,.slice (some ⟨b,o+g,none⟩) m (c-g),.slice ma mn mc,.slice ko kn kc],.nilIface])/\Keep [] w w':=by
 have HN:=qq3 hkt hne hF.len;have hik:¬(k:Int)<=(t:Int):=by omega
 have hU2:=fun(wx:World) (kk:Keep [] w wx)=>readLe b (o+p) sz (c-p) off wx (hB.keep kk (by simp)) hoff (by omega) (by omega);have HU:=qq2 hF hU2;have HT:=qq (fun(wx:World) (kx:Keep [] w wx)=>trimC b (o+g) (n-g) (c-g) m ma ko mn mc kn kc wx (fun wy ky=>hz wy (kx.trans ky (by simp))) (by omega));obtain⟨r,hr⟩:∃r,r=t*sz:=⟨_,rfl⟩;have hmul:(sz:Int)*(t:Int)=(r:Int):=by rw[hr];push_cast;rw[Int.mul_comm]
 rw[<-hr]at hp;obtain⟨p2,hp2⟩:∃p2,p2=p+sz:=⟨_,rfl⟩;have m1:IntKind.u64.wrap (r:Int)=(r:Int):=by rw[IntKind.wrap_u64];omega
 have m2:(q1:Int)+(r:Int)=(p:Int):=by omega
 have m3:IntKind.u64.wrap (p:Int)=(p:Int):=by rw[IntKind.wrap_u64];omega
 have m4:(p:Int)+(sz:Int)=(p2:Int):=by omega
 have m5:IntKind.u64.wrap (p2:Int)=(p2:Int):=by rw[IntKind.wrap_u64];omega
 have m6:p2-p=sz:=by omega
 have m7:(p:Int)<=(p2:Int):=by omega
 have m7':p<=p2:=by omega
 have m8:(p2:Int)<=(c:Int):=by omega
 have m8':p2<=c:=by omega
 have m9:¬c=p:=by omega
 have how:IntKind.u64.wrap (off:Int)=(off:Int):=by
  have:256^sz<=256^4:=Nat.pow_le_pow_right (by omega) hs4;rw[IntKind.wrap_u64];omega
 have hgi:(q2:Int)+(off:Int)=(g:Int):=by omega
 have hgw2:IntKind.u64.wrap (g:Int)=(g:Int):=by rw[IntKind.wrap_u64];omega
 have hgn:(g:Int)<=(n:Int):=by omega
 have hgn':g<=n:=by omega
 have hqc:¬c=g:=by omega
 have H1:=qq (show Keep [] w ((w.alloc (.cells #[.slice (some ⟨b,o,none⟩) n c,.slice ma mn mc,.slice ko kn kc,.int .u32 (k:Int),.int .u64 (q1:Int),.int .u64 (q2:Int),.int .u8 1,.int .u8 (sz:Int),.int .u64 2] 143)).alloc (.cells #[.string ⟨#[]⟩,.slice none 0 0,.slice none 0 0,.slice none 0 0] 205))/\Blk ((w.alloc (.cells #[.slice (some ⟨b,o,none⟩) n c,.slice ma mn mc,.slice ko kn kc,.int .u32 (k:Int),.int .u64 (q1:Int),.int .u64 (q2:Int),.int .u8 1,.int .u8 (sz:Int),.int .u64 2] 143)).alloc (.cells #[.string ⟨#[]⟩,.slice none 0 0,.slice none 0 0,.slice none 0 0] 205)) w.heap.size [.slice (some ⟨b,o,none⟩) n c,.slice ma mn mc,.slice ko kn kc,.int .u32 (k:Int),.int .u64 (q1:Int),.int .u64 (q2:Int),.int .u8 1,.int .u8 (sz:Int),.int .u64 2]/\Blk ((w.alloc (.cells #[.slice (some ⟨b,o,none⟩) n c,.slice ma mn mc,.slice ko kn kc,.int .u32 (k:Int),.int .u64 (q1:Int),.int .u64 (q2:Int),.int .u8 1,.int .u8 (sz:Int),.int .u64 2] 143)).alloc (.cells #[.string ⟨#[]⟩,.slice none 0 0,.slice none 0 0,.slice none 0 0] 205)) (w.heap.size+1) [.string ⟨#[]⟩,.slice none 0 0,.slice none 0 0,.slice none 0 0]from
  ⟨((Keep.refl [] w).alloc _).alloc _,(Blk.new w _ _).alloc _,Blk.of_new (cs:=[.string ⟨#[]⟩,.slice none 0 0,.slice none 0 0,.slice none 0 0]) (by simp)⟩)
 clear hU2 hB hF hoff hr hp hp2 hg;have hk32:(k:Int)<32:=by omega
 clear hkt hne
 go_enter Tryz.func130,Tryz.ntmps130
 go_wp2_with fail
 generalize(w.alloc (.cells #[.slice (some ⟨b,o,none⟩) n c,.slice ma mn mc,.slice ko kn kc,.int .u32 (k:Int),.int .u64 (q1:Int),.int .u64 (q2:Int),.int .u8 1,.int .u8 (sz:Int),.int .u64 2] 143)).alloc (.cells #[.string ⟨#[]⟩,.slice none 0 0,.slice none 0 0,.slice none 0 0] 205)=w1 at H1 ⊢
 go_loopw [28] (fun i wr=>∃j:Nat,j<=t/\i=.int .u32 (j:Int)/\Keep [] w1 wr) (fun i _=>t-(intOf i).toNat)
 case atStart=>exact⟨0,Nat.zero_le _,rfl,Keep.refl _ _⟩
 case round=>
  obtain⟨j,hj,rfl,kr⟩:=hrel;have hjk:(j:Int)<(k:Int):=by omega
  obtain⟨kj,hkj⟩:∃kj,ks[j]?=some kj:=⟨_,List.getElem?_eq_getElem (by rw[HN.out.2.2];omega)⟩;have Hj:=qq hkj;clear hkj;have hjc:¬c=2+j:=by omega
  have hbr:=H1.out.2.1.keep kr (by simp);have hrr:=H1.out.2.2.keep kr (by simp);obtain⟨b0,b5,b7⟩:=hbr.c3 0 6 8 rfl rfl rfl;have Hr:=qq4 hrr hbr (H1.out.1.trans kr (by simp)) kr;clear hbr hrr kr;go_wp2_with fail
  refine(HU.out.1.id j (by omega) _ Hr.out.2.2.1).mono ?_;rintro e w4 ⟨rfl,k4⟩;have hb4:=Hr.out.2.1.keep k4 (by simp);have hr4:=Hr.out.1.keep k4 (by simp);obtain⟨a0,a1,a2⟩:=hb4.c3 0 1 2 rfl rfl rfl;have H4:=qq4 hr4 hb4 (Hr.out.2.2.1.trans k4 (by simp)) (Hr.out.2.2.2.trans k4 (by simp));clear hb4 hr4 k4 b0 b5 b7;go_wp2_with fail
  refine(HU.out.1.key j kj Hj.out _ H4.out.2.2.1).mono ?_;rintro e w5 ⟨rfl,k5⟩;have hb5:=H4.out.2.1.keep k5 (by simp);obtain⟨a0,a4,a7⟩:=hb5.c3 0 4 7 rfl rfl rfl;have H5:=qq4 (H4.out.1.keep k5 (by simp)) hb5 (H4.out.2.2.1.trans k5 (by simp)) (H4.out.2.2.2.trans k5 (by simp));clear hb5 k5 a1 a2;by_cases hjt:j=t
  ·subst hjt;obtain rfl:key=kj:=Option.some.inj (HN.out.1.symm.trans Hj.out);go_wp2_with fail
   refine(HU.out.2 _ H5.out.2.2.1).mono ?_;rintro e w6 ⟨rfl,k6⟩;have hb6:=H5.out.2.1.keep k6 (by simp);obtain⟨a0,a1,a2,a5⟩:=hb6.c4 0 1 2 5 rfl rfl rfl rfl;have H6:=qq2 (H5.out.1.keep k6 (by simp)) (H5.out.2.2.1.trans k6 (by simp));clear hb6 k6;go_wp2_with fail
   go_region_with (
    go_at_call 153;
    refine(HT.out _ H6.out.2.drew).mono ?_;
    rintro e w7 ⟨rfl,k7⟩;
    have r0:=(H6.out.1.drew.keep k7 (by simp)).cell (i:=0) rfl;
    have r1:=(H6.out.1.drew.keep k7 (by simp)).cell (i:=1) rfl;
    have r2:=(H6.out.1.drew.keep k7 (by simp)).cell (i:=2) rfl;
    have r3:=(H6.out.1.drew.keep k7 (by simp)).cell (i:=3) rfl;
    have fr:=(H6.out.1.drew.keep k7 (by simp)).frozen;
    have H7:=qq2 (H6.out.2.drew.trans k7 (by simp)) (H6.out.1.drew.keep k7 (by simp)))
   all_goals
    go_wp2;have hz:=(((H7.out.2.set 0 (.string key)).set 1 (.slice (some ⟨b,o+g,none⟩) m (c-g))).set 2 (.slice ma mn mc)).set 3 (.slice ko kn kc);obtain⟨z0,z1,z2,z3⟩:=hz.c4 0 1 2 3 rfl rfl rfl rfl;refine bodyPost_ret (v:=.tuple #[.agg #[.string key,.slice (some ⟨b,o+g,none⟩) m (c-g),.slice ma mn mc,.slice ko kn kc],.nilIface]) ?_ rfl ⟨rfl,(((H7.out.1.set (.inr (by simp)) _ _ _).set (.inr (by simp)) _ _ _).set (.inr (by simp)) _ _ _).set (.inr (by simp)) _ _ _⟩;rw[results_cell_tmp rfl];go_simp
  ·have hkn:¬kj=key:=HN.out.2.1 j kj (by omega) Hj.out;have hkn':=strNe hkn;go_wp2;go_roundw
   case rel=>exact⟨j+1,by omega,by go_num,H5.out.2.2.2⟩
   case measure=>simp[intOf];omega
theorem byKeyBin (b o n c k q1 q2 sz t off g p m:Nat) (key:ByteArray) (xs:Nat->Nat) (ks:List ByteArray) (ma ko:Option Addr) (mn mc kn kc:Nat) (w:World) (hs1:1<=sz) (hs4:sz<=4) (hk:¬k<32) (hk9:k<=1000000) (ht:t<k) (hF:FieldsAt b o c k xs ks ma ko mn mc kn kc w) (hkt:ks[t]?=some key) (hlt:∀i x,i<t->ks[i]?=some x->ltK x key=true) (hgt:∀i x,t<i->ks[i]?=some x->ltK key x=true)
  (hp:p=q1+t*sz) (hB:Byt w b (o+p) (leBytes sz off)) (hoff:off<256^sz) (hpn:p+sz<=n) (hin:3+k<=n) (hm0:0<m) (hg:g=q2+off) (hqm:g+m<=n) (hn9:n<=1000000000) (hnc:n<=c)
  (hz:∀wx,Keep [] w wx->Calls Tryz.prog 82 #[.slice (some ⟨b,o+g,none⟩) (n-g) (c-g)] wx fun e w'=>e=.returned (.int .i64 (m:Int))/\Keep [] wx w'):
  Calls Tryz.prog 130 #[.agg #[.slice (some ⟨b,o,none⟩) n c,.slice ma mn mc,.slice ko kn kc,.int .u32 (k:Int),.int .u64 (q1:Int),.int .u64 (q2:Int),.int .u8 1,.int .u8 (sz:Int),.int .u64 2],.string key] w fun e w'=>e=.returned (.tuple #[.agg #[.string key,.slice (some ⟨b,o+g,none⟩) m (c-g),.slice ma mn mc,.slice ko kn kc],.nilIface])/\Keep [] w w':=by
 have HN:=qq4 hkt hF.len hlt hgt;have hik:¬(k:Int)<=(t:Int):=by omega
 have hU2:=fun(wx:World) (kk:Keep [] w wx)=>readLe b (o+p) sz (c-p) off wx (hB.keep kk (by simp)) hoff (by omega) (by omega);have HU:=qq2 hF hU2;have HT:=qq (fun(wx:World) (kx:Keep [] w wx)=>trimC b (o+g) (n-g) (c-g) m ma ko mn mc kn kc wx (fun wy ky=>hz wy (kx.trans ky (by simp))) (by omega));obtain⟨r,hr⟩:∃r,r=t*sz:=⟨_,rfl⟩;have hmul:(sz:Int)*(t:Int)=(r:Int):=by rw[hr];push_cast;rw[Int.mul_comm]
 rw[<-hr]at hp;obtain⟨p2,hp2⟩:∃p2,p2=p+sz:=⟨_,rfl⟩;have m1:IntKind.u64.wrap (r:Int)=(r:Int):=by rw[IntKind.wrap_u64];omega
 have m2:(q1:Int)+(r:Int)=(p:Int):=by omega
 have m3:IntKind.u64.wrap (p:Int)=(p:Int):=by rw[IntKind.wrap_u64];omega
 have m4:(p:Int)+(sz:Int)=(p2:Int):=by omega
 have m5:IntKind.u64.wrap (p2:Int)=(p2:Int):=by rw[IntKind.wrap_u64];omega
 have m6:p2-p=sz:=by omega
 have m7:(p:Int)<=(p2:Int):=by omega
 have m7':p<=p2:=by omega
 have m8:(p2:Int)<=(c:Int):=by omega
 have m8':p2<=c:=by omega
 have m9:¬c=p:=by omega
 have how:IntKind.u64.wrap (off:Int)=(off:Int):=by
  have:256^sz<=256^4:=Nat.pow_le_pow_right (by omega) hs4;rw[IntKind.wrap_u64];omega
 have hgi:(q2:Int)+(off:Int)=(g:Int):=by omega
 have hgw2:IntKind.u64.wrap (g:Int)=(g:Int):=by rw[IntKind.wrap_u64];omega
 have hgn:(g:Int)<=(n:Int):=by omega
 have hgn':g<=n:=by omega
 have hqc:¬c=g:=by omega
 have H1:=qq (show Keep [] w ((w.alloc (.cells #[.slice (some ⟨b,o,none⟩) n c,.slice ma mn mc,.slice ko kn kc,.int .u32 (k:Int),.int .u64 (q1:Int),.int .u64 (q2:Int),.int .u8 1,.int .u8 (sz:Int),.int .u64 2] 143)).alloc (.cells #[.string ⟨#[]⟩,.slice none 0 0,.slice none 0 0,.slice none 0 0] 205))/\Blk ((w.alloc (.cells #[.slice (some ⟨b,o,none⟩) n c,.slice ma mn mc,.slice ko kn kc,.int .u32 (k:Int),.int .u64 (q1:Int),.int .u64 (q2:Int),.int .u8 1,.int .u8 (sz:Int),.int .u64 2] 143)).alloc (.cells #[.string ⟨#[]⟩,.slice none 0 0,.slice none 0 0,.slice none 0 0] 205)) w.heap.size [.slice (some ⟨b,o,none⟩) n c,.slice ma mn mc,.slice ko kn kc,.int .u32 (k:Int),.int .u64 (q1:Int),.int .u64 (q2:Int),.int .u8 1,.int .u8 (sz:Int),.int .u64 2]/\Blk ((w.alloc (.cells #[.slice (some ⟨b,o,none⟩) n c,.slice ma mn mc,.slice ko kn kc,.int .u32 (k:Int),.int .u64 (q1:Int),.int .u64 (q2:Int),.int .u8 1,.int .u8 (sz:Int),.int .u64 2] 143)).alloc (.cells #[.string ⟨#[]⟩,.slice none 0 0,.slice none 0 0,.slice none 0 0] 205)) (w.heap.size+1) [.string ⟨#[]⟩,.slice none 0 0,.slice none 0 0,.slice none 0 0]from
  ⟨((Keep.refl [] w).alloc _).alloc _,(Blk.new w _ _).alloc _,Blk.of_new (cs:=[.string ⟨#[]⟩,.slice none 0 0,.slice none 0 0,.slice none 0 0]) (by simp)⟩)
 clear hU2 hB hF hoff hr hp hp2 hg;have hk32:¬(k:Int)<32:=by omega
 clear hkt hlt hgt
 go_enter Tryz.func130,Tryz.ntmps130
 go_wp2_with fail
 generalize(w.alloc (.cells #[.slice (some ⟨b,o,none⟩) n c,.slice ma mn mc,.slice ko kn kc,.int .u32 (k:Int),.int .u64 (q1:Int),.int .u64 (q2:Int),.int .u8 1,.int .u8 (sz:Int),.int .u64 2] 143)).alloc (.cells #[.string ⟨#[]⟩,.slice none 0 0,.slice none 0 0,.slice none 0 0] 205)=w1 at H1 ⊢
 go_loopw [14,15] (fun i l wr=>∃lo hi:Nat,lo<=t/\t<hi/\hi<=k/\i=.int .u32 (lo:Int)/\l=.int .u32 (hi:Int)/\Keep [] w1 wr) (fun i l _=>(intOf l).toNat-(intOf i).toNat)
 case atStart=>exact⟨0,k,Nat.zero_le _,ht,Nat.le_refl _,rfl,rfl,Keep.refl _ _⟩
 case round=>
  obtain⟨lo,hi,hlo,hhi,hhk,rfl,rfl,kr⟩:=hrel;have hlh:(lo:Int)<(hi:Int):=by omega
  obtain⟨j,hj⟩:∃j,j=(lo+hi) / 2:=⟨_,rfl⟩;have hjk:j<k:=by omega
  have hjlo:lo<=j:=by omega
  have hjhi:j<hi:=by omega
  have hw1:IntKind.u32.wrap ((lo:Int)+(hi:Int))=((lo+hi:Nat):Int):=by rw[IntKind.wrap_u32];omega
  have hdj:((lo:Int)+(hi:Int)) / 2=(j:Int):=by omega
  obtain⟨kj,hkj⟩:∃kj,ks[j]?=some kj:=⟨_,List.getElem?_eq_getElem (by rw[HN.out.2.1];omega)⟩;have Hj:=qq hkj;have hcm:(j<t/\cmpK kj key=-1)\/(j=t/\cmpK kj key=0)\/(t<j/\cmpK kj key=1):=by
   rcases Nat.lt_trichotomy j t with h|h|h
   ·exact .inl ⟨h,cmpK_lt (HN.out.2.2.1 j kj h hkj)⟩
   ·subst h;have e:=Option.some.inj (HN.out.1.symm.trans hkj);exact .inr (.inl ⟨rfl,by rw[e];exact cmpK_same _⟩)
   ·exact .inr (.inr ⟨h,cmpK_gt (HN.out.2.2.2 j kj h hkj)⟩)
  have HC:=qq hcm;have HJ:=qq hj;clear hkj hcm hj;have hjc:¬c=2+j:=by omega
  have hbr:=H1.out.2.1.keep kr (by simp);have hrr:=H1.out.2.2.keep kr (by simp);obtain⟨b0,b5,b7⟩:=hbr.c3 0 6 8 rfl rfl rfl;have Hr:=qq4 hrr hbr (H1.out.1.trans kr (by simp)) kr;clear hbr hrr kr;go_wp2_with fail
  refine(HU.out.1.id j (by omega) _ Hr.out.2.2.1).mono ?_;rintro e w4 ⟨rfl,k4⟩;have hb4:=Hr.out.2.1.keep k4 (by simp);have hr4:=Hr.out.1.keep k4 (by simp);obtain⟨a0,a1,a2⟩:=hb4.c3 0 1 2 rfl rfl rfl;have H4:=qq4 hr4 hb4 (Hr.out.2.2.1.trans k4 (by simp)) (Hr.out.2.2.2.trans k4 (by simp));clear hb4 hr4 k4 b0 b5 b7;go_wp2_with fail
  refine(HU.out.1.key j kj Hj.out _ H4.out.2.2.1).mono ?_;rintro e w5 ⟨rfl,k5⟩;have hb5:=H4.out.2.1.keep k5 (by simp);obtain⟨a0,a4,a7⟩:=hb5.c3 0 4 7 rfl rfl rfl;have H5:=qq4 (H4.out.1.keep k5 (by simp)) hb5 (H4.out.2.2.1.trans k5 (by simp)) (H4.out.2.2.2.trans k5 (by simp));clear hb5 k5 a1 a2;go_wp2_with fail
  refine(compareStrC kj key _).mono ?_;rintro e w5' ⟨rfl,rfl⟩;rcases HC.out with⟨hjt,hcv⟩|⟨rfl,hcv⟩|⟨hjt,hcv⟩
  ·rw[hcv];clear hcv;go_wp2;go_roundw
   case rel=>exact⟨j+1,hi,by omega,hhi,hhk,by go_num,rfl,H5.out.2.2.2⟩
   case measure=>simp[intOf];omega
  ·obtain rfl:key=kj:=Option.some.inj (HN.out.1.symm.trans Hj.out);rw[hcv];clear hcv;go_wp2_with fail
   refine(HU.out.2 _ H5.out.2.2.1).mono ?_;rintro e w6 ⟨rfl,k6⟩;have hb6:=H5.out.2.1.keep k6 (by simp);obtain⟨a0,a1,a2,a5⟩:=hb6.c4 0 1 2 5 rfl rfl rfl rfl;have H6:=qq2 (H5.out.1.keep k6 (by simp)) (H5.out.2.2.1.trans k6 (by simp));clear hb6 k6;go_wp2_with fail
   go_region_with (
    go_at_call 153;
    refine(HT.out _ H6.out.2.drew).mono ?_;
    rintro e w7 ⟨rfl,k7⟩;
    have r0:=(H6.out.1.drew.keep k7 (by simp)).cell (i:=0) rfl;
    have r1:=(H6.out.1.drew.keep k7 (by simp)).cell (i:=1) rfl;
    have r2:=(H6.out.1.drew.keep k7 (by simp)).cell (i:=2) rfl;
    have r3:=(H6.out.1.drew.keep k7 (by simp)).cell (i:=3) rfl;
    have fr:=(H6.out.1.drew.keep k7 (by simp)).frozen;
    have H7:=qq2 (H6.out.2.drew.trans k7 (by simp)) (H6.out.1.drew.keep k7 (by simp)))
   all_goals
    go_wp2;have hz:=(((H7.out.2.set 0 (.string key)).set 1 (.slice (some ⟨b,o+g,none⟩) m (c-g))).set 2 (.slice ma mn mc)).set 3 (.slice ko kn kc);obtain⟨z0,z1,z2,z3⟩:=hz.c4 0 1 2 3 rfl rfl rfl rfl;refine bodyPost_ret (v:=.tuple #[.agg #[.string key,.slice (some ⟨b,o+g,none⟩) m (c-g),.slice ma mn mc,.slice ko kn kc],.nilIface]) ?_ rfl ⟨rfl,(((H7.out.1.set (.inr (by simp)) _ _ _).set (.inr (by simp)) _ _ _).set (.inr (by simp)) _ _ _).set (.inr (by simp)) _ _ _⟩;rw[results_cell_tmp rfl];go_simp
  ·rw[hcv];clear hcv;go_wp2;go_roundw
   case rel=>exact⟨lo,j,hlo,by omega,by omega,rfl,rfl,H5.out.2.2.2⟩
   case measure=>simp[intOf];omega
theorem objIterC (d qk qv hb bx k:Nat) (cs:List (Vt d)) (ks:List ByteArray) (xs:Nat->Nat) (how:Int) (b o n c y0 q0 sz:Nat) (off m:Nat->Nat) (ma ko:Option Addr) (mn mc kn kc:Nat) (w0 w:World) (hC:KidsCtx d cs how b o n c y0 q0 sz off m ma ko mn mc kn kc w0) (hF:FieldsAt b o c k xs ks ma ko mn mc kn kc w0) (hk:k=cs.length) (hk9:k<=500) (hin:3+k<=n)
  (hw:Keep [] w0 w) (hq:w0.heap.size<=qk) (hbq:hb<qk) (hkv:qk<qv) (hqb:qv<bx) (hO:OutO d qk qv [bx] w [] []) (hH:Blk w hb [.int .i64 how])
  (hX:Blk w bx [.slice (some ⟨b,o,none⟩) n c,.slice ma mn mc,.slice ko kn kc,.int .u32 (k:Int),.int .u64 (y0:Int),.int .u64 (q0:Int),.int .u8 1,.int .u8 (sz:Int),.int .u64 2]):
  Calls Tryz.prog 154 #[.func (.func 127) #[] #[.pointer (some ⟨qk,0,none⟩),.pointer (some ⟨qv,0,none⟩),.pointer (some ⟨hb,0,none⟩)],.pointer (some ⟨bx,0,none⟩)] w fun e w'=>e=.returned (.tuple #[])/\OutO d qk qv [bx] w' ks (cs.map (lwV d))/\∃S,Keep S w w'/\∀b ∈ S,qk<=b:=by
 have x3:=hX.cell (i:=3) rfl;have HC:=qq hC;have HF:=qq hF;have H:=qq6 hw hO hH hX hk hq;clear hC hw hO hH hX hk hq hF
 go_enter Tryz.func154,Tryz.ntmps154
 go_wp2_with fail
 go_loopw [12] (fun iv wr=>∃i:Nat,i<=k/\iv=.int .u32 (i:Int)/\Hid (∃S,Keep S w wr/\(∀b ∈ S,qk<=b/\b ∉ [bx])/\OutO d qk qv [bx] wr (ks.take i) ((cs.take i).map (lwV d)))) (fun i _=>k-(intOf i).toNat)
 case atStart=>exact⟨0,Nat.zero_le _,rfl,Lib.hid ⟨[],Keep.refl _ _,by simp,by simpa using H.out.2.1⟩⟩
 case round=>
  obtain⟨i,hi,rfl,HR0⟩:=hrel;obtain⟨S,hSk,hSq,hSo⟩:=HR0.out;have HR:=qq3 hSk hSq hSo;clear hSk hSq hSo x3;by_cases hi2:i<k
  ·have hlti:(i:Int)<(k:Int):=by omega
   obtain⟨y,hy⟩:∃y,cs[i]?=some y:=⟨_,List.getElem?_eq_getElem (by rw[<-H.out.2.2.2.2.1];exact hi2)⟩;obtain⟨key,hkey⟩:∃key,ks[i]?=some key:=⟨_,List.getElem?_eq_getElem (by rw[HF.out.len];exact hi2)⟩;have Hy:=qq hy;have Hkey:=qq hkey;clear hy hkey;obtain⟨r,hr⟩:∃r,r=i*sz:=⟨_,rfl⟩;have hmul:(i:Int)*(sz:Int)=(r:Int):=by rw[hr];push_cast;rfl
   obtain⟨p,hp⟩:∃p,p=y0+r:=⟨_,rfl⟩;obtain⟨p2,hp2⟩:∃p2,p2=p+sz:=⟨_,rfl⟩;obtain⟨ofi,hofi⟩:∃ofi,ofi=off i:=⟨_,rfl⟩;obtain⟨g,hg⟩:∃g,g=q0+ofi:=⟨_,rfl⟩;obtain⟨mi,hmi⟩:∃mi,mi=m i:=⟨_,rfl⟩;have hfit:=HC.out.fits i y Hy.out;have h1:=HC.out.sz1;have h4:=HC.out.sz4;have hn9:=HC.out.n9;have hnc:=HC.out.nc;rw[<-hofi,<-hmi,<-hr,<-hp,<-hp2,<-hg]at hfit;have m1:IntKind.u64.wrap (r:Int)=(r:Int):=by rw[IntKind.wrap_u64];omega
   have m2:(y0:Int)+(r:Int)=(p:Int):=by omega
   have m3:IntKind.u64.wrap (p:Int)=(p:Int):=by rw[IntKind.wrap_u64];omega
   have m4:(p:Int)+(sz:Int)=(p2:Int):=by omega
   have m5:IntKind.u64.wrap (p2:Int)=(p2:Int):=by rw[IntKind.wrap_u64];omega
   have m6:p2-p=sz:=by omega
   have m7:(p:Int)<=(p2:Int):=by omega
   have m7':p<=p2:=by omega
   have m8:(p2:Int)<=(c:Int):=by omega
   have m8':p2<=c:=by omega
   have m9:¬c=p:=by omega
   have how64:IntKind.u64.wrap (ofi:Int)=(ofi:Int):=by
    have:256^sz<=256^4:=Nat.pow_le_pow_right (by omega) h4;rw[IntKind.wrap_u64];omega
   have hgi:(q0:Int)+(ofi:Int)=(g:Int):=by omega
   have hgw2:IntKind.u64.wrap (g:Int)=(g:Int):=by rw[IntKind.wrap_u64];omega
   have hgn:(g:Int)<=(n:Int):=by omega
   have hgn':g<=n:=by omega
   have hqc:¬c=g:=by omega
   have hB:=HC.out.bytes i y Hy.out;rw[<-hofi,<-hr,<-hp]at hB;have HL:=qq (fun(wx:World) (kx:Keep [] w0 wx)=>readLe b (o+p) sz (c-p) ofi wx (hB.keep kx (by simp)) hfit.1 (by omega) (by omega));have hsz:=HC.out.size i y Hy.out;rw[<-hofi,<-hg,<-hmi]at hsz;have HT:=qq (fun(wx:World) (kx:Keep [] w0 wx)=>trimC b (o+g) (n-g) (c-g) mi ma ko mn mc kn kc wx (fun wy ky=>hsz wy (kx.trans ky (by simp))) (by omega));have hbk:=HC.out.back i y Hy.out;rw[<-hofi,<-hg,<-hmi]at hbk;have HBK:=qq hbk;clear hr hp hp2 hofi hg hmi hfit hB hsz hbk;have hic:¬c=2+i:=by omega
   have K0:Keep [] w0 wr:=H.out.1.trans HR.out.1 (fun b hb=>.inr (by have:=(HR.out.2.1 b hb).1;have:=H.out.2.2.2.2.2;omega));have hXr:=H.out.2.2.2.1.keep HR.out.1 (fun hm=>(HR.out.2.1 _ hm).2 (by simp));have hHr:=H.out.2.2.1.keep HR.out.1 (fun hm=>by have:=(HR.out.2.1 _ hm).1;omega);obtain⟨x0,x6,x8⟩:=hXr.c3 0 6 8 rfl rfl rfl;have Hr:=qq3 K0 hXr hHr;clear K0 hXr hHr;go_wp2_with fail
   refine(HF.out.id i hi2 _ Hr.out.1).mono ?_;rintro e w3 ⟨rfl,k3⟩;have hX3:=Hr.out.2.1.keep k3 (by simp);obtain⟨x1,x2⟩:=hX3.c2 1 2 rfl rfl;have H3:=qq4 (Hr.out.1.trans k3 (by simp)) hX3 (Hr.out.2.2.keep k3 (by simp)) k3;clear k3 hX3 x0 x6 x8;go_wp2_with fail
   refine(HF.out.key i key Hkey.out _ H3.out.1).mono ?_;rintro e w4 ⟨rfl,k4⟩;have hX4:=H3.out.2.1.keep k4 (by simp);obtain⟨x0,x4,x7⟩:=hX4.c3 0 4 7 rfl rfl rfl;have H4:=qq4 (H3.out.1.trans k4 (by simp)) hX4 (H3.out.2.2.1.keep k4 (by simp)) (H3.out.2.2.2.trans k4 (by simp));clear k4 hX4 x1 x2;go_wp2_with fail
   refine(HL.out _ H4.out.1).mono ?_;rintro e w5 ⟨rfl,k5⟩;have hX5:=H4.out.2.1.keep k5 (by simp);have k05:Keep [] wr w5:=H4.out.2.2.2.trans k5 (by simp);have H5:=qq5 (H4.out.1.trans k5 (by simp)) hX5 (H4.out.2.2.1.keep k5 (by simp)) k05 (HR.out.2.2.keep (S:=[]) k05 (by simp) hkv);have HS:=qq (show(fun w':World=>w'.cell? ⟨bx,0,none⟩=some (.slice (some ⟨b,o,none⟩) n c)/\w'.cell? ⟨bx,1,none⟩=some (.slice ma mn mc)/\w'.cell? ⟨bx,2,none⟩=some (.slice ko kn kc)/\w'.cell? ⟨bx,3,none⟩=some (.int .u32 (k:Int))/\w'.cell? ⟨bx,5,none⟩=some (.int .u64 (q0:Int))) w5 from⟨hX5.cell rfl,hX5.cell rfl,hX5.cell rfl,hX5.cell rfl,hX5.cell rfl⟩);clear k5 k05 hX5 x0 x4 x7;go_wp2_with fail
   refine wp_region_head (fun w':World=>w'.cell? ⟨bx,0,none⟩=some (.slice (some ⟨b,o,none⟩) n c)/\w'.cell? ⟨bx,1,none⟩=some (.slice ma mn mc)/\w'.cell? ⟨bx,2,none⟩=some (.slice ko kn kc)/\w'.cell? ⟨bx,3,none⟩=some (.int .u32 (k:Int))/\w'.cell? ⟨bx,5,none⟩=some (.int .u64 (q0:Int))) 15 (by kernel_rfl) ?_;change wpHead _ _ _ _ _ _ _ _ _ (World.drew _);refine wpHead_take (i:=0) (v:=?_) rfl (by rfl) (by kernel_rfl) (by kernel_rfl) (by kernel_rfl) (by kernel_rfl) (by kernel_rfl) (fun _ _ _ h=>h) HS.out (Or.inl ⟨by rfl,?_⟩) ?_
   rotate_left 1
   ·(intro w hSw;(try dsimp only at hSw);go_simp;try with_reducible rfl)
   try simp only[Act.put,List.setIfInBounds_toArray,List.set_cons_zero,List.set_cons_succ]
   refine wpHead_take (i:=1) (v:=?_) rfl (by rfl) (by kernel_rfl) (by kernel_rfl) (by kernel_rfl) (by kernel_rfl) (by kernel_rfl) (fun _ _ _ h=>h) HS.out (Or.inl ⟨by rfl,?_⟩) ?_
   rotate_left 1
   ·(intro w hSw;(try dsimp only at hSw);go_simp;try with_reducible rfl)
   try simp only[Act.put,List.setIfInBounds_toArray,List.set_cons_zero,List.set_cons_succ]
   refine wpHead_take (i:=2) (v:=?_) rfl (by rfl) (by kernel_rfl) (by kernel_rfl) (by kernel_rfl) (by kernel_rfl) (by kernel_rfl) (fun _ _ _ h=>h) HS.out (Or.inl ⟨by rfl,?_⟩) ?_
   rotate_left 1
   ·(intro w hSw;(try dsimp only at hSw);go_simp;try with_reducible rfl)
   try simp only[Act.put,List.setIfInBounds_toArray,List.set_cons_zero,List.set_cons_succ]
   refine wpHead_take (i:=3) (v:=?_) rfl (by rfl) (by kernel_rfl) (by kernel_rfl) (by kernel_rfl) (by kernel_rfl) (by kernel_rfl) (fun _ _ _ h=>h) HS.out (Or.inl ⟨by rfl,?_⟩) ?_
   rotate_left 1
   ·(intro w hSw;(try dsimp only at hSw);go_simp;try with_reducible rfl)
   try simp only[Act.put,List.setIfInBounds_toArray,List.set_cons_zero,List.set_cons_succ]
   refine wpHead_take (i:=4) (v:=?_) rfl (by rfl) (by kernel_rfl) (by kernel_rfl) (by kernel_rfl) (by kernel_rfl) (by kernel_rfl) (fun _ _ _ h=>h) HS.out (Or.inl ⟨by rfl,?_⟩) ?_
   rotate_left 1
   ·(intro w hSw;(try dsimp only at hSw);go_simp;try with_reducible rfl)
   try simp only[Act.put,List.setIfInBounds_toArray,List.set_cons_zero,List.set_cons_succ]
   refine wpHead_take (i:=5) (v:=?_) rfl (by rfl) (by kernel_rfl) (by kernel_rfl) (by kernel_rfl) (by kernel_rfl) (by kernel_rfl) (fun _ _ _ h=>h) HS.out (Or.inl ⟨by rfl,?_⟩) ?_
   rotate_left 1
   ·(intro w hSw;(try dsimp only at hSw);go_simp;try with_reducible rfl)
   try simp only[Act.put,List.setIfInBounds_toArray,List.set_cons_zero,List.set_cons_succ]
   refine wpHead_take (i:=6) (v:=?_) rfl (by rfl) (by kernel_rfl) (by kernel_rfl) (by kernel_rfl) (by kernel_rfl) (by kernel_rfl) (fun _ _ _ h=>h) HS.out (Or.inl ⟨by rfl,?_⟩) ?_
   rotate_left 1
   ·(intro w hSw;(try dsimp only at hSw);go_simp;try with_reducible rfl)
   try simp only[Act.put,List.setIfInBounds_toArray,List.set_cons_zero,List.set_cons_succ]
   refine wpHead_take (i:=7) (v:=?_) rfl (by rfl) (by kernel_rfl) (by kernel_rfl) (by kernel_rfl) (by kernel_rfl) (by kernel_rfl) (fun _ _ _ h=>h) HS.out (Or.inl ⟨by rfl,?_⟩) ?_
   rotate_left 1
   ·(intro w hSw;(try dsimp only at hSw);go_simp;try with_reducible rfl)
   try simp only[Act.put,List.setIfInBounds_toArray,List.set_cons_zero,List.set_cons_succ]
   refine wpHead_take (i:=8) (v:=?_) rfl (by rfl) (by kernel_rfl) (by kernel_rfl) (by kernel_rfl) (by kernel_rfl) (by kernel_rfl) (fun _ _ _ h=>h) HS.out (Or.inl ⟨by rfl,?_⟩) ?_
   rotate_left 1
   ·(intro w hSw;(try dsimp only at hSw);go_simp;try with_reducible rfl)
   try simp only[Act.put,List.setIfInBounds_toArray,List.set_cons_zero,List.set_cons_succ]
   refine wpHead_take (i:=9) (v:=?_) rfl (by rfl) (by kernel_rfl) (by kernel_rfl) (by kernel_rfl) (by kernel_rfl) (by kernel_rfl) (fun _ _ _ h=>h) HS.out (Or.inl ⟨by rfl,?_⟩) ?_
   rotate_left 1
   ·(intro w hSw;(try dsimp only at hSw);go_simp;try with_reducible rfl)
   try simp only[Act.put,List.setIfInBounds_toArray,List.set_cons_zero,List.set_cons_succ]
   refine wpHead_take (i:=10) (v:=?_) rfl (by rfl) (by kernel_rfl) (by kernel_rfl) (by kernel_rfl) (by kernel_rfl) (by kernel_rfl) (fun _ _ _ h=>h) HS.out (Or.inl ⟨by rfl,?_⟩) ?_
   rotate_left 1
   ·(intro w hSw;(try dsimp only at hSw);go_simp;try with_reducible rfl)
   try simp only[Act.put,List.setIfInBounds_toArray,List.set_cons_zero,List.set_cons_succ]
   refine wpHead_take (i:=11) (v:=?_) rfl (by rfl) (by kernel_rfl) (by kernel_rfl) (by kernel_rfl) (by kernel_rfl) (by kernel_rfl) (fun _ _ _ h=>h) HS.out (Or.inl ⟨by rfl,?_⟩) ?_
   rotate_left 1
   ·(intro w hSw;(try dsimp only at hSw);go_simp;try with_reducible rfl)
   try simp only[Act.put,List.setIfInBounds_toArray,List.set_cons_zero,List.set_cons_succ]
   refine wpHead_ready (rs:=[12]) (by kernel_rfl) (by kernel_rfl) (by simp) ?_;refine headCons rfl (fun K hK=>?_) headNil;go_simp;refine(HT.out _ H5.out.1.drew).mono ?_;rintro e w6 ⟨rfl,k6⟩;have K6:Keep [] w5 w6:=(Keep.refl [] w5).drew.trans k6 (by simp);have hX6:=H5.out.2.1.keep K6 (by simp);have S6:(fun w':World=>w'.cell? ⟨bx,0,none⟩=some (.slice (some ⟨b,o,none⟩) n c)/\w'.cell? ⟨bx,1,none⟩=some (.slice ma mn mc)/\w'.cell? ⟨bx,2,none⟩=some (.slice ko kn kc)/\w'.cell? ⟨bx,3,none⟩=some (.int .u32 (k:Int))/\w'.cell? ⟨bx,5,none⟩=some (.int .u64 (q0:Int))) w6:=⟨hX6.cell rfl,hX6.cell rfl,hX6.cell rfl,hX6.cell rfl,hX6.cell rfl⟩;have H6:=qq5 (H5.out.1.trans K6 (by simp)) hX6 (H5.out.2.2.1.keep K6 (by simp)) (H5.out.2.2.2.1.trans K6 (by simp)) (H5.out.2.2.2.2.keep (S:=[]) K6 (by simp) hkv);refine hK _ _ S6 ?_;clear hK K S6 hX6 K6 k6;refine wpHead_ready (rs:=[13]) (by kernel_rfl) (by kernel_rfl) (by simp) ?_;refine headCons rfl (fun K hK=>?_) headNil;go_simp;refine(memb1C d qk qv hb how b (o+g) mi (c-g) ma ko mn mc kn kc key (lwV d y) (ks.take i) ((cs.take i).map (lwV d)) w6 [bx] H6.out.2.2.2.2 (fun a ha=>by rw[List.mem_singleton]at ha;subst ha;exact⟨H6.out.2.1.lt,by omega,by omega⟩) H6.out.2.2.1 hbq hkv (by simp;omega) (by simp;omega) (fun wx S' kx hS'=>HBK.out wx (H6.out.1.trans kx (fun p hp=>.inr (by have:=hS' p hp;have:=H.out.2.2.2.2.2;omega))))).mono ?_;rintro e w7 ⟨rfl,hO7,S7,k7,hS7⟩;have hX7:=H6.out.2.1.keep k7 (fun hm=>(hS7 _ hm).2 (by simp));have SS7:(fun w':World=>w'.cell? ⟨bx,0,none⟩=some (.slice (some ⟨b,o,none⟩) n c)/\w'.cell? ⟨bx,1,none⟩=some (.slice ma mn mc)/\w'.cell? ⟨bx,2,none⟩=some (.slice ko kn kc)/\w'.cell? ⟨bx,3,none⟩=some (.int .u32 (k:Int))/\w'.cell? ⟨bx,5,none⟩=some (.int .u64 (q0:Int))) w7:=⟨hX7.cell rfl,hX7.cell rfl,hX7.cell rfl,hX7.cell rfl,hX7.cell rfl⟩;have H7:=qq3 hO7 k7 hS7;refine hK _ _ SS7 ?_;clear hK K SS7 hX7 hO7 k7 hS7;refine wpHead_ready (rs:=[14]) (by kernel_rfl) (by kernel_rfl) (by simp) ?_;refine headCons rfl (fun K hK=>?_) headNil;go_simp;have SS7:(fun w':World=>w'.cell? ⟨bx,0,none⟩=some (.slice (some ⟨b,o,none⟩) n c)/\w'.cell? ⟨bx,1,none⟩=some (.slice ma mn mc)/\w'.cell? ⟨bx,2,none⟩=some (.slice ko kn kc)/\w'.cell? ⟨bx,3,none⟩=some (.int .u32 (k:Int))/\w'.cell? ⟨bx,5,none⟩=some (.int .u64 (q0:Int))) w7:=by
    have hX7:=H6.out.2.1.keep H7.out.2.1 (fun hm=>(H7.out.2.2 _ hm).2 (by simp));exact⟨hX7.cell rfl,hX7.cell rfl,hX7.cell rfl,hX7.cell rfl,hX7.cell rfl⟩
   refine hK _ _ SS7 ?_;clear hK K SS7;refine wpHead_done (by kernel_rfl) ?_ _;go_wp2;go_roundw
   case rel=>
    refine⟨i+1,hi2,by go_num,Lib.hid ⟨S++S7,?_,fun b hb=>?_,?_⟩⟩
    ·exact(HR.out.1.trans H6.out.2.2.2.1 (by simp)).cat H7.out.2.1 (fun x hx=>.inl (by simp[hx])) (fun x hx=>.inl (by simp[hx]))
    ·rw[List.mem_append]at hb;exact hb.elim (HR.out.2.1 b) (H7.out.2.2 b)
    ·rw[take_snoc Hy.out,take_snoc Hkey.out,List.map_append];exact H7.out.1
   case measure=>simp[intOf];omega
  ·have hik:i=k:=by omega
   subst hik;have hnl:¬(i:Int)<(i:Int):=by omega
   have hct:cs.take i=cs:=List.take_of_length_le (by rw[H.out.2.2.2.2.1];exact Nat.le_refl _);have hkt:ks.take i=ks:=List.take_of_length_le (by rw[HF.out.len];exact Nat.le_refl _);rw[hct,hkt]at HR;clear hct hkt;go_wp2;go_end0;exact⟨rfl,HR.out.2.2,S,HR.out.1,fun b hb=>(HR.out.2.1 b hb).1⟩
end Go.Proofs.YtocgdgmfnockiaaGreatDoor
