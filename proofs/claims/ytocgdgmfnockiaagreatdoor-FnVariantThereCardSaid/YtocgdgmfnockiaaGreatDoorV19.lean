/- Variants read: tables of numbers in memory. No walk here. Variants read: nextValidationChild. Variants read: strings.Compare. Variants read: prepareObjectValidationFrame. -/
import Derived.Test.YtocgdgmfnockiaaGreatDoorV02
import Derived.Test.YtocgdgmfnockiaaGreatDoorV09
import Derived.Test.YtocgdgmfnockiaaGreatDoorV18
import Derived.Lib.Bytealg
set_option linter.unusedVariables false
set_option linter.unusedSimpArgs false
set_option maxRecDepth 100000
set_option maxHeartbeats 8000000
namespace Go.Proofs.YtocgdgmfnockiaaGreatDoor
open Go.RowKit
theorem tabB_get (sz:Nat):∀(l:List Nat) (i x:Nat),l[i]?=some x->∃A B,tabB sz l=A++(leBytes sz x++B)/\A.length=i*sz
 |[],i,x,h=>by simp at h
 |y::l,0,x,h=>by
  simp at h;subst h;exact⟨[],tabB sz l,by simp[tabB],by simp⟩
 |y::l,i+1,x,h=>by
  obtain⟨A,B,h1,h2⟩:=tabB_get sz l i x (by simpa using h);refine⟨leBytes sz y++A,B,?_,?_⟩
  ·show leBytes sz y++tabB sz l=_
   rw[h1,List.append_assoc]
  ·rw[List.length_append,length_leBytes,h2,Nat.succ_mul,Nat.add_comm]
theorem Byt.tab {w:World} {b o sz i x:Nat} {l:List Nat} (h:Byt w b o (tabB sz l)) (hi:l[i]?=some x):Byt w b (o+i*sz) (leBytes sz x):=by
 obtain⟨A,B,h1,h2⟩:=tabB_get sz l i x hi;rw[h1]at h;rw[<-h2];exact h.right.left
theorem u64_same (z:Int) (n:Nat) (h:z=(n:Int)) (hn:n<18446744073709551616):IntKind.u64.wrap z=(n:Int):=by rw[IntKind.wrap_u64,h];omega
theorem i64_same (z:Int) (n:Nat) (h:z=(n:Int)) (hn:n<9223372036854775808):IntKind.i64.wrap z=(n:Int):=by rw[IntKind.wrap_i64,h];omega
theorem nextObjC (sb p b o ln cap i z os ds dz x po st:Nat) (w:World) (hbs:b≠sb) (q0:w.cell? ⟨sb,p,none⟩=some (.slice (some ⟨b,o,none⟩) ln cap)) (c2:w.cell? ⟨sb,p+2,none⟩=some (.int .u32 (dz:Int))) (c3:w.cell? ⟨sb,p+3,none⟩=some (.int .u64 (ds:Int))) (c4:w.cell? ⟨sb,p+4,none⟩=some (.int .u64 (os:Int)))
  (c6:w.cell? ⟨sb,p+6,none⟩=some (.int .u32 (i:Int))) (c11:w.cell? ⟨sb,p+11,none⟩=some (.int .u8 (z:Int))) (c12:w.cell? ⟨sb,p+12,none⟩=some (.int .u8 2)) (hz1:1<=z) (hz4:z<=4) (hpo:po=os+i*z) (hi:i<=1000000) (hos:os<=1000000) (hB:Byt w b (o+po) (leBytes z x)) (hx:x<256^z)
  (hst:st=ds+x) (hst2:st<ln) (hpl:po+z<=ln) (hxd:x<=dz) (hdz:dz<=1000000000) (hln:ln<=1000000000) (hcap:ln<=cap):
  Calls Tryz.prog 179 #[.pointer (some ⟨sb,p,none⟩)] w fun e w'=>e=.returned (.tuple #[.slice (some ⟨b,o+st,none⟩) (ln-st) (cap-st),.int .i64 (i:Int),.int .u64 (x:Int),.int .u64 0,.nilIface])/\Keep [] w w':=by
 obtain⟨m,hm⟩:∃m,m=i*z:=⟨_,rfl⟩;have hm4:m<=i*4:=by rw[hm];exact Nat.mul_le_mul_left _ hz4
 have hmi:(i:Int)*(z:Int)=(m:Int):=by rw[hm];simp
 rw[<-hm]at hpo;have w1:IntKind.u64.wrap ((i:Int)*(z:Int))=(m:Int):=u64_same _ _ hmi (by omega);have w2:IntKind.u64.wrap ((os:Int)+(m:Int))=(po:Int):=u64_same _ _ (by omega) (by omega);obtain⟨pe,hpe⟩:∃pe,pe=po+z:=⟨_,rfl⟩;have w3:IntKind.i64.wrap ((po:Int)+(z:Int))=(pe:Int):=i64_same _ _ (by omega) (by omega);have w4:IntKind.i64.wrap (po:Int)=(po:Int):=i64_same _ _ rfl (by omega);have w5:IntKind.i64.wrap (z:Int)=(z:Int):=i64_same _ _ rfl (by omega);have hpz:pe-po=z:=by omega
 have hpc:pe<=cap:=by omega
 have hpl':pe<=ln:=by omega
 have hpp:po<=pe:=by omega
 have hne:¬cap=po:=by omega
 have hsc:¬cap=st:=by omega
 have hsti:(ds:Int)+(x:Int)=(st:Int):=by omega
 have hxdi:¬(dz:Int)<(x:Int):=by omega
 have hU:=fun(wx:World) (kk:Keep [] w wx)=>readLe b (o+po) z (cap-po) x wx (hB.keep kk (by simp)) hx hz1 hz4;have HU:=qq5 hU hm hpo hst hpe;clear hU hB hx hm hpo hst hpe hmi
 go_enter Tryz.func179,Tryz.ntmps179
 go_wp2_with fail
 go_quiet (fail)
 obtain⟨wq,hwq⟩:∃wq,wq=w.drewN nq:=⟨_,rfl⟩;have Kq:Keep [] w wq:=by rw[hwq];exact(Keep.refl [] w).drewN nq
 rw[<-hwq];clear hwq
 replace q0:=Kq.cell_some q0 (by simp)
 replace c2:=Kq.cell_some c2 (by simp)
 replace c3:=Kq.cell_some c3 (by simp)
 replace c4:=Kq.cell_some c4 (by simp)
 replace c6:=Kq.cell_some c6 (by simp)
 replace c11:=Kq.cell_some c11 (by simp)
 replace c12:=Kq.cell_some c12 (by simp)
 go_wp2_with fail
 refine wp_region_mid 15 (by kernel_rfl) (by kernel_rfl) ?_;simp only[List.take_succ_cons,List.take_zero,List.drop_succ_cons,List.drop_zero];change wpStill _ _ (World.drew _) _ _ _;repeat still_step
 refine wpStill_nil ?_;go_wp2_with fail
 refine(HU.out.1 _ Kq.drew).mono ?_;rintro e w5 ⟨rfl,k5⟩;have K5:Keep [] w w5:=Kq.drew.trans k5 (by simp);have Kw:Keep [] wq w5:=(Keep.refl [] wq).drew.trans k5 (by simp)
 replace q0:=Kw.cell_some q0 (by simp)
 replace c2:=Kw.cell_some c2 (by simp)
 replace c3:=Kw.cell_some c3 (by simp)
 replace c4:=Kw.cell_some c4 (by simp)
 replace c6:=Kw.cell_some c6 (by simp)
 replace c11:=Kw.cell_some c11 (by simp)
 replace c12:=Kw.cell_some c12 (by simp)
 clear k5 Kw;go_wp2_with fail
 repeat still_step
 refine wpStill_nil ?_;go_wp2;refine bodyPost_ret (v:=.tuple #[.slice (some ⟨b,o+st,none⟩) (ln-st) (cap-st),.int .i64 (i:Int),.int .u64 (x:Int),.int .u64 0,.nilIface]) ?_ rfl ⟨rfl,K5⟩;simp[results,Tryz.results179,go_sem]
theorem nextArrC (sb p b o ln cap i z os ds x y po st en:Nat) (w:World) (hbs:b≠sb) (q0:w.cell? ⟨sb,p,none⟩=some (.slice (some ⟨b,o,none⟩) ln cap)) (c3:w.cell? ⟨sb,p+3,none⟩=some (.int .u64 (ds:Int))) (c4:w.cell? ⟨sb,p+4,none⟩=some (.int .u64 (os:Int)))
  (c6:w.cell? ⟨sb,p+6,none⟩=some (.int .u32 (i:Int))) (c11:w.cell? ⟨sb,p+11,none⟩=some (.int .u8 (z:Int))) (c12:w.cell? ⟨sb,p+12,none⟩=some (.int .u8 3)) (hz1:1<=z) (hz4:z<=4) (hpo:po=os+i*z) (hi:i<=1000000) (hos:os<=1000000) (hB:Byt w b (o+po) (leBytes z x)) (hB2:Byt w b (o+(po+z)) (leBytes z y)) (hx:x<256^z) (hy:y<256^z)
  (hst:st=ds+x) (hen:en=ds+y) (hst2:st<en) (hen2:en<=ln) (hpl:po+z+z<=ln) (hln:ln<=1000000000) (hcap:ln<=cap):
  Calls Tryz.prog 179 #[.pointer (some ⟨sb,p,none⟩)] w fun e w'=>e=.returned (.tuple #[.slice (some ⟨b,o+st,none⟩) (en-st) (cap-st),.int .i64 (i:Int),.int .u64 0,.int .u64 ((en-st:Nat):Int),.nilIface])/\Keep [] w w':=by
 obtain⟨m,hm⟩:∃m,m=i*z:=⟨_,rfl⟩;have hm4:m<=i*4:=by rw[hm];exact Nat.mul_le_mul_left _ hz4
 have hmi:(i:Int)*(z:Int)=(m:Int):=by rw[hm];simp
 rw[<-hm]at hpo;have w1:IntKind.u64.wrap ((i:Int)*(z:Int))=(m:Int):=u64_same _ _ hmi (by omega);have w2:IntKind.u64.wrap ((os:Int)+(m:Int))=(po:Int):=u64_same _ _ (by omega) (by omega);obtain⟨pe,hpe⟩:∃pe,pe=po+z:=⟨_,rfl⟩;have w3:IntKind.i64.wrap ((po:Int)+(z:Int))=(pe:Int):=i64_same _ _ (by omega) (by omega);have w4:IntKind.i64.wrap (po:Int)=(po:Int):=i64_same _ _ rfl (by omega);have w5:IntKind.i64.wrap (z:Int)=(z:Int):=i64_same _ _ rfl (by omega);have hpz:pe-po=z:=by omega
 have hpc:pe<=cap:=by omega
 have hpl':pe<=ln:=by omega
 have hpp:po<=pe:=by omega
 have hne:¬cap=po:=by omega
 have hsc:¬cap=st:=by omega
 have hsti:(ds:Int)+(x:Int)=(st:Int):=by omega
 have heni:(ds:Int)+(y:Int)=(en:Int):=by omega
 obtain⟨pf,hpf⟩:∃pf,pf=pe+z:=⟨_,rfl⟩;have v1:IntKind.u64.wrap ((po:Int)+(z:Int))=(pe:Int):=u64_same _ _ (by omega) (by omega);have v2:IntKind.i64.wrap ((pe:Int)+(z:Int))=(pf:Int):=i64_same _ _ (by omega) (by omega);have v3:IntKind.i64.wrap (pe:Int)=(pe:Int):=i64_same _ _ rfl (by omega);have hpz2:pf-pe=z:=by omega
 have hpc2:pf<=cap:=by omega
 have hpl2:pf<=ln:=by omega
 have hpp2:pe<=pf:=by omega
 have hne2:¬cap=pe:=by omega
 have hes:st<=en:=by omega
 have hec:en<=cap:=by omega
 obtain⟨es,hees⟩:∃es,es=en-st:=⟨_,rfl⟩;have hesi:(en:Int)-(st:Int)=(es:Int):=by omega
 rw[<-hees];have hV:=fun(wx:World) (kk:Keep [] w wx)=>readLe b (o+pe) z (cap-pe) y wx (hpe.symm▸hB2.keep kk (by simp)) hy hz1 hz4;have hU:=fun(wx:World) (kk:Keep [] w wx)=>readLe b (o+po) z (cap-po) x wx (hB.keep kk (by simp)) hx hz1 hz4;have HU:=qq8 hU hm hpo hst hpe hen hees hV;clear hU hV hB hB2 hx hy hm hpo hst hpe hmi hen hpf hees
 go_enter Tryz.func179,Tryz.ntmps179
 go_wp2_with fail
 go_quiet (fail)
 obtain⟨wq,hwq⟩:∃wq,wq=w.drewN nq:=⟨_,rfl⟩;have Kq:Keep [] w wq:=by rw[hwq];exact(Keep.refl [] w).drewN nq
 rw[<-hwq];clear hwq
 replace q0:=Kq.cell_some q0 (by simp)
 replace c3:=Kq.cell_some c3 (by simp)
 replace c4:=Kq.cell_some c4 (by simp)
 replace c6:=Kq.cell_some c6 (by simp)
 replace c11:=Kq.cell_some c11 (by simp)
 replace c12:=Kq.cell_some c12 (by simp)
 go_wp2_with fail
 refine wp_region_mid 15 (by kernel_rfl) (by kernel_rfl) ?_;simp only[List.take_succ_cons,List.take_zero,List.drop_succ_cons,List.drop_zero];change wpStill _ _ (World.drew _) _ _ _;repeat still_step
 refine wpStill_nil ?_;go_wp2_with fail
 refine(HU.out.1 _ Kq.drew).mono ?_;rintro e w5 ⟨rfl,k5⟩;have K5:Keep [] w w5:=Kq.drew.trans k5 (by simp);have Kw:Keep [] wq w5:=(Keep.refl [] wq).drew.trans k5 (by simp)
 replace q0:=Kw.cell_some q0 (by simp)
 replace c3:=Kw.cell_some c3 (by simp)
 replace c4:=Kw.cell_some c4 (by simp)
 replace c6:=Kw.cell_some c6 (by simp)
 replace c11:=Kw.cell_some c11 (by simp)
 replace c12:=Kw.cell_some c12 (by simp)
 clear k5 Kw;go_wp2_with fail
 repeat still_step
 refine wpStill_nil ?_;go_wp2_with fail
 refine wp_region_mid 15 (by kernel_rfl) (by kernel_rfl) ?_;simp only[List.take_succ_cons,List.take_zero,List.drop_succ_cons,List.drop_zero];change wpStill _ _ (World.drew _) _ _ _;repeat still_step
 refine wpStill_nil ?_;go_wp2_with fail
 refine(HU.out.2.2.2.2.2.2.2 _ K5.drew).mono ?_;rintro e w6 ⟨rfl,k6⟩;have K6:Keep [] w w6:=K5.drew.trans k6 (by simp);have Kw:Keep [] w5 w6:=(Keep.refl [] w5).drew.trans k6 (by simp)
 replace q0:=Kw.cell_some q0 (by simp)
 replace c3:=Kw.cell_some c3 (by simp)
 replace c4:=Kw.cell_some c4 (by simp)
 replace c6:=Kw.cell_some c6 (by simp)
 replace c11:=Kw.cell_some c11 (by simp)
 replace c12:=Kw.cell_some c12 (by simp)
 clear k6 Kw;go_wp2_with fail
 repeat still_step
 refine wpStill_nil ?_;go_wp2;refine bodyPost_ret (v:=.tuple #[.slice (some ⟨b,o+st,none⟩) es (cap-st),.int .i64 (i:Int),.int .u64 0,.int .u64 (es:Int),.nilIface]) ?_ rfl ⟨rfl,K6⟩;simp[results,Tryz.results179,go_sem];exact HU.out.2.2.2.2.2.2.1.symm
theorem compareBytes_eq:∀(x y:List UInt8),Lib.compareBytes x y=if x<y then -1 else if x=y then 0 else 1
 |[],[]=>by simp[Lib.compareBytes]
 |[],_::_=>by simp[Lib.compareBytes]
 |_::_,[]=>by simp[Lib.compareBytes]
 |a::x,b::y=>by
  rw[Lib.compareBytes,compareBytes_eq x y];by_cases h1:a<b
  ·have:a::x<b::y:=List.Lex.rel h1;simp[h1,this]
  ·by_cases h2:b<a
   ·have h3:¬a::x<b::y:=by
     intro h;cases h with
     |rel h=>exact h1 h
     |cons h=>exact h1 h2
    have h4:¬a=b:=by rintro rfl;exact h1 h2
    simp[h1,h2,h3,h4]
   ·have e:a=b:=UInt8.le_antisymm (UInt8.not_lt.1 h2) (UInt8.not_lt.1 h1);subst e;simp[List.cons_lt_cons_iff]
theorem compareBytes_K (x y:ByteArray):Lib.compareBytes x.data.toList y.data.toList=cmpK x y:=by
 rw[compareBytes_eq,cmpK,ltK_eq,ByteArray.toList_eq,ByteArray.toList_eq];simp
theorem compareStrC (x y:ByteArray) (w:World):Calls Tryz.prog 156 #[.string x,.string y] w fun e w'=>e=.returned (.int .i64 (cmpK x y))/\w'=w:=by
 have hx:Calls Tryz.prog 169 #[.string x,.string y] w fun e w'=>e=.returned (.int .i64 (cmpK x y))/\w'=w:=by
  have hc:(callFunc 181 #[.string x,.string y]).run Tryz.prog w=.ok (.value (.int .i64 (cmpK x y))) w:=by
   rw[run_callFunc_extern (e:=Extern.BytealgCompare.compare) Tryz.func181 (by kernel_rfl) (by kernel_rfl) (by kernel_rfl) (by kernel_rfl),Lib.run_compareString,compareBytes_K];rfl
  go_enter Tryz.func169,Tryz.ntmps169
  go_wp2;go_ret;exact⟨rfl,rfl⟩
 go_enter Tryz.func156,Tryz.ntmps156
 go_wp2_with fail
 refine hx.mono ?_;rintro e w' ⟨rfl,rfl⟩;go_wp2;go_ret;exact⟨rfl,rfl⟩
theorem cmpK_lt {x y:ByteArray} (h:ltK x y=true):cmpK x y=-1:=by unfold cmpK;rw[if_pos h]
theorem cmpK_same (x:ByteArray):cmpK x x=0:=by unfold cmpK;rw[ltK_irrefl];simp
theorem cmpK_gt {x y:ByteArray} (h:ltK y x=true):cmpK x y=1:=by
 unfold cmpK;rw[ltK_asymm h];have:¬x.toList=y.toList:=fun e=>ltK_ne h (ba_ext e).symm;simp[this]
theorem prepObjC (sb p:Nat) (f:VF) (L R:List Value) (b o ln cap h s n tot:Nat) (ids l:List Nat) (ks F:List ByteArray) (ma:Option Addr) (mn mc:Nat) (kv:Value) (w:World) (hF:FrAt w sb p f L R) (hv:f.vb=b/\f.vo=o/\f.vn=ln/\f.vc=cap) (hbs:b≠sb)
  (hc:w.cell? ⟨b,o,none⟩=some (.int .u8 (h:Int))) (hh:h=2+4*s) (hs:s<=3) (hB1:Byt w b (o+1) (leBytes 1 n)) (hB2:Byt w b (o+2) (tabB 1 ids)) (hB3:Byt w b (o+(2+n)) (tabB (s+1) l)) (hn:n<=255) (hil:ids.length=n) (hl:l.length=n+1) (hkl:ks.length=n)
  (hle:∀x ∈ l,x<=tot) (hln':l[n]?=some tot) (ht:tot<256^(s+1)) (htl:tot<=1000000000) (hln:2+n+(n+1)*(s+1)+tot<=ln) (hnm:ln<=1000000000) (hcap:ln<=cap) (hK:KeysAt w kv F) (hF255:F.length<=255) (hid:∀(i x:Nat) (k:ByteArray),ids[i]?=some x->ks[i]?=some k->F[x]?=some k)
  (hsort:ks.Pairwise fun a b=>ltK a b=true):
  Calls Tryz.prog 183 #[.agg #[.slice ma mn mc,kv],.pointer (some ⟨sb,p,none⟩)] w fun e w'=>e=.returned .nilIface/\Keep [sb] w w'/\
   FrAt w' sb p {f with dstart:=2+n+(n+1)*(s+1),ostart:=2+n,osz:=s+1,num:=n,dsize:=tot,size:=2+n+(n+1)*(s+1)+tot} L R:=by
 have q0:=hF.cell0;rw[hv.1,hv.2.1,hv.2.2.1,hv.2.2.2]at q0;have hmul:(n+1)*1<=(n+1)*(s+1):=Nat.mul_le_mul_left _ (by omega);have hn0:0<ln:=by omega
 have hc2:(2:Int)<=(cap:Int):=by omega
 have hc2':2<=cap:=by omega
 have hl2:2<=ln:=by omega
 have hc1:¬cap=1:=by omega
 have hU1:=fun(wx:World) (kk:Keep [] w wx)=>readLe b (o+1) 1 (cap-1) n wx (hB1.keep kk (by simp)) (by omega) (by omega) (by omega);have hU2:=fun(i x q':Nat) (hi:l[i]?=some x) (hq':q'=2+n+i*(s+1)) (wx:World) (kk:Keep [] w wx)=>readLe b (o+q') (s+1) (cap-q') x wx (by
  have:=(hB3.tab hi).keep kk (by simp);rw[Nat.add_assoc,<-hq']at this;exact this) (Nat.lt_of_le_of_lt (hle x (List.mem_of_getElem? hi)) ht) (by omega) (by omega)
 have hU3:=fun(i x:Nat) (k:ByteArray) (q':Nat) (hi:ids[i]?=some x) (hk:ks[i]?=some k) (hq':q'=2+i) (wx:World) (kk:Keep [] w wx)=>readLe b (o+q') 1 (cap-q') x wx (by
  have:=(hB2.tab hi).keep kk (by simp);rw[Nat.add_assoc,Nat.mul_one,<-hq']at this;exact this) (by have:=(List.getElem?_eq_some_iff.1 (hid i x k hi hk)).1;omega) (by omega) (by omega)
 have hU4:=fun(i x:Nat) (k:ByteArray) (hi:ids[i]?=some x) (hk:ks[i]?=some k) (wx:World) (kk:Keep [] w wx)=>keyAtC ma mn mc kv F x k wx (hK.keep kk) (hid i x k hi hk) (by omega);obtain⟨ko,kc,hkv,-⟩:=hK;obtain⟨kn,hkn⟩:∃kn,kn=F.length:=⟨_,rfl⟩;rw[<-hkn]at hkv;subst hkv;have hlt:∀(i:Nat) (k k':ByteArray),ks[i]?=some k->ks[i+1]?=some k'->cmpK k k'=-1:=fun i k k' h1 h2=>by
  have a1:=(List.getElem?_eq_some_iff.1 h1);have a2:=(List.getElem?_eq_some_iff.1 h2);have:=List.pairwise_iff_getElem.1 hsort i (i+1) a1.1 a2.1 (by omega);rw[a1.2,a2.2]at this;exact cmpK_lt this
 obtain⟨ds,hds⟩:∃ds,ds=2+n+(n+1)*(s+1):=⟨_,rfl⟩;obtain⟨z0,hz0⟩:∃z,z=s+1:=⟨_,rfl⟩;obtain⟨k1,hk1'⟩:∃z,z=2+n:=⟨_,rfl⟩;rw[<-hds,<-hz0,<-hk1'];have HD:=qq3 hds hz0 hk1';have HL:=qq6 hl hil hkl hle hln' hlt;have HF:=qq3 hF hv hbs;have HU:=qq4 hU1 hU2 hU3 hU4;have hbx:Blk (w.alloc (.cells #[.slice ma mn mc,.slice ko kn kc] 55)) w.heap.size [.slice ma mn mc,.slice ko kn kc]:=Blk.new w _ _;have kbx:Keep [] w (w.alloc (.cells #[.slice ma mn mc,.slice ko kn kc] 55)):=(Keep.refl [] w).alloc _;have q1:=kbx.cell_some q0 (by simp);have hc':=kbx.cell_some hc (by simp);clear hU1 hU2 hU3 hU4 hB1 hB2 hB3 ht hl hil hkl hle hln' hF hv hbs hds hz0 hk1' hid hsort hlt q0 hc hkn;have hcase:s=0\/s=1\/s=2\/s=3:=by omega
 subst hh;have bt0_3:bits .and .u8 0 3=0:=by decide
 have bt1_3:bits .and .u8 1 3=1:=by decide
 have bt2_3:bits .and .u8 2 3=2:=by decide
 have bt3_3:bits .and .u8 3 3=3:=by decide
 have bt4_3:bits .and .u8 4 3=0:=by decide
 have bt5_3:bits .and .u8 5 3=1:=by decide
 have bt6_3:bits .and .u8 6 3=2:=by decide
 have bt7_3:bits .and .u8 7 3=3:=by decide
 have bt10_3:bits .and .u8 10 3=2:=by decide
 have bt14_3:bits .and .u8 14 3=2:=by decide
 have bt11_3:bits .and .u8 11 3=3:=by decide
 have bt15_3:bits .and .u8 15 3=3:=by decide
 have bt19_3:bits .and .u8 19 3=3:=by decide
 have bt23_3:bits .and .u8 23 3=3:=by decide
 have bt27_3:bits .and .u8 27 3=3:=by decide
 have bt31_3:bits .and .u8 31 3=3:=by decide
 have bt0_1:bits .and .u8 0 1=0:=by decide
 have bt1_1:bits .and .u8 1 1=1:=by decide
 have bt2_1:bits .and .u8 2 1=0:=by decide
 have bt3_1:bits .and .u8 3 1=1:=by decide
 have bt0_63:bits .and .u8 0 63=0:=by decide
 have bt1_63:bits .and .u8 1 63=1:=by decide
 have bt2_63:bits .and .u8 2 63=2:=by decide
 have bt3_63:bits .and .u8 3 63=3:=by decide
 have bt4_63:bits .and .u8 4 63=4:=by decide
 have bt5_63:bits .and .u8 5 63=5:=by decide
 have bt6_63:bits .and .u8 6 63=6:=by decide
 have bt7_63:bits .and .u8 7 63=7:=by decide
 rcases hcase with rfl|rfl|rfl|rfl
 all_goals
  go_enter Tryz.func183,Tryz.ntmps183
  go_wp2_with fail
  generalize w.alloc (.cells #[.slice ma mn mc,.slice ko kn kc] 55)=w1 at hbx kbx q1 hc' ⊢;refine(HU.out.1 _ kbx).mono ?_;rintro e w5 ⟨rfl,k5⟩;have K5:Keep [] w w5:=kbx.trans k5 (by simp)
  replace q1:=k5.cell_some q1 (by simp)
  replace hbx:=hbx.keep k5 (by simp)
  clear kbx k5 hc' w1;go_wp2_with fail
  refine(HU.out.2.1 n tot _ HL.out.2.2.2.2.1 (by omega) _ K5).mono ?_;rintro e w6 ⟨rfl,k6⟩;have K6:Keep [] w w6:=K5.trans k6 (by simp)
  replace hbx:=hbx.keep k6 (by simp)
  clear K5 k6 q1;go_wp2_with fail
  go_loopw [17,107] (fun pk iv wr=>∃(i:Nat) (k:ByteArray),i<=n/\iv=.int .u32 (i:Int)/\pk=.string k/\(0<i->ks[i-1]?=some k)/\Keep [] w wr/\Blk wr w.heap.size [.slice ma mn mc,.slice ko kn kc]) (fun _ iv _=>n-(intOf iv).toNat)
  case atStart=>exact⟨0,_,by omega,rfl,rfl,by omega,K6,hbx⟩
  case round=>
   obtain⟨i,k,hi,rfl,rfl,hx,kr,hbr⟩:=hrel;clear hbx;by_cases hin:i<n
   ·have hini:(i:Int)<(n:Int):=by omega
    obtain⟨x,hxi⟩:∃x,ids[i]?=some x:=⟨_,List.getElem?_eq_getElem (by rw[HL.out.2.1];omega)⟩;obtain⟨k2,hk2⟩:∃x,ks[i]?=some x:=⟨_,List.getElem?_eq_getElem (by rw[HL.out.2.2.1];omega)⟩;obtain⟨y,hy⟩:∃y,l[i]?=some y:=⟨_,List.getElem?_eq_getElem (by rw[HL.out.1];omega)⟩;have hyt:y<=tot:=HL.out.2.2.2.1 y (List.mem_of_getElem? hy);have hyti:¬(tot:Int)<(y:Int):=by omega
    have hcm:0<i->cmpK k k2=-1:=fun h0=>HL.out.2.2.2.2.2 (i-1) k k2 (hx h0) (by rw[Nat.sub_add_cancel h0];exact hk2);have Hy:=qq5 hxi hk2 hy hcm hbr;clear hxi hk2 hy hx hcm;go_wp2_with fail
    refine(HU.out.2.2.1 i x k2 _ Hy.out.1 Hy.out.2.1 (by omega) _ kr).mono ?_;rintro e w7 ⟨rfl,k7⟩;have K7:Keep [] w w7:=kr.trans k7 (by simp)
    replace hbr:=hbr.keep k7 (by simp)
    obtain⟨e0,e1⟩:=hbr.c2 0 1 rfl rfl;clear k7;go_wp2_with fail
    refine(HU.out.2.2.2 i x k2 Hy.out.1 Hy.out.2.1 _ K7).mono ?_;rintro e w8 ⟨rfl,k8⟩;have K8:Keep [] w w8:=K7.trans k8 (by simp)
    replace hbr:=hbr.keep k8 (by simp)
    have Hbr:=qq hbr;clear hbr k8 e0 e1 K7;by_cases hi0:i=0
    ·subst hi0;go_wp2_with fail
     refine(HU.out.2.1 0 y _ Hy.out.2.2.1 (by omega) _ K8).mono ?_;rintro e w9 ⟨rfl,k9⟩;have K9:Keep [] w w9:=K8.trans k9 (by simp);have hbr:=Hbr.out.keep k9 (by simp);have Hbr:=qq2 hbr K9;clear hbr k9 K9;go_wp2;go_roundw
     case rel=>exact⟨1,k2,by omega,rfl,rfl,fun _=>Hy.out.2.1,Hbr.out.2,Hbr.out.1⟩
     case measure=>simp[intOf]<;>omega
    ·have hi0p:(0:Int)<(i:Int):=by omega
     go_wp2_with fail
     refine(compareStrC k k2 _).mono ?_;rintro e w9 ⟨rfl,rfl⟩;rw[Hy.out.2.2.2.1 (by omega)];go_wp2_with fail
     refine(HU.out.2.1 i y _ Hy.out.2.2.1 (by omega) _ K8).mono ?_;rintro e w9 ⟨rfl,k9⟩;have K9:Keep [] w w9:=K8.trans k9 (by simp);have hbr:=Hbr.out.keep k9 (by simp);have Hbr:=qq2 hbr K9;clear hbr k9 K9;go_wp2;go_roundw
     case rel=>exact⟨i+1,k2,by omega,by simp,rfl,fun _=>Hy.out.2.1,Hbr.out.2,Hbr.out.1⟩
     case measure=>simp[intOf];omega
   ·have hie:i=n:=by omega
    subst hie;have hfr:=HF.out.1.keep kr (by simp);have c1:=hfr.cell (j:=1) rfl;have c2:=hfr.cell (j:=2) rfl;have c3:=hfr.cell (j:=3) rfl;have c4:=hfr.cell (j:=4) rfl;have c5:=hfr.cell (j:=5) rfl;have c11:=hfr.cell (j:=11) rfl;have hz:=hfr.frozen;have Hfr:=qq hfr;clear hfr hx;go_wp2;go_ret;have hd:=HD.out;refine⟨rfl,((((((kr.nil (T:=[sb])).set (.inl (by simp)) _ _ _).set (.inl (by simp)) _ _ _).set (.inl (by simp)) _ _ _).set (.inl (by simp)) _ _ _).set (.inl (by simp)) _ _ _).set (.inl (by simp)) _ _ _,?_⟩;refine FrAt.setI (f:={f with dstart:=ds,ostart:=k1,osz:=z0,num:=i,dsize:=tot}) ?_ 1 .u64 _ (ds+tot) (by omega) (by omega) rfl;refine FrAt.setI (f:={f with dstart:=ds,ostart:=k1,osz:=z0,num:=i}) ?_ 2 .u32 _ tot (by omega) (by omega) rfl;refine FrAt.setI (f:={f with dstart:=ds,ostart:=k1,osz:=z0}) ?_ 5 .u32 _ i (by omega) (by omega) rfl;refine FrAt.setI (f:={f with dstart:=ds,ostart:=k1}) ?_ 11 .u8 _ z0 (by omega) (by omega) rfl;refine FrAt.setI (f:={f with dstart:=ds}) ?_ 4 .u64 _ k1 (by omega) (by omega) rfl;exact FrAt.setI Hfr.out 3 .u64 _ ds (by omega) (by omega) rfl
end Go.Proofs.YtocgdgmfnockiaaGreatDoor
