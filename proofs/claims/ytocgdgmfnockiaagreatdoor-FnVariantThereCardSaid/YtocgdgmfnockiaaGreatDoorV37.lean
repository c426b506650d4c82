/- Variants read: loadDictionary, walked. -/
import Derived.Test.YtocgdgmfnockiaaGreatDoorV36
set_option linter.unusedVariables false
set_option linter.unusedSimpArgs false
set_option maxRecDepth 100000
set_option maxHeartbeats 8000000
namespace Go.Proofs.YtocgdgmfnockiaaGreatDoor
open Go.RowKit
theorem loadNoneC (so:Bool) (tot mp g nn c sz:Nat) (w:World) (hsz:sz=metaSz [] tot) (hmp:Blk w mp [.slice (some ⟨g,0,none⟩) nn c,.slice none 0 0]) (hg:g≠mp) (hB:Byt w g 0 (metaB so [] tot)) (hnn:nn=(metaB so [] tot).length) (hnc:nn<=c) (hn9:nn<=10000000) (ht:szK []<=tot):
  Calls Tryz.prog 109 #[.pointer (some ⟨mp,0,none⟩),.int .u8 (sz:Int)] w fun e w'=>e=.returned .nilIface/\Keep [mp] w w'/\∃kv,Blk w' mp [.slice (some ⟨g,0,none⟩) nn c,kv]/\KeysAt w kv []:=by
 have hp:=metaB_parts hB;have hlen:=length_metaB_eq so [] tot ht;rw[<-hsz]at hp;have h1:1<=sz:=by rw[hsz];exact sizeW_pos _
 have h4:sz<=4:=by rw[hsz];exact sizeW_le _
 have hhd:metaHd [] tot=1+2*sz:=by unfold metaHd;rw[<-hsz];simp
 have c0:=hmp.cell (i:=0) rfl;have hU:=readLe g 1 sz (c-1) 0 w hp.2.1 (Nat.pow_pos (by omega)) h1 h4;have HU:=qq2 hU hmp;have hcap:1+sz<=c:=by omega
 have hln:sz+1<=nn:=by omega
 have hci:¬c=1:=by omega
 clear hU hmp hp hB hnn hlen hhd hsz;have hcase:sz=1\/sz=2\/sz=3\/sz=4:=by omega
 rcases hcase with rfl|rfl|rfl|rfl
 all_goals
  go_enter Tryz.func109,Tryz.ntmps109
  go_wp2_with fail
  refine HU.out.1.mono ?_;rintro e w4 ⟨rfl,k4⟩;have hm4:=HU.out.2.keep k4 (by simp);have c1:=hm4.cell (i:=1) rfl;have f1:=hm4.frozen 1;have H4:=qq2 k4 hm4;clear hm4 k4;go_wp2;go_ret;exact⟨rfl,H4.out.1.nil.set (.inl (by simp)) _ _ _,_,H4.out.2.set 1 (.slice none 0 0),none,0,rfl,Nat.le_refl _,fun i k hk=>by simp at hk⟩

def KeyG (w:World) (g:Nat) (u:Value) (k:ByteArray):Prop:=∃o cap,u=.slice (some ⟨g,o,none⟩) k.size cap/\k.size<=cap/\Byt w g o (bytesN k)

def KeysDone (w:World) (g:Nat) (K:List ByteArray) (i:Nat) (cs:List Value):Prop:=∀(j:Nat) (k:ByteArray),j<i->K[j]?=some k->∃u,cs[j]?=some u/\KeyG w g u k
theorem loadDictC (so:Bool) (K:List ByteArray) (tot mp g nn c sz n:Nat) (w:World) (hsz:sz=metaSz K tot) (hn:n=K.length) (hn0:0<n) (hn49:n<=49) (hmp:Blk w mp [.slice (some ⟨g,0,none⟩) nn c,.slice none 0 0]) (hg:g≠mp) (hB:Byt w g 0 (metaB so K tot)) (hnn:nn=(metaB so K tot).length) (hnc:nn<=c) (hn9:nn<=10000000) (ht:szK K<=tot):
  Calls Tryz.prog 109 #[.pointer (some ⟨mp,0,none⟩),.int .u8 (sz:Int)] w fun e w'=>e=.returned .nilIface/\Keep [mp] w w'/\∃kb cs,Blk w' mp [.slice (some ⟨g,0,none⟩) nn c,.slice (some ⟨kb,0,none⟩) n n]/\Blk w' kb cs/\w.heap.size<=kb/\KeysDone w g K n cs:=by
 have hp:=metaB_parts hB;have hlen:=length_metaB_eq so K tot ht;rw[<-hsz,<-hn]at hp;have h1:1<=sz:=by rw[hsz];exact sizeW_pos _
 have h4:sz<=4:=by rw[hsz];exact sizeW_le _
 have hfit:∀x,x<=max tot n->x<256^sz:=fun x hx=>by
  have:=sizeW_fits (max tot K.length) (by rw[<-hn];omega);rw[<-hn]at this;rw[hsz];unfold metaSz;rw[<-hn];omega
 obtain⟨hd,hhd⟩:∃hd,hd=metaHd K tot:=⟨_,rfl⟩;have hhd2:hd=1+(n+2)*sz:=by rw[hhd];unfold metaHd;rw[<-hsz,<-hn]
 rw[<-hhd]at hp hlen;have hgl:g<w.heap.size:=World.block_lt_of_cell? _ _ hp.1;have hofK:∀i,offK bytesN K i<=szK K:=fun i=>by rw[<-totB_keys];exact offK_le bytesN K i
 have c0:=hmp.cell (i:=0) rfl;have hU:=readLe g 1 sz (c-1) n w hp.2.1 (hfit n (by omega)) h1 h4;have hU2:=fun(i q':Nat) (hi:i<=n) (hq:q'=1+sz+i*sz) (wx:World) (kx:Keep [mp] w wx)=>readLe g q' sz (c-q') (offK bytesN K i) wx (by
  have:=hp.2.2.1.tab (tabL_get (f:=bytesN) (c:=K) (i:=i) (by omega));rw[<-hq]at this;exact this.keep kx (by simpa using hg)) (hfit _ (by have:=hofK i;omega)) h1 h4
 have hKB:=fun(i:Nat) (k:ByteArray) (hk:K[i]?=some k)=>hp.2.2.2.kid hk;have hmk:=fun wx=>makeKeys n (by omega) wx;have hcap:1+sz<=c:=by have:(n+2)*1<=(n+2)*sz:=Nat.mul_le_mul_left _ h1;have:1*sz<=(n+2)*sz:=Nat.mul_le_mul_right _ (by omega);omega
 have hln:sz+1<=nn:=by have:1*sz<=(n+2)*sz:=Nat.mul_le_mul_right _ (by omega);omega
 have hci:¬c=1:=by omega
 have hn0i:¬(n:Int)=0:=by omega
 have HU:=qq8 hU hmp hU2 hKB hofK hn hgl hg;have hhi:1+((n:Int)+2)*(sz:Int)=(hd:Int):=by rw[hhd2];simp
 have hnh:hd+szK K<=nn:=by omega
 have Hh:=qq hhd2;clear hU hmp hp hB hnn hlen hhd hsz hfit hU2 hKB hofK hn hgl hg hhi;have hcase:sz=1\/sz=2\/sz=3\/sz=4:=by omega
 rcases hcase with rfl|rfl|rfl|rfl
 ·have Hhi:=qq (show(1:Int)+((n:Int)+2)=(hd:Int)by have:=Hh.out;omega);have hhb:hd<=1+(49+2)*4:=by have:=Hh.out;omega
  have hhn:hd<=nn:=by omega
  go_enter Tryz.func109,Tryz.ntmps109
  go_wp2_with fail
  refine HU.out.1.mono ?_;rintro e w4 ⟨rfl,k4⟩;have hm4:=HU.out.2.1.keep k4 (by simp)
  replace c0:=hm4.cell (i:=0) rfl
  have H4:=qq2 k4 hm4;clear hm4 k4;go_wp2_with fail
  refine(HU.out.2.2.1 0 _ (by omega) (by omega) w4 H4.out.1.nil).mono ?_;rintro e w5 ⟨rfl,k5⟩;rw[offK_zero];have hm5:=H4.out.2.keep k5 (by simp)
  replace c0:=hm5.cell (i:=0) rfl
  have c1:=hm5.cell (i:=1) rfl;have f1:=hm5.frozen 1;have H5:=qq2 (H4.out.1.trans k5 (by simp)) hm5;have hml:=hm5.lt;clear hm5 k5 H4
  go_upto_region 15 with(fail)
  have hm6:Blk ((w5.setCell ⟨mp,1,none⟩ (.slice (some ⟨w5.heap.size,0,none⟩) n n)).alloc (.cells (Array.replicate n (.slice none 0 0)) 30)) mp [.slice (some ⟨g,0,none⟩) nn c,.slice (some ⟨w5.heap.size,0,none⟩) n n]:=(H5.out.2.set 1 _).alloc _;have hk6:Blk ((w5.setCell ⟨mp,1,none⟩ (.slice (some ⟨w5.heap.size,0,none⟩) n n)).alloc (.cells (Array.replicate n (.slice none 0 0)) 30)) w5.heap.size (List.replicate n (.slice none 0 0)):=by
   have:=Blk.of_new (w:=w5.setCell ⟨mp,1,none⟩ (.slice (some ⟨w5.heap.size,0,none⟩) n n)) (b:=w5.heap.size) (cs:=List.replicate n (.slice none 0 0)) (T:=30) (by simp);rw[List.toArray_replicate]at this;exact this
  have K6:Keep [mp] w ((w5.setCell ⟨mp,1,none⟩ (.slice (some ⟨w5.heap.size,0,none⟩) n n)).alloc (.cells (Array.replicate n (.slice none 0 0)) 30)):=(H5.out.1.nil.set (.inl (by simp)) _ _ _).alloc _;have hkb:w.heap.size<=w5.heap.size:=H5.out.1.size;have hkm:mp≠w5.heap.size:=by omega
  generalize(w5.setCell ⟨mp,1,none⟩ (.slice (some ⟨w5.heap.size,0,none⟩) n n)).alloc (.cells (Array.replicate n (.slice none 0 0)) 30)=w6 at hm6 hk6 K6 ⊢;generalize w5.heap.size=kb at hm6 hk6 hkb hkm ⊢;have H6:=qq3 K6 hm6 hk6;clear hm6 hk6 K6 H5 c0 c1 f1 hml;go_wp2_with fail
  go_loopw [7,9,72] (fun op os iv wr=>∃(i:Nat) (cs:List Value),i<=n/\iv=.int .u32 (i:Int)/\op=.int .u8 ((2+i*1:Nat):Int)/\os=.int .u32 (offK bytesN K i:Int)/\Hid (Keep [mp] w wr/\Blk wr mp [.slice (some ⟨g,0,none⟩) nn c,.slice (some ⟨kb,0,none⟩) n n]/\Blk wr kb cs/\cs.length=n/\KeysDone w g K i cs)) (fun _ _ iv _=>n-(intOf iv).toNat)
  case atStart=>exact⟨0,_,by omega,rfl,rfl,by rw[offK_zero];rfl,Lib.hid ⟨H6.out.1,H6.out.2.1,H6.out.2.2,by simp,fun j k hj=>by omega⟩⟩
  case round=>
   obtain⟨i,cs,hi,rfl,rfl,rfl,HR⟩:=hrel;by_cases hin:i<n
   ·have hini:(i:Int)<(n:Int):=by omega
    obtain⟨k,hk⟩:∃k,K[i]?=some k:=⟨_,List.getElem?_eq_getElem (by rw[<-HU.out.2.2.2.2.2.1];omega)⟩;obtain⟨x,hx⟩:∃x,x=offK bytesN K i:=⟨_,rfl⟩;obtain⟨y,hy⟩:∃y,y=offK bytesN K (i+1):=⟨_,rfl⟩;have hxy:y=x+k.size:=by rw[hy,hx,offK_succ hk,length_bytesN]
    have hyK:y<=szK K:=by rw[hy];exact HU.out.2.2.2.2.1 (i+1)
    have hxyi:¬(y:Int)<(x:Int):=by omega
    obtain⟨op,hop⟩:∃op,op=2+i*1:=⟨_,rfl⟩;have hopb:op<=1+4+49*4:=by omega
    obtain⟨op2,hop2⟩:∃op2,op2=op+1:=⟨_,rfl⟩;have hop2i:(op:Int)+1=(op2:Int):=by omega
    have hop2b:op2+1<=nn:=by have:=Hhi.out;omega
    have hne:¬c=op2:=by omega
    obtain⟨sx,hsx⟩:∃sx,sx=hd+x:=⟨_,rfl⟩;obtain⟨sy,hsy⟩:∃sy,sy=hd+y:=⟨_,rfl⟩;have wsx:IntKind.u64.wrap (sx:Int)=(sx:Int):=u64_same _ _ rfl (by omega);have wsy:IntKind.u64.wrap (sy:Int)=(sy:Int):=u64_same _ _ rfl (by omega);have ex1:(1:Int)+((n:Int)+2)+(x:Int)=(sx:Int):=by have:=Hhi.out;omega
    have ey1:(1:Int)+((n:Int)+2)+(y:Int)=(sy:Int):=by have:=Hhi.out;omega
    have wxs:IntKind.u64.wrap (x:Int)=(x:Int):=u64_same _ _ rfl (by omega);have wys:IntKind.u64.wrap (y:Int)=(y:Int):=u64_same _ _ rfl (by omega);have hsyn:sy<=nn:=by omega
    have hsyi:¬(nn:Int)<(sy:Int):=by omega
    have hsxy:sx<=sy:=by omega
    have hsyc:sy<=c:=by omega
    have hsk:sy-sx=k.size:=by omega
    rw[<-hx,<-hop];have hm:=HR.out.2.1;obtain⟨c0,c1⟩:=hm.c2 0 1 rfl rfl;have Hi:=qq8 hk hx hy hop hop2 hsx hsy hxy;clear hk hx hy hop hop2 hsx hsy hxy hm;go_wp2_with fail
    refine(HU.out.2.2.1 (i+1) op2 (by omega) (by have h1:=Hi.out.2.2.2.1;have h2:=Hi.out.2.2.2.2.1;omega) wr HR.out.1).mono ?_;rintro e w7 ⟨rfl,k7⟩;rw[<-Hi.out.2.2.1]
    replace c0:=k7.cell_some c0 (by simp)
    replace c1:=k7.cell_some c1 (by simp)
    have hm7:=HR.out.2.1.keep k7 (by simp);have hk7:=HR.out.2.2.1.keep k7 (by simp);obtain⟨v0,hv0⟩:∃v,cs[i]?=some v:=⟨_,List.getElem?_eq_getElem (by rw[HR.out.2.2.2.1];omega)⟩;have x0:=hk7.cell hv0;have fz:=hk7.frozen i;have H7:=qq3 (HR.out.1.trans k7 (by simp)) hm7 hk7;clear hm7 hk7 k7 hv0;go_wp2_with fail
    have hopE:op2=2+(i+1)*1:=by have h1:=Hi.out.2.2.2.1;have h2:=Hi.out.2.2.2.2.1;omega
    have HopE:=qq hopE;clear hopE;have hfin:∀(u:Value),KeyG w g u k->KeysDone w g K (i+1) (cs.set i u):=fun u hu j k' hj hk'=>by
     by_cases hji:j=i
     ·subst hji;rw[Hi.out.1]at hk';cases hk'
      exact⟨u,by rw[List.getElem?_set_self (by rw[HR.out.2.2.2.1];omega)],hu⟩
     ·obtain⟨u',h1,h2⟩:=HR.out.2.2.2.2 j k' (by omega) hk';exact⟨u',by rw[List.getElem?_set_ne (fun e=>hji e.symm)];exact h1,h2⟩
    have hBk:Byt w g sx (bytesN k):=by
     have:=HU.out.2.2.2.1 i k Hi.out.1;rw[<-Hi.out.2.1,<-Hi.out.2.2.2.2.2.1]at this;exact this
    have HF:=qq2 hfin hBk;clear hfin hBk;by_cases hcx:c=sx
    ·have hk0:k.size=0:=by omega
     have Hk0:=qq hk0;have HsyE:=qq (show sy-sx=0 by omega);subst hcx;clear hk0;refine wp_region_still_tail 19 (by kernel_rfl) (by kernel_rfl) ?_;simp only[List.take_succ_cons,List.take_zero,List.drop_succ_cons,List.drop_zero];change wpStill _ _ (World.drew _) _ _ _;repeat still_step
     refine wpStill_nil ?_;change wpList _ _ _ _ _ (World.drew _);go_wp2;go_roundw
     case rel=>
      refine⟨i+1,_,by omega,by simp,congrArg (fun z:Nat=>Value.int .u8 (z:Int)) HopE.out,congrArg (fun z:Nat=>Value.int .u32 (z:Int)) Hi.out.2.2.1,Lib.hid ⟨(H7.out.1.drew).set (.inr hkb) _ _ _,H7.out.2.1.drew.set_other hkm _ _ _,H7.out.2.2.drew.set i _,by rw[List.length_set];exact HR.out.2.2.2.1,HF.out.1 _ ⟨0,0,?_,by rw[Hk0.out];exact Nat.le_refl _,?_⟩⟩⟩
      ·rw[Hk0.out]
      ·intro j x hj;have:(bytesN k).length=0:=by rw[length_bytesN];exact Hk0.out
       rw[List.eq_nil_of_length_eq_zero this]at hj;simp at hj
     case measure=>simp[intOf];omega
    ·have Hsk:=qq hsk;have hskc:k.size<=c-sx:=by omega
     refine wp_region_still_tail 19 (by kernel_rfl) (by kernel_rfl) ?_;simp only[List.take_succ_cons,List.take_zero,List.drop_succ_cons,List.drop_zero];change wpStill _ _ (World.drew _) _ _ _;repeat still_step
     refine wpStill_nil ?_;change wpList _ _ _ _ _ (World.drew _);go_wp2;go_roundw
     case rel=>
      refine⟨i+1,_,by omega,by simp,congrArg (fun z:Nat=>Value.int .u8 (z:Int)) HopE.out,congrArg (fun z:Nat=>Value.int .u32 (z:Int)) Hi.out.2.2.1,Lib.hid ⟨(H7.out.1.drew).set (.inr hkb) _ _ _,H7.out.2.1.drew.set_other hkm _ _ _,H7.out.2.2.drew.set i _,by rw[List.length_set];exact HR.out.2.2.2.1,HF.out.1 _ ⟨sx,c-sx,rfl,hskc,HF.out.2⟩⟩⟩
     case measure=>simp[intOf];omega
   ·have hie:i=n:=by omega
    subst hie;go_wp2;go_ret;exact⟨rfl,HR.out.1,kb,cs,HR.out.2.1,HR.out.2.2.1,hkb,HR.out.2.2.2.2⟩
 ·have Hhi:=qq (show(1:Int)+((n:Int)+2)*2=(hd:Int)by have:=Hh.out;omega);have hhb:hd<=1+(49+2)*4:=by have:=Hh.out;omega
  have hhn:hd<=nn:=by omega
  go_enter Tryz.func109,Tryz.ntmps109
  go_wp2_with fail
  refine HU.out.1.mono ?_;rintro e w4 ⟨rfl,k4⟩;have hm4:=HU.out.2.1.keep k4 (by simp)
  replace c0:=hm4.cell (i:=0) rfl
  have H4:=qq2 k4 hm4;clear hm4 k4;go_wp2_with fail
  refine(HU.out.2.2.1 0 _ (by omega) (by omega) w4 H4.out.1.nil).mono ?_;rintro e w5 ⟨rfl,k5⟩;rw[offK_zero];have hm5:=H4.out.2.keep k5 (by simp)
  replace c0:=hm5.cell (i:=0) rfl
  have c1:=hm5.cell (i:=1) rfl;have f1:=hm5.frozen 1;have H5:=qq2 (H4.out.1.trans k5 (by simp)) hm5;have hml:=hm5.lt;clear hm5 k5 H4
  go_upto_region 15 with(fail)
  have hm6:Blk ((w5.setCell ⟨mp,1,none⟩ (.slice (some ⟨w5.heap.size,0,none⟩) n n)).alloc (.cells (Array.replicate n (.slice none 0 0)) 30)) mp [.slice (some ⟨g,0,none⟩) nn c,.slice (some ⟨w5.heap.size,0,none⟩) n n]:=(H5.out.2.set 1 _).alloc _;have hk6:Blk ((w5.setCell ⟨mp,1,none⟩ (.slice (some ⟨w5.heap.size,0,none⟩) n n)).alloc (.cells (Array.replicate n (.slice none 0 0)) 30)) w5.heap.size (List.replicate n (.slice none 0 0)):=by
   have:=Blk.of_new (w:=w5.setCell ⟨mp,1,none⟩ (.slice (some ⟨w5.heap.size,0,none⟩) n n)) (b:=w5.heap.size) (cs:=List.replicate n (.slice none 0 0)) (T:=30) (by simp);rw[List.toArray_replicate]at this;exact this
  have K6:Keep [mp] w ((w5.setCell ⟨mp,1,none⟩ (.slice (some ⟨w5.heap.size,0,none⟩) n n)).alloc (.cells (Array.replicate n (.slice none 0 0)) 30)):=(H5.out.1.nil.set (.inl (by simp)) _ _ _).alloc _;have hkb:w.heap.size<=w5.heap.size:=H5.out.1.size;have hkm:mp≠w5.heap.size:=by omega
  generalize(w5.setCell ⟨mp,1,none⟩ (.slice (some ⟨w5.heap.size,0,none⟩) n n)).alloc (.cells (Array.replicate n (.slice none 0 0)) 30)=w6 at hm6 hk6 K6 ⊢;generalize w5.heap.size=kb at hm6 hk6 hkb hkm ⊢;have H6:=qq3 K6 hm6 hk6;clear hm6 hk6 K6 H5 c0 c1 f1 hml;go_wp2_with fail
  go_loopw [7,9,72] (fun op os iv wr=>∃(i:Nat) (cs:List Value),i<=n/\iv=.int .u32 (i:Int)/\op=.int .u8 ((3+i*2:Nat):Int)/\os=.int .u32 (offK bytesN K i:Int)/\Hid (Keep [mp] w wr/\Blk wr mp [.slice (some ⟨g,0,none⟩) nn c,.slice (some ⟨kb,0,none⟩) n n]/\Blk wr kb cs/\cs.length=n/\KeysDone w g K i cs)) (fun _ _ iv _=>n-(intOf iv).toNat)
  case atStart=>exact⟨0,_,by omega,rfl,rfl,by rw[offK_zero];rfl,Lib.hid ⟨H6.out.1,H6.out.2.1,H6.out.2.2,by simp,fun j k hj=>by omega⟩⟩
  case round=>
   obtain⟨i,cs,hi,rfl,rfl,rfl,HR⟩:=hrel;by_cases hin:i<n
   ·have hini:(i:Int)<(n:Int):=by omega
    obtain⟨k,hk⟩:∃k,K[i]?=some k:=⟨_,List.getElem?_eq_getElem (by rw[<-HU.out.2.2.2.2.2.1];omega)⟩;obtain⟨x,hx⟩:∃x,x=offK bytesN K i:=⟨_,rfl⟩;obtain⟨y,hy⟩:∃y,y=offK bytesN K (i+1):=⟨_,rfl⟩;have hxy:y=x+k.size:=by rw[hy,hx,offK_succ hk,length_bytesN]
    have hyK:y<=szK K:=by rw[hy];exact HU.out.2.2.2.2.1 (i+1)
    have hxyi:¬(y:Int)<(x:Int):=by omega
    obtain⟨op,hop⟩:∃op,op=3+i*2:=⟨_,rfl⟩;have hopb:op<=1+4+49*4:=by omega
    obtain⟨op2,hop2⟩:∃op2,op2=op+2:=⟨_,rfl⟩;have hop2i:(op:Int)+2=(op2:Int):=by omega
    have hop2b:op2+2<=nn:=by have:=Hhi.out;omega
    have hne:¬c=op2:=by omega
    obtain⟨sx,hsx⟩:∃sx,sx=hd+x:=⟨_,rfl⟩;obtain⟨sy,hsy⟩:∃sy,sy=hd+y:=⟨_,rfl⟩;have wsx:IntKind.u64.wrap (sx:Int)=(sx:Int):=u64_same _ _ rfl (by omega);have wsy:IntKind.u64.wrap (sy:Int)=(sy:Int):=u64_same _ _ rfl (by omega);have ex1:(1:Int)+((n:Int)+2)*2+(x:Int)=(sx:Int):=by have:=Hhi.out;omega
    have ey1:(1:Int)+((n:Int)+2)*2+(y:Int)=(sy:Int):=by have:=Hhi.out;omega
    have wxs:IntKind.u64.wrap (x:Int)=(x:Int):=u64_same _ _ rfl (by omega);have wys:IntKind.u64.wrap (y:Int)=(y:Int):=u64_same _ _ rfl (by omega);have hsyn:sy<=nn:=by omega
    have hsyi:¬(nn:Int)<(sy:Int):=by omega
    have hsxy:sx<=sy:=by omega
    have hsyc:sy<=c:=by omega
    have hsk:sy-sx=k.size:=by omega
    rw[<-hx,<-hop];have hm:=HR.out.2.1;obtain⟨c0,c1⟩:=hm.c2 0 1 rfl rfl;have Hi:=qq8 hk hx hy hop hop2 hsx hsy hxy;clear hk hx hy hop hop2 hsx hsy hxy hm;go_wp2_with fail
    refine(HU.out.2.2.1 (i+1) op2 (by omega) (by have h1:=Hi.out.2.2.2.1;have h2:=Hi.out.2.2.2.2.1;omega) wr HR.out.1).mono ?_;rintro e w7 ⟨rfl,k7⟩;rw[<-Hi.out.2.2.1]
    replace c0:=k7.cell_some c0 (by simp)
    replace c1:=k7.cell_some c1 (by simp)
    have hm7:=HR.out.2.1.keep k7 (by simp);have hk7:=HR.out.2.2.1.keep k7 (by simp);obtain⟨v0,hv0⟩:∃v,cs[i]?=some v:=⟨_,List.getElem?_eq_getElem (by rw[HR.out.2.2.2.1];omega)⟩;have x0:=hk7.cell hv0;have fz:=hk7.frozen i;have H7:=qq3 (HR.out.1.trans k7 (by simp)) hm7 hk7;clear hm7 hk7 k7 hv0;go_wp2_with fail
    have hopE:op2=3+(i+1)*2:=by have h1:=Hi.out.2.2.2.1;have h2:=Hi.out.2.2.2.2.1;omega
    have HopE:=qq hopE;clear hopE;have hfin:∀(u:Value),KeyG w g u k->KeysDone w g K (i+1) (cs.set i u):=fun u hu j k' hj hk'=>by
     by_cases hji:j=i
     ·subst hji;rw[Hi.out.1]at hk';cases hk'
      exact⟨u,by rw[List.getElem?_set_self (by rw[HR.out.2.2.2.1];omega)],hu⟩
     ·obtain⟨u',h1,h2⟩:=HR.out.2.2.2.2 j k' (by omega) hk';exact⟨u',by rw[List.getElem?_set_ne (fun e=>hji e.symm)];exact h1,h2⟩
    have hBk:Byt w g sx (bytesN k):=by
     have:=HU.out.2.2.2.1 i k Hi.out.1;rw[<-Hi.out.2.1,<-Hi.out.2.2.2.2.2.1]at this;exact this
    have HF:=qq2 hfin hBk;clear hfin hBk;by_cases hcx:c=sx
    ·have hk0:k.size=0:=by omega
     have Hk0:=qq hk0;have HsyE:=qq (show sy-sx=0 by omega);subst hcx;clear hk0;refine wp_region_still_tail 19 (by kernel_rfl) (by kernel_rfl) ?_;simp only[List.take_succ_cons,List.take_zero,List.drop_succ_cons,List.drop_zero];change wpStill _ _ (World.drew _) _ _ _;repeat still_step
     refine wpStill_nil ?_;change wpList _ _ _ _ _ (World.drew _);go_wp2;go_roundw
     case rel=>
      refine⟨i+1,_,by omega,by simp,congrArg (fun z:Nat=>Value.int .u8 (z:Int)) HopE.out,congrArg (fun z:Nat=>Value.int .u32 (z:Int)) Hi.out.2.2.1,Lib.hid ⟨(H7.out.1.drew).set (.inr hkb) _ _ _,H7.out.2.1.drew.set_other hkm _ _ _,H7.out.2.2.drew.set i _,by rw[List.length_set];exact HR.out.2.2.2.1,HF.out.1 _ ⟨0,0,?_,by rw[Hk0.out];exact Nat.le_refl _,?_⟩⟩⟩
      ·rw[Hk0.out]
      ·intro j x hj;have:(bytesN k).length=0:=by rw[length_bytesN];exact Hk0.out
       rw[List.eq_nil_of_length_eq_zero this]at hj;simp at hj
     case measure=>simp[intOf];omega
    ·have Hsk:=qq hsk;have hskc:k.size<=c-sx:=by omega
     refine wp_region_still_tail 19 (by kernel_rfl) (by kernel_rfl) ?_;simp only[List.take_succ_cons,List.take_zero,List.drop_succ_cons,List.drop_zero];change wpStill _ _ (World.drew _) _ _ _;repeat still_step
     refine wpStill_nil ?_;change wpList _ _ _ _ _ (World.drew _);go_wp2;go_roundw
     case rel=>
      refine⟨i+1,_,by omega,by simp,congrArg (fun z:Nat=>Value.int .u8 (z:Int)) HopE.out,congrArg (fun z:Nat=>Value.int .u32 (z:Int)) Hi.out.2.2.1,Lib.hid ⟨(H7.out.1.drew).set (.inr hkb) _ _ _,H7.out.2.1.drew.set_other hkm _ _ _,H7.out.2.2.drew.set i _,by rw[List.length_set];exact HR.out.2.2.2.1,HF.out.1 _ ⟨sx,c-sx,rfl,hskc,HF.out.2⟩⟩⟩
     case measure=>simp[intOf];omega
   ·have hie:i=n:=by omega
    subst hie;go_wp2;go_ret;exact⟨rfl,HR.out.1,kb,cs,HR.out.2.1,HR.out.2.2.1,hkb,HR.out.2.2.2.2⟩
 ·have Hhi:=qq (show(1:Int)+((n:Int)+2)*3=(hd:Int)by have:=Hh.out;omega);have hhb:hd<=1+(49+2)*4:=by have:=Hh.out;omega
  have hhn:hd<=nn:=by omega
  go_enter Tryz.func109,Tryz.ntmps109
  go_wp2_with fail
  refine HU.out.1.mono ?_;rintro e w4 ⟨rfl,k4⟩;have hm4:=HU.out.2.1.keep k4 (by simp)
  replace c0:=hm4.cell (i:=0) rfl
  have H4:=qq2 k4 hm4;clear hm4 k4;go_wp2_with fail
  refine(HU.out.2.2.1 0 _ (by omega) (by omega) w4 H4.out.1.nil).mono ?_;rintro e w5 ⟨rfl,k5⟩;rw[offK_zero];have hm5:=H4.out.2.keep k5 (by simp)
  replace c0:=hm5.cell (i:=0) rfl
  have c1:=hm5.cell (i:=1) rfl;have f1:=hm5.frozen 1;have H5:=qq2 (H4.out.1.trans k5 (by simp)) hm5;have hml:=hm5.lt;clear hm5 k5 H4
  go_upto_region 15 with(fail)
  have hm6:Blk ((w5.setCell ⟨mp,1,none⟩ (.slice (some ⟨w5.heap.size,0,none⟩) n n)).alloc (.cells (Array.replicate n (.slice none 0 0)) 30)) mp [.slice (some ⟨g,0,none⟩) nn c,.slice (some ⟨w5.heap.size,0,none⟩) n n]:=(H5.out.2.set 1 _).alloc _;have hk6:Blk ((w5.setCell ⟨mp,1,none⟩ (.slice (some ⟨w5.heap.size,0,none⟩) n n)).alloc (.cells (Array.replicate n (.slice none 0 0)) 30)) w5.heap.size (List.replicate n (.slice none 0 0)):=by
   have:=Blk.of_new (w:=w5.setCell ⟨mp,1,none⟩ (.slice (some ⟨w5.heap.size,0,none⟩) n n)) (b:=w5.heap.size) (cs:=List.replicate n (.slice none 0 0)) (T:=30) (by simp);rw[List.toArray_replicate]at this;exact this
  have K6:Keep [mp] w ((w5.setCell ⟨mp,1,none⟩ (.slice (some ⟨w5.heap.size,0,none⟩) n n)).alloc (.cells (Array.replicate n (.slice none 0 0)) 30)):=(H5.out.1.nil.set (.inl (by simp)) _ _ _).alloc _;have hkb:w.heap.size<=w5.heap.size:=H5.out.1.size;have hkm:mp≠w5.heap.size:=by omega
  generalize(w5.setCell ⟨mp,1,none⟩ (.slice (some ⟨w5.heap.size,0,none⟩) n n)).alloc (.cells (Array.replicate n (.slice none 0 0)) 30)=w6 at hm6 hk6 K6 ⊢;generalize w5.heap.size=kb at hm6 hk6 hkb hkm ⊢;have H6:=qq3 K6 hm6 hk6;clear hm6 hk6 K6 H5 c0 c1 f1 hml;go_wp2_with fail
  go_loopw [7,9,72] (fun op os iv wr=>∃(i:Nat) (cs:List Value),i<=n/\iv=.int .u32 (i:Int)/\op=.int .u8 ((4+i*3:Nat):Int)/\os=.int .u32 (offK bytesN K i:Int)/\Hid (Keep [mp] w wr/\Blk wr mp [.slice (some ⟨g,0,none⟩) nn c,.slice (some ⟨kb,0,none⟩) n n]/\Blk wr kb cs/\cs.length=n/\KeysDone w g K i cs)) (fun _ _ iv _=>n-(intOf iv).toNat)
  case atStart=>exact⟨0,_,by omega,rfl,rfl,by rw[offK_zero];rfl,Lib.hid ⟨H6.out.1,H6.out.2.1,H6.out.2.2,by simp,fun j k hj=>by omega⟩⟩
  case round=>
   obtain⟨i,cs,hi,rfl,rfl,rfl,HR⟩:=hrel;by_cases hin:i<n
   ·have hini:(i:Int)<(n:Int):=by omega
    obtain⟨k,hk⟩:∃k,K[i]?=some k:=⟨_,List.getElem?_eq_getElem (by rw[<-HU.out.2.2.2.2.2.1];omega)⟩;obtain⟨x,hx⟩:∃x,x=offK bytesN K i:=⟨_,rfl⟩;obtain⟨y,hy⟩:∃y,y=offK bytesN K (i+1):=⟨_,rfl⟩;have hxy:y=x+k.size:=by rw[hy,hx,offK_succ hk,length_bytesN]
    have hyK:y<=szK K:=by rw[hy];exact HU.out.2.2.2.2.1 (i+1)
    have hxyi:¬(y:Int)<(x:Int):=by omega
    obtain⟨op,hop⟩:∃op,op=4+i*3:=⟨_,rfl⟩;have hopb:op<=1+4+49*4:=by omega
    obtain⟨op2,hop2⟩:∃op2,op2=op+3:=⟨_,rfl⟩;have hop2i:(op:Int)+3=(op2:Int):=by omega
    have hop2b:op2+3<=nn:=by have:=Hhi.out;omega
    have hne:¬c=op2:=by omega
    obtain⟨sx,hsx⟩:∃sx,sx=hd+x:=⟨_,rfl⟩;obtain⟨sy,hsy⟩:∃sy,sy=hd+y:=⟨_,rfl⟩;have wsx:IntKind.u64.wrap (sx:Int)=(sx:Int):=u64_same _ _ rfl (by omega);have wsy:IntKind.u64.wrap (sy:Int)=(sy:Int):=u64_same _ _ rfl (by omega);have ex1:(1:Int)+((n:Int)+2)*3+(x:Int)=(sx:Int):=by have:=Hhi.out;omega
    have ey1:(1:Int)+((n:Int)+2)*3+(y:Int)=(sy:Int):=by have:=Hhi.out;omega
    have wxs:IntKind.u64.wrap (x:Int)=(x:Int):=u64_same _ _ rfl (by omega);have wys:IntKind.u64.wrap (y:Int)=(y:Int):=u64_same _ _ rfl (by omega);have hsyn:sy<=nn:=by omega
    have hsyi:¬(nn:Int)<(sy:Int):=by omega
    have hsxy:sx<=sy:=by omega
    have hsyc:sy<=c:=by omega
    have hsk:sy-sx=k.size:=by omega
    rw[<-hx,<-hop];have hm:=HR.out.2.1;obtain⟨c0,c1⟩:=hm.c2 0 1 rfl rfl;have Hi:=qq8 hk hx hy hop hop2 hsx hsy hxy;clear hk hx hy hop hop2 hsx hsy hxy hm;go_wp2_with fail
    refine(HU.out.2.2.1 (i+1) op2 (by omega) (by have h1:=Hi.out.2.2.2.1;have h2:=Hi.out.2.2.2.2.1;omega) wr HR.out.1).mono ?_;rintro e w7 ⟨rfl,k7⟩;rw[<-Hi.out.2.2.1]
    replace c0:=k7.cell_some c0 (by simp)
    replace c1:=k7.cell_some c1 (by simp)
    have hm7:=HR.out.2.1.keep k7 (by simp);have hk7:=HR.out.2.2.1.keep k7 (by simp);obtain⟨v0,hv0⟩:∃v,cs[i]?=some v:=⟨_,List.getElem?_eq_getElem (by rw[HR.out.2.2.2.1];omega)⟩;have x0:=hk7.cell hv0;have fz:=hk7.frozen i;have H7:=qq3 (HR.out.1.trans k7 (by simp)) hm7 hk7;clear hm7 hk7 k7 hv0;go_wp2_with fail
    have hopE:op2=4+(i+1)*3:=by have h1:=Hi.out.2.2.2.1;have h2:=Hi.out.2.2.2.2.1;omega
    have HopE:=qq hopE;clear hopE;have hfin:∀(u:Value),KeyG w g u k->KeysDone w g K (i+1) (cs.set i u):=fun u hu j k' hj hk'=>by
     by_cases hji:j=i
     ·subst hji;rw[Hi.out.1]at hk';cases hk'
      exact⟨u,by rw[List.getElem?_set_self (by rw[HR.out.2.2.2.1];omega)],hu⟩
     ·obtain⟨u',h1,h2⟩:=HR.out.2.2.2.2 j k' (by omega) hk';exact⟨u',by rw[List.getElem?_set_ne (fun e=>hji e.symm)];exact h1,h2⟩
    have hBk:Byt w g sx (bytesN k):=by
     have:=HU.out.2.2.2.1 i k Hi.out.1;rw[<-Hi.out.2.1,<-Hi.out.2.2.2.2.2.1]at this;exact this
    have HF:=qq2 hfin hBk;clear hfin hBk;by_cases hcx:c=sx
    ·have hk0:k.size=0:=by omega
     have Hk0:=qq hk0;have HsyE:=qq (show sy-sx=0 by omega);subst hcx;clear hk0;refine wp_region_still_tail 19 (by kernel_rfl) (by kernel_rfl) ?_;simp only[List.take_succ_cons,List.take_zero,List.drop_succ_cons,List.drop_zero];change wpStill _ _ (World.drew _) _ _ _;repeat still_step
     refine wpStill_nil ?_;change wpList _ _ _ _ _ (World.drew _);go_wp2;go_roundw
     case rel=>
      refine⟨i+1,_,by omega,by simp,congrArg (fun z:Nat=>Value.int .u8 (z:Int)) HopE.out,congrArg (fun z:Nat=>Value.int .u32 (z:Int)) Hi.out.2.2.1,Lib.hid ⟨(H7.out.1.drew).set (.inr hkb) _ _ _,H7.out.2.1.drew.set_other hkm _ _ _,H7.out.2.2.drew.set i _,by rw[List.length_set];exact HR.out.2.2.2.1,HF.out.1 _ ⟨0,0,?_,by rw[Hk0.out];exact Nat.le_refl _,?_⟩⟩⟩
      ·rw[Hk0.out]
      ·intro j x hj;have:(bytesN k).length=0:=by rw[length_bytesN];exact Hk0.out
       rw[List.eq_nil_of_length_eq_zero this]at hj;simp at hj
     case measure=>simp[intOf];omega
    ·have Hsk:=qq hsk;have hskc:k.size<=c-sx:=by omega
     refine wp_region_still_tail 19 (by kernel_rfl) (by kernel_rfl) ?_;simp only[List.take_succ_cons,List.take_zero,List.drop_succ_cons,List.drop_zero];change wpStill _ _ (World.drew _) _ _ _;repeat still_step
     refine wpStill_nil ?_;change wpList _ _ _ _ _ (World.drew _);go_wp2;go_roundw
     case rel=>
      refine⟨i+1,_,by omega,by simp,congrArg (fun z:Nat=>Value.int .u8 (z:Int)) HopE.out,congrArg (fun z:Nat=>Value.int .u32 (z:Int)) Hi.out.2.2.1,Lib.hid ⟨(H7.out.1.drew).set (.inr hkb) _ _ _,H7.out.2.1.drew.set_other hkm _ _ _,H7.out.2.2.drew.set i _,by rw[List.length_set];exact HR.out.2.2.2.1,HF.out.1 _ ⟨sx,c-sx,rfl,hskc,HF.out.2⟩⟩⟩
     case measure=>simp[intOf];omega
   ·have hie:i=n:=by omega
    subst hie;go_wp2;go_ret;exact⟨rfl,HR.out.1,kb,cs,HR.out.2.1,HR.out.2.2.1,hkb,HR.out.2.2.2.2⟩
 ·have Hhi:=qq (show(1:Int)+((n:Int)+2)*4=(hd:Int)by have:=Hh.out;omega);have hhb:hd<=1+(49+2)*4:=by have:=Hh.out;omega
  have hhn:hd<=nn:=by omega
  go_enter Tryz.func109,Tryz.ntmps109
  go_wp2_with fail
  refine HU.out.1.mono ?_;rintro e w4 ⟨rfl,k4⟩;have hm4:=HU.out.2.1.keep k4 (by simp)
  replace c0:=hm4.cell (i:=0) rfl
  have H4:=qq2 k4 hm4;clear hm4 k4;go_wp2_with fail
  refine(HU.out.2.2.1 0 _ (by omega) (by omega) w4 H4.out.1.nil).mono ?_;rintro e w5 ⟨rfl,k5⟩;rw[offK_zero];have hm5:=H4.out.2.keep k5 (by simp)
  replace c0:=hm5.cell (i:=0) rfl
  have c1:=hm5.cell (i:=1) rfl;have f1:=hm5.frozen 1;have H5:=qq2 (H4.out.1.trans k5 (by simp)) hm5;have hml:=hm5.lt;clear hm5 k5 H4
  go_upto_region 15 with(fail)
  have hm6:Blk ((w5.setCell ⟨mp,1,none⟩ (.slice (some ⟨w5.heap.size,0,none⟩) n n)).alloc (.cells (Array.replicate n (.slice none 0 0)) 30)) mp [.slice (some ⟨g,0,none⟩) nn c,.slice (some ⟨w5.heap.size,0,none⟩) n n]:=(H5.out.2.set 1 _).alloc _;have hk6:Blk ((w5.setCell ⟨mp,1,none⟩ (.slice (some ⟨w5.heap.size,0,none⟩) n n)).alloc (.cells (Array.replicate n (.slice none 0 0)) 30)) w5.heap.size (List.replicate n (.slice none 0 0)):=by
   have:=Blk.of_new (w:=w5.setCell ⟨mp,1,none⟩ (.slice (some ⟨w5.heap.size,0,none⟩) n n)) (b:=w5.heap.size) (cs:=List.replicate n (.slice none 0 0)) (T:=30) (by simp);rw[List.toArray_replicate]at this;exact this
  have K6:Keep [mp] w ((w5.setCell ⟨mp,1,none⟩ (.slice (some ⟨w5.heap.size,0,none⟩) n n)).alloc (.cells (Array.replicate n (.slice none 0 0)) 30)):=(H5.out.1.nil.set (.inl (by simp)) _ _ _).alloc _;have hkb:w.heap.size<=w5.heap.size:=H5.out.1.size;have hkm:mp≠w5.heap.size:=by omega
  generalize(w5.setCell ⟨mp,1,none⟩ (.slice (some ⟨w5.heap.size,0,none⟩) n n)).alloc (.cells (Array.replicate n (.slice none 0 0)) 30)=w6 at hm6 hk6 K6 ⊢;generalize w5.heap.size=kb at hm6 hk6 hkb hkm ⊢;have H6:=qq3 K6 hm6 hk6;clear hm6 hk6 K6 H5 c0 c1 f1 hml;go_wp2_with fail
  go_loopw [7,9,72] (fun op os iv wr=>∃(i:Nat) (cs:List Value),i<=n/\iv=.int .u32 (i:Int)/\op=.int .u8 ((5+i*4:Nat):Int)/\os=.int .u32 (offK bytesN K i:Int)/\Hid (Keep [mp] w wr/\Blk wr mp [.slice (some ⟨g,0,none⟩) nn c,.slice (some ⟨kb,0,none⟩) n n]/\Blk wr kb cs/\cs.length=n/\KeysDone w g K i cs)) (fun _ _ iv _=>n-(intOf iv).toNat)
  case atStart=>exact⟨0,_,by omega,rfl,rfl,by rw[offK_zero];rfl,Lib.hid ⟨H6.out.1,H6.out.2.1,H6.out.2.2,by simp,fun j k hj=>by omega⟩⟩
  case round=>
   obtain⟨i,cs,hi,rfl,rfl,rfl,HR⟩:=hrel;by_cases hin:i<n
   ·have hini:(i:Int)<(n:Int):=by omega
    obtain⟨k,hk⟩:∃k,K[i]?=some k:=⟨_,List.getElem?_eq_getElem (by rw[<-HU.out.2.2.2.2.2.1];omega)⟩;obtain⟨x,hx⟩:∃x,x=offK bytesN K i:=⟨_,rfl⟩;obtain⟨y,hy⟩:∃y,y=offK bytesN K (i+1):=⟨_,rfl⟩;have hxy:y=x+k.size:=by rw[hy,hx,offK_succ hk,length_bytesN]
    have hyK:y<=szK K:=by rw[hy];exact HU.out.2.2.2.2.1 (i+1)
    have hxyi:¬(y:Int)<(x:Int):=by omega
    obtain⟨op,hop⟩:∃op,op=5+i*4:=⟨_,rfl⟩;have hopb:op<=1+4+49*4:=by omega
    obtain⟨op2,hop2⟩:∃op2,op2=op+4:=⟨_,rfl⟩;have hop2i:(op:Int)+4=(op2:Int):=by omega
    have hop2b:op2+4<=nn:=by have:=Hhi.out;omega
    have hne:¬c=op2:=by omega
    obtain⟨sx,hsx⟩:∃sx,sx=hd+x:=⟨_,rfl⟩;obtain⟨sy,hsy⟩:∃sy,sy=hd+y:=⟨_,rfl⟩;have wsx:IntKind.u64.wrap (sx:Int)=(sx:Int):=u64_same _ _ rfl (by omega);have wsy:IntKind.u64.wrap (sy:Int)=(sy:Int):=u64_same _ _ rfl (by omega);have ex1:(1:Int)+((n:Int)+2)*4+(x:Int)=(sx:Int):=by have:=Hhi.out;omega
    have ey1:(1:Int)+((n:Int)+2)*4+(y:Int)=(sy:Int):=by have:=Hhi.out;omega
    have wxs:IntKind.u64.wrap (x:Int)=(x:Int):=u64_same _ _ rfl (by omega);have wys:IntKind.u64.wrap (y:Int)=(y:Int):=u64_same _ _ rfl (by omega);have hsyn:sy<=nn:=by omega
    have hsyi:¬(nn:Int)<(sy:Int):=by omega
    have hsxy:sx<=sy:=by omega
    have hsyc:sy<=c:=by omega
    have hsk:sy-sx=k.size:=by omega
    rw[<-hx,<-hop];have hm:=HR.out.2.1;obtain⟨c0,c1⟩:=hm.c2 0 1 rfl rfl;have Hi:=qq8 hk hx hy hop hop2 hsx hsy hxy;clear hk hx hy hop hop2 hsx hsy hxy hm;go_wp2_with fail
    refine(HU.out.2.2.1 (i+1) op2 (by omega) (by have h1:=Hi.out.2.2.2.1;have h2:=Hi.out.2.2.2.2.1;omega) wr HR.out.1).mono ?_;rintro e w7 ⟨rfl,k7⟩;rw[<-Hi.out.2.2.1]
    replace c0:=k7.cell_some c0 (by simp)
    replace c1:=k7.cell_some c1 (by simp)
    have hm7:=HR.out.2.1.keep k7 (by simp);have hk7:=HR.out.2.2.1.keep k7 (by simp);obtain⟨v0,hv0⟩:∃v,cs[i]?=some v:=⟨_,List.getElem?_eq_getElem (by rw[HR.out.2.2.2.1];omega)⟩;have x0:=hk7.cell hv0;have fz:=hk7.frozen i;have H7:=qq3 (HR.out.1.trans k7 (by simp)) hm7 hk7;clear hm7 hk7 k7 hv0;go_wp2_with fail
    have hopE:op2=5+(i+1)*4:=by have h1:=Hi.out.2.2.2.1;have h2:=Hi.out.2.2.2.2.1;omega
    have HopE:=qq hopE;clear hopE;have hfin:∀(u:Value),KeyG w g u k->KeysDone w g K (i+1) (cs.set i u):=fun u hu j k' hj hk'=>by
     by_cases hji:j=i
     ·subst hji;rw[Hi.out.1]at hk';cases hk'
      exact⟨u,by rw[List.getElem?_set_self (by rw[HR.out.2.2.2.1];omega)],hu⟩
     ·obtain⟨u',h1,h2⟩:=HR.out.2.2.2.2 j k' (by omega) hk';exact⟨u',by rw[List.getElem?_set_ne (fun e=>hji e.symm)];exact h1,h2⟩
    have hBk:Byt w g sx (bytesN k):=by
     have:=HU.out.2.2.2.1 i k Hi.out.1;rw[<-Hi.out.2.1,<-Hi.out.2.2.2.2.2.1]at this;exact this
    have HF:=qq2 hfin hBk;clear hfin hBk;by_cases hcx:c=sx
    ·have hk0:k.size=0:=by omega
     have Hk0:=qq hk0;have HsyE:=qq (show sy-sx=0 by omega);subst hcx;clear hk0;refine wp_region_still_tail 19 (by kernel_rfl) (by kernel_rfl) ?_;simp only[List.take_succ_cons,List.take_zero,List.drop_succ_cons,List.drop_zero];change wpStill _ _ (World.drew _) _ _ _;repeat still_step
     refine wpStill_nil ?_;change wpList _ _ _ _ _ (World.drew _);go_wp2;go_roundw
     case rel=>
      refine⟨i+1,_,by omega,by simp,congrArg (fun z:Nat=>Value.int .u8 (z:Int)) HopE.out,congrArg (fun z:Nat=>Value.int .u32 (z:Int)) Hi.out.2.2.1,Lib.hid ⟨(H7.out.1.drew).set (.inr hkb) _ _ _,H7.out.2.1.drew.set_other hkm _ _ _,H7.out.2.2.drew.set i _,by rw[List.length_set];exact HR.out.2.2.2.1,HF.out.1 _ ⟨0,0,?_,by rw[Hk0.out];exact Nat.le_refl _,?_⟩⟩⟩
      ·rw[Hk0.out]
      ·intro j x hj;have:(bytesN k).length=0:=by rw[length_bytesN];exact Hk0.out
       rw[List.eq_nil_of_length_eq_zero this]at hj;simp at hj
     case measure=>simp[intOf];omega
    ·have Hsk:=qq hsk;have hskc:k.size<=c-sx:=by omega
     refine wp_region_still_tail 19 (by kernel_rfl) (by kernel_rfl) ?_;simp only[List.take_succ_cons,List.take_zero,List.drop_succ_cons,List.drop_zero];change wpStill _ _ (World.drew _) _ _ _;repeat still_step
     refine wpStill_nil ?_;change wpList _ _ _ _ _ (World.drew _);go_wp2;go_roundw
     case rel=>
      refine⟨i+1,_,by omega,by simp,congrArg (fun z:Nat=>Value.int .u8 (z:Int)) HopE.out,congrArg (fun z:Nat=>Value.int .u32 (z:Int)) Hi.out.2.2.1,Lib.hid ⟨(H7.out.1.drew).set (.inr hkb) _ _ _,H7.out.2.1.drew.set_other hkm _ _ _,H7.out.2.2.drew.set i _,by rw[List.length_set];exact HR.out.2.2.2.1,HF.out.1 _ ⟨sx,c-sx,rfl,hskc,HF.out.2⟩⟩⟩
     case measure=>simp[intOf];omega
   ·have hie:i=n:=by omega
    subst hie;go_wp2;go_ret;exact⟨rfl,HR.out.1,kb,cs,HR.out.2.1,HR.out.2.2.1,hkb,HR.out.2.2.2.2⟩
end Go.Proofs.YtocgdgmfnockiaaGreatDoor
