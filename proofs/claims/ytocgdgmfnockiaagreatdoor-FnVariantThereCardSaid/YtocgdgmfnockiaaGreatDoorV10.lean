/- Variants: FinishObject. Variants: what the Builder writes, in plain words. No walk here. -/
import Derived.Test.YtocgdgmfnockiaaGreatDoorV09
import Derived.Lib.MinMax
import Derived.Test.YtocgdgmfnockiaaGreatDoorV02
set_option linter.unusedVariables false
set_option linter.unusedSimpArgs false
set_option maxRecDepth 100000
set_option maxHeartbeats 8000000
namespace Go.Proofs.YtocgdgmfnockiaaGreatDoor
open Go.RowKit

def objHdr (ids offs:List Nat) (tot:Nat):List Nat:=
 (2+4*(sizeW tot-1))::(leBytes 1 ids.length++(tabB 1 ids++tabB (sizeW tot) (offs++[tot])))
theorem length_objHdr (ids offs:List Nat) (tot:Nat):(objHdr ids offs tot).length=2+ids.length+(offs.length+1)*sizeW tot:=by
 unfold objHdr;simp;omega
theorem Put.lift {w wq w':World} {b:Nat} {g:List Nat} {rest:List Value} {bs:List Nat} (h:Put wq w' b g rest bs) (k:Keep [] w wq):Put w w' b g rest bs:=by
 obtain⟨r,L,h1,h2,h3⟩:=h;exact⟨r,L,h1,k.cat h2 (by simp) (by intro x hx;exact .inl hx),h3.imp id (fun h=>Nat.le_trans k.size h)⟩
theorem objHdr_eq {l:List FE} {hv sz o ds:Nat} (hsz:sz=l.length) (ho:o=sizeW ds) (hhv:hv=2+4*(o-1)) (A R:List Nat):
  A++(([hv]++leBytes 1 sz++tabB 1 ((l.map FE.id).take sz))++(tabB o ((l.map FE.off).take sz)++(leBytes o ds++R)))=A++(objHdr (l.map FE.id) (l.map FE.off) ds++R):=by
 subst ho hhv;subst hsz;unfold objHdr;rw[List.take_of_length_le (by simp),List.take_of_length_le (by simp),tabB_append];simp[tabB,List.append_assoc]

theorem obj_turn (A H T Y U Z R:List Nat):A++((H++T)++(Y++(U++(Z++R))))=(A++((H++T)++Y))++(U++(Z++R)):=by simp[List.append_assoc]
theorem OwnC.fe {w:World} {ao:Option Addr} {n oc:Nat} {G:List Nat} {l:List FE} (h:OwnC cfF 3 G w (.slice ao n oc) l) {i:Nat} {e:FE} (he:l[i]?=some e):
  ∃gf,ao=some ⟨gf,0,none⟩/\G=[gf]/\n=l.length/\w.cell? ⟨gf,i*3,none⟩=some (.string e.key)/\w.cell? ⟨gf,i*3+1,none⟩=some (.int .u32 (e.id:Int))/\w.cell? ⟨gf,i*3+2,none⟩=some (.int .i64 (e.off:Int)):=by
 obtain⟨gf,c,h1,h2,h3,h4⟩:=h.cell cfF_len he (j:=0) (u:=.string e.key) rfl;obtain⟨gf1,c1,h11,h12,h13,h14⟩:=h.cell cfF_len he (j:=1) (u:=.int .u32 (e.id:Int)) rfl;obtain⟨gf2,c2,h21,h22,h23,h24⟩:=h.cell cfF_len he (j:=2) (u:=.int .i64 (e.off:Int)) rfl;rw[h1]at h11 h21;cases h11;cases h21;cases h2
 exact⟨gf,rfl,h1,rfl,h4,h14,h24⟩
theorem finishObjC (b n start ds sz hs:Nat) (G:List Nat) (v:Value) (l:List FE) (g:List Nat) (rest:List Value) (bs:List Nat) (w:World) (h:BufAt w b g rest bs) (hn:n=bs.length) (hsz:sz=l.length) (hst:start+ds=n) (hlim:n<=100000000) (hsl:sz<=255)
  (hhs:hs=2+sz+(sz+1)*sizeW ds) (hof:∀x ∈ l,x.off<2147483648/\x.id<=255) (hord:l.Pairwise (fun x y=>ltK x.key y.key=true)) (hF:OwnC cfF 3 G w v l) (hG:∀x ∈ G,x≠b/\x ∉ g) (hdup:w.cell? ⟨b,6,none⟩=some (.bool false)):
  Calls Tryz.prog 32 #[.pointer (some ⟨b,0,none⟩),.int .i64 (start:Int),v] w fun e w'=>e=.returned .nilIface/\Put w w' b g rest (bs.take start++(objHdr (l.map FE.id) (l.map FE.off) ds++bs.drop start)):=by
 have hsort:=sortFieldsC G v l w hF hord (by omega);obtain⟨ao,oc,rfl,hoc⟩:=hF.shape;rw[<-hsz]at hsort hoc hF ⊢;have HB:=qq3 hF hG h;have Hn:=qq5 hn hsz hof hhs hord;have hbl:b<w.heap.size:=World.block_lt_of_cell? _ _ hdup;clear h hn hsz hof hord hF hG
 go_enter Tryz.func32,Tryz.ntmps32
 go_wp2_with fail
 refine hsort.mono ?_;rintro e w0 ⟨rfl,k0⟩;have hdup0:=k0.cell_some hdup (by simp);have H0:=qq3 (HB.out.1.keep k0 (by simp)) (HB.out.2.2.keep k0 (by simp) (by simp)) k0;clear k0 hsort
 go_upto_if 36 with(fail)
 go_cut [8]from 37 to 40 (fun s8 wx=>∃mx:Nat,s8=.int .u32 (mx:Int)/\mx<=255/\w0=wx)
 case first=>
  by_cases hz:0<sz
  ·obtain⟨e,he⟩:∃e,l[0]?=some e:=⟨_,List.getElem?_eq_getElem (by have:=Hn.out.2.1;omega)⟩;obtain⟨gf,rfl,-,-,c0,c1,c2⟩:=H0.out.1.fe he;have hid:=(Hn.out.2.2.1 e (List.mem_of_getElem? he)).2;clear c0 c2;simp only[Nat.zero_mul,Nat.zero_add]at c1;go_wp2_with fail
   go_meet
   exact⟨_,rfl,hid,rfl⟩
  ·go_wp2_with fail
   go_meet
   exact⟨0,rfl,by omega,rfl⟩
 obtain⟨mx,rfl,hmx,rfl⟩:=hcut;go_wp2_with fail
 go_loopw [8,16] (fun m i wr=>∃mx k:Nat,m=.int .u32 (mx:Int)/\mx<=255/\i=.int .i64 (k:Int)/\1<=k/\(k<=sz\/k<=1)/\∃q,wr=w0.drewN q) (fun _ i _=>sz-(intOf i).toNat)
 case atStart=>exact⟨mx,1,rfl,hmx,rfl,by omega,by omega,0,rfl⟩
 case round=>
  obtain⟨mx,k,rfl,hmx,rfl,hk1,hk2,q,rfl⟩:=hrel;by_cases hlt:k<sz
  ·obtain⟨e,he⟩:∃e,l[k]?=some e:=⟨_,List.getElem?_eq_getElem (by have:=Hn.out.2.1;omega)⟩;obtain⟨e',he'⟩:∃e',l[k-1]?=some e':=⟨_,List.getElem?_eq_getElem (by have:=Hn.out.2.1;omega)⟩;obtain⟨gf,rfl,-,-,c0,c1,c2⟩:=H0.out.1.fe he;obtain⟨gf',eg,-,-,c0',c1',c2'⟩:=H0.out.1.fe he';cases eg
   have hid:=(Hn.out.2.2.1 e (List.mem_of_getElem? he)).2;have hne:(e.key.toList==e'.key.toList)=false:=by
    have hp:=List.pairwise_iff_getElem.1 Hn.out.2.2.2.2 (k-1) k (by have:=Hn.out.2.1;omega) (by have:=Hn.out.2.1;omega) (by omega);have e1:l[k]'(by have:=Hn.out.2.1;omega)=e:=by rw[List.getElem?_eq_getElem (by have:=Hn.out.2.1;omega)]at he;exact Option.some.inj he
    have e2:l[k-1]'(by have:=Hn.out.2.1;omega)=e':=by rw[List.getElem?_eq_getElem (by have:=Hn.out.2.1;omega)]at he';exact Option.some.inj he'
    rw[e1,e2]at hp;cases hq:e.key.toList==e'.key.toList with
    |false=>rfl
    |true=>exact absurd (ba_ext (by simpa using hq)).symm (ltK_ne hp)
   clear c2 c2' c1' hk2 he he';have hki:(k:Int)<(sz:Int):=by omega
   obtain⟨k',hk'⟩:∃k',k'=k-1:=⟨_,rfl⟩;rw[<-hk']at c0';have hkk:IntKind.i64.wrap ((k:Int)-1)=(k':Int):=by rw[IntKind.wrap_i64];omega
   have hks:k'<sz:=by omega
   clear hk';go_wp2_with fail
   refine wp_region_still_lit (by kernel_rfl) (by kernel_rfl) ?_;change wpStill _ _ (World.drew _) _ _ _;repeat still_step
   refine wpStill_nil ?_;go_wp2_with fail
   go_roundw
   case rel=>exact⟨max mx e.id,k+1,by congr 1;omega,by omega,by simp,by omega,by omega,q+1,rfl⟩
   case measure=>simp[intOf];omega
  ·have hki:¬(k:Int)<(sz:Int):=by omega
   have H2:Hid (OwnC cfF 3 G (w0.drewN q) (.slice ao sz oc) l/\BufAt (w0.drewN q) b g rest bs/\Keep [] w (w0.drewN q)):=Lib.hid ⟨H0.out.1.keep ((Keep.refl [] w0).drewN q) (by simp),H0.out.2.1.keep ((Keep.refl [] w0).drewN q) (by simp) (by simp),H0.out.2.2.drewN q⟩;generalize w0.drewN q=wq at H2 ⊢;clear H0 hdup0 hk1 hk2;go_wp2_with fail
   refine(bufLenC b g rest bs _ H2.out.2.1).mono ?_;rintro e w1 ⟨rfl,k1⟩;have hB1:=H2.out.2.1.keep k1 (by simp) (by simp);rw[<-Hn.out.1];have HK1:=qq2 k1 hB1;clear k1 hB1;have hsz255:¬(255:Int)<(sz:Int):=by omega
   obtain⟨o,ho⟩:∃o,o=sizeW ds:=⟨_,rfl⟩;have Ho:=qq ho;have ho1:1<=o:=by rw[ho];exact sizeW_pos _
   have ho4:o<=4:=by rw[ho];exact sizeW_le _
   rw[<-ho]at hhs;have hmul:(sz+1)*o<=(sz+1)*4:=Nat.mul_le_mul_left _ ho4;have hmul1:(sz+1)*1<=(sz+1)*o:=Nat.mul_le_mul_left _ ho1;have hds:(n:Int)-(start:Int)=(ds:Int):=by omega
   have hds0:¬(ds:Int)<0:=by omega
   have hhsi:2+(sz:Int)+((sz:Int)+1)*(o:Int)=(hs:Int):=by rw[hhs];simp
   have hhsl:hs<=2+sz+(sz+1)*4:=by omega
   have hhs3:3<=hs:=by omega
   have hkhs:2+sz+o<=hs:=by rw[hhs,Nat.succ_mul];omega
   have Hhs:=qq hhs;clear ho hhs;go_wp2_with fail
   refine(intSizeC mx _ (by omega)).mono ?_;rintro e w1' ⟨rfl,rfl⟩;have hmx1:sizeW mx=1:=by unfold sizeW;rw[if_pos hmx]
   rw[hmx1];go_wp2_with fail
   refine(intSizeC ds _ (by omega)).mono ?_;rintro e w1' ⟨rfl,rfl⟩;rw[<-Ho.out];go_wp2_with fail
   refine(bufGrowC b hs g rest bs _ HK1.out.2 (by omega) (by rw[<-Hn.out.1];omega)).mono ?_;rintro e w2 ⟨rfl,hG⟩;obtain⟨r,L,q1,q2,q3,q4⟩:=BufRoom.of_grown hG;rw[<-Hn.out.1]at q2;have HG:=qq3 q1 q3 (HK1.out.1.nil.trans q4 (fun x hx=>.inl hx));clear q1 q3 q4 hG;go_wp2_with fail
   refine(availC b r rest bs L _ HG.out.1 (by rw[<-Hn.out.1];omega)).mono ?_;rintro e w3 ⟨rfl,k3⟩;rw[<-Hn.out.1];have HA:=qq2 (HG.out.1.keep k3 (by simp) (by simp)) (HG.out.2.2.trans k3.nil (fun x hx=>.inl hx));clear k3;have hne0:¬L.length-n=0:=by omega
   have hhc:hs<=L.length-n:=by omega
   go_wp2_with fail
   refine wp_region_mid 6 (by kernel_rfl) (by kernel_rfl) ?_;simp only[List.take_succ_cons,List.take_zero,List.drop_succ_cons,List.drop_zero];change wpStill _ _ (World.drew _) _ _ _;repeat still_step
   refine wpStill_nil ?_;go_wp2_with fail
   refine(writeRoom b r hs (L.length-n) ⟨r,n,none⟩ ((L.drop n).take hs) rest bs L w3.drew HA.out.1.drew (by simp;omega) (by omega) (by rw[<-Hn.out.1];omega) (by have:=HA.out.1;obtain⟨lr,_,_,_,_,_,h⟩:=this;exact Ne.symm h) (fun j x hj=>?_)).mono ?_
   ·rw[add_at];obtain⟨lr,_,h2,_⟩:=HA.out.1;refine h2.drew.cell (rowV_get ?_);rw[List.getElem?_take]at hj;split at hj
    ·rw[List.getElem?_drop]at hj;exact hj
    ·cases hj
   rintro e w4 ⟨rfl,L1,e1,q1,k1⟩;have HW:=qq2 q1 (HA.out.2.drew.cat (T:=[b,r]) k1 (by simp) (by simp));obtain⟨c,hc⟩:∃c,c=L1.length:=⟨_,rfl⟩;have hL1:n+hs<=c:=by omega
   have Hc:=qq2 hc e1;clear q1 k1 e1 hc;go_wp2_with fail
   repeat still_step
   refine wpStill_nil ?_;go_wp2_with fail
   refine(bytesC b r rest (bs++(L.drop n).take hs) L1 _ HW.out.1).mono ?_;rintro e w5 ⟨rfl,k5⟩;have hlen:(bs++(L.drop n).take hs).length=n+hs:=by rw[List.length_append,<-Hn.out.1];simp;omega
   rw[hlen,<-Hc.out.1];have HY:=qq3 (HW.out.1.keep k5 (by simp) (by simp)) (HW.out.2.trans k5.nil (fun x hx=>.inl hx)) hlen;clear k5 hlen;obtain⟨s2,hs2⟩:∃s2,s2=start+hs:=⟨_,rfl⟩;obtain⟨n2,hn2⟩:∃n2,n2=n+hs:=⟨_,rfl⟩;have hw1:IntKind.i64.wrap ((start:Int)+(hs:Int))=(s2:Int):=by rw[IntKind.wrap_i64];omega
   have hw2:IntKind.i64.wrap ((start:Int)+(ds:Int))=(n:Int):=by rw[IntKind.wrap_i64];omega
   have hsn2:s2<=n2:=by omega
   have hnn2:n<=n2:=by omega
   have hstn:start<=n:=by omega
   have hn2c:n2<=c:=by omega
   have hnc:n<=c:=by omega
   rw[<-hn2];have Hs2:=qq2 hs2 hn2;obtain⟨X,hX⟩:∃X,X=(L1.drop start).take hs:=⟨_,rfl⟩;obtain⟨R,hR⟩:∃R,R=bs.drop start++L1.drop n2:=⟨_,rfl⟩;obtain⟨A,hA⟩:∃A,A=bs.take start:=⟨_,rfl⟩;have HX:=qq3 hX hR hA;clear hX hR hA hs2 hn2
   go_upto_region 55 with(fail)
   go_cut []from 244 to 255 (fun wx=>∃w6,w6=wx/\Shifted wq w6 b r c n2 rest A X R)
   case first=>
    obtain⟨lr5,hb5,hr5,ht5,hle5,hm5,hbr⟩:=HY.out.1;obtain⟨hs2,hn2⟩:=Hs2.out;have hL1e:L1.take n2=bs++(L.drop n).take hs:=by rw[HY.out.2.2]at ht5;rw[hn2];exact ht5
    have hsh:=shiftL hL1e Hn.out.1 hst hs2 hn2 (by rw[<-Hc.out.1];exact hn2c);rw[<-HX.out.1,<-HX.out.2.1,<-HX.out.2.2]at hsh;by_cases hz:c=s2
    ·have hds0':n-start=0:=by omega
     have hcp:=fun ty d dl dc sc=>run_copy_none (P:=Tryz.prog) w5.drew 30 30 ty 5 d (some ⟨r,start,none⟩) dl dc (n-start) sc Tryz.underlying30 size_u8t (by rw[hds0'];simp);have HZ:Hid (∃w6,w6=w5.drew/\Shifted wq w6 b r c n2 rest A X R):=Lib.hid ⟨_,rfl,by
      rw[hds0',List.take_zero]at hsh;have e:splice L1 s2 []=L1:=by simp[splice]
      rw[e]at hsh;rw[<-hsh];exact hr5.drew,⟨lr5,by rw[HY.out.2.2,<-Hc.out.1,<-hn2]at hb5;exact hb5.drew⟩,HY.out.2.1.drew⟩
     clear hs2 hn2 hr5 hb5 ht5 hle5 hm5 hL1e hbr hsh hds0';subst hz;go_wp2_with fail
     refine wp_region_mid 11 (by kernel_rfl) (by kernel_rfl) ?_;simp only[List.take_succ_cons,List.take_zero,List.drop_succ_cons,List.drop_zero];change wpStill _ _ (World.drew _) _ _ _;repeat still_step
     refine wpStill_nil ?_;go_wp2_with fail
     repeat still_step
     refine wpStill_nil ?_;go_wp2_with fail
     go_meet
     exact HZ.out
    ·have hcp:=fun ty=>run_copy_blk (P:=Tryz.prog) (w:=w5.drew) hr5.drew hr5.drew 30 30 ty 5 s2 start (n2-s2) (c-s2) (n-start) (c-start) Tryz.underlying30 size_u8t (n-start) (by show n-start=min _ _;omega) (by rw[length_rowV,<-Hc.out.1];omega) (by rw[length_rowV,<-Hc.out.1];omega) (one_rowV _ _);rw[<-rowV_drop,<-rowV_take]at hcp;have hr6:Blk (w5.drew.setCells r s2 (rowV .u8 ((L1.drop start).take (n-start)))) r (rowV .u8 (splice L1 s2 ((L1.drop start).take (n-start)))):=by
      rw[rowV_splice];exact hr5.drew.setCells (by simp;rw[<-Hc.out.1];omega)
     rw[hsh]at hr6;have hb6:=hb5.drew.setCells_other (c:=r) (vs:=rowV .u8 ((L1.drop start).take (n-start))) (o:=s2) hbr;rw[HY.out.2.2,<-Hc.out.1,<-hn2]at hb6;have HZ:Hid (∃w6,w6=(w5.drew.setCells r s2 (rowV .u8 ((L1.drop start).take (n-start))))/\Shifted wq w6 b r c n2 rest A X R):=Lib.hid ⟨_,rfl,hr6,⟨lr5,hb6⟩,Keep.setCells (by simp) HY.out.2.1.drew⟩;clear hs2 hn2 hr5 hb5 ht5 hle5 hm5 hL1e hbr hsh hr6 hb6;go_wp2_with fail
     refine wp_region_mid 11 (by kernel_rfl) (by kernel_rfl) ?_;simp only[List.take_succ_cons,List.take_zero,List.drop_succ_cons,List.drop_zero];change wpStill _ _ (World.drew _) _ _ _;repeat still_step
     refine wpStill_nil ?_;go_wp2_with fail
     repeat still_step
     refine wpStill_nil ?_;go_wp2_with fail
     go_meet
     exact HZ.out
   case rest=>
    obtain⟨w6,rfl,hr6,⟨lr6,hb6⟩,K6⟩:=hcut;have hAl:A.length=start:=by rw[HX.out.2.2,List.length_take,<-Hn.out.1];omega
    have hXl:X.length=hs:=by rw[HX.out.1,List.length_take,List.length_drop,<-Hc.out.1];have:=Hs2.out;omega
    have hbr:b≠r:=by obtain⟨lr5,_,_,_,_,_,h⟩:=HY.out.1;exact h
    obtain⟨u6,cs6⟩:∃u,w6.cell? ⟨r,start,none⟩=some u:=⟨_,hr6.cell (List.getElem?_eq_getElem (by rw[length_rowV];simp;omega))⟩;have fs6:=hr6.frozen start;obtain⟨hv,hhv⟩:∃hv,hv=2+4*(o-1):=⟨_,rfl⟩;have Hv:=qq hhv;have hr7:=hr6.set start (.int .u8 (hv:Int));rw[<-rowV_set]at hr7;have hsm:=set_mid A X R hv (by omega);rw[hAl]at hsm;rw[hsm]at hr7;have hb7:=hb6.set_other (c:=r) hbr start none (.int .u8 (hv:Int));have K7:Keep [b,r] wq (w6.setCell ⟨r,start,none⟩ (.int .u8 (hv:Int))):=K6.set (by simp) _ _ _;have HZ:=qq6 hr7 hb7 K7 hAl hXl hbr;clear hr6 hb6 K6 hAl hXl hbr hr7 hb7 K7 hsm hhv;go_wp2_with fail
    have ho:=objectHeaderC (decide ((255:Int)<(sz:Int))) o w6 ho1 ho4;refine ho.mono ?_;rintro e w6' ⟨rfl,rfl⟩;have hdf:decide ((255:Int)<(sz:Int))=false:=by simpa using hsz255
    rw[hdf,show 2+4*(o-1)+(if false=true then 64 else 0)=hv by rw[Hv.out];rfl];clear hdf ho;have hstn2:start<n2:=by have:=Hs2.out;omega
    have hstc:start<c:=by have:=Hs2.out;omega
    have hs1n:start+1<=n2:=by omega
    have hne1:¬c=start+1:=by have:=Hs2.out;omega
    go_wp2_with fail
    refine(writeHdrC r (start+1) _ _ sz 1 A [hv] (X.drop 1) R _ HZ.out.1 (by have:=HZ.out.2.2.2.1;simp;omega) (by have:=HZ.out.2.2.2.2.1;simp;omega) (by omega) (by omega) (by have:=Hs2.out;omega) (by omega)).mono ?_;rintro e w8 ⟨rfl,k8,hr8⟩;have hbr8:b ∉ [r]:=by simp;exact HZ.out.2.2.2.2.2
    obtain⟨Y,hY⟩:∃Y,Y=(X.drop 2).take sz:=⟨_,rfl⟩;obtain⟨Z,hZ⟩:∃Z,Z=X.drop (2+sz):=⟨_,rfl⟩;have hYZ:X.drop 2=Y++Z:=by rw[hY,hZ,<-List.drop_drop,List.take_append_drop]
    have hYl:Y.length=sz:=by have:=HZ.out.2.2.2.2.1;rw[hY];simp;omega
    have hZl:Z.length=(sz+1)*o:=by have:=HZ.out.2.2.2.2.1;have:=Hhs.out;rw[hZ];simp;omega
    rw[List.drop_drop,show 1+1=2 from rfl,hYZ]at hr8;have HQ:=qq5 hr8 (HZ.out.2.1.keep k8 hbr8) (HZ.out.2.2.1.trans k8 (by simp)) hYl hZl;clear k8 hr8 hY hZ hYZ hYl hZl;obtain⟨s27,hs27⟩:∃s27,s27=start+2:=⟨_,rfl⟩;have hs27a:(start:Int)+1+1=(s27:Int):=by omega
    have hs27b:(start:Int)+2=(s27:Int):=by omega
    obtain⟨s28,hs28⟩:∃s28,s28=start+2+sz:=⟨_,rfl⟩;have hs28a:(s27:Int)+(sz:Int)=(s28:Int):=by omega
    have hs28n:s28+(sz+1)*o=start+hs:=by rw[Hhs.out,hs28];omega
    have Hs27:=qq2 hs27 hs28;have hsn2:start+hs<=n2:=by have:=Hs2.out.2;omega
    clear hs27 hs28;go_wp2_with fail
    go_loopw [283] (fun iv wr=>∃i:Nat,i<=sz/\iv=.int .i64 (i:Int)/\Hid (Blk wr r (rowV .u8 (A++(([hv]++leBytes 1 sz++tabB 1 ((l.map FE.id).take i))++(Y.drop i++(tabB o ((l.map FE.off).take i)++(Z.drop (i*o)++R)))))))/\Hid (Blk wr b (.slice (some ⟨r,0,none⟩) n2 c::.int .i64 0::.int .i8 lr6::rest))/\Hid (Keep [b,r] wq wr)) (fun i _=>sz-(intOf i).toNat)
    case atStart=>exact⟨0,Nat.zero_le _,rfl,qq (by simpa[tabB,List.append_assoc]using HQ.out.1),qq HQ.out.2.1,qq HQ.out.2.2.1⟩
    case round=>
     obtain⟨i,hi,rfl,h1,h2,h3⟩:=hrel;obtain⟨m,hm⟩:∃m,m=i*o:=⟨_,rfl⟩;have hml:s28+m+o<=start+hs:=by have:=Nat.mul_le_mul_right o (show i+1<=sz+1 by omega);rw[Nat.succ_mul]at this;omega
     obtain⟨p27,hp27⟩:∃p27,p27=s27+i:=⟨_,rfl⟩;obtain⟨p28,hp28⟩:∃p28,p28=s28+m:=⟨_,rfl⟩;have hmi:(i:Int)*(o:Int)=(m:Int):=by rw[hm];simp
     have hmw:IntKind.i64.wrap ((i:Int)*(o:Int))=(m:Int):=by rw[hmi,IntKind.wrap_i64];omega
     have hpm:(s28:Int)+(m:Int)=(p28:Int):=by omega
     have hpw:IntKind.i64.wrap ((s28:Int)+(m:Int))=(p28:Int):=by rw[IntKind.wrap_i64];omega
     have hiw:IntKind.i64.wrap (i:Int)=(i:Int):=by rw[IntKind.wrap_i64];omega
     have how:IntKind.i64.wrap (o:Int)=(o:Int):=by rw[IntKind.wrap_i64];omega
     have h1w:IntKind.i64.wrap 1=1:=by decide
     have hmw2:IntKind.i64.wrap (m:Int)=(m:Int):=by rw[IntKind.wrap_i64];omega
     have hpw2:IntKind.i64.wrap (p28:Int)=(p28:Int):=by rw[IntKind.wrap_i64];omega
     have hps:IntKind.i64.wrap ((s27:Int)+(i:Int))=(p27:Int):=by rw[IntKind.wrap_i64];omega
     have hq1:p27<=n2:=by have:=Hs27.out;omega
     have hq2:p27<=c:=by omega
     have hq3:¬c=p27:=by have:=Hs27.out;omega
     have hq4:p28<=n2:=by omega
     have hq5:p28<=c:=by omega
     have hq6:¬c=p28:=by omega
     have hq7:p28<=200000000:=by omega
     have Hm:=qq4 hm hml hp27 hp28;clear hm hml hp27 hp28;by_cases hilt:i<sz
     ·have hilti:(i:Int)<(sz:Int):=by omega
      obtain⟨e,he⟩:∃e,l[i]?=some e:=⟨_,List.getElem?_eq_getElem (by have:=Hn.out.2.1;omega)⟩;obtain⟨gf,rfl,hGf,-,c0,c1,c2⟩:=H2.out.1.fe he;have hgl:gf<wq.heap.size:=World.block_lt_of_cell? _ _ c0;have hgr:gf ∉ [b,r]:=by
       have h1:=HB.out.2.1 gf (by simp[hGf]);simp;refine⟨h1.1,fun e=>?_⟩;rcases HG.out.2.1 with h|h
       ·exact h1.2 (e▸h)
       ·have:=HK1.out.1.size;omega
      have d0:=h3.out.cell_some c0 hgr;have d1:=h3.out.cell_some c1 hgr;have d2:=h3.out.cell_some c2 hgr;have hbn:b<wr.heap.size:=h2.out.lt;have hrn:r<wr.heap.size:=h1.out.lt;obtain⟨hoff,hid⟩:=Hn.out.2.2.1 e (List.mem_of_getElem? he);have hidw:IntKind.i64.wrap (e.id:Int)=(e.id:Int):=by rw[IntKind.wrap_i64];omega
      have He:=qq2 he hoff;clear c0 c1 c2 hgr hgl hGf he hoff;go_wp2_with fail
      obtain⟨wa,hwa⟩:∃x,x=wr.alloc (Obj.cells #[Value.string e.key,Value.int IntKind.u32 (e.id:Int),Value.int IntKind.i64 (e.off:Int)] 72):=⟨_,rfl⟩;obtain⟨nb,hnb⟩:∃x,x=wr.heap.size:=⟨_,rfl⟩;rw[<-hwa,<-hnb];have a0:Blk wa nb [.string e.key,.int .u32 (e.id:Int),.int .i64 (e.off:Int)]:=by rw[hwa,hnb];exact Blk.new _ _ _
      have ka:Keep [] wr wa:=by rw[hwa];exact(Keep.refl [] wr).alloc _
      have hnr:r≠nb:=by omega
      have hnb':nb ∉ [r]:=by simp;omega
      obtain⟨a1,a2⟩:=a0.c2 1 2 rfl rfl;have HA2:=qq4 a0 (h1.out.keep ka (by simp)) (h2.out.keep ka (by simp)) (h3.out.trans ka (by simp));clear hwa hnb a0 ka d0 d1 d2;refine wp_region_mid 12 (by kernel_rfl) (by kernel_rfl) ?_;simp only[List.take_succ_cons,List.take_zero,List.drop_succ_cons,List.drop_zero];change wpStill _ _ (World.drew _) _ _ _;repeat still_step
      refine wpStill_nil ?_;go_wp2_with fail
      refine(writeHdrC r p27 _ _ e.id 1 A ([hv]++leBytes 1 sz++tabB 1 ((l.map FE.id).take i)) (Y.drop i) _ _ (HA2.out.2.1.drew) (by have e1:=HZ.out.2.2.2.1;have e2:=Hs27.out;have e3:=Hm.out;have e4:=Hn.out.2.1;simp;rw[Nat.min_eq_left (by omega)];omega) (by have e1:=HQ.out.2.2.2;simp;omega) (by omega) (by omega) (by have e1:=Hs2.out;have e2:=Hs27.out;have e3:=Hm.out;omega) (by omega)).mono ?_;rintro x1 w9 ⟨rfl,k9,hr9⟩;have e29:=k9.cell_some (p:=⟨nb,2,none⟩) a2 hnb';have HR9:=qq3 hr9 (HA2.out.2.2.1.drew.keep k9 hbr8) (HA2.out.2.2.2.drew.trans k9 (by simp));clear k9 hr9 a1 a2;go_wp2_with fail
      repeat still_step
      refine wpStill_nil ?_;go_wp2_with fail
      refine wp_region_mid 11 (by kernel_rfl) (by kernel_rfl) ?_;simp only[List.take_succ_cons,List.take_zero,List.drop_succ_cons,List.drop_zero];change wpStill _ _ (World.drew _) _ _ _;repeat still_step
      refine wpStill_nil ?_;go_wp2_with fail
      have hr10:=HR9.out.1;rw[obj_turn]at hr10;have hi1:=Hn.out.2.1;have hl1:(A++(([hv]++leBytes 1 sz++tabB 1 ((l.map FE.id).take i)++leBytes 1 e.id)++(Y.drop i).drop 1)).length=s28:=by
       have e1:=HZ.out.2.2.2.1;have e2:=Hs27.out;have e3:=HQ.out.2.2.2.1;simp;rw[Nat.min_eq_left (by omega)];omega
      refine(writeHdrC r p28 _ _ e.off o _ (tabB o ((l.map FE.off).take i)) (Z.drop (i*o)) R _ hr10.drew (by rw[hl1,length_tabB,List.length_take,List.length_map,Nat.min_eq_left (by omega)];have:=Hm.out;omega) (by have e1:=HQ.out.2.2.2.2;have e3:=Hm.out;rw[Nat.succ_mul]at e1;have:=Nat.mul_le_mul_right o (show i+1<=sz from hilt);rw[Nat.succ_mul]at this;simp;omega) ho1 ho4 (by have e1:=Hs2.out;have e3:=Hm.out;omega) He.out.2).mono ?_;rintro x1 w10 ⟨rfl,k10,hr10'⟩;have HR10:=qq3 hr10' (HR9.out.2.1.drew.keep k10 hbr8) (HR9.out.2.2.drew.trans k10 (by simp));clear k10 hr10' hr10 hi1 hl1;go_wp2_with fail
      repeat still_step
      refine wpStill_nil ?_;go_wp2_with fail
      go_roundw
      case rel=>
       obtain⟨hr10,hb10,k10⟩:=HR10.out;have hid1:(l.map FE.id)[i]?=some e.id:=by rw[List.getElem?_map,He.out.1];rfl
       have hoff1:(l.map FE.off)[i]?=some e.off:=by rw[List.getElem?_map,He.out.1];rfl
       refine⟨i+1,hilt,by simp,Lib.hid ?_,qq hb10,qq k10⟩;rw[tabB_take_succ _ _ _ _ hid1,tabB_take_succ _ _ _ _ hoff1,<-List.append_assoc ([hv]++leBytes 1 sz),Nat.succ_mul];rw[<-obj_turn,List.drop_drop,List.drop_drop]at hr10;exact hr10
      case measure=>simp[intOf];omega
     ·have hilti:¬(i:Int)<(sz:Int):=by omega
      have hie:i=sz:=by omega
      subst hie;go_wp2_with fail
      have hr10:=h1.out;rw[obj_turn]at hr10;have hi1:=Hn.out.2.1;have hl1:(A++(([hv]++leBytes 1 i++tabB 1 ((l.map FE.id).take i))++Y.drop i)).length=s28:=by
       have e1:=HZ.out.2.2.2.1;have e2:=Hs27.out;have e3:=HQ.out.2.2.2.1;simp;rw[Nat.min_eq_left (by omega)];omega
      refine(writeHdrC r p28 _ _ ds o _ (tabB o ((l.map FE.off).take i)) (Z.drop (i*o)) R _ hr10 (by rw[hl1,length_tabB,List.length_take,List.length_map,Nat.min_eq_left (by omega)];have:=Hm.out;omega) (by have e1:=HQ.out.2.2.2.2;have e3:=Hm.out;rw[Nat.succ_mul]at e1;simp;omega) ho1 ho4 (by have e1:=Hs2.out;have e3:=Hm.out;omega) (by omega)).mono ?_;rintro x1 w10 ⟨rfl,k10,hr10'⟩;have HR10:=qq2 hr10' k10;clear k10 hr10' hr10 hi1 hl1;go_wp2;go_ret;obtain⟨hr10,k10⟩:=HR10.out;obtain⟨hn,hsz,hof,hord⟩:=Hn.out;have hW:(A++(([hv]++leBytes 1 i++tabB 1 ((l.map FE.id).take i))++Y.drop i))++((tabB o ((l.map FE.off).take i)++leBytes o ds)++((Z.drop (i*o)).drop o++R))=(bs.take start++(objHdr (l.map FE.id) (l.map FE.off) ds++bs.drop start))++L1.drop n2:=by
       have e1:=HQ.out.2.2.2.1;have e2:=HQ.out.2.2.2.2;rw[List.drop_drop,show i*o+o=Z.length by rw[e2,Nat.succ_mul],List.drop_length,<-e1,List.drop_length,e1];have:=objHdr_eq hsz Ho.out Hv.out A R;rw[HX.out.2.1,HX.out.2.2]at*;simp only[List.append_assoc,List.nil_append,List.append_nil]at this ⊢;exact this
      rw[hW]at hr10;refine⟨rfl,Put.lift (Put.mk2 ?_ (L:=(bs.take start++(objHdr (l.map FE.id) (l.map FE.off) ds++bs.drop start))++L1.drop n2) ?_ (h3.out.trans k10 (by simp))) H2.out.2.2⟩
      ·exact HG.out.2.1.imp id (fun h=>Nat.le_trans HK1.out.1.size h)
      ·obtain⟨hs2,hn2⟩:=Hs2.out;obtain⟨hc,_⟩:=Hc.out;have hl:(bs.take start++(objHdr (l.map FE.id) (l.map FE.off) ds++bs.drop start)).length=n2:=by
        simp[length_objHdr];rw[<-hsz,<-hn,<-Ho.out];have:=Hhs.out;omega
       refine⟨lr6,?_,hr10,by rw[List.take_left],by simp,?_,HZ.out.2.2.2.2.2⟩
       ·have:=h2.out.keep k10 hbr8;rw[hl];have hl2:((bs.take start++(objHdr (l.map FE.id) (l.map FE.off) ds++bs.drop start))++L1.drop n2).length=c:=by
         rw[List.length_append,hl,List.length_drop];omega
        rw[hl2];exact this
       ·obtain⟨_,_,_,_,_,hm,_⟩:=HY.out.1;rw[List.length_append,hl,List.length_drop];omega

def sgn (n:Nat):Int:=if n<9223372036854775808 then(n:Int)else(n:Int)-18446744073709551616
theorem u64of_sgn (n:Nat) (h:n<18446744073709551616):u64of (sgn n)=n:=by
 unfold u64of sgn;split<;>omega
theorem sgn_lo (n:Nat) (h:n<18446744073709551616):-9223372036854775808<=sgn n/\sgn n<=9223372036854775807:=by unfold sgn;split<;>omega

def encI (n:Nat):List Nat:=
 if -128<=sgn n/\sgn n<=127 then 12::leBytes 1 n else if -32768<=sgn n/\sgn n<=32767 then 16::leBytes 2 n else if -2147483648<=sgn n/\sgn n<=2147483647 then 20::leBytes 4 n else 24::leBytes 8 n

def primB (kind scale:Int) (num:Nat) (text:ByteArray):List Nat:=
 if kind=2 then[0]else if kind=3 then(if num=0 then[8]else[4])else if kind<=7 then encI num else if kind=8 then encStr text else if kind=9 then 28::leBytes 8 num
 else if kind=10 then 32::scale.toNat::leBytes 4 num else if kind=11 then 36::scale.toNat::leBytes 8 num else if kind=12 then 40::scale.toNat::bytesN text else if kind=13 then 44::leBytes 4 num
 else if kind=14 then 48::leBytes 8 num else if kind=15 then 52::leBytes 8 num else if kind=16 then 56::leBytes 4 num else if kind=17 then encBin (bytesN text)else if kind=18 then 68::leBytes 8 num
 else if kind=19 then 72::leBytes 8 num else if kind=20 then 76::leBytes 8 num else 80::bytesN text

def offsL:Nat->List Nat->List Nat
 |_,[]=>[]
 |s,l::ls=>s::offsL (s+l) ls
theorem length_offsL:∀(s:Nat) (l:List Nat),(offsL s l).length=l.length
 |_,[]=>rfl
 |s,l::ls=>by simp[offsL,length_offsL]
theorem offsL_append:∀(s:Nat) (l m:List Nat),offsL s (l++m)=offsL s l++offsL (s+l.sum) m
 |s,[],m=>by simp[offsL]
 |s,x::l,m=>by simp[offsL,offsL_append (s+x) l m,Nat.add_assoc]
theorem offsL_le:∀(s:Nat) (l:List Nat),∀x ∈ offsL s l,x<=s+l.sum
 |_,[],x,h=>by simp[offsL]at h
 |s,y::l,x,h=>by
  simp only[offsL,List.mem_cons]at h;rcases h with rfl|h
  ·omega
  ·have:=offsL_le (s+y) l x h;simp;omega
def encN {α:Type} (F:List ByteArray) (f:α->List Nat) (x:Node α):List Nat:=
 if x.kind=0 then objHdr (x.keys.map (idxK F)) (offsL 0 ((x.kids.map f).map List.length)) (x.kids.map f).flatten.length++(x.kids.map f).flatten
 else if x.kind=1 then arrHdr (offsL 0 ((x.kids.map f).map List.length)) (x.kids.map f).flatten.length++(x.kids.map f).flatten
 else primB x.kind x.scale x.num x.text

def encV:(d:Nat)->List ByteArray->Vt d->List Nat
 |0,_,_=>[]
 |d+1,F,x=>encN F (encV d F) x
def addKV {α:Type} (f:List ByteArray->α->List ByteArray):List ByteArray->List ByteArray->List α->List ByteArray
 |K,k::ks,c::cs=>addKV f (f (addK K k) c) ks cs
 |K,_,_=>K
def addN {α:Type} (f:List ByteArray->α->List ByteArray) (K:List ByteArray) (x:Node α):List ByteArray:=
 if x.kind=0 then addKV f K x.keys x.kids else if x.kind=1 then x.kids.foldl f K else K

def addV:(d:Nat)->List ByteArray->Vt d->List ByteArray
 |0,K,_=>K
 |d+1,K,x=>addN (addV d) K x
theorem addK_prefix (K:List ByteArray) (k:ByteArray):K<+:addK K k:=by
 unfold addK;split
 ·exact List.prefix_refl _
 ·exact List.prefix_append _ _
theorem mem_addK (K:List ByteArray) (k:ByteArray):k ∈ addK K k:=by
 unfold addK;cases h:hasK K k with
 |true=>simpa using hasK_iff.1 h
 |false=>simp
theorem addKV_prefix {α:Type} {f:List ByteArray->α->List ByteArray} (hf:∀K x,K<+:f K x):∀(ks:List ByteArray) (cs:List α) (K:List ByteArray),K<+:addKV f K ks cs
 |[],_,K=>by simp[addKV]
 |_::_,[],K=>by simp[addKV]
 |k::ks,c::cs,K=>by
  rw[addKV];exact((addK_prefix K k).trans (hf _ c)).trans (addKV_prefix hf ks cs _)
theorem foldl_prefix {α:Type} {f:List ByteArray->α->List ByteArray} (hf:∀K x,K<+:f K x):∀(cs:List α) (K:List ByteArray),K<+:cs.foldl f K
 |[],K=>by simp
 |c::cs,K=>by rw[List.foldl_cons];exact(hf K c).trans (foldl_prefix hf cs _)
theorem addN_prefix {α:Type} {f:List ByteArray->α->List ByteArray} (hf:∀K x,K<+:f K x) (K:List ByteArray) (x:Node α):K<+:addN f K x:=by
 unfold addN;split
 ·exact addKV_prefix hf _ _ _
 ·split
  ·exact foldl_prefix hf _ _
  ·exact List.prefix_refl _
theorem addV_prefix:∀(d:Nat) (K:List ByteArray) (x:Vt d),K<+:addV d K x
 |0,K,_=>List.prefix_refl _
 |d+1,K,x=>addN_prefix (addV_prefix d) K x
theorem idxK_prefix {K F:List ByteArray} {k:ByteArray} (h:K<+:F) (hk:k ∈ K):idxK F k=idxK K k:=by
 obtain⟨L,rfl⟩:=h;exact idxK_append_left hk L

theorem addKV_snoc {α:Type} (f:List ByteArray->α->List ByteArray):∀(ks:List ByteArray) (cs:List α) (K:List ByteArray) (k:ByteArray) (c:α),ks.length=cs.length->addKV f K (ks++[k]) (cs++[c])=f (addK (addKV f K ks cs) k) c
 |[],[],K,k,c,_=>by simp[addKV]
 |[],_::_,K,k,c,h=>by simp at h
 |_::_,[],K,k,c,h=>by simp at h
 |x::ks,y::cs,K,k,c,h=>by
  simp only[List.cons_append,addKV];exact addKV_snoc f ks cs _ k c (by simpa using h)
theorem take_snoc {α:Type} {l:List α} {i:Nat} {x:α} (h:l[i]?=some x):l.take (i+1)=l.take i++[x]:=by
 have hi:=(List.getElem?_eq_some_iff.1 h).1;rw[List.take_succ_eq_append_getElem hi];congr 1
 have e:l[i]=x:=by rw[List.getElem?_eq_getElem hi]at h;exact Option.some.inj h
 rw[e]
theorem addKV_take {α:Type} (f:List ByteArray->α->List ByteArray) {ks:List ByteArray} {cs:List α} (K:List ByteArray) {i:Nat} {k:ByteArray} {c:α} (h1:ks[i]?=some k) (h2:cs[i]?=some c):
  addKV f K (ks.take (i+1)) (cs.take (i+1))=f (addK (addKV f K (ks.take i) (cs.take i)) k) c:=by
 have a1:=(List.getElem?_eq_some_iff.1 h1).1;have a2:=(List.getElem?_eq_some_iff.1 h2).1;rw[take_snoc h1,take_snoc h2];exact addKV_snoc f _ _ K k c (by simp;omega)

theorem addKV_take_prefix {α:Type} {f:List ByteArray->α->List ByteArray} (hf:∀K x,K<+:f K x):∀(ks:List ByteArray) (cs:List α) (K:List ByteArray) (i:Nat),addKV f K (ks.take i) (cs.take i)<+:addKV f K ks cs
 |[],_,K,i=>by simp[addKV]
 |_::_,[],K,i=>by cases i<;>simp[addKV]
 |k::ks,c::cs,K,0=>by simpa[addKV]using addKV_prefix hf (k::ks) (c::cs) K
 |k::ks,c::cs,K,i+1=>by
  simp only[List.take_succ_cons,addKV];exact addKV_take_prefix hf ks cs _ i
theorem foldl_take_prefix {α:Type} {f:List ByteArray->α->List ByteArray} (hf:∀K x,K<+:f K x) (cs:List α) (K:List ByteArray) (i:Nat):(cs.take i).foldl f K<+:cs.foldl f K:=by
 have e:cs.foldl f K=(cs.drop i).foldl f ((cs.take i).foldl f K):=by rw[<-List.foldl_append,List.take_append_drop]
 rw[e];exact foldl_prefix hf _ _
theorem foldl_take_succ {α:Type} {f:List ByteArray->α->List ByteArray} {cs:List α} (K:List ByteArray) {i:Nat} {c:α} (h:cs[i]?=some c):(cs.take (i+1)).foldl f K=f ((cs.take i).foldl f K) c:=by
 rw[take_snoc h,List.foldl_append];rfl

def wtN {α:Type} (f:α->Nat) (x:Node α):Nat:=1+x.text.size / 16+(x.keys.map fun k=>1+k.size / 16).sum+(x.kids.map f).sum
def wtV:(d:Nat)->Vt d->Nat
 |0,_=>0
 |d+1,x=>wtN (wtV d) x

def Narrow (n b:Nat):Prop:=-(2^(b-1):Int)<=sgn n/\sgn n<2^(b-1)

structure FlatOk (kind scale:Int) (num:Nat) (text:ByteArray):Prop where
 text0:kind≠8->kind≠17->kind≠12->kind≠21->text.size=0
 scale0:kind≠10->kind≠11->kind≠12->scale=0
 scale1:0<=scale/\scale<=38
 num0:kind=0\/kind=1\/kind=2\/kind=17\/kind=8\/kind=12\/kind=21->num=0
 text16:kind=12\/kind=21->text.size=16
 bool1:kind=3->num<=1
 int1:4<=kind->kind<=7->Narrow num (2^(kind-1).toNat)
 date1:kind=13\/kind=10->Narrow num 32
 dec4:kind=10->scale<=9
 dec8:kind=11->scale<=18
 f32:kind=16->num<4294967296
structure OkN {α:Type} (P:α->Prop) (x:Node α):Prop where
 kind0:0<=x.kind/\x.kind<=21
 num:x.num<18446744073709551616
 kidsLe:x.kids.length<=500
 textLe:x.text.size<=4096
 keys0:x.keys≠[]->x.kind=0
 kids0:x.kids≠[]->x.kind<=1
 keysKids:x.kind=0->x.keys.length=x.kids.length
 keyLe:∀k ∈ x.keys,k.size<=200
 sorted:x.keys.Pairwise (fun a b=>ltK a b=true)
 flat:FlatOk x.kind x.scale x.num x.text
 kids:∀y ∈ x.kids,P y
def OkV:(d:Nat)->Vt d->Prop
 |0,_=>False
 |d+1,x=>OkN (OkV d) x
theorem length_encI (n:Nat):(encI n).length<=9:=by
 unfold encI;split
 ·simp
 ·split
  ·simp
  ·split<;>simp
theorem length_encStr (s:ByteArray):(encStr s).length<=5+s.size:=by
 unfold encStr;split<;>simp<;>omega
theorem length_encBin (l:List Nat):(encBin l).length=5+l.length:=by
 unfold encBin;simp;omega
theorem len_ite {c:Prop} [Decidable c] {a b:List Nat} {n:Nat} (ha:a.length<=n) (hb:b.length<=n):(if c then a else b).length<=n:=by split<;>assumption
theorem length_primB (kind scale:Int) (num:Nat) (text:ByteArray):(primB kind scale num text).length<=10+text.size:=by
 have h1:=length_encI num;have h2:=length_encStr text;have h3:=length_encBin (bytesN text);rw[length_bytesN]at h3;unfold primB
 repeat' refine len_ite ?_ ?_
 all_goals first|omega|(simp;omega)|simp
theorem sum_map_le {α:Type} (f g:α->Nat):∀l:List α,(∀x ∈ l,f x<=g x)->(l.map f).sum<=(l.map g).sum
 |[],_=>by simp
 |x::l,h=>by
  have h1:=h x (by simp);have h2:=sum_map_le f g l (fun y hy=>h y (by simp[hy]));simp;omega
theorem length_encN {α:Type} (F:List ByteArray) (f:α->List Nat) (wt:α->Nat) (x:Node α) (hk:x.kind=0->x.keys.length=x.kids.length) (hf:∀y ∈ x.kids,(f y).length+4<=64*wt y):(encN F f x).length+4<=64*wtN wt x:=by
 have hs:(x.kids.map f).flatten.length+4*x.kids.length<=64*(x.kids.map wt).sum:=by
  have:=sum_map_le (fun y=>(f y).length+4) (fun y=>64*wt y) x.kids hf;have e1:(x.kids.map fun y=>(f y).length+4).sum=(x.kids.map f).flatten.length+4*x.kids.length:=by
   clear hf hk this
   induction x.kids with
   |nil=>simp
   |cons y l ih=>simp at ih ⊢;omega
  have e2:(x.kids.map fun y=>64*wt y).sum=64*(x.kids.map wt).sum:=by
   clear hf hk this e1
   induction x.kids with
   |nil=>simp
   |cons y l ih=>simp at ih ⊢;omega
  omega
 have hK:x.keys.length<=(x.keys.map fun k=>1+k.size / 16).sum:=by
  clear hf hk hs
  induction x.keys with
  |nil=>simp
  |cons y l ih=>simp;omega
 unfold encN wtN;split
 ·rename_i h0;have:=sizeW_le (x.kids.map f).flatten.length;have hm:(x.kids.length+1)*sizeW (x.kids.map f).flatten.length<=(x.kids.length+1)*4:=Nat.mul_le_mul_left _ this;have:=hk h0;rw[List.length_append,length_objHdr,length_offsL];simp only[List.length_map]at*;omega
 ·split
  ·have:=sizeW_le (x.kids.map f).flatten.length;have hm:(x.kids.length+1)*sizeW (x.kids.map f).flatten.length<=(x.kids.length+1)*4:=Nat.mul_le_mul_left _ this;rw[List.length_append,length_arrHdr,length_offsL];simp only[List.length_map]at*;split<;>omega
  ·have:=length_primB x.kind x.scale x.num x.text;omega
theorem length_encV:∀(d:Nat) (F:List ByteArray) (x:Vt d),OkV d x->(encV d F x).length+4<=64*wtV d x
 |0,_,_,h=>h.elim
 |d+1,F,x,h=>length_encN F (encV d F) (wtV d) x h.keysKids (fun y hy=>length_encV d F y (h.kids y hy))
end Go.Proofs.YtocgdgmfnockiaaGreatDoor
