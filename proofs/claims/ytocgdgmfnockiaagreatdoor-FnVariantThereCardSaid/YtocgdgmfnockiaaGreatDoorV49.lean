/- Variants, the law's side: SameVariant, zzFits9. Variants read: NewMetadata, New. Variants back: impl.VariantRead. laws.FnVariantThere walked: it returns true. -/
import Derived.Test.YtocgdgmfnockiaaGreatDoorV23
import Derived.Test.YtocgdgmfnockiaaGreatDoorV37
import Derived.Test.YtocgdgmfnockiaaGreatDoorV36
import Derived.Test.YtocgdgmfnockiaaGreatDoorV48
import Derived.Test.YtocgdgmfnockiaaGreatDoorV20
import Derived.Test.YtocgdgmfnockiaaGreatDoorV15
import Derived.Test.YtocgdgmfnockiaaGreatDoorV35
set_option linter.unusedVariables false
set_option linter.unusedSimpArgs false
set_option maxRecDepth 100000
set_option maxHeartbeats 8000000
namespace Go.Proofs.YtocgdgmfnockiaaGreatDoor
open Go.RowKit

structure CntN {α:Type} (P:α->Prop) (x:Node α):Prop where
 keys:x.keys.length<=500
 kids:x.kids.length<=500
 all:∀y ∈ x.kids,P y
def CntV:(d:Nat)->Vt d->Prop
 |0,_=>True
 |d+1,x=>CntN (CntV d) x
theorem OkV.cntLw:∀(d:Nat) (x:Vt d),OkV d x->CntV d (lwV d x)
 |0,_,_=>trivial
 |d+1,x,h=>by
  have hx:OkN (OkV d) x:=h;refine(⟨(OkV.sm (d+1) x h:SmN (SmV d) x).keysLen,?_,fun y hy=>?_⟩:CntN (CntV d) (lwN (lwV d) x))
  ·show((Node.kids x).map (lwV d)).length<=500
   rw[List.length_map];exact hx.kidsLe
  ·obtain⟨z,hz,rfl⟩:=List.mem_map.1 hy;exact OkV.cntLw d z (hx.kids z hz)
def SameOk (d:Nat):Prop:=∀(x:Vt d) (v1 v2:Value) (w:World),VtAt d w v1 x->VtAt d w v2 x->CntV d x->Calls Tryz.prog 9 #[v1,v2] w fun e w'=>e=.returned (.bool true)/\Keep [] w w'
theorem sameN (d:Nat) (IH:SameOk d) (x:Vt (d+1)) (v1 v2:Value) (w:World) (hv1:VtAt (d+1) w v1 x) (hv2:VtAt (d+1) w v2 x) (hc:CntV (d+1) x):
  Calls Tryz.prog 9 #[v1,v2] w fun e w'=>e=.returned (.bool true)/\Keep [] w w':=by
 have hc2:CntN (CntV d) x:=hc;obtain⟨kind,num,scale,text,ks,c⟩:=x;obtain⟨kv1,cv1,rfl,hT1,hC1⟩:=hv1;obtain⟨kv2,cv2,rfl,hT2,hC2⟩:=hv2;have hC1':KidsAt (VtAt d w) w cv1 c:=hC1;have hC2':KidsAt (VtAt d w) w cv2 c:=hC2;obtain⟨ta,tcap,hte,htc,htell⟩:=(show TextsAt w kv1 ks from hT1);subst hte;obtain⟨sa,scap,hse,hsc,hsell⟩:=(show TextsAt w kv2 ks from hT2);subst hse;obtain⟨ka,kcap,rfl,hkc,-⟩:=hC1;obtain⟨la,lcap,rfl,hlc,-⟩:=hC2;simp only at hkc hlc ⊢;obtain⟨n,hn⟩:∃n,n=ks.length:=⟨_,rfl⟩;obtain⟨m,hm⟩:∃m,m=c.length:=⟨_,rfl⟩;have hK1:KidsAt (VtAt d w) w (.slice ka m kcap) c:=by rw[hm];exact hC1'
 have hK2:KidsAt (VtAt d w) w (.slice la m lcap) c:=by rw[hm];exact hC2'
 have hn5:n<=500:=by rw[hn];exact hc2.keys
 have hm5:m<=500:=by rw[hm];exact hc2.kids
 rw[<-hn]at htc hsc ⊢;rw[<-hm]at hkc hlc ⊢;have hall:∀y ∈ c,CntV d y:=hc2.all;obtain⟨w2,hw2⟩:∃w2,w2=(w.alloc (.cells #[.int .i64 kind,.int .u64 (num:Int),.int .i64 scale,.string text,.slice ta n tcap,.slice ka m kcap] 26)).alloc (.cells #[.int .i64 kind,.int .u64 (num:Int),.int .i64 scale,.string text,.slice sa n scap,.slice la m lcap] 26):=⟨_,rfl⟩;have k2:Keep [] w w2:=by rw[hw2];exact((Keep.refl [] w).alloc _).alloc _
 have hb1:Blk w2 w.heap.size [.int .i64 kind,.int .u64 (num:Int),.int .i64 scale,.string text,.slice ta n tcap,.slice ka m kcap]:=by rw[hw2];exact(Blk.new w _ _).alloc _
 have hb2:Blk w2 (w.heap.size+1) [.int .i64 kind,.int .u64 (num:Int),.int .i64 scale,.string text,.slice sa n scap,.slice la m lcap]:=by rw[hw2];exact Blk.of_new (cs:=[.int .i64 kind,.int .u64 (num:Int),.int .i64 scale,.string text,.slice sa n scap,.slice la m lcap]) (by simp)
 have H:=qq7 htell hsell hK1 hK2 hall hn hm;have H2:=qq3 k2 hb1 hb2;have Hw2:=qq hw2;clear hT1 hT2 htell hsell hC1' hC2' hK1 hK2 hc hc2 hall hn hm k2 hb1 hb2 hw2
 go_enter Tryz.func9,Tryz.ntmps9
 go_wp2_with fail
 rw[<-Hw2.out]
 go_loopw [54] (fun i wr=>∃j:Nat,j<=n/\i=.int .i64 (j:Int)/\Keep [] w2 wr) (fun i _=>n-(intOf i).toNat)
 case atStart=>exact⟨0,Nat.zero_le _,rfl,Keep.refl _ _⟩
 case round=>
  obtain⟨j,hj,rfl,kr⟩:=hrel;have hb1:=H2.out.2.1.keep kr (by simp);have hb2:=H2.out.2.2.keep kr (by simp);by_cases hj2:j<n
  ·have hlti:(j:Int)<(n:Int):=by omega
   obtain⟨k,hk⟩:∃k,ks[j]?=some k:=⟨_,List.getElem?_eq_getElem (by rw[<-H.out.2.2.2.2.2.1];exact hj2)⟩;obtain⟨a,rfl,hck⟩:=H.out.1 j k hk;obtain⟨b,rfl,hdk⟩:=H.out.2.1 j k hk;have e1:=(H2.out.1.trans kr (by simp)).cell_some hck (by simp);have e2:=(H2.out.1.trans kr (by simp)).cell_some hdk (by simp);have b1:=hb1.cell (i:=4) rfl;have b2:=hb2.cell (i:=4) rfl;have Hkr:=qq kr;clear hk hck hdk hb1 hb2 kr;go_wp2_with fail
   go_region
   all_goals
    go_wp2;go_roundw
    case rel=>exact⟨j+1,hj2,by go_num,Hkr.out.drew⟩
    case measure=>simp[intOf];omega
  ·have hjn:j=n:=by omega
   subst hjn;have hnlt:¬(j:Int)<(j:Int):=by omega
   have b1:=hb1.cell (i:=5) rfl;have Hkr:=qq kr;clear hb1 hb2 kr;go_wp2_with fail
   go_loopw [72] (fun i wx=>∃l:Nat,l<=m/\i=.int .i64 (l:Int)/\Keep [] w2 wx) (fun i _=>m-(intOf i).toNat)
   case atStart=>exact⟨0,Nat.zero_le _,rfl,Hkr.out⟩
   case round=>
    obtain⟨l,hl,rfl,kr⟩:=hrel;clear b1;by_cases hl2:l<m
    ·have hlti:(l:Int)<(m:Int):=by omega
     obtain⟨y,hy⟩:∃y,c[l]?=some y:=⟨_,List.getElem?_eq_getElem (by rw[<-H.out.2.2.2.2.2.2];exact hl2)⟩;have K2:Keep [] w wr:=H2.out.1.trans kr (by simp);obtain⟨a,cap2,yk,ys,yn,yt,ya1,ya2,yl1,yc1,yl2,yc2,he,hcap2,hP,d0,d1,d2,d3,d4,d5⟩:=H.out.2.2.1.kid hy (fun u hu=>hu.sixAt);injection he with e1 e2 e3
     subst e1;clear e2 e3 hcap2;obtain⟨b,cap3,zk,zs,zn,zt,za1,za2,zl1,zc1,zl2,zc2,he,hcap3,hQ,f0,f1,f2,f3,f4,f5⟩:=H.out.2.2.2.1.kid hy (fun u hu=>hu.sixAt);injection he with e1 e2 e3
     subst e1;clear e2 e3 hcap3;have e0:=K2.cell_some d0 (by simp);have e1:=K2.cell_some d1 (by simp);have e2:=K2.cell_some d2 (by simp);have e3:=K2.cell_some d3 (by simp);have e4:=K2.cell_some d4 (by simp);have e5:=K2.cell_some d5 (by simp);have g0:=K2.cell_some f0 (by simp);have g1:=K2.cell_some f1 (by simp);have g2:=K2.cell_some f2 (by simp);have g3:=K2.cell_some f3 (by simp);have g4:=K2.cell_some f4 (by simp);have g5:=K2.cell_some f5 (by simp);have b1:=(H2.out.2.1.keep kr (by simp)).cell (i:=5) rfl;have b2:=(H2.out.2.2.keep kr (by simp)).cell (i:=5) rfl;have HI:=qq2 (IH y _ _ wr.drew (hP.keep d K2.drew) (hQ.keep d K2.drew) (H.out.2.2.2.2.1 y (List.mem_of_getElem? hy))) kr;clear d0 d1 d2 d3 d4 d5 f0 f1 f2 f3 f4 f5 hP hQ hy K2 kr;go_wp2_with fail
     go_region_with (go_at_call 9;refine HI.out.1.mono ?_;rintro e w5 ⟨rfl,k5⟩;have H5:=qq k5;clear k5)
     all_goals
      go_wp2;go_roundw
      case rel=>exact⟨l+1,hl2,by go_num,HI.out.2.drew.trans H5.out (by simp)⟩
      case measure=>simp[intOf];omega
    ·have hlm:l=m:=by omega
     subst hlm;have hnl2:¬(l:Int)<(l:Int):=by omega
     have Hkr:=qq kr;clear kr;go_wp2;go_ret;exact⟨rfl,H2.out.1.trans Hkr.out (by simp)⟩
theorem sameV:∀d,SameOk d
 |0=>fun x v1 v2 w h _ _=>h.elim
 |d+1=>fun x v1 v2 w h1 h2 h3=>sameN d (sameV d) x v1 v2 w h1 h2 h3
theorem zz4C (v:Value) (l:List ByteArray) (w:World) (h:TextsAt w v l):Calls Tryz.prog 11 #[v] w fun e w'=>(∃z,e=.returned (.bool z))/\w=w':=by
 obtain⟨ao,cap,rfl,hc,hcell⟩:=h;obtain⟨n,hn⟩:∃n,n=l.length:=⟨_,rfl⟩;rw[<-hn]at hc ⊢;have H:=qq2 hcell hn;clear hcell hn;by_cases hbig:(2147483647:Int)<(n:Int)
 ·go_enter Tryz.func11,Tryz.ntmps11
  go_wp2;go_ret;exact⟨⟨_,rfl⟩,rfl⟩
 ·go_enter Tryz.func11,Tryz.ntmps11
  go_wp2_with fail
  go_loopw [10] (fun i wr=>∃j:Nat,j<=n/\i=.int .i64 (j:Int)/\w=wr) (fun i _=>n-(intOf i).toNat)
  case atStart=>exact⟨0,Nat.zero_le _,rfl,rfl⟩
  case round=>
   obtain⟨j,hj,rfl,rfl⟩:=hrel;by_cases hj2:j<n
   ·have hlti:(j:Int)<(n:Int):=by omega
    obtain⟨k,hk⟩:∃k,l[j]?=some k:=⟨_,List.getElem?_eq_getElem (by rw[<-H.out.2];exact hj2)⟩;obtain⟨a,rfl,hck⟩:=H.out.1 j k hk;clear hk;by_cases h2:(2147483647:Int)<(k.size:Int)
    ·go_wp2;go_ret;exact⟨⟨_,rfl⟩,rfl⟩
    ·go_wp2;go_roundw
     case rel=>exact⟨j+1,hj2,by go_num,trivial⟩
     case measure=>simp[intOf];omega
   ·have hjn:j=n:=by omega
    subst hjn;have hnlt:¬(j:Int)<(j:Int):=by omega
    go_wp2;go_ret;exact⟨.inr rfl,rfl⟩
theorem zz9C (d:Nat) (x:Vt d) (v:Value) (w:World) (hv:VtAt d w v x):Calls Tryz.prog 4 #[v] w fun e w'=>(∃z,e=.returned (.bool z))/\Keep [] w w':=by
 cases d with
 |zero=>exact hv.elim
 |succ d=>
  obtain⟨kind,num,scale,text,ks,c⟩:=x;obtain⟨kv1,cv1,rfl,hT1,hC1⟩:=hv;have hT:TextsAt w kv1 ks:=hT1;have hTa:=hT;obtain⟨ta,tcap,hte,htc,-⟩:=hTa;subst hte;obtain⟨ka,kcap,rfl,hkc,-⟩:=hC1;simp only at hkc ⊢;obtain⟨n,hn⟩:∃n,n=ks.length:=⟨_,rfl⟩;obtain⟨m,hm⟩:∃m,m=c.length:=⟨_,rfl⟩;have hb:Blk (w.alloc (.cells #[.int .i64 kind,.int .u64 (num:Int),.int .i64 scale,.string text,.slice ta n tcap,.slice ka m kcap] 26)) w.heap.size [.int .i64 kind,.int .u64 (num:Int),.int .i64 scale,.string text,.slice ta n tcap,.slice ka m kcap]:=Blk.new w _ _;have hk:Keep [] w (w.alloc (.cells #[.int .i64 kind,.int .u64 (num:Int),.int .i64 scale,.string text,.slice ta n tcap,.slice ka m kcap] 26)):=(Keep.refl [] w).alloc _;have hZ:=zz4C _ ks _ (hT.keep hk);rw[<-hn]at hT hZ htc ⊢;rw[<-hm]at hkc ⊢;have H:=qq3 hZ hb hk;clear hT1 hT hZ hb hk hn hm;by_cases h1:(2147483647:Int)<(text.size:Int)
  ·go_enter Tryz.func4,Tryz.ntmps4
   go_wp2;go_ret;exact⟨⟨_,rfl⟩,H.out.2.2⟩
  ·go_enter Tryz.func4,Tryz.ntmps4
   go_wp2_with fail
   refine H.out.1.mono ?_;rintro e w2 ⟨⟨z,rfl⟩,rfl⟩;cases z with
   |false=>
    go_wp2;go_ret;exact⟨⟨_,rfl⟩,H.out.2.2⟩
   |true=>
    by_cases h2:(2147483647:Int)<(m:Int)
    ·go_wp2;go_ret;exact⟨⟨_,rfl⟩,H.out.2.2⟩
    ·go_wp2;go_ret;exact⟨⟨_,rfl⟩,H.out.2.2⟩

def KeysFrom (lo g:Nat) (w:World) (v:Value) (F:List ByteArray):Prop:=∃ao cap,v=.slice ao F.length cap/\F.length<=cap/\∀(i:Nat) (k:ByteArray),F[i]?=some k->∃a u,ao=some a/\lo<=a.block/\w.cell? (a.add i)=some u/\KeyG w g u k
theorem KeysFrom.keep {S:List Nat} {lo g:Nat} {w w':World} {v:Value} {F:List ByteArray} (h:KeysFrom lo g w v F) (k:Keep S w w') (hS:∀x ∈ S,x<lo) (hg:g ∉ S):KeysFrom lo g w' v F:=by
 obtain⟨ao,cap,h1,h2,h3⟩:=h;refine⟨ao,cap,h1,h2,fun i q hq=>?_⟩;obtain⟨a,u,e1,e2,e3,o,c,e4,e5,e6⟩:=h3 i q hq;exact⟨a,u,e1,e2,k.cell_some e3 (by rw[add_block];exact fun hm=>by have:=hS _ hm;omega),o,c,e4,e5,e6.keep k hg⟩
theorem KeysFrom.keys {lo g:Nat} {w:World} {v:Value} {F:List ByteArray} (h:KeysFrom lo g w v F):KeysAt w v F:=by
 obtain⟨ao,cap,h1,h2,h3⟩:=h;refine⟨ao,cap,h1,h2,fun i q hq=>?_⟩;obtain⟨a,u,e1,e2,e3,o,c,e4,e5,e6⟩:=h3 i q hq;exact⟨a,u,e1,e3,g,o,c,e4,e5,e6⟩

theorem loadC (so:Bool) (K:List ByteArray) (tot mp g nn c sz:Nat) (w:World) (hsz:sz=metaSz K tot) (hn49:K.length<=49) (hmp:Blk w mp [.slice (some ⟨g,0,none⟩) nn c,.slice none 0 0]) (hg:g≠mp) (hB:Byt w g 0 (metaB so K tot)) (hnn:nn=(metaB so K tot).length) (hnc:nn<=c) (hn9:nn<=10000000) (ht:szK K<=tot):
  Calls Tryz.prog 109 #[.pointer (some ⟨mp,0,none⟩),.int .u8 (sz:Int)] w fun e w'=>e=.returned .nilIface/\Keep [mp] w w'/\∃ko kn kc,Blk w' mp [.slice (some ⟨g,0,none⟩) nn c,.slice ko kn kc]/\KeysFrom w.heap.size g w' (.slice ko kn kc) K:=by
 rcases Nat.eq_zero_or_pos K.length with h0|h0
 ·have hK:K=[]:=List.eq_nil_of_length_eq_zero h0;subst hK;refine(loadNoneC so tot mp g nn c sz w hsz hmp hg hB hnn hnc hn9 ht).mono ?_;rintro e w' ⟨rfl,k,kv,h1,ao,cap,rfl,h3,h4⟩;exact⟨rfl,k,ao,_,cap,h1,ao,cap,rfl,h3,fun i k hk=>by simp at hk⟩
 ·refine(loadDictC so K tot mp g nn c sz K.length w hsz rfl h0 hn49 hmp hg hB hnn hnc hn9 ht).mono ?_;rintro e w' ⟨rfl,k,kb,cs,h1,h2,h3,h4⟩;refine⟨rfl,k,some ⟨kb,0,none⟩,K.length,K.length,h1,some ⟨kb,0,none⟩,K.length,rfl,Nat.le_refl _,fun i q hq=>?_⟩;obtain⟨u,hu,o,cap,rfl,hc,hb⟩:=h4 i q (List.getElem?_eq_some_iff.1 hq).1 hq;exact⟨_,_,rfl,h3,by rw[add_at,Nat.zero_add];exact h2.cell hu,o,cap,rfl,hc,hb.keep k (by simpa using hg)⟩
theorem newMetaC (so:Bool) (K:List ByteArray) (tot g nn c:Nat) (w:World) (hn49:K.length<=49) (hg:g<w.heap.size) (hB:Byt w g 0 (metaB so K tot)) (hnn:nn=(metaB so K tot).length) (hnc:nn<=c) (hn9:nn<=10000000) (ht:szK K<=tot):
  Calls Tryz.prog 60 #[.slice (some ⟨g,0,none⟩) nn c] w fun e w'=>∃ko kn kc,e=.returned (.tuple #[.agg #[.slice (some ⟨g,0,none⟩) nn c,.slice ko kn kc],.nilIface])/\Keep [] w w'/\∃lo,w.heap.size<=lo/\KeysFrom lo g w' (.slice ko kn kc) K:=by
 have h3:=metaB_bounds so K tot;obtain⟨h,hh⟩:∃h,h=1+(if so then 16 else 0)+64*(metaSz K tot-1):=⟨_,rfl⟩;obtain⟨hm1,hm2,hm3,hm4⟩:=metaHdr_cases hh;obtain⟨sz,hsz⟩:∃sz,sz=metaSz K tot:=⟨_,rfl⟩;have hz4:sz<=4:=by rw[hsz];exact sizeW_le _
 rw[<-hsz]at hm2;obtain⟨w2,hw2⟩:∃w2,w2=(w.alloc (.cells #[.slice none 0 0,.slice none 0 0] 55)).alloc (.cells #[.slice (some ⟨g,0,none⟩) nn c,.slice none 0 0] 55):=⟨_,rfl⟩;have k2:Keep [] w w2:=by rw[hw2];exact((Keep.refl [] w).alloc _).alloc _
 have hr:Blk w2 w.heap.size [.slice none 0 0,.slice none 0 0]:=by rw[hw2];exact(Blk.new w _ _).alloc _
 have hmp:Blk w2 (w.heap.size+1) [.slice (some ⟨g,0,none⟩) nn c,.slice none 0 0]:=by rw[hw2];exact Blk.of_new (cs:=[.slice (some ⟨g,0,none⟩) nn c,.slice none 0 0]) (by simp)
 have hs2:w2.heap.size=w.heap.size+2:=by rw[hw2];simp
 have hB2:=hB.keep k2 (by simp);have hc0:=(metaB_parts hB2).1;rw[<-hh]at hc0;have hnni:¬(nn:Int)<3:=by omega
 have HL:=qq5 hm1 hm2 hm3 hm4 hsz;have H2:=qq6 k2 hr hmp hB2 hc0 hs2;have Hw2:=qq hw2;have Hnn:=qq2 hnn h3;clear hm1 hm2 hm3 hm4 hsz k2 hr hmp hB2 hc0 hs2 hw2 hh hB hnn h3
 go_enter Tryz.func60,Tryz.ntmps60
 go_wp2_with fail
 rw[<-Hw2.out];refine(versionC g nn c h (.slice none 0 0) _ ⟨_,_,_,rfl⟩ H2.out.2.2.2.2.1 (by omega) HL.out.2.2.2.1 HL.out.1).mono ?_;rintro e w3 ⟨rfl,k3⟩;have hmp3:=H2.out.2.2.1.keep k3 (by simp);obtain⟨a0,a1⟩:=hmp3.c2 0 1 rfl rfl;have K3:Keep [] w w3:=H2.out.1.trans k3 (by simp);have H3:=qq3 hmp3 K3 k3;clear hmp3 K3 k3;go_wp2_with fail
 refine(offSizeC g nn c h sz (.slice none 0 0) _ ⟨_,_,_,rfl⟩ (H3.out.2.2.cell_some H2.out.2.2.2.2.1 (by simp)) (by omega) HL.out.2.1 hz4 HL.out.2.2.1).mono ?_;rintro e w4 ⟨rfl,k4⟩;have hmp4:=H3.out.1.keep k4 (by simp);have k24:Keep [] w2 w4:=H3.out.2.2.trans k4 (by simp);have K4:Keep [] w w4:=H3.out.2.1.trans k4 (by simp);have H4:=qq3 hmp4 K4 k24;clear hmp4 K4 k24 k4 a0 a1;go_wp2_with fail
 refine(loadC so K tot (w.heap.size+1) g nn c sz _ HL.out.2.2.2.2 hn49 H4.out.1 (by omega) (H2.out.2.2.2.1.keep H4.out.2.2 (by simp)) Hnn.out.1 hnc hn9 ht).mono ?_;rintro e w5 ⟨rfl,k5,ko,kn,kc,hmp5,hK5⟩;have hr5:=(H2.out.2.1.keep H4.out.2.2 (by simp)).keep k5 (by simp);have K5:Keep [w.heap.size+1] w w5:=H4.out.2.1.nil.trans k5 (fun x hx=>.inl hx);obtain⟨a0,a1⟩:=hmp5.c2 0 1 rfl rfl;obtain⟨r0,r1⟩:=hr5.c2 0 1 rfl rfl;have fr:=hr5.frozen;have H5:=qq3 hr5 K5 hK5;clear hr5 K5 hK5 k5 hmp5;go_wp2;have hz:=(H5.out.1.set 0 (.slice (some ⟨g,0,none⟩) nn c)).set 1 (.slice ko kn kc);obtain⟨z0,z1⟩:=hz.c2 0 1 rfl rfl;have kz:Keep [w.heap.size] w5 ((w5.setCell ⟨w.heap.size,0,none⟩ (.slice (some ⟨g,0,none⟩) nn c)).setCell ⟨w.heap.size,1,none⟩ (.slice ko kn kc)):=((Keep.refl _ w5).set (.inl (by simp)) _ _ _).set (.inl (by simp)) _ _ _;refine bodyPost_ret (v:=.tuple #[.agg #[.slice (some ⟨g,0,none⟩) nn c,.slice ko kn kc],.nilIface]) ?_ rfl ⟨ko,kn,kc,rfl,H5.out.2.1.cat kz (by simp) (by simp),?_⟩
 ·rw[results_cell_tmp rfl];go_simp
 ·have hs4:=H4.out.2.1.size;have hs5:=H4.out.2.2.size;have:=H2.out.2.2.2.2.2;exact⟨_,(by omega),H5.out.2.2.keep kz (by simp;omega) (by simp;omega)⟩
theorem newC (so:Bool) (tot l d:Nat) (x:Vt d) (F:List ByteArray) (g nn mc b n c:Nat) (w:World) (hl:l<=30) (hdep:DepV l d x) (hok:OkV d x) (hFx:∀q ∈ keysV d x,q ∈ F) (hn49:F.length<=49) (hwt:wtV d x<=20000) (hg:g<w.heap.size) (hM:Byt w g 0 (metaB so F tot)) (hnn:nn=(metaB so F tot).length) (hnc:nn<=mc) (hn9:nn<=10000000) (ht:szK F<=tot)
  (hb0:b<w.heap.size) (hB:Byt w b 0 (encV d F x)) (hEn:(encV d F x).length=n) (hn0:0<n) (hbc:n<=c) (hb9:n<=1000000000):
  Calls Tryz.prog 25 #[.slice (some ⟨g,0,none⟩) nn mc,.slice (some ⟨b,0,none⟩) n c] w fun e w'=>∃ko kn kc,e=.returned (.tuple #[.agg #[.slice (some ⟨b,0,none⟩) n c,.slice (some ⟨g,0,none⟩) nn mc,.slice ko kn kc],.nilIface])/\Keep [] w w'/\KeysAt w' (.slice ko kn kc) F:=by
 obtain⟨w1,hw1⟩:∃w1,w1=w.alloc (.cells #[.slice none 0 0,.slice none 0 0,.slice none 0 0] 57):=⟨_,rfl⟩;have k1:Keep [] w w1:=by rw[hw1];exact(Keep.refl [] w).alloc _
 have hr:Blk w1 w.heap.size [.slice none 0 0,.slice none 0 0,.slice none 0 0]:=by rw[hw1];exact Blk.new w _ _
 have hN:=newMetaC so F tot g nn mc w1 hn49 (by have:=k1.size;omega) (hM.keep k1 (by simp)) hnn hnc hn9 ht;have Hw1:=qq hw1;have H:=qq3 hN k1 hr;have HX:=qq5 hdep hok hFx hB hEn;clear hN k1 hr hw1 hdep hok hFx hB hEn hM hnn
 go_enter Tryz.func25,Tryz.ntmps25
 go_wp2_with fail
 rw[<-Hw1.out];refine H.out.1.mono ?_;rintro e w2 ⟨ko,kn,kc,rfl,k2,lo,hlo,hK2⟩;have hr2:=H.out.2.2.keep k2 (by simp);have K2:Keep [] w w2:=H.out.2.1.trans k2 (by simp);obtain⟨w3,hw3⟩:∃w3,w3=w2.alloc (.cells #[.slice (some ⟨g,0,none⟩) nn mc,.slice ko kn kc] 55):=⟨_,rfl⟩;have k3:Keep [] w2 w3:=by rw[hw3];exact(Keep.refl [] w2).alloc _
 have K3:Keep [] w w3:=K2.trans k3 (by simp);have hm3:Blk w3 w2.heap.size [.slice (some ⟨g,0,none⟩) nn mc,.slice ko kn kc]:=by rw[hw3];exact Blk.new w2 _ _
 have hN:=newWithC l d x F b 0 n c (some ⟨g,0,none⟩) ko nn mc kn kc w3 hl HX.out.1 HX.out.2.1 HX.out.2.2.1 (by omega) hwt (by have:=K3.size;omega) (HX.out.2.2.2.1.keep K3 (by simp)) HX.out.2.2.2.2 hbc hb9 hn0 (hK2.keep k3 (by simp) (by simp)).keys;have H3:=qq4 hN K3 (hr2.keep k3 (by simp)) (hK2.keep k3 (by simp) (by simp));have Hw3:=qq hw3;have hlo2:w.heap.size<lo:=by have:=H.out.2.2.lt;omega
 have hwr:w2.heap.size≠w.heap.size:=by have:=H.out.2.2.keep k2 (by simp);have:=this.lt;omega
 clear hN k3 K3 hm3 hw3 hr2 K2 hK2 k2;go_wp2_with fail
 rw[<-Hw3.out];refine H3.out.1.mono ?_;rintro e w4 ⟨rfl,k4⟩;have hr4:=H3.out.2.2.1.keep k4 (by simp);obtain⟨r0,r1,r2⟩:=hr4.c3 0 1 2 rfl rfl rfl;have fr:=hr4.frozen;have H4:=qq3 hr4 (H3.out.2.1.trans k4 (by simp)) (H3.out.2.2.2.keep k4 (by simp) (by simp));clear hr4 k4;go_wp2;have hz:=((H4.out.1.set 0 (.slice (some ⟨b,0,none⟩) n c)).set 1 (.slice (some ⟨g,0,none⟩) nn mc)).set 2 (.slice ko kn kc);obtain⟨z0,z1,z2⟩:=hz.c3 0 1 2 rfl rfl rfl;have kz:Keep [w.heap.size] w4 (((w4.setCell ⟨w.heap.size,0,none⟩ (.slice (some ⟨b,0,none⟩) n c)).setCell ⟨w.heap.size,1,none⟩ (.slice (some ⟨g,0,none⟩) nn mc)).setCell ⟨w.heap.size,2,none⟩ (.slice ko kn kc)):=(((Keep.refl _ w4).set (.inl (by simp)) _ _ _).set (.inl (by simp)) _ _ _).set (.inl (by simp)) _ _ _;refine bodyPost_ret (v:=.tuple #[.agg #[.slice (some ⟨b,0,none⟩) n c,.slice (some ⟨g,0,none⟩) nn mc,.slice ko kn kc],.nilIface]) ?_ rfl ⟨ko,kn,kc,rfl,H4.out.2.1.cat kz (by simp) (by simp),?_⟩
 ·rw[results_cell_tmp rfl];go_simp
 ·exact(H4.out.2.2.keep kz (by simp;omega) (by simp;omega)).keys
theorem sub_addKV {α:Type} {f:List ByteArray->α->List ByteArray} {g:α->List ByteArray} {x:ByteArray}:∀(ks:List ByteArray) (cs:List α) (K:List ByteArray),ks.length=cs.length->(∀c ∈ cs,∀K,x ∈ K\/x ∈ g c->x ∈ f K c)->x ∈ K\/x ∈ ks\/x ∈ cs.flatMap g->x ∈ addKV f K ks cs
 |[],[],K,_,_,h=>by simpa[addKV]using h
 |[],_::_,K,hl,_,_=>by simp at hl
 |_::_,[],K,hl,_,_=>by simp at hl
 |k::ks,c::cs,K,hl,hf,h=>by
  rw[addKV];refine sub_addKV ks cs _ (by simpa using hl) (fun c' hc=>hf c' (by simp[hc])) ?_;rw[List.mem_cons,List.flatMap_cons,List.mem_append]at h;rcases h with h|(h|h)|(h|h)
  ·exact .inl (hf c (by simp) _ (.inl (mem_addK_iff.2 (.inl h))))
  ·exact .inl (hf c (by simp) _ (.inl (mem_addK_iff.2 (.inr h))))
  ·exact .inr (.inl h)
  ·exact .inl (hf c (by simp) _ (.inr h))
  ·exact .inr (.inr h)
theorem sub_foldl {α:Type} {f:List ByteArray->α->List ByteArray} {g:α->List ByteArray} {x:ByteArray}:∀(cs:List α) (K:List ByteArray),(∀c ∈ cs,∀K,x ∈ K\/x ∈ g c->x ∈ f K c)->x ∈ K\/x ∈ cs.flatMap g->x ∈ cs.foldl f K
 |[],K,_,h=>by simpa using h
 |c::cs,K,hf,h=>by
  rw[List.foldl_cons];refine sub_foldl cs _ (fun c' hc=>hf c' (by simp[hc])) ?_;rw[List.flatMap_cons,List.mem_append]at h;rcases h with h|(h|h)
  ·exact .inl (hf c (by simp) _ (.inl h))
  ·exact .inl (hf c (by simp) _ (.inr h))
  ·exact .inr h

theorem sub_addV:∀(d:Nat) (x:Vt d),OkV d x->∀(K:List ByteArray) (q:ByteArray),q ∈ K\/q ∈ keysV d x->q ∈ addV d K x
 |0,_,h,_,_,_=>h.elim
 |d+1,x,hok,K,q,h=>by
  have hx:OkN (OkV d) x:=hok;have hf:∀c ∈ Node.kids x,∀K,q ∈ K\/q ∈ keysV d c->q ∈ addV d K c:=fun c hc K h=>sub_addV d c (hx.kids c hc) K q h;have h1:q ∈ K\/q ∈ Node.keys x\/q ∈ (Node.kids x).flatMap (keysV d):=h.imp id fun h=>by
   have h2:q ∈ keysN (keysV d) x:=h;unfold keysN at h2;exact List.mem_append.1 h2
  show q ∈ addN (addV d) K x
  unfold addN;by_cases h0:Node.kind x=0
  ·rw[if_pos h0];exact sub_addKV _ _ _ (hx.keysKids h0) hf h1
  ·have hnil:Node.keys x=[]:=by
    rcases hk:Node.keys x with _|⟨a,l⟩
    ·rfl
    ·exact absurd (hx.keys0 (by rw[hk];simp)) h0
   rw[hnil]at h1;have h2:q ∈ K\/q ∈ (Node.kids x).flatMap (keysV d):=by simpa using h1
   rw[if_neg h0];by_cases hk1:Node.kind x=1
   ·rw[if_pos hk1];exact sub_foldl _ _ hf h2
   ·have hnil2:Node.kids x=[]:=by
     rcases hk:Node.kids x with _|⟨a,l⟩
     ·rfl
     ·have:=hx.kids0 (by rw[hk];simp);have:=hx.kind0;omega
    rw[if_neg hk1];rw[hnil2]at h2;simpa using h2
theorem readIdle (a0 a1:Addr) (w:World):
  CallsD Tryz.prog 24 #[.pointer (some a0),.pointer (some a1)] .returning w fun e u' w'=>e=.returned (.tuple #[])/\u'=.returning/\w'=w:=by
 refine callsD_of_wpS Tryz.func24 rfl fun c₀ cs hu=>?_;apply wpS_seq;apply wpS_region;simp[wpOpsS,go_sem,recoverD,hu,Tryz.ntmps24,Exit.thenS];refine wpS_cond (t:=false) (by simp[Act.eval,Array.replicate]) ?_;simp only[Bool.false_eq_true,if_false];refine wpS_of_wp (wp_skip ?_);cases c₀
 simp_all [bodyPostS,results,Tryz.results24]
theorem variantReadC (so:Bool) (tot l d:Nat) (x:Vt d) (F:List ByteArray) (how:Int) (g1 n1 c1 g2 n2 c2:Nat) (w:World) (hl:l<=30) (hdep:DepV l d x) (hok:OkV d x) (hFx:∀q ∈ keysV d x,q ∈ F) (hn49:F.length<=49) (hwt:wtV d x<=20000) (ht:szK F<=tot)
  (hM:Byt w g1 0 (metaB so F tot)) (hn1:n1=(metaB so F tot).length) (hn9:n1<=10000000) (hE:Byt w g2 0 (encV d F x)) (hn2:n2=(encV d F x).length):
  Calls Tryz.prog 8 #[.slice (some ⟨g1,0,none⟩) n1 c1,.slice (some ⟨g2,0,none⟩) n2 c2,.int .i64 how] w fun e w'=>∃v',e=.returned (.tuple #[v',.bool true])/\Keep [] w w'/\VtIn (fun p=>w.heap.size<=p) d w' v' (lwV d x):=by
 have hle:=length_encV d F x hok;have hn2p:0<n2:=by rw[hn2];exact List.length_pos_iff.2 (encV_ne d F x hok)
 have hn1p:0<n1:=by have:=metaB_bounds so F tot;omega
 have hn29:n2<=100000000:=by omega
 obtain⟨a,ha⟩:∃a,a=w.heap.size:=⟨_,rfl⟩;obtain⟨w2,hw2⟩:∃w2,w2=(w.alloc (.cells #[.int .i64 0,.int .u64 0,.int .i64 0,.string ⟨#[]⟩,.slice none 0 0,.slice none 0 0] 26)).alloc (.cells #[.bool false] 4):=⟨_,rfl⟩;have K2:Keep [] w w2:=by rw[hw2];exact((Keep.refl [] w).alloc _).alloc _
 have hp2:Blk w2 a [.int .i64 0,.int .u64 0,.int .i64 0,.string ⟨#[]⟩,.slice none 0 0,.slice none 0 0]:=by rw[hw2];exact(Blk.of_new (cs:=[.int .i64 0,.int .u64 0,.int .i64 0,.string ⟨#[]⟩,.slice none 0 0,.slice none 0 0]) ha).alloc _
 have hq2:Blk w2 (a+1) [.bool false]:=by rw[hw2];exact Blk.of_new (cs:=[.bool false]) (by simp[ha])
 have hs2:w2.heap.size=a+2:=by rw[hw2,ha];simp
 have hc1:=copiedC ⟨g1,0,none⟩ n1 c1 (metaB so F tot) w2 hn1.symm hn1p (by omega) (fun j y hj=>by rw[add_at];exact hM.keep K2 (by simp) j y hj);have hc2:=fun(wx:World) (kx:Keep [] w2 wx)=>copiedC ⟨g2,0,none⟩ n2 c2 (encV d F x) wx hn2.symm hn2p hn29 (fun j y hj=>by rw[add_at];exact(hE.keep K2 (by simp)).keep kx (by simp) j y hj);have H2:=qq5 K2 hp2 hq2 hs2 ha;have HC:=qq2 hc1 hc2;have Hw2:=qq2 hw2 ha;have HN:=qq5 hn1 hn2 hok hFx hdep;clear K2 hp2 hq2 hs2 hc1 hc2 hw2 hM hE hn1 hn2 hle hok hFx hdep ha
 go_enter_defers Tryz.func8,Tryz.ntmps8
 go_wp2_with fail
 rw[<-Hw2.out.1,<-Hw2.out.2];refine HC.out.1.mono ?_;rintro e w3 ⟨g3,c3,cs3,rfl,k3,hg3,hb3,hl3,ht3,hn3⟩;have H3:=qq4 k3 (Byt.of_copied (w':=w3) (n:=n1) (c:=c3) hb3 ht3) hg3 hb3.lt;clear hb3 hl3 ht3 k3 hg3;go_wp2_with fail
 refine(HC.out.2 w3 H3.out.1).mono ?_;rintro e w4 ⟨g4,c4,cs4,rfl,k4,hg4,hb4,hl4,ht4,hn4⟩;have H4:=qq4 k4 (Byt.of_copied (w':=w4) (n:=n2) (c:=c4) hb4 ht4) hg4 hb4.lt;clear hb4 hl4 ht4 k4 hg4;go_wp2_with fail
 refine(newC so tot l d x F g3 n1 c3 g4 n2 c4 w4 hl HN.out.2.2.2.2 HN.out.2.2.1 HN.out.2.2.2.1 hn49 hwt (by have:=H4.out.1.size;have:=H3.out.2.2.2;omega) (H3.out.2.1.keep H4.out.1 (by simp)) HN.out.1 hn3 hn9 ht H4.out.2.2.2 H4.out.2.1 HN.out.2.1.symm hn2p hn4 (by omega)).mono ?_;rintro e w5 ⟨ko,kn,kc,rfl,k5,hK5⟩;obtain⟨w6,hw6⟩:∃w6,w6=w5.alloc (.cells #[.slice (some ⟨g4,0,none⟩) n2 c4,.slice (some ⟨g3,0,none⟩) n1 c3,.slice ko kn kc] 57):=⟨_,rfl⟩;have K6:Keep [] w5 w6:=by rw[hw6];exact(Keep.refl [] w5).alloc _
 have K26:Keep [] w2 w6:=((H3.out.1.trans H4.out.1 (by simp)).trans k5 (by simp)).trans K6 (by simp);have hB6:=(H4.out.2.1.keep k5 (by simp)).keep K6 (by simp);have H6:=qq3 K26 hB6 (hK5.keep K6);have Hw6:=qq hw6;clear K6 K26 hB6 hK5 hw6 k5;go_wp2_with fail
 rw[<-Hw6.out];refine(backV g4 how F (some ⟨g3,0,none⟩) ko n1 c3 kn kc (by omega) d x HN.out.2.2.1 HN.out.2.2.2.1 hwt w6 H6.out.2.2 0 n2 c4 w6 (Keep.refl _ _) H6.out.2.1 HN.out.2.1 hn4 (by omega)).mono ?_;rintro e w7 ⟨v',rfl,k7,hV⟩;obtain⟨zk,zs,zn,zt,za1,za2,zl1,zc1,zl2,zc2,rfl⟩:=hV.six;have K27:=H6.out.1.trans k7 (by simp);have hp7:=H2.out.2.1.keep K27 (by simp);have hq7:=H2.out.2.2.1.keep K27 (by simp);obtain⟨o0,o1,o2,o3,o4,o5⟩:=hp7.c6 0 1 2 3 4 5 rfl rfl rfl rfl rfl rfl;have fo:=hp7.frozen;have q0:=hq7.cell (i:=0) rfl;have fq:=hq7.frozen;have hne:¬a=a+1:=by omega
 have hne':¬a+1=a:=by omega
 have H7:=qq5 K27 hp7 hq7 hV k7.size;clear K27 hp7 hq7 hV k7;go_wp2;refine leaves_cons (f:=24) (args:=#[.pointer (some ⟨a,0,none⟩),.pointer (some ⟨a+1,0,none⟩)]) (by simp) (by simp[go_sem]) ?_;refine(readIdle ⟨a,0,none⟩ ⟨a+1,0,none⟩ _).mono ?_;rintro e u' w'' ⟨rfl,rfl,rfl⟩;obtain⟨K27,hp7,hq7,hV,s7⟩:=H7.out;obtain⟨K2,_,_,hs2,ha⟩:=H2.out;have s6:=H6.out.1.size;have hpz:=((((((hp7.set 0 (.int .i64 zk)).set 1 (.int .u64 (zn:Int))).set 2 (.int .i64 zs)).set 3 (.string zt)).set 4 (.slice za1 zl1 zc1)).set 5 (.slice za2 zl2 zc2)).set_other hne 0 none (.bool true);have hqz:=((((((hq7.set_other hne' 0 none (.int .i64 zk)).set_other hne' 1 none (.int .u64 (zn:Int))).set_other hne' 2 none (.int .i64 zs)).set_other hne' 3 none (.string zt)).set_other hne' 4 none (.slice za1 zl1 zc1)).set_other hne' 5 none (.slice za2 zl2 zc2)).set 0 (.bool true);have kz:Keep [a,a+1] w7 (((((((w7.setCell ⟨a,0,none⟩ (.int .i64 zk)).setCell ⟨a,1,none⟩ (.int .u64 (zn:Int))).setCell ⟨a,2,none⟩ (.int .i64 zs)).setCell ⟨a,3,none⟩ (.string zt)).setCell ⟨a,4,none⟩ (.slice za1 zl1 zc1)).setCell ⟨a,5,none⟩ (.slice za2 zl2 zc2)).setCell ⟨a+1,0,none⟩ (.bool true)):=((((((((Keep.refl [a,a+1] w7).set (.inl (by simp)) _ _ _).set (.inl (by simp)) _ _ _).set (.inl (by simp)) _ _ _).set (.inl (by simp)) _ _ _).set (.inl (by simp)) _ _ _).set (.inl (by simp)) _ _ _).set (.inl (by simp)) _ _ _);obtain⟨z0,z1,z2,z3,z4,z5⟩:=hpz.c6 0 1 2 3 4 5 rfl rfl rfl rfl rfl rfl;have zb:=hqz.cell (i:=0) rfl;refine⟨.tuple #[.agg #[.int .i64 zk,.int .u64 (zn:Int),.int .i64 zs,.string zt,.slice za1 zl1 zc1,.slice za2 zl2 zc2],.bool true],?_,_,rfl,(K2.trans K27 (by simp)).trans kz (fun b hb=>.inr (by simp at hb;omega)),hV.keep d kz (fun b hb hm=>by simp at hm;omega) (fun b hb _=>by omega)⟩;clear hpz hqz kz hp7 hq7 K27 hV;generalize((((((w7.setCell ⟨a,0,none⟩ (.int .i64 zk)).setCell ⟨a,1,none⟩ (.int .u64 (zn:Int))).setCell ⟨a,2,none⟩ (.int .i64 zs)).setCell ⟨a,3,none⟩ (.string zt)).setCell ⟨a,4,none⟩ (.slice za1 zl1 zc1)).setCell ⟨a,5,none⟩ (.slice za2 zl2 zc2)).setCell ⟨a+1,0,none⟩ (.bool true)=wz at z0 z1 z2 z3 z4 z5 zb ⊢;simp[results,Tryz.results8,go_sem,z0,z1,z2,z3,z4,z5,zb]
theorem variantThereC (d:Nat) (x:Vt d) (v:Value) (again:Bool) (how:Int) (w:World) (hv:VtAt d w v x) (ha:ArgV d x) (hT:Tabs w):
  Calls Tryz.prog 3 #[v,.bool again,.int .i64 how] w fun e w'=>e=.returned (.bool true)/\Keep [] w w':=by
 obtain⟨vk,vs,vn,vt,va1,va2,vl1,vc1,vl2,vc2,rfl⟩:=hv.sixAt;obtain⟨w1,hw1⟩:∃w1,w1=w.alloc (.cells #[.int .i64 vk,.int .u64 (vn:Int),.int .i64 vs,.string vt,.slice va1 vl1 vc1,.slice va2 vl2 vc2] 26):=⟨_,rfl⟩;obtain⟨V,hV⟩:∃V,V=Value.agg #[.int .i64 vk,.int .u64 (vn:Int),.int .i64 vs,.string vt,.slice va1 vl1 vc1,.slice va2 vl2 vc2]:=⟨_,rfl⟩;have k1:Keep [] w w1:=by rw[hw1];exact(Keep.refl [] w).alloc _
 have hb1:Blk w1 w.heap.size [.int .i64 vk,.int .u64 (vn:Int),.int .i64 vs,.string vt,.slice va1 vl1 vc1,.slice va2 vl2 vc2]:=by rw[hw1];exact Blk.new w _ _
 have H:=qq3 hv ha hT;have H1:=qq2 k1 hb1;have Hw1:=qq hw1;obtain⟨a0,a1,a2,a3,a4,a5⟩:=hb1.c6 0 1 2 3 4 5 rfl rfl rfl rfl rfl rfl;rw[hw1]at a0 a1 a2 a3 a4 a5;clear hv ha hT k1 hb1 hw1 hV
 go_enter Tryz.func3,Tryz.ntmps3
 go_wp2_with fail
 rw[<-Hw1.out];clear a0 a1 a2 a3 a4 a5;refine(zz9C d x _ w1 (H.out.1.keep d H1.out.1)).mono ?_;rintro e w2 ⟨⟨z,rfl⟩,k2⟩;have hb2:=H1.out.2.keep k2 (by simp);obtain⟨a0,a1,a2,a3,a4,a5⟩:=hb2.c6 0 1 2 3 4 5 rfl rfl rfl rfl rfl rfl;have K2:=H1.out.1.trans k2 (by simp);have H2:=qq2 K2 hb2;clear k2 hb2 K2;cases z with
 |false=>
  go_wp2_with fail
  go_ret;exact⟨rfl,H2.out.1⟩
 |true=>
  have hfit:=variantFitsC d x _ 12 w2 (H.out.1.keep d H2.out.1) H.out.2.1 (H.out.2.2.keep H2.out.1) (by omega);have HFit:=qq hfit;clear hfit;go_wp2_with fail
  refine HFit.out.mono ?_;rintro e w3 ⟨z,rfl,k3,hz⟩;have hb3:=H2.out.2.keep k3 (by simp);have K3:=H2.out.1.trans k3 (by simp);obtain⟨a0,a1,a2,a3,a4,a5⟩:=hb3.c6 0 1 2 3 4 5 rfl rfl rfl rfl rfl rfl;have H3:=qq2 K3 hb3;clear k3 hb3 K3 HFit;cases z with
  |false=>
   go_wp2_with fail
   go_ret;exact⟨rfl,H3.out.1⟩
  |true=>
   obtain⟨hok,hdep,hwt⟩:=hz rfl;have HZ:=qq3 hok hdep hwt;clear hz hok hdep hwt;by_cases h1:how<0
   ·go_wp2_with fail
    go_ret;exact⟨rfl,H3.out.1⟩
   ·by_cases h2:2<how
    ·go_wp2_with fail
     go_ret;exact⟨rfl,H3.out.1⟩
    ·have hkc:=keyCountC d x _ w3 (H.out.1.keep d H3.out.1) HZ.out.1 HZ.out.2.2;obtain⟨kn,hkn⟩:∃kn,kn=(colV d [] x).length:=⟨_,rfl⟩;rw[<-hkn]at hkc;have HK:=qq hkc;have Hkn:=qq hkn;clear hkc hkn;go_wp2_with fail
     refine HK.out.mono ?_;rintro e w4 ⟨rfl,k4⟩;have hb4:=H3.out.2.keep k4 (by simp);have K4:=H3.out.1.trans k4 (by simp);obtain⟨a0,a1,a2,a3,a4,a5⟩:=hb4.c6 0 1 2 3 4 5 rfl rfl rfl rfl rfl rfl;have H4:=qq2 K4 hb4;clear k4 hb4 K4 HK;by_cases h3:(49:Int)<(kn:Int)
     ·go_wp2_with fail
      go_ret;exact⟨rfl,H4.out.1⟩
     ·obtain⟨F,hF⟩:∃F,F=addV d [] x:=⟨_,rfl⟩;have hF49:F.length<=49:=by
       have:=addV_le_colV d x;have:=Hkn.out;rw[hF];omega
      have hbu:=variantBuildC d x _ again w4 (H.out.1.keep d H4.out.1) HZ.out.1 HZ.out.2.2 (by rw[<-hF];exact hF49);rw[<-hF]at hbu;have HB:=qq hbu;have HF:=qq hF;clear hbu hF;go_wp2_with fail
      refine HB.out.mono ?_;rintro e w5 ⟨g1,n1,c1,g2,n2,c2,so,tot,rfl,k5,ht,ht2,⟨hn1,hg1,hnc1,cs1,hB1,hl1,ht1⟩,⟨hn2,hg2,hnc2,cs2,hB2,hl2,htk2⟩⟩;have hszF:szK F<=200*F.length:=szK_le F (by rw[HF.out];exact addV_keys d x HZ.out.1 [] (by simp));have hn9:n1<=10000000:=by have:=length_metaB so F tot;omega
      have hrd:=variantReadC so tot 12 d x F how g1 n1 c1 g2 n2 c2 w5 (by omega) HZ.out.2.1 HZ.out.1 (fun q hq=>by rw[HF.out];exact sub_addV d x HZ.out.1 [] q (.inr hq)) hF49 HZ.out.2.2 ht (Byt.of_copied (w':=w5) (n:=n1) (c:=c1) hB1 ht1) hn1 hn9 (Byt.of_copied (w':=w5) (n:=n2) (c:=c2) hB2 htk2) hn2;have HR:=qq hrd;have hb5:=H4.out.2.keep k5 (by simp);have H5:=qq2 (H4.out.1.trans k5 (by simp)) hb5;clear hrd hn9 hszF ht ht2 hn1 hg1 hnc1 hB1 hl1 ht1 hn2 hg2 hnc2 hB2 hl2 htk2 k5 HB hb5 a0 a1 a2 a3 a4 a5;go_wp2_with fail
      refine HR.out.mono ?_;rintro e w6 ⟨v',rfl,k6,hV⟩;obtain⟨zk,zs,zn,zt,za1,za2,zl1,zc1,zl2,zc2,rfl⟩:=hV.six;have H6:=qq3 (H5.out.1.trans k6 (by simp)) (H5.out.2.keep k6 (by simp)) hV;clear k6 hV HR;go_wp2_with fail
      obtain⟨w7,hw7⟩:∃w7,w7=w6.alloc (.cells #[.int .i64 zk,.int .u64 (zn:Int),.int .i64 zs,.string zt,.slice za1 zl1 zc1,.slice za2 zl2 zc2] 26):=⟨_,rfl⟩;obtain⟨tb,htb⟩:∃tb,tb=w6.heap.size:=⟨_,rfl⟩;obtain⟨bx,hbx⟩:∃bx,bx=w.heap.size:=⟨_,rfl⟩;have K7:Keep [] w6 w7:=by rw[hw7];exact(Keep.refl [] w6).alloc _
      have hT7:Blk w7 tb [.int .i64 zk,.int .u64 (zn:Int),.int .i64 zs,.string zt,.slice za1 zl1 zc1,.slice za2 zl2 zc2]:=by rw[hw7,htb];exact Blk.new w6 _ _
      have hX7:Blk w7 bx [.int .i64 vk,.int .u64 (vn:Int),.int .i64 vs,.string vt,.slice va1 vl1 vc1,.slice va2 vl2 vc2]:=by rw[hbx];exact H6.out.2.1.keep K7 (by simp)
      have hV7:=H6.out.2.2.keep d K7 (Q:=fun _=>True) (fun _ _=>by simp) (fun _ _ _=>trivial);have HS:=qq (show(fun w':World=>w'.cell? ⟨tb,0,none⟩=some (.int .i64 zk)/\w'.cell? ⟨tb,1,none⟩=some (.int .u64 (zn:Int))/\w'.cell? ⟨tb,2,none⟩=some (.int .i64 zs)/\w'.cell? ⟨tb,3,none⟩=some (.string zt)/\w'.cell? ⟨tb,4,none⟩=some (.slice za1 zl1 zc1)/\w'.cell? ⟨tb,5,none⟩=some (.slice za2 zl2 zc2)/\w'.cell? ⟨bx,0,none⟩=some (.int .i64 vk)/\w'.cell? ⟨bx,1,none⟩=some (.int .u64 (vn:Int))/\w'.cell? ⟨bx,2,none⟩=some (.int .i64 vs)/\w'.cell? ⟨bx,3,none⟩=some (.string vt)/\w'.cell? ⟨bx,4,none⟩=some (.slice va1 vl1 vc1)/\w'.cell? ⟨bx,5,none⟩=some (.slice va2 vl2 vc2)) w7 from⟨hT7.cell rfl,hT7.cell rfl,hT7.cell rfl,hT7.cell rfl,hT7.cell rfl,hT7.cell rfl,hX7.cell rfl,hX7.cell rfl,hX7.cell rfl,hX7.cell rfl,hX7.cell rfl,hX7.cell rfl⟩);have HK:=qq (fun(wy:World) (k:Keep [] w7 wy)=>(show(fun w':World=>w'.cell? ⟨tb,0,none⟩=some (.int .i64 zk)/\w'.cell? ⟨tb,1,none⟩=some (.int .u64 (zn:Int))/\w'.cell? ⟨tb,2,none⟩=some (.int .i64 zs)/\w'.cell? ⟨tb,3,none⟩=some (.string zt)/\w'.cell? ⟨tb,4,none⟩=some (.slice za1 zl1 zc1)/\w'.cell? ⟨tb,5,none⟩=some (.slice za2 zl2 zc2)/\w'.cell? ⟨bx,0,none⟩=some (.int .i64 vk)/\w'.cell? ⟨bx,1,none⟩=some (.int .u64 (vn:Int))/\w'.cell? ⟨bx,2,none⟩=some (.int .i64 vs)/\w'.cell? ⟨bx,3,none⟩=some (.string vt)/\w'.cell? ⟨bx,4,none⟩=some (.slice va1 vl1 vc1)/\w'.cell? ⟨bx,5,none⟩=some (.slice va2 vl2 vc2)) wy from⟨(hT7.keep k (by simp)).cell rfl,(hT7.keep k (by simp)).cell rfl,(hT7.keep k (by simp)).cell rfl,(hT7.keep k (by simp)).cell rfl,(hT7.keep k (by simp)).cell rfl,(hT7.keep k (by simp)).cell rfl,(hX7.keep k (by simp)).cell rfl,(hX7.keep k (by simp)).cell rfl,(hX7.keep k (by simp)).cell rfl,(hX7.keep k (by simp)).cell rfl,(hX7.keep k (by simp)).cell rfl,(hX7.keep k (by simp)).cell rfl⟩));have KW7:Keep [] w w7:=H6.out.1.trans K7 (by simp);have hL:=leastV d x _ w w7.drew H.out.1 HZ.out.1 KW7.drew (H.out.2.2.keep KW7.drew);have H7:=qq3 KW7 hV7 (OkV.cntLw d x HZ.out.1);have HL:=qq hL;have Hw7:=qq3 hw7 htb hbx;clear K7 hT7 hX7 hV7 KW7 hL hw7 htb hbx;rw[<-Hw7.out.1,<-Hw7.out.2.1,<-Hw7.out.2.2];refine wp_region_head (fun w':World=>w'.cell? ⟨tb,0,none⟩=some (.int .i64 zk)/\w'.cell? ⟨tb,1,none⟩=some (.int .u64 (zn:Int))/\w'.cell? ⟨tb,2,none⟩=some (.int .i64 zs)/\w'.cell? ⟨tb,3,none⟩=some (.string zt)/\w'.cell? ⟨tb,4,none⟩=some (.slice za1 zl1 zc1)/\w'.cell? ⟨tb,5,none⟩=some (.slice za2 zl2 zc2)/\w'.cell? ⟨bx,0,none⟩=some (.int .i64 vk)/\w'.cell? ⟨bx,1,none⟩=some (.int .u64 (vn:Int))/\w'.cell? ⟨bx,2,none⟩=some (.int .i64 vs)/\w'.cell? ⟨bx,3,none⟩=some (.string vt)/\w'.cell? ⟨bx,4,none⟩=some (.slice va1 vl1 vc1)/\w'.cell? ⟨bx,5,none⟩=some (.slice va2 vl2 vc2)) 11 (by kernel_rfl) ?_;change wpHead _ _ _ _ _ _ _ _ _ (World.drew _);refine wpHead_take (i:=0) (v:=?_) rfl (by rfl) (by kernel_rfl) (by kernel_rfl) (by kernel_rfl) (by kernel_rfl) (by kernel_rfl) (fun _ _ _ h=>h) HS.out (Or.inl ⟨by rfl,?_⟩) ?_
      rotate_left 1
      ·(intro w hSw;(try dsimp only at hSw);go_simp;try with_reducible rfl)
      try simp only[Act.put,List.setIfInBounds_toArray,List.set_cons_zero,List.set_cons_succ]
      refine wpHead_take (i:=1) (v:=?_) rfl (by rfl) (by kernel_rfl) (by kernel_rfl) (by kernel_rfl) (by kernel_rfl) (by kernel_rfl) (fun _ _ _ h=>h) HS.out (Or.inl ⟨by rfl,?_⟩) ?_
      rotate_left 1
      ·(intro w hSw;(try dsimp only at hSw);go_simp;try with_reducible rfl)
      try simp only[Act.put,List.setIfInBounds_toArray,List.set_cons_zero,List.set_cons_succ]
      refine wpHead_take (i:=2) (v:=?_) rfl (by rfl) (by kernel_rfl) (by kernel_rfl) (by kernel_rfl) (by kernel_rfl) (by kernel_rfl) (fun _ _ _ h=>h) HS.out (Or.inl ⟨by rfl,?_⟩) ?_
      rotate_left 1
      ·(intro w hSw;(try dsimp only at hSw);go_simp;try with_reducible rfl)
      try simp only[Act.put,List.setIfInBounds_toArray,List.set_cons_zero,List.set_cons_succ]
      refine wpHead_take (i:=3) (v:=?_) rfl (by rfl) (by kernel_rfl) (by kernel_rfl) (by kernel_rfl) (by kernel_rfl) (by kernel_rfl) (fun _ _ _ h=>h) HS.out (Or.inl ⟨by rfl,?_⟩) ?_
      rotate_left 1
      ·(intro w hSw;(try dsimp only at hSw);go_simp;try with_reducible rfl)
      try simp only[Act.put,List.setIfInBounds_toArray,List.set_cons_zero,List.set_cons_succ]
      refine wpHead_take (i:=4) (v:=?_) rfl (by rfl) (by kernel_rfl) (by kernel_rfl) (by kernel_rfl) (by kernel_rfl) (by kernel_rfl) (fun _ _ _ h=>h) HS.out (Or.inl ⟨by rfl,?_⟩) ?_
      rotate_left 1
      ·(intro w hSw;(try dsimp only at hSw);go_simp;try with_reducible rfl)
      try simp only[Act.put,List.setIfInBounds_toArray,List.set_cons_zero,List.set_cons_succ]
      refine wpHead_take (i:=5) (v:=?_) rfl (by rfl) (by kernel_rfl) (by kernel_rfl) (by kernel_rfl) (by kernel_rfl) (by kernel_rfl) (fun _ _ _ h=>h) HS.out (Or.inl ⟨by rfl,?_⟩) ?_
      rotate_left 1
      ·(intro w hSw;(try dsimp only at hSw);go_simp;try with_reducible rfl)
      try simp only[Act.put,List.setIfInBounds_toArray,List.set_cons_zero,List.set_cons_succ]
      refine wpHead_take (i:=6) (v:=?_) rfl (by rfl) (by kernel_rfl) (by kernel_rfl) (by kernel_rfl) (by kernel_rfl) (by kernel_rfl) (fun _ _ _ h=>h) HS.out (Or.inl ⟨by rfl,?_⟩) ?_
      rotate_left 1
      ·(intro w hSw;(try dsimp only at hSw);go_simp;try with_reducible rfl)
      try simp only[Act.put,List.setIfInBounds_toArray,List.set_cons_zero,List.set_cons_succ]
      refine wpHead_ready (rs:=[7]) (by kernel_rfl) (by kernel_rfl) (by simp) ?_;refine headCons rfl (fun K hK=>?_) headNil;go_simp;refine HL.out.mono ?_;rintro e w8 ⟨v2,rfl,k8,hV2⟩;have k78:Keep [] w7 w8:=(Keep.refl [] w7).drew.trans k8 (by simp);have H8:=qq2 k78 hV2;refine hK _ _ (HK.out w8 k78) ?_;clear hK K k8 hV2 k78;refine wpHead_ready (rs:=[8]) (by kernel_rfl) (by kernel_rfl) (by simp) ?_;refine headCons rfl (fun K hK=>?_) headNil;go_simp;refine(sameV d (lwV d x) _ v2 w8 ((H7.out.2.1.keep d H8.out.1 (Q:=fun _=>True) (fun _ _=>by simp) (fun _ _ _=>trivial)).at) H8.out.2.at H7.out.2.2).mono ?_;rintro e w9 ⟨rfl,k9⟩;have k79:Keep [] w7 w9:=H8.out.1.trans k9 (by simp);have H9:=qq k79;refine hK _ _ (HK.out w9 k79) ?_;clear hK K k9 k79;refine wpHead_ready (rs:=[9]) (by kernel_rfl) (by kernel_rfl) (by simp) ?_;refine headCons rfl (fun K hK=>?_) headNil;go_simp;refine hK _ _ (HK.out w9 H9.out) ?_;clear hK K;refine wpHead_ready (rs:=[10]) (by kernel_rfl) (by kernel_rfl) (by simp) ?_;refine headCons rfl (fun K hK=>?_) headNil;go_simp;refine hK _ _ (HK.out w9 H9.out) ?_;clear hK K;refine wpHead_done (by kernel_rfl) ?_ _;go_wp2;go_ret;exact⟨rfl,H7.out.1.trans H9.out (by simp)⟩
end Go.Proofs.YtocgdgmfnockiaaGreatDoor
