/- Variants back: elementsOf. -/
import Derived.Test.YtocgdgmfnockiaaGreatDoorV43
import Derived.Test.YtocgdgmfnockiaaGreatDoorV38
set_option linter.unusedVariables false
set_option linter.unusedSimpArgs false
set_option maxRecDepth 100000
set_option maxHeartbeats 8000000
namespace Go.Proofs.YtocgdgmfnockiaaGreatDoor
open Go.RowKit
theorem arrAtS (b o n c k q sz y i off g m:Nat) (ma ko:Option Addr) (mn mc kn kc:Nat) (w:World) (hs1:1<=sz) (hs4:sz<=4) (hy:y<=5) (hk:k<=1000000) (hi:i<k) (hB:Byt w b (o+(y+i*sz)) (leBytes sz off)) (hoff:off<256^sz) (hm0:0<m) (hg:g=q+off) (hqm:g+m<=n) (hp:y+i*sz+sz<=n) (hn9:n<=1000000000) (hnc:n<=c)
  (hz:∀wx,Keep [] w wx->Calls Tryz.prog 82 #[.slice (some ⟨b,o+g,none⟩) (n-g) (c-g)] wx fun e w'=>e=.returned (.int .i64 (m:Int))/\Keep [] wx w'):
  Calls Tryz.prog 125 #[.agg #[.slice (some ⟨b,o,none⟩) n c,.slice ma mn mc,.slice ko kn kc,.int .u32 (k:Int),.int .u64 (q:Int),.int .u8 (sz:Int),.int .u64 (y:Int)],.int .u32 (i:Int)] w fun e w'=>e=.returned (.tuple #[.agg #[.slice (some ⟨b,o+g,none⟩) m (c-g),.slice ma mn mc,.slice ko kn kc],.nilIface])/\Keep [] w w':=by
 obtain⟨s,rfl⟩:∃s,sz=s+1:=⟨sz-1,by omega⟩;exact arrAtC b o n c k q s y i off g m ma ko mn mc kn kc w (by omega) hy hk hi hB hoff hm0 hg hqm hp hn9 hnc hz
def ElPost (d:Nat) (cs:List (Vt d)) (w:World) (e:Ending) (w':World):Prop:=∃v',e=.returned v'/\Keep [] w w'/\KidsIn (fun p=>w.heap.size<=p) (VtIn (fun p=>w.heap.size<=p) d w') w' v' (cs.map (lwV d))
theorem OutSt.kids {d q:Nat} {av:List Nat} {w w':World} {cs:List (Vt d)} {ov:Value} {G:List Nat} {l:List Six} {S:List Nat} (k:Keep S w w') (hS:∀b ∈ S,w.heap.size<=b) (hq:w.heap.size<=q) (h2:OwnC Six.cells 6 G w' ov l) (h3:Sixes (VtIn (fun b=>b<0\/(q<b/\b ∉ G)) d w') l (cs.map (lwV d))) (h4:∀b ∈ G,q<b):ElPost d cs w (.returned ov) w':=
 ⟨ov,rfl,k.weaken (fun b hb=>.inr (hS b hb)),h2.kids (fun b hb=>by have:=h4 b hb;omega) (h3.mono fun u x h=>h.keep d (Keep.refl [] w') (fun _ _=>by simp) (fun b hb _=>by rcases hb with hb|hb<;>omega))⟩
theorem elementsC (d k:Nat) (cs:List (Vt d)) (how:Int) (b o n c y0 q0 sz:Nat) (off m:Nat->Nat) (ma ko:Option Addr) (mn mc kn kc:Nat) (w:World) (hC:KidsCtx d cs how b o n c y0 q0 sz off m ma ko mn mc kn kc w) (hk:k=cs.length) (hk9:k<=500) (hy5:y0<=5):
  Calls Tryz.prog 70 #[.agg #[.slice (some ⟨b,o,none⟩) n c,.slice ma mn mc,.slice ko kn kc,.int .u32 (k:Int),.int .u64 (q0:Int),.int .u8 (sz:Int),.int .u64 (y0:Int)],.int .i64 how] w fun e w'=>ElPost d cs w e w':=by
 obtain⟨w3,hw3⟩:∃w3,w3=((w.alloc (.cells #[.slice (some ⟨b,o,none⟩) n c,.slice ma mn mc,.slice ko kn kc,.int .u32 (k:Int),.int .u64 (q0:Int),.int .u8 (sz:Int),.int .u64 (y0:Int)] 140)).alloc (.cells #[.int .i64 how] 3)).alloc (.cells #[.slice none 0 0] 24):=⟨_,rfl⟩;have k3:Keep [] w w3:=by rw[hw3];exact(((Keep.refl [] w).alloc _).alloc _).alloc _
 have hx3:Blk w3 w.heap.size [.slice (some ⟨b,o,none⟩) n c,.slice ma mn mc,.slice ko kn kc,.int .u32 (k:Int),.int .u64 (q0:Int),.int .u8 (sz:Int),.int .u64 (y0:Int)]:=by rw[hw3];exact((Blk.new w _ _).alloc _).alloc _
 have hh3:Blk w3 (w.heap.size+1) [.int .i64 how]:=by rw[hw3];exact(Blk.of_new (cs:=[.int .i64 how]) (by simp)).alloc _
 have ho3:Blk w3 (w.heap.size+1+1) [.slice none 0 0]:=by rw[hw3];exact Blk.of_new (cs:=[.slice none 0 0]) (by simp)
 have hs3:w3.heap.size=w.heap.size+1+1+1:=by rw[hw3];simp
 have hO3:∀av,OutSt d (w.heap.size+1+1) av w3 []:=fun av=>⟨[],.slice none 0 0,[],ho3,.inl ⟨rfl,rfl,rfl⟩,Sixes.nil _,by simp⟩;have H3:=qq5 k3 hx3 hh3 hO3 hs3;have Hw3:=qq hw3;have HC:=qq hC;have Hk:=qq hk;obtain⟨x0,x1,x2,x3,x4,x5,x6⟩:=hx3.c7 0 1 2 3 4 5 6 rfl rfl rfl rfl rfl rfl rfl;rw[hw3]at x0 x1 x2 x3 x4 x5 x6;clear k3 hx3 hh3 ho3 hO3 hs3 hw3 hC hk;by_cases hh1:how=1
 ·have hhb:(how==1)=true:=by simp[hh1]
  have Hh1:=qq hh1;clear hh1
  go_enter Tryz.func70,Tryz.ntmps70
  go_wp2_with fail
  rw[<-Hw3.out];clear x0 x1 x2 x3 x4 x5 x6;refine(arrValuesC _ _ _ _ _ _ _ _ ⟨_,_,_,rfl⟩ ⟨_,_,_,rfl⟩ ⟨_,_,_,rfl⟩).mono ?_;rintro e w4 ⟨rfl,hw4⟩;have k4:Keep [] w3 w4:=by rw[hw4];exact(Keep.refl [] w3).alloc _
  have hX4:Blk w4 w3.heap.size [.slice (some ⟨b,o,none⟩) n c,.slice ma mn mc,.slice ko kn kc,.int .u32 (k:Int),.int .u64 (q0:Int),.int .u8 (sz:Int),.int .u64 (y0:Int)]:=by rw[hw4];exact Blk.new w3 _ _
  have H4:=qq2 k4 hX4;clear k4 hX4 hw4;have hI:=arrIterC d (w.heap.size+1+1) (w.heap.size+1) w3.heap.size k cs how b o n c y0 q0 sz off m ma ko mn mc kn kc w w4 HC.out Hk.out hk9 (H3.out.1.trans H4.out.1 (by simp)) (by omega) (by omega) (by have:=H3.out.2.2.2.2;omega) ((H3.out.2.2.2.1 _).keep H4.out.1 (by simp)) (H3.out.2.2.1.keep H4.out.1 (by simp)) H4.out.2;have HI:=qq hI;clear hI;go_wp2_with fail
  refine HI.out.mono ?_;rintro e wZ ⟨rfl,hOz,SZ,kZ,hSz⟩;have HZ:=qq (show Keep SZ w wZ/\(∀b ∈ SZ,w.heap.size+1+1<=b)/\OutSt d (w.heap.size+1+1) [w3.heap.size] wZ (cs.map (lwV d))from⟨((H3.out.1.trans H4.out.1 (by simp)).nil).trans kZ (fun b hb=>.inl hb),hSz,hOz⟩);clear hOz kZ hSz;obtain⟨G,ov,l,hq7,hO7,hS7,hG7⟩:=HZ.out.2.2;obtain⟨ra,rn,rc,hrv⟩:=hO7.shape2;subst hrv;have c0:=hq7.cell (i:=0) rfl;have fq:=hq7.frozen;have H7:=qq4 hq7 hO7 hS7 hG7;clear hq7 hO7 hS7 hG7;go_wp2;have hqz:=H7.out.1.set 0 (.slice ra rn rc);have z0:=hqz.cell (i:=0) rfl;refine bodyPost_ret (v:=.slice ra rn rc) ?_ rfl ?_
  ·rw[results_cell1 rfl];go_simp
  ·have hql:w.heap.size<=w.heap.size+1+1:=by omega
   have kz:Keep [w.heap.size+1+1] wZ (wZ.setCell ⟨w.heap.size+1+1,0,none⟩ (.slice ra rn rc)):=(Keep.refl _ wZ).set (.inl (by simp)) _ _ _;exact OutSt.kids (q:=w.heap.size+1+1) (av:=[]) (S:=(w.heap.size+1+1)::SZ) ((HZ.out.1.weaken (fun b hb=>.inl (by simp[hb]))).trans kz (fun b hb=>.inl (by simp at hb;simp[hb]))) (fun b hb=>by simp only[List.mem_cons]at hb;rcases hb with rfl|hb;exact hql;have:=HZ.out.2.1 b hb;omega) hql
    (H7.out.2.1.keep kz (fun b hb hm=>by simp at hm;have:=(H7.out.2.2.2 b hb).1;omega)) (H7.out.2.2.1.mono fun u x h=>h.keep d kz (fun b hb hm=>by simp at hm;rcases hb with hb|hb<;>omega) (fun b hb _=>hb)) (fun b hb=>(H7.out.2.2.2 b hb).1)
 ·have hhb:(how==1)=false:=by simp[hh1]
  go_enter Tryz.func70,Tryz.ntmps70
  go_wp2_with fail
  rw[<-Hw3.out];clear x0 x1 x2 x3 x4 x5 x6;refine(lenC _ _ _ _ _ _ _ _ ⟨_,_,_,rfl⟩ ⟨_,_,_,rfl⟩ ⟨_,_,_,rfl⟩).mono ?_;rintro e w4 ⟨rfl,k4⟩;have H4:=qq k4;clear k4;go_wp2_with fail
  go_loopw [17] (fun iv wr=>∃i:Nat,i<=k/\iv=.int .u32 (i:Int)/\Hid (∃S,Keep S w4 wr/\(∀b ∈ S,w.heap.size+1+1<=b)/\OutSt d (w.heap.size+1+1) [] wr ((cs.take i).map (lwV d)))) (fun i _=>k-(intOf i).toNat)
  case atStart=>exact⟨0,Nat.zero_le _,rfl,Lib.hid ⟨[],Keep.refl _ _,by simp,by simpa using(H3.out.2.2.2.1 []).keep H4.out (by simp)⟩⟩
  case round=>
   obtain⟨i,hi,rfl,HR0⟩:=hrel;obtain⟨S,hSk,hSq,hSo⟩:=HR0.out;have HR:=qq3 hSk hSq hSo;clear hSk hSq hSo;have K0:Keep [] w wr:=(H3.out.1.trans H4.out (by simp)).trans HR.out.1 (fun b hb=>.inr (by have:=HR.out.2.1 b hb;omega));by_cases hi2:i<k
   ·have hlti:(i:Int)<(k:Int):=by omega
    obtain⟨y,hy⟩:∃y,cs[i]?=some y:=⟨_,List.getElem?_eq_getElem (by rw[<-Hk.out];exact hi2)⟩;have Hy:=qq hy;clear hy;have hXr:=(H3.out.2.1.keep H4.out (by simp)).keep HR.out.1 (fun hm=>by have:=HR.out.2.1 _ hm;omega);have hHr:=(H3.out.2.2.1.keep H4.out (by simp)).keep HR.out.1 (fun hm=>by have:=HR.out.2.1 _ hm;omega);obtain⟨x0,x1,x2,x3,x4,x5,x6⟩:=hXr.c7 0 1 2 3 4 5 6 rfl rfl rfl rfl rfl rfl rfl;obtain⟨og,hog⟩:∃og,og=o+(q0+off i):=⟨_,rfl⟩;obtain⟨mi,hmi⟩:∃mi,mi=m i:=⟨_,rfl⟩;obtain⟨cg,hcg⟩:∃cg,cg=c-(q0+off i):=⟨_,rfl⟩;have hfit:=HC.out.fits i y Hy.out;have hA:=arrAtS b o n c k q0 sz y0 i (off i) (q0+off i) (m i) ma ko mn mc kn kc wr HC.out.sz1 HC.out.sz4 hy5 (by omega) hi2 ((HC.out.bytes i y Hy.out).keep K0 (by simp)) hfit.1 hfit.2.1 rfl hfit.2.2.1 hfit.2.2.2 HC.out.n9 HC.out.nc (fun wx kx=>HC.out.size i y Hy.out wx (K0.trans kx (by simp)));have hbk:=HC.out.back i y Hy.out;rw[<-hog,<-hmi,<-hcg]at hA hbk;have HA:=qq hA;have HBK:=qq hbk;have HKH:=qq2 K0 hHr;clear hXr hHr K0 hA hbk hog hmi hcg hfit;go_wp2_with fail
    refine HA.out.mono ?_;rintro e w5 ⟨rfl,k5⟩;have HW5:=qq k5;obtain⟨yl,hyl⟩:∃yl,yl=lwV d y:=⟨_,rfl⟩;obtain⟨ys,hys0⟩:∃ys,ys=(cs.take i).map (lwV d):=⟨_,rfl⟩;obtain⟨q,hqe⟩:∃q,q=w.heap.size+1+1:=⟨_,rfl⟩;obtain⟨hb,hbe⟩:∃hb,hb=w.heap.size+1:=⟨_,rfl⟩;obtain⟨av,hav0⟩:∃av:List Nat,av=[]:=⟨_,rfl⟩;have hO:OutSt d q av w5 ys:=by rw[hqe,hav0,hys0];exact HR.out.2.2.keep k5 (by simp)
    have hav:∀a ∈ av,a<w5.heap.size/\a≠q:=by rw[hav0];simp
    have hH:Blk w5 hb [.int .i64 how]:=by rw[hbe];exact HKH.out.2.keep k5 (by simp)
    have hys:ys.length<=1000:=by rw[hys0];simp;omega
    have hback:∀wx,Keep [] w5 wx->Calls Tryz.prog 26 #[.agg #[.slice (some ⟨b,og,none⟩) mi cg,.slice ma mn mc,.slice ko kn kc],.int .i64 how] wx fun e w'=>∃v',e=.returned v'/\Keep [] wx w'/\VtIn (fun p=>wx.heap.size<=p) d w' v' yl:=fun wx kx=>by rw[hyl];exact HBK.out wx ((HKH.out.1.trans k5 (by simp)).trans kx (by simp))
    have HE:=qq5 hyl hys0 hqe hbe hav0;clear k5 hyl hys0 hqe hbe hav0 x0 x1 x2 x3 x4 x5 x6;obtain⟨G,ov,l,hq,hOw,hSx,hG⟩:=hO;obtain⟨ao,cc,hov,hcc⟩:=hOw.shape;obtain⟨nl,hnl⟩:∃nl,nl=l.length:=⟨_,rfl⟩;rw[<-hnl]at hov hcc;subst hov;have hnl1:nl<=1000:=by rw[hnl,hSx.1];exact hys
    obtain⟨wa,hwa⟩:∃wa,wa=w5.alloc (.cells #[.slice (some ⟨b,og,none⟩) mi cg,.slice ma mn mc,.slice ko kn kc] 57):=⟨_,rfl⟩;obtain⟨yb,hyb⟩:∃yb,yb=w5.heap.size:=⟨_,rfl⟩;have ka:Keep [] w5 wa:=by rw[hwa];exact(Keep.refl [] w5).alloc _
    have hya:Blk wa yb [.slice (some ⟨b,og,none⟩) mi cg,.slice ma mn mc,.slice ko kn kc]:=by rw[hwa,hyb];exact Blk.new w5 _ _
    have hqa:=hq.keep ka (by simp);have hha:=hH.keep ka (by simp);have hsa:wa.heap.size=yb+1:=by rw[hwa,hyb];simp
    have hql:q<yb:=by rw[hyb];exact hq.lt
    have hGl:∀b ∈ G,q<b/\b<yb:=fun b hb=>⟨(hG b hb).1,by rw[hyb];exact hOw.lt b hb⟩;have HG:=qq2 hG hav;have HS:=qq (show(fun w5':World=>w5'.cell? ⟨yb,0,none⟩=some (.slice (some ⟨b,og,none⟩) mi cg)/\w5'.cell? ⟨yb,1,none⟩=some (.slice ma mn mc)/\w5'.cell? ⟨yb,2,none⟩=some (.slice ko kn kc)/\w5'.cell? ⟨hb,0,none⟩=some (.int .i64 how)/\w5'.cell? ⟨q,0,none⟩=some (.slice ao nl cc)) wa from⟨hya.cell rfl,hya.cell rfl,hya.cell rfl,hha.cell rfl,hqa.cell rfl⟩);have HK:=qq (fun(w1 w2:World) (k:Keep [] w1 w2) (h:(fun w5':World=>w5'.cell? ⟨yb,0,none⟩=some (.slice (some ⟨b,og,none⟩) mi cg)/\w5'.cell? ⟨yb,1,none⟩=some (.slice ma mn mc)/\w5'.cell? ⟨yb,2,none⟩=some (.slice ko kn kc)/\w5'.cell? ⟨hb,0,none⟩=some (.int .i64 how)/\w5'.cell? ⟨q,0,none⟩=some (.slice ao nl cc)) w1)=>(show(fun w5':World=>w5'.cell? ⟨yb,0,none⟩=some (.slice (some ⟨b,og,none⟩) mi cg)/\w5'.cell? ⟨yb,1,none⟩=some (.slice ma mn mc)/\w5'.cell? ⟨yb,2,none⟩=some (.slice ko kn kc)/\w5'.cell? ⟨hb,0,none⟩=some (.int .i64 how)/\w5'.cell? ⟨q,0,none⟩=some (.slice ao nl cc)) w2 from
     ⟨k.cell_some h.1 (by simp),k.cell_some h.2.1 (by simp),k.cell_some h.2.2.1 (by simp),k.cell_some h.2.2.2.1 (by simp),k.cell_some h.2.2.2.2 (by simp)⟩))
    have HB:=qq (fun(wx:World) (kx:Keep [] wa wx)=>hback wx (ka.trans kx (by simp)));have HW:=qq2 hwa hyb;have HO:=qq7 hOw hSx hGl hqa ka hsa hql;have Hnl:=qq hnl;obtain⟨i0,hi0,hz0,hz1,hz2⟩:=info_parts info_var;have Hi:=qq4 hi0 hz0 hz1 hz2;clear hq hOw hSx hG hav hH hback hwa hyb ka hya hqa hha hsa hql hGl hnl hi0 hz0 hz1 hz2;go_wp2_with fail
    rw[<-HE.out.2.2.1,<-HE.out.2.2.2.1];rw[<-HW.out.1,<-HW.out.2];refine wp_region_head (fun w5'=>w5'.cell? ⟨yb,0,none⟩=some (.slice (some ⟨b,og,none⟩) mi cg)/\w5'.cell? ⟨yb,1,none⟩=some (.slice ma mn mc)/\w5'.cell? ⟨yb,2,none⟩=some (.slice ko kn kc)/\w5'.cell? ⟨hb,0,none⟩=some (.int .i64 how)/\w5'.cell? ⟨q,0,none⟩=some (.slice ao nl cc)) 6 (by kernel_rfl) ?_;change wpHead _ _ _ _ _ _ _ _ _ (World.drew _);refine wpHead_take (i:=0) (v:=?_) rfl (by rfl) (by kernel_rfl) (by kernel_rfl) (by kernel_rfl) (by kernel_rfl) (by kernel_rfl) (fun _ _ _ h=>h) HS.out (Or.inl ⟨by rfl,?_⟩) ?_
    rotate_left 1
    ·(intro w hSw;(try dsimp only at hSw);go_simp;try with_reducible rfl)
    try simp only[Act.put,List.setIfInBounds_toArray,List.set_cons_zero,List.set_cons_succ]
    refine wpHead_take (i:=1) (v:=?_) rfl (by rfl) (by kernel_rfl) (by kernel_rfl) (by kernel_rfl) (by kernel_rfl) (by kernel_rfl) (fun _ _ _ h=>h) HS.out (Or.inl ⟨by rfl,?_⟩) ?_
    rotate_left 1
    ·(intro w hSw;(try dsimp only at hSw);go_simp;try with_reducible rfl)
    try simp only[Act.put,List.setIfInBounds_toArray,List.set_cons_zero,List.set_cons_succ]
    refine wpHead_take (i:=2) (v:=?_) rfl (by rfl) (by kernel_rfl) (by kernel_rfl) (by kernel_rfl) (by kernel_rfl) (by kernel_rfl) (fun _ _ _ h=>h) HS.out (Or.inl ⟨by rfl,?_⟩) ?_
    rotate_left 1
    ·(intro w hSw;(try dsimp only at hSw);go_simp;try with_reducible rfl)
    try simp only[Act.put,List.setIfInBounds_toArray,List.set_cons_zero,List.set_cons_succ]
    refine wpHead_take (i:=4) (v:=?_) rfl (by rfl) (by kernel_rfl) (by kernel_rfl) (by kernel_rfl) (by kernel_rfl) (by kernel_rfl) (fun _ _ _ h=>h) HS.out (Or.inl ⟨by rfl,?_⟩) ?_
    rotate_left 1
    ·(intro w hSw;(try dsimp only at hSw);go_simp;try with_reducible rfl)
    try simp only[Act.put,List.setIfInBounds_toArray,List.set_cons_zero,List.set_cons_succ]
    refine wpHead_ready (rs:=[3,5]) (by kernel_rfl) (by kernel_rfl) (by simp) ?_;refine headCons rfl (fun K hK=>?_) (headCons rfl (fun K hK=>?_) headNil)
    ·go_simp;refine(HB.out _ (Keep.refl [] wa).drew).mono ?_;rintro e wB ⟨v',rfl,kB,hVB⟩;obtain⟨zk,zs,zn,zt,za1,za2,zl1,zc1,zl2,zc2,rfl⟩:=hVB.six;have KB:Keep [] wa wB:=(Keep.refl [] wa).drew.trans kB (by simp);have SB:=HK.out wa wB KB HS.out;have HB2:=qq3 KB hVB SB;clear KB hVB kB;refine hK _ _ SB ?_;clear hK K SB;refine wpHead_ready (rs:=[5]) (by kernel_rfl) (by kernel_rfl) (by simp) ?_;refine headCons rfl (fun K hK=>?_) headNil;go_simp;refine hK _ _ (HK.out wB _ ((Keep.refl [] wB).alloc _) HB2.out.2.2) ?_;clear hK K;have HT:=qq (show Keep [] wa (wB.alloc (.cells #[.int .i64 0,.int .u64 0,.int .i64 0,.string ⟨#[]⟩,.slice none 0 0,.slice none 0 0] 26))/\Blk (wB.alloc (.cells #[.int .i64 0,.int .u64 0,.int .i64 0,.string ⟨#[]⟩,.slice none 0 0,.slice none 0 0] 26)) wB.heap.size zsix.cells/\VtIn (fun p=>wa.heap.size<=p) d (wB.alloc (.cells #[.int .i64 0,.int .u64 0,.int .i64 0,.string ⟨#[]⟩,.slice none 0 0,.slice none 0 0] 26)) (.agg #[.int .i64 zk,.int .u64 (zn:Int),.int .i64 zs,.string zt,.slice za1 zl1 zc1,.slice za2 zl2 zc2]) yl from⟨HB2.out.1.alloc _,Blk.new wB _ _,HB2.out.2.1.keep d ((Keep.refl [] wB).alloc _) (fun _ _=>by simp) (fun b hb _=>hb)⟩);generalize wB.alloc (.cells #[.int .i64 0,.int .u64 0,.int .i64 0,.string ⟨#[]⟩,.slice none 0 0,.slice none 0 0] 26)=wt at HT ⊢;generalize wB.heap.size=zb at HT ⊢;refine wpHead_tail (by kernel_rfl) ?_;refine wpAny_ready (rs:=[6]) (by kernel_rfl) (by simp) ?_;refine(AllReady.cons rfl (fun K hK=>?_) AllReady.nil);rw[if_pos (by rfl)];refine wp_append_ownC (cf:=Six.cells) (G:=G) (l:=l) Six.len (by decide) _ _ 24 26 rfl i0 88 Tryz.underlying24 Hi.out.1 ⟨_,Hi.out.2.1,rfl⟩ Hi.out.2.2.1 Hi.out.2.2.2 rfl ((HO.out.1.keep HO.out.2.2.2.2.1 (by simp)).keep HT.out.1 (by simp)) _ [zsix] rfl (srcSix zsix (by simp[Value.oneCell',Six.cells,zsix]) HT.out.2.1) (by rw[<-Hnl.out];simp;omega) (by rw[<-Hnl.out];simp;omega) ?_;intro v'' wC G' hO' kC hG';rcases hO' with⟨_,_,hnil⟩|⟨g,c',cs,rfl,rfl,hbg,hcs,htk,hle⟩
     ·simp at hnil
     obtain⟨n1,hn1⟩:∃n1,n1=nl+1:=⟨_,rfl⟩;have hlen:(l++[zsix]).length=n1:=by rw[List.length_append,<-Hnl.out,hn1];rfl
     have hA:(l.flatMap Six.cells).length=nl*6:=by rw[flatMap_length Six.len,Hnl.out]
     obtain⟨R,hR⟩:∃R,cs=l.flatMap Six.cells++([.int .i64 0,.int .u64 0,.int .i64 0,.string ⟨#[]⟩,.slice none 0 0,.slice none 0 0]++R):=by
      refine⟨cs.drop (n1*6),?_⟩;rw[hlen,List.flatMap_append]at htk
      conv=>lhs;rw[<-List.take_append_drop (n1*6) cs]
      rw[htk,List.append_assoc];rfl
     subst hR;rw[hlen]at hle ⊢;have f0:wC.cell? ⟨g,nl*6,none⟩=some (.int .i64 0):=hbg.cell (i:=nl*6) (get_six _ R _ _ _ _ _ _ _ 0 hA (by omega));have f1:=hbg.cell (i:=nl*6+1) (get_six _ R _ _ _ _ _ _ _ 1 hA (by omega));have f2:=hbg.cell (i:=nl*6+2) (get_six _ R _ _ _ _ _ _ _ 2 hA (by omega));have f3:=hbg.cell (i:=nl*6+3) (get_six _ R _ _ _ _ _ _ _ 3 hA (by omega));have f4:=hbg.cell (i:=nl*6+4) (get_six _ R _ _ _ _ _ _ _ 4 hA (by omega));have f5:=hbg.cell (i:=nl*6+5) (get_six _ R _ _ _ _ _ _ _ 5 hA (by omega));have ff:=hbg.frozen;have hqG:q ∉ G:=fun hm=>by have:=(HO.out.2.2.1 q hm).1;omega
     have hqC:=((HO.out.2.2.2.1.keep HT.out.1 (by simp)).keep kC hqG);have cq:=hqC.cell (i:=0) rfl;have fq:=hqC.frozen;have hgq:q<g:=by
      rcases hG' g (by simp)with h|h
      ·exact(HO.out.2.2.1 g h).1
      ·have:=HT.out.1.size;have:=HO.out.2.2.2.2.2.1;have:=HO.out.2.2.2.2.2.2;omega
     have hqg1:¬q=g:=by omega
     have hqg2:¬g=q:=by omega
     have hnlt:(nl:Int)<(n1:Int):=by omega
     have Hn1:=qq hn1;have HC:=qq8 hbg hcs hle kC hG' hqC hA hgq;clear hbg hcs hle kC hG' hqC hA hgq htk hlen hqG hn1;refine hK _ _ ?_;clear hK K;refine wpAny_take (i:=7) (v:=?_) rfl (by kernel_rfl) (by kernel_rfl) (by kernel_rfl) (fun _ _ _ h=>h) (Or.inl ⟨by rfl,?_⟩) ?_
     rotate_left 1
     ·(intro w;go_simp;try with_reducible rfl)
     try simp only[Act.put,List.setIfInBounds_toArray,List.set_cons_zero,List.set_cons_succ]
     refine wpAny_ready (rs:=[8,9]) (by kernel_rfl) (by simp) ?_;refine AllReady.cons rfl (fun K hK=>?_) (AllReady.cons rfl (fun K hK=>?_) AllReady.nil)
     ·go_simp;refine hK _ _ ?_;clear hK K;refine wpAny_ready (rs:=[9]) (by kernel_rfl) (by simp) ?_;refine(AllReady.cons rfl (fun K hK=>?_) AllReady.nil);go_simp;refine hK _ _ ?_;clear hK K;refine wpAny_done (by kernel_rfl) ?_ _;have hkz:Keep (g::q::[]) wC (((((((wC.setCell ⟨g,nl*6,none⟩ (.int .i64 zk)).setCell ⟨g,nl*6+1,none⟩ (.int .u64 (zn:Int))).setCell ⟨g,nl*6+2,none⟩ (.int .i64 zs)).setCell ⟨g,nl*6+3,none⟩ (.string zt)).setCell ⟨g,nl*6+4,none⟩ (.slice za1 zl1 zc1)).setCell ⟨g,nl*6+5,none⟩ (.slice za2 zl2 zc2)).setCell ⟨q,0,none⟩ (.slice (some ⟨g,0,none⟩) n1 c')):=(((((((Keep.refl (g::q::[]) wC).set (.inl (by simp)) _ _ _).set (.inl (by simp)) _ _ _).set (.inl (by simp)) _ _ _).set (.inl (by simp)) _ _ _).set (.inl (by simp)) _ _ _).set (.inl (by simp)) _ _ _).set (.inl (by simp)) _ _ _;have hb9:=((((((HC.out.1.set (nl*6) (.int .i64 zk)).set (nl*6+1) (.int .u64 (zn:Int))).set (nl*6+2) (.int .i64 zs)).set (nl*6+3) (.string zt)).set (nl*6+4) (.slice za1 zl1 zc1)).set (nl*6+5) (.slice za2 zl2 zc2)).set_other hqg2 0 none (.slice (some ⟨g,0,none⟩) n1 c');have hq9:=((((((HC.out.2.2.2.2.2.1.set_other hqg1 (nl*6) none (.int .i64 zk)).set_other hqg1 (nl*6+1) none (.int .u64 (zn:Int))).set_other hqg1 (nl*6+2) none (.int .i64 zs)).set_other hqg1 (nl*6+3) none (.string zt)).set_other hqg1 (nl*6+4) none (.slice za1 zl1 zc1)).set_other hqg1 (nl*6+5) none (.slice za2 zl2 zc2)).set 0 (.slice (some ⟨g,0,none⟩) n1 c');rw[set_six _ R _ _ _ _ _ _ _ _ _ _ _ _ _ HC.out.2.2.2.2.2.2.1]at hb9;generalize((((((wC.setCell ⟨g,nl*6,none⟩ (.int .i64 zk)).setCell ⟨g,nl*6+1,none⟩ (.int .u64 (zn:Int))).setCell ⟨g,nl*6+2,none⟩ (.int .i64 zs)).setCell ⟨g,nl*6+3,none⟩ (.string zt)).setCell ⟨g,nl*6+4,none⟩ (.slice za1 zl1 zc1)).setCell ⟨g,nl*6+5,none⟩ (.slice za2 zl2 zc2)).setCell ⟨q,0,none⟩ (.slice (some ⟨g,0,none⟩) n1 c')=wz2 at hkz hb9 hq9 ⊢;clear f0 f1 f2 f3 f4 f5 ff cq fq;have HF:=qq (show OutSt d q av wz2 (ys++[yl])/\∃S,Keep S w5 wz2/\∀b ∈ S,q<=b/\b ∉ av by
       obtain⟨hbg,hcs,hle,kC,hG',hqC,hA,hgq⟩:=HC.out;obtain⟨hOw,hSx,hGl,hqa,ka,hsa,hql⟩:=HO.out;obtain⟨hT1,hT2,hT3⟩:=HT.out;have s1:=ka.size;have s2:=hT1.size;have hl2:(l++[(Six.mk (.int .i64 zk) (.int .u64 (zn:Int)) (.int .i64 zs) (.string zt) (.slice za1 zl1 zc1) (.slice za2 zl2 zc2))]).length=n1:=by rw[List.length_append,<-Hnl.out,Hn1.out];rfl
       have kw:Keep (q::G) w5 wz2:=((ka.trans hT1 (by simp)).nil.trans kC (fun b hb=>.inl (by simp[hb]))).trans hkz (fun b hb=>by
        simp only[List.mem_cons,List.not_mem_nil,or_false]at hb;rcases hb with rfl|rfl
        ·exact(hG' b (by simp)).elim (fun h=>.inl (by simp[h])) (fun h=>.inr (by omega))
        ·exact .inl (by simp))
       have kt:Keep (q::G) wt wz2:=(kC.weaken (fun b hb=>.inl (by simp[hb]))).trans hkz (fun b hb=>by
        simp only[List.mem_cons,List.not_mem_nil,or_false]at hb;rcases hb with rfl|rfl
        ·exact(hG' b (by simp)).elim (fun h=>.inl (by simp[h])) (fun h=>.inr (by omega))
        ·exact .inl (by simp))
       refine⟨⟨[g],.slice (some ⟨g,0,none⟩) n1 c',l++[(Six.mk (.int .i64 zk) (.int .u64 (zn:Int)) (.int .i64 zs) (.string zt) (.slice za1 zl1 zc1) (.slice za2 zl2 zc2))],hq9,.inr ⟨g,c',_,rfl,by rw[hl2],hb9,by simpa using hcs,?_,by rw[hl2];exact hle⟩,?_,fun b hb=>by
        rw[List.mem_singleton]at hb;subst hb;refine⟨hgq,fun hm=>?_⟩;rcases hG' b (by simp)with h|h
        ·exact(HG.out.1 b h).2 hm
        ·have:=(HG.out.2 b hm).1;omega⟩,q::G,kw,fun b hb=>?_⟩
       ·rw[hl2,<-List.append_assoc,List.take_left' (by rw[List.length_append,hA,Hn1.out];simp;omega),List.flatMap_append];rfl
       ·have hs:VtIn (fun b=>b<0\/wa.heap.size<=b) d wt (Six.mk (.int .i64 zk) (.int .u64 (zn:Int)) (.int .i64 zs) (.string zt) (.slice za1 zl1 zc1) (.slice za2 zl2 zc2)).agg yl:=VtIn.keep d hT3 (Keep.refl [] wt) (fun b hb=>by simp) (fun b hb _=>.inr hb);exact Sixes.step (L:=wa.heap.size) (M:=wt.heap.size) hSx hs kw kt (by omega) (fun b hb=>⟨(hGl b hb).1,by have:=(hGl b hb).2;omega⟩) (by omega) (by omega) (Nat.le_refl _) hG'
       ·simp only[List.mem_cons]at hb;rcases hb with rfl|hb
        ·exact⟨Nat.le_refl _,fun hm=>(HG.out.2 _ hm).2 rfl⟩
        ·exact⟨by have:=(hGl b hb).1;omega,(HG.out.1 b hb).2⟩)
      clear hkz hb9 hq9;obtain⟨e1,e2,e3,e4,e5⟩:=HE.out;clear HE;subst e1 e2 e3 e4 e5;go_wp2;go_roundw
      case rel=>
       obtain⟨hOz,S2,hSk,hSq⟩:=HF.out;refine⟨i+1,hi2,by go_num,Lib.hid ⟨S++S2,?_,fun p hp=>?_,?_⟩⟩
       ·exact(HR.out.1.trans HW5.out (by simp)).cat hSk (fun x hx=>.inl (by simp[hx])) (fun x hx=>.inl (by simp[hx]))
       ·rw[List.mem_append]at hp;exact hp.elim (HR.out.2.1 p) (fun h=>(hSq p h).1)
       ·rw[take_snoc Hy.out,List.map_append];exact hOz
      case measure=>simp[intOf];omega
     ·go_simp;refine hK _ _ ?_;clear hK K;refine wpAny_ready (rs:=[8]) (by kernel_rfl) (by simp) ?_;refine(AllReady.cons rfl (fun K hK=>?_) AllReady.nil);go_simp;refine hK _ _ ?_;clear hK K;refine wpAny_done (by kernel_rfl) ?_ _;have hkz:Keep (g::q::[]) wC ((((((((wC.setCell ⟨q,0,none⟩ (.slice (some ⟨g,0,none⟩) n1 c')).setCell ⟨g,nl*6,none⟩ (.int .i64 zk)).setCell ⟨g,nl*6+1,none⟩ (.int .u64 (zn:Int))).setCell ⟨g,nl*6+2,none⟩ (.int .i64 zs)).setCell ⟨g,nl*6+3,none⟩ (.string zt)).setCell ⟨g,nl*6+4,none⟩ (.slice za1 zl1 zc1)).setCell ⟨g,nl*6+5,none⟩ (.slice za2 zl2 zc2))):=((((((((Keep.refl (g::q::[]) wC).set (.inl (by simp)) _ _ _).set (.inl (by simp)) _ _ _).set (.inl (by simp)) _ _ _).set (.inl (by simp)) _ _ _).set (.inl (by simp)) _ _ _).set (.inl (by simp)) _ _ _).set (.inl (by simp)) _ _ _);have hb9:=(((((((HC.out.1.set_other hqg2 0 none (.slice (some ⟨g,0,none⟩) n1 c')).set (nl*6) (.int .i64 zk)).set (nl*6+1) (.int .u64 (zn:Int))).set (nl*6+2) (.int .i64 zs)).set (nl*6+3) (.string zt)).set (nl*6+4) (.slice za1 zl1 zc1)).set (nl*6+5) (.slice za2 zl2 zc2));have hq9:=(((((((HC.out.2.2.2.2.2.1.set 0 (.slice (some ⟨g,0,none⟩) n1 c')).set_other hqg1 (nl*6) none (.int .i64 zk)).set_other hqg1 (nl*6+1) none (.int .u64 (zn:Int))).set_other hqg1 (nl*6+2) none (.int .i64 zs)).set_other hqg1 (nl*6+3) none (.string zt)).set_other hqg1 (nl*6+4) none (.slice za1 zl1 zc1)).set_other hqg1 (nl*6+5) none (.slice za2 zl2 zc2));rw[set_six _ R _ _ _ _ _ _ _ _ _ _ _ _ _ HC.out.2.2.2.2.2.2.1]at hb9;generalize(((((((wC.setCell ⟨q,0,none⟩ (.slice (some ⟨g,0,none⟩) n1 c')).setCell ⟨g,nl*6,none⟩ (.int .i64 zk)).setCell ⟨g,nl*6+1,none⟩ (.int .u64 (zn:Int))).setCell ⟨g,nl*6+2,none⟩ (.int .i64 zs)).setCell ⟨g,nl*6+3,none⟩ (.string zt)).setCell ⟨g,nl*6+4,none⟩ (.slice za1 zl1 zc1)).setCell ⟨g,nl*6+5,none⟩ (.slice za2 zl2 zc2))=wz2 at hkz hb9 hq9 ⊢;clear f0 f1 f2 f3 f4 f5 ff cq fq;have HF:=qq (show OutSt d q av wz2 (ys++[yl])/\∃S,Keep S w5 wz2/\∀b ∈ S,q<=b/\b ∉ av by
       obtain⟨hbg,hcs,hle,kC,hG',hqC,hA,hgq⟩:=HC.out;obtain⟨hOw,hSx,hGl,hqa,ka,hsa,hql⟩:=HO.out;obtain⟨hT1,hT2,hT3⟩:=HT.out;have s1:=ka.size;have s2:=hT1.size;have hl2:(l++[(Six.mk (.int .i64 zk) (.int .u64 (zn:Int)) (.int .i64 zs) (.string zt) (.slice za1 zl1 zc1) (.slice za2 zl2 zc2))]).length=n1:=by rw[List.length_append,<-Hnl.out,Hn1.out];rfl
       have kw:Keep (q::G) w5 wz2:=((ka.trans hT1 (by simp)).nil.trans kC (fun b hb=>.inl (by simp[hb]))).trans hkz (fun b hb=>by
        simp only[List.mem_cons,List.not_mem_nil,or_false]at hb;rcases hb with rfl|rfl
        ·exact(hG' b (by simp)).elim (fun h=>.inl (by simp[h])) (fun h=>.inr (by omega))
        ·exact .inl (by simp))
       have kt:Keep (q::G) wt wz2:=(kC.weaken (fun b hb=>.inl (by simp[hb]))).trans hkz (fun b hb=>by
        simp only[List.mem_cons,List.not_mem_nil,or_false]at hb;rcases hb with rfl|rfl
        ·exact(hG' b (by simp)).elim (fun h=>.inl (by simp[h])) (fun h=>.inr (by omega))
        ·exact .inl (by simp))
       refine⟨⟨[g],.slice (some ⟨g,0,none⟩) n1 c',l++[(Six.mk (.int .i64 zk) (.int .u64 (zn:Int)) (.int .i64 zs) (.string zt) (.slice za1 zl1 zc1) (.slice za2 zl2 zc2))],hq9,.inr ⟨g,c',_,rfl,by rw[hl2],hb9,by simpa using hcs,?_,by rw[hl2];exact hle⟩,?_,fun b hb=>by
        rw[List.mem_singleton]at hb;subst hb;refine⟨hgq,fun hm=>?_⟩;rcases hG' b (by simp)with h|h
        ·exact(HG.out.1 b h).2 hm
        ·have:=(HG.out.2 b hm).1;omega⟩,q::G,kw,fun b hb=>?_⟩
       ·rw[hl2,<-List.append_assoc,List.take_left' (by rw[List.length_append,hA,Hn1.out];simp;omega),List.flatMap_append];rfl
       ·have hs:VtIn (fun b=>b<0\/wa.heap.size<=b) d wt (Six.mk (.int .i64 zk) (.int .u64 (zn:Int)) (.int .i64 zs) (.string zt) (.slice za1 zl1 zc1) (.slice za2 zl2 zc2)).agg yl:=VtIn.keep d hT3 (Keep.refl [] wt) (fun b hb=>by simp) (fun b hb _=>.inr hb);exact Sixes.step (L:=wa.heap.size) (M:=wt.heap.size) hSx hs kw kt (by omega) (fun b hb=>⟨(hGl b hb).1,by have:=(hGl b hb).2;omega⟩) (by omega) (by omega) (Nat.le_refl _) hG'
       ·simp only[List.mem_cons]at hb;rcases hb with rfl|hb
        ·exact⟨Nat.le_refl _,fun hm=>(HG.out.2 _ hm).2 rfl⟩
        ·exact⟨by have:=(hGl b hb).1;omega,(HG.out.1 b hb).2⟩)
      clear hkz hb9 hq9;obtain⟨e1,e2,e3,e4,e5⟩:=HE.out;clear HE;subst e1 e2 e3 e4 e5;go_wp2;go_roundw
      case rel=>
       obtain⟨hOz,S2,hSk,hSq⟩:=HF.out;refine⟨i+1,hi2,by go_num,Lib.hid ⟨S++S2,?_,fun p hp=>?_,?_⟩⟩
       ·exact(HR.out.1.trans HW5.out (by simp)).cat hSk (fun x hx=>.inl (by simp[hx])) (fun x hx=>.inl (by simp[hx]))
       ·rw[List.mem_append]at hp;exact hp.elim (HR.out.2.1 p) (fun h=>(hSq p h).1)
       ·rw[take_snoc Hy.out,List.map_append];exact hOz
      case measure=>simp[intOf];omega
    ·go_simp;have KZ:Keep [] wa (wa.alloc (.cells #[.int .i64 0,.int .u64 0,.int .i64 0,.string ⟨#[]⟩,.slice none 0 0,.slice none 0 0] 26)).drew:=((Keep.refl [] wa).alloc _).drew;have SZ:=HK.out wa _ KZ HS.out;have hbz:Blk (wa.alloc (.cells #[.int .i64 0,.int .u64 0,.int .i64 0,.string ⟨#[]⟩,.slice none 0 0,.slice none 0 0] 26)).drew wa.heap.size zsix.cells:=(Blk.new wa zsix.cells 26).drew;have hsz:(wa.alloc (.cells #[.int .i64 0,.int .u64 0,.int .i64 0,.string ⟨#[]⟩,.slice none 0 0,.slice none 0 0] 26)).drew.heap.size=wa.heap.size+1:=by simp
     have HZ:=qq4 KZ SZ hbz hsz;refine hK _ _ SZ ?_;clear hK K KZ SZ hbz hsz;generalize(wa.alloc (.cells #[.int .i64 0,.int .u64 0,.int .i64 0,.string ⟨#[]⟩,.slice none 0 0,.slice none 0 0] 26)).drew=wz at HZ ⊢;refine wpHead_ready (rs:=[3]) (by kernel_rfl) (by kernel_rfl) (by simp) ?_;refine headCons rfl (fun K hK=>?_) headNil;go_simp;refine(HB.out _ HZ.out.1).mono ?_;rintro e wt ⟨v',rfl,kB,hVB⟩;obtain⟨zk,zs,zn,zt,za1,za2,zl1,zc1,zl2,zc2,rfl⟩:=hVB.six;refine hK _ _ (HK.out _ _ kB HZ.out.2.1) ?_;clear hK K;have HT:=qq (show Keep [] wa wt/\Blk wt wa.heap.size zsix.cells/\VtIn (fun p=>wa.heap.size<=p) d wt (.agg #[.int .i64 zk,.int .u64 (zn:Int),.int .i64 zs,.string zt,.slice za1 zl1 zc1,.slice za2 zl2 zc2]) yl from⟨HZ.out.1.trans kB (by simp),HZ.out.2.2.1.keep kB (by simp),hVB.keep d (Keep.refl [] wt) (fun _ _=>by simp) (fun b hb _=>by have:=HZ.out.2.2.2;omega)⟩);clear kB hVB;refine wpHead_tail (by kernel_rfl) ?_;refine wpAny_ready (rs:=[6]) (by kernel_rfl) (by simp) ?_;refine(AllReady.cons rfl (fun K hK=>?_) AllReady.nil);rw[if_pos (by rfl)];refine wp_append_ownC (cf:=Six.cells) (G:=G) (l:=l) Six.len (by decide) _ _ 24 26 rfl i0 88 Tryz.underlying24 Hi.out.1 ⟨_,Hi.out.2.1,rfl⟩ Hi.out.2.2.1 Hi.out.2.2.2 rfl ((HO.out.1.keep HO.out.2.2.2.2.1 (by simp)).keep HT.out.1 (by simp)) _ [zsix] rfl (srcSix zsix (by simp[Value.oneCell',Six.cells,zsix]) HT.out.2.1) (by rw[<-Hnl.out];simp;omega) (by rw[<-Hnl.out];simp;omega) ?_;intro v'' wC G' hO' kC hG';rcases hO' with⟨_,_,hnil⟩|⟨g,c',cs,rfl,rfl,hbg,hcs,htk,hle⟩
     ·simp at hnil
     obtain⟨n1,hn1⟩:∃n1,n1=nl+1:=⟨_,rfl⟩;have hlen:(l++[zsix]).length=n1:=by rw[List.length_append,<-Hnl.out,hn1];rfl
     have hA:(l.flatMap Six.cells).length=nl*6:=by rw[flatMap_length Six.len,Hnl.out]
     obtain⟨R,hR⟩:∃R,cs=l.flatMap Six.cells++([.int .i64 0,.int .u64 0,.int .i64 0,.string ⟨#[]⟩,.slice none 0 0,.slice none 0 0]++R):=by
      refine⟨cs.drop (n1*6),?_⟩;rw[hlen,List.flatMap_append]at htk
      conv=>lhs;rw[<-List.take_append_drop (n1*6) cs]
      rw[htk,List.append_assoc];rfl
     subst hR;rw[hlen]at hle ⊢;have f0:wC.cell? ⟨g,nl*6,none⟩=some (.int .i64 0):=hbg.cell (i:=nl*6) (get_six _ R _ _ _ _ _ _ _ 0 hA (by omega));have f1:=hbg.cell (i:=nl*6+1) (get_six _ R _ _ _ _ _ _ _ 1 hA (by omega));have f2:=hbg.cell (i:=nl*6+2) (get_six _ R _ _ _ _ _ _ _ 2 hA (by omega));have f3:=hbg.cell (i:=nl*6+3) (get_six _ R _ _ _ _ _ _ _ 3 hA (by omega));have f4:=hbg.cell (i:=nl*6+4) (get_six _ R _ _ _ _ _ _ _ 4 hA (by omega));have f5:=hbg.cell (i:=nl*6+5) (get_six _ R _ _ _ _ _ _ _ 5 hA (by omega));have ff:=hbg.frozen;have hqG:q ∉ G:=fun hm=>by have:=(HO.out.2.2.1 q hm).1;omega
     have hqC:=((HO.out.2.2.2.1.keep HT.out.1 (by simp)).keep kC hqG);have cq:=hqC.cell (i:=0) rfl;have fq:=hqC.frozen;have hgq:q<g:=by
      rcases hG' g (by simp)with h|h
      ·exact(HO.out.2.2.1 g h).1
      ·have:=HT.out.1.size;have:=HO.out.2.2.2.2.2.1;have:=HO.out.2.2.2.2.2.2;omega
     have hqg1:¬q=g:=by omega
     have hqg2:¬g=q:=by omega
     have hnlt:(nl:Int)<(n1:Int):=by omega
     have Hn1:=qq hn1;have HC:=qq8 hbg hcs hle kC hG' hqC hA hgq;clear hbg hcs hle kC hG' hqC hA hgq htk hlen hqG hn1;refine hK _ _ ?_;clear hK K;refine wpAny_take (i:=7) (v:=?_) rfl (by kernel_rfl) (by kernel_rfl) (by kernel_rfl) (fun _ _ _ h=>h) (Or.inl ⟨by rfl,?_⟩) ?_
     rotate_left 1
     ·(intro w;go_simp;try with_reducible rfl)
     try simp only[Act.put,List.setIfInBounds_toArray,List.set_cons_zero,List.set_cons_succ]
     refine wpAny_ready (rs:=[8,9]) (by kernel_rfl) (by simp) ?_;refine AllReady.cons rfl (fun K hK=>?_) (AllReady.cons rfl (fun K hK=>?_) AllReady.nil)
     ·go_simp;refine hK _ _ ?_;clear hK K;refine wpAny_ready (rs:=[9]) (by kernel_rfl) (by simp) ?_;refine(AllReady.cons rfl (fun K hK=>?_) AllReady.nil);go_simp;refine hK _ _ ?_;clear hK K;refine wpAny_done (by kernel_rfl) ?_ _;have hkz:Keep (g::q::[]) wC (((((((wC.setCell ⟨g,nl*6,none⟩ (.int .i64 zk)).setCell ⟨g,nl*6+1,none⟩ (.int .u64 (zn:Int))).setCell ⟨g,nl*6+2,none⟩ (.int .i64 zs)).setCell ⟨g,nl*6+3,none⟩ (.string zt)).setCell ⟨g,nl*6+4,none⟩ (.slice za1 zl1 zc1)).setCell ⟨g,nl*6+5,none⟩ (.slice za2 zl2 zc2)).setCell ⟨q,0,none⟩ (.slice (some ⟨g,0,none⟩) n1 c')):=(((((((Keep.refl (g::q::[]) wC).set (.inl (by simp)) _ _ _).set (.inl (by simp)) _ _ _).set (.inl (by simp)) _ _ _).set (.inl (by simp)) _ _ _).set (.inl (by simp)) _ _ _).set (.inl (by simp)) _ _ _).set (.inl (by simp)) _ _ _;have hb9:=((((((HC.out.1.set (nl*6) (.int .i64 zk)).set (nl*6+1) (.int .u64 (zn:Int))).set (nl*6+2) (.int .i64 zs)).set (nl*6+3) (.string zt)).set (nl*6+4) (.slice za1 zl1 zc1)).set (nl*6+5) (.slice za2 zl2 zc2)).set_other hqg2 0 none (.slice (some ⟨g,0,none⟩) n1 c');have hq9:=((((((HC.out.2.2.2.2.2.1.set_other hqg1 (nl*6) none (.int .i64 zk)).set_other hqg1 (nl*6+1) none (.int .u64 (zn:Int))).set_other hqg1 (nl*6+2) none (.int .i64 zs)).set_other hqg1 (nl*6+3) none (.string zt)).set_other hqg1 (nl*6+4) none (.slice za1 zl1 zc1)).set_other hqg1 (nl*6+5) none (.slice za2 zl2 zc2)).set 0 (.slice (some ⟨g,0,none⟩) n1 c');rw[set_six _ R _ _ _ _ _ _ _ _ _ _ _ _ _ HC.out.2.2.2.2.2.2.1]at hb9;generalize((((((wC.setCell ⟨g,nl*6,none⟩ (.int .i64 zk)).setCell ⟨g,nl*6+1,none⟩ (.int .u64 (zn:Int))).setCell ⟨g,nl*6+2,none⟩ (.int .i64 zs)).setCell ⟨g,nl*6+3,none⟩ (.string zt)).setCell ⟨g,nl*6+4,none⟩ (.slice za1 zl1 zc1)).setCell ⟨g,nl*6+5,none⟩ (.slice za2 zl2 zc2)).setCell ⟨q,0,none⟩ (.slice (some ⟨g,0,none⟩) n1 c')=wz2 at hkz hb9 hq9 ⊢;clear f0 f1 f2 f3 f4 f5 ff cq fq;have HF:=qq (show OutSt d q av wz2 (ys++[yl])/\∃S,Keep S w5 wz2/\∀b ∈ S,q<=b/\b ∉ av by
       obtain⟨hbg,hcs,hle,kC,hG',hqC,hA,hgq⟩:=HC.out;obtain⟨hOw,hSx,hGl,hqa,ka,hsa,hql⟩:=HO.out;obtain⟨hT1,hT2,hT3⟩:=HT.out;have s1:=ka.size;have s2:=hT1.size;have hl2:(l++[(Six.mk (.int .i64 zk) (.int .u64 (zn:Int)) (.int .i64 zs) (.string zt) (.slice za1 zl1 zc1) (.slice za2 zl2 zc2))]).length=n1:=by rw[List.length_append,<-Hnl.out,Hn1.out];rfl
       have kw:Keep (q::G) w5 wz2:=((ka.trans hT1 (by simp)).nil.trans kC (fun b hb=>.inl (by simp[hb]))).trans hkz (fun b hb=>by
        simp only[List.mem_cons,List.not_mem_nil,or_false]at hb;rcases hb with rfl|rfl
        ·exact(hG' b (by simp)).elim (fun h=>.inl (by simp[h])) (fun h=>.inr (by omega))
        ·exact .inl (by simp))
       have kt:Keep (q::G) wt wz2:=(kC.weaken (fun b hb=>.inl (by simp[hb]))).trans hkz (fun b hb=>by
        simp only[List.mem_cons,List.not_mem_nil,or_false]at hb;rcases hb with rfl|rfl
        ·exact(hG' b (by simp)).elim (fun h=>.inl (by simp[h])) (fun h=>.inr (by omega))
        ·exact .inl (by simp))
       refine⟨⟨[g],.slice (some ⟨g,0,none⟩) n1 c',l++[(Six.mk (.int .i64 zk) (.int .u64 (zn:Int)) (.int .i64 zs) (.string zt) (.slice za1 zl1 zc1) (.slice za2 zl2 zc2))],hq9,.inr ⟨g,c',_,rfl,by rw[hl2],hb9,by simpa using hcs,?_,by rw[hl2];exact hle⟩,?_,fun b hb=>by
        rw[List.mem_singleton]at hb;subst hb;refine⟨hgq,fun hm=>?_⟩;rcases hG' b (by simp)with h|h
        ·exact(HG.out.1 b h).2 hm
        ·have:=(HG.out.2 b hm).1;omega⟩,q::G,kw,fun b hb=>?_⟩
       ·rw[hl2,<-List.append_assoc,List.take_left' (by rw[List.length_append,hA,Hn1.out];simp;omega),List.flatMap_append];rfl
       ·have hs:VtIn (fun b=>b<0\/wa.heap.size<=b) d wt (Six.mk (.int .i64 zk) (.int .u64 (zn:Int)) (.int .i64 zs) (.string zt) (.slice za1 zl1 zc1) (.slice za2 zl2 zc2)).agg yl:=VtIn.keep d hT3 (Keep.refl [] wt) (fun b hb=>by simp) (fun b hb _=>.inr hb);exact Sixes.step (L:=wa.heap.size) (M:=wt.heap.size) hSx hs kw kt (by omega) (fun b hb=>⟨(hGl b hb).1,by have:=(hGl b hb).2;omega⟩) (by omega) (by omega) (Nat.le_refl _) hG'
       ·simp only[List.mem_cons]at hb;rcases hb with rfl|hb
        ·exact⟨Nat.le_refl _,fun hm=>(HG.out.2 _ hm).2 rfl⟩
        ·exact⟨by have:=(hGl b hb).1;omega,(HG.out.1 b hb).2⟩)
      clear hkz hb9 hq9;obtain⟨e1,e2,e3,e4,e5⟩:=HE.out;clear HE;subst e1 e2 e3 e4 e5;go_wp2;go_roundw
      case rel=>
       obtain⟨hOz,S2,hSk,hSq⟩:=HF.out;refine⟨i+1,hi2,by go_num,Lib.hid ⟨S++S2,?_,fun p hp=>?_,?_⟩⟩
       ·exact(HR.out.1.trans HW5.out (by simp)).cat hSk (fun x hx=>.inl (by simp[hx])) (fun x hx=>.inl (by simp[hx]))
       ·rw[List.mem_append]at hp;exact hp.elim (HR.out.2.1 p) (fun h=>(hSq p h).1)
       ·rw[take_snoc Hy.out,List.map_append];exact hOz
      case measure=>simp[intOf];omega
     ·go_simp;refine hK _ _ ?_;clear hK K;refine wpAny_ready (rs:=[8]) (by kernel_rfl) (by simp) ?_;refine(AllReady.cons rfl (fun K hK=>?_) AllReady.nil);go_simp;refine hK _ _ ?_;clear hK K;refine wpAny_done (by kernel_rfl) ?_ _;have hkz:Keep (g::q::[]) wC ((((((((wC.setCell ⟨q,0,none⟩ (.slice (some ⟨g,0,none⟩) n1 c')).setCell ⟨g,nl*6,none⟩ (.int .i64 zk)).setCell ⟨g,nl*6+1,none⟩ (.int .u64 (zn:Int))).setCell ⟨g,nl*6+2,none⟩ (.int .i64 zs)).setCell ⟨g,nl*6+3,none⟩ (.string zt)).setCell ⟨g,nl*6+4,none⟩ (.slice za1 zl1 zc1)).setCell ⟨g,nl*6+5,none⟩ (.slice za2 zl2 zc2))):=((((((((Keep.refl (g::q::[]) wC).set (.inl (by simp)) _ _ _).set (.inl (by simp)) _ _ _).set (.inl (by simp)) _ _ _).set (.inl (by simp)) _ _ _).set (.inl (by simp)) _ _ _).set (.inl (by simp)) _ _ _).set (.inl (by simp)) _ _ _);have hb9:=(((((((HC.out.1.set_other hqg2 0 none (.slice (some ⟨g,0,none⟩) n1 c')).set (nl*6) (.int .i64 zk)).set (nl*6+1) (.int .u64 (zn:Int))).set (nl*6+2) (.int .i64 zs)).set (nl*6+3) (.string zt)).set (nl*6+4) (.slice za1 zl1 zc1)).set (nl*6+5) (.slice za2 zl2 zc2));have hq9:=(((((((HC.out.2.2.2.2.2.1.set 0 (.slice (some ⟨g,0,none⟩) n1 c')).set_other hqg1 (nl*6) none (.int .i64 zk)).set_other hqg1 (nl*6+1) none (.int .u64 (zn:Int))).set_other hqg1 (nl*6+2) none (.int .i64 zs)).set_other hqg1 (nl*6+3) none (.string zt)).set_other hqg1 (nl*6+4) none (.slice za1 zl1 zc1)).set_other hqg1 (nl*6+5) none (.slice za2 zl2 zc2));rw[set_six _ R _ _ _ _ _ _ _ _ _ _ _ _ _ HC.out.2.2.2.2.2.2.1]at hb9;generalize(((((((wC.setCell ⟨q,0,none⟩ (.slice (some ⟨g,0,none⟩) n1 c')).setCell ⟨g,nl*6,none⟩ (.int .i64 zk)).setCell ⟨g,nl*6+1,none⟩ (.int .u64 (zn:Int))).setCell ⟨g,nl*6+2,none⟩ (.int .i64 zs)).setCell ⟨g,nl*6+3,none⟩ (.string zt)).setCell ⟨g,nl*6+4,none⟩ (.slice za1 zl1 zc1)).setCell ⟨g,nl*6+5,none⟩ (.slice za2 zl2 zc2))=wz2 at hkz hb9 hq9 ⊢;clear f0 f1 f2 f3 f4 f5 ff cq fq;have HF:=qq (show OutSt d q av wz2 (ys++[yl])/\∃S,Keep S w5 wz2/\∀b ∈ S,q<=b/\b ∉ av by
       obtain⟨hbg,hcs,hle,kC,hG',hqC,hA,hgq⟩:=HC.out;obtain⟨hOw,hSx,hGl,hqa,ka,hsa,hql⟩:=HO.out;obtain⟨hT1,hT2,hT3⟩:=HT.out;have s1:=ka.size;have s2:=hT1.size;have hl2:(l++[(Six.mk (.int .i64 zk) (.int .u64 (zn:Int)) (.int .i64 zs) (.string zt) (.slice za1 zl1 zc1) (.slice za2 zl2 zc2))]).length=n1:=by rw[List.length_append,<-Hnl.out,Hn1.out];rfl
       have kw:Keep (q::G) w5 wz2:=((ka.trans hT1 (by simp)).nil.trans kC (fun b hb=>.inl (by simp[hb]))).trans hkz (fun b hb=>by
        simp only[List.mem_cons,List.not_mem_nil,or_false]at hb;rcases hb with rfl|rfl
        ·exact(hG' b (by simp)).elim (fun h=>.inl (by simp[h])) (fun h=>.inr (by omega))
        ·exact .inl (by simp))
       have kt:Keep (q::G) wt wz2:=(kC.weaken (fun b hb=>.inl (by simp[hb]))).trans hkz (fun b hb=>by
        simp only[List.mem_cons,List.not_mem_nil,or_false]at hb;rcases hb with rfl|rfl
        ·exact(hG' b (by simp)).elim (fun h=>.inl (by simp[h])) (fun h=>.inr (by omega))
        ·exact .inl (by simp))
       refine⟨⟨[g],.slice (some ⟨g,0,none⟩) n1 c',l++[(Six.mk (.int .i64 zk) (.int .u64 (zn:Int)) (.int .i64 zs) (.string zt) (.slice za1 zl1 zc1) (.slice za2 zl2 zc2))],hq9,.inr ⟨g,c',_,rfl,by rw[hl2],hb9,by simpa using hcs,?_,by rw[hl2];exact hle⟩,?_,fun b hb=>by
        rw[List.mem_singleton]at hb;subst hb;refine⟨hgq,fun hm=>?_⟩;rcases hG' b (by simp)with h|h
        ·exact(HG.out.1 b h).2 hm
        ·have:=(HG.out.2 b hm).1;omega⟩,q::G,kw,fun b hb=>?_⟩
       ·rw[hl2,<-List.append_assoc,List.take_left' (by rw[List.length_append,hA,Hn1.out];simp;omega),List.flatMap_append];rfl
       ·have hs:VtIn (fun b=>b<0\/wa.heap.size<=b) d wt (Six.mk (.int .i64 zk) (.int .u64 (zn:Int)) (.int .i64 zs) (.string zt) (.slice za1 zl1 zc1) (.slice za2 zl2 zc2)).agg yl:=VtIn.keep d hT3 (Keep.refl [] wt) (fun b hb=>by simp) (fun b hb _=>.inr hb);exact Sixes.step (L:=wa.heap.size) (M:=wt.heap.size) hSx hs kw kt (by omega) (fun b hb=>⟨(hGl b hb).1,by have:=(hGl b hb).2;omega⟩) (by omega) (by omega) (Nat.le_refl _) hG'
       ·simp only[List.mem_cons]at hb;rcases hb with rfl|hb
        ·exact⟨Nat.le_refl _,fun hm=>(HG.out.2 _ hm).2 rfl⟩
        ·exact⟨by have:=(hGl b hb).1;omega,(HG.out.1 b hb).2⟩)
      clear hkz hb9 hq9;obtain⟨e1,e2,e3,e4,e5⟩:=HE.out;clear HE;subst e1 e2 e3 e4 e5;go_wp2;go_roundw
      case rel=>
       obtain⟨hOz,S2,hSk,hSq⟩:=HF.out;refine⟨i+1,hi2,by go_num,Lib.hid ⟨S++S2,?_,fun p hp=>?_,?_⟩⟩
       ·exact(HR.out.1.trans HW5.out (by simp)).cat hSk (fun x hx=>.inl (by simp[hx])) (fun x hx=>.inl (by simp[hx]))
       ·rw[List.mem_append]at hp;exact hp.elim (HR.out.2.1 p) (fun h=>(hSq p h).1)
       ·rw[take_snoc Hy.out,List.map_append];exact hOz
      case measure=>simp[intOf];omega
   ·have hik:i=k:=by omega
    subst hik;have hnl:¬(i:Int)<(i:Int):=by omega
    have hct:cs.take i=cs:=List.take_of_length_le (by rw[Hk.out];exact Nat.le_refl _);rw[hct]at HR;have HZ:=qq (show Keep S w wr/\(∀b ∈ S,w.heap.size+1+1<=b)/\OutSt d (w.heap.size+1+1) [] wr (cs.map (lwV d))from⟨((H3.out.1.trans H4.out (by simp)).nil).trans HR.out.1 (fun b hb=>.inl hb),HR.out.2.1,HR.out.2.2⟩);clear hct K0;obtain⟨SZ,hSZ⟩:∃SZ,SZ=S:=⟨_,rfl⟩;rw[<-hSZ]at HZ;clear hSZ;generalize wr=wZ at HZ ⊢;obtain⟨G,ov,l,hq7,hO7,hS7,hG7⟩:=HZ.out.2.2;obtain⟨ra,rn,rc,hrv⟩:=hO7.shape2;subst hrv;have c0:=hq7.cell (i:=0) rfl;have fq:=hq7.frozen;have H7:=qq4 hq7 hO7 hS7 hG7;clear hq7 hO7 hS7 hG7;go_wp2;have hqz:=H7.out.1.set 0 (.slice ra rn rc);have z0:=hqz.cell (i:=0) rfl;refine bodyPost_ret (v:=.slice ra rn rc) ?_ rfl ?_
    ·rw[results_cell1 rfl];go_simp
    ·have hql:w.heap.size<=w.heap.size+1+1:=by omega
     have kz:Keep [w.heap.size+1+1] wZ (wZ.setCell ⟨w.heap.size+1+1,0,none⟩ (.slice ra rn rc)):=(Keep.refl _ wZ).set (.inl (by simp)) _ _ _;exact OutSt.kids (q:=w.heap.size+1+1) (av:=[]) (S:=(w.heap.size+1+1)::SZ) ((HZ.out.1.weaken (fun b hb=>.inl (by simp[hb]))).trans kz (fun b hb=>.inl (by simp at hb;simp[hb]))) (fun b hb=>by simp only[List.mem_cons]at hb;rcases hb with rfl|hb;exact hql;have:=HZ.out.2.1 b hb;omega) hql
      (H7.out.2.1.keep kz (fun b hb hm=>by simp at hm;have:=(H7.out.2.2.2 b hb).1;omega)) (H7.out.2.2.1.mono fun u x h=>h.keep d kz (fun b hb hm=>by simp at hm;rcases hb with hb|hb<;>omega) (fun b hb _=>hb)) (fun b hb=>(H7.out.2.2.2 b hb).1)
end Go.Proofs.YtocgdgmfnockiaaGreatDoor
