/- Variants back: an element more of an array (elementsOf's closure). -/
import Derived.Test.YtocgdgmfnockiaaGreatDoorV02
import Derived.Test.YtocgdgmfnockiaaGreatDoorV22
import Derived.Test.YtocgdgmfnockiaaGreatDoorV38
set_option linter.unusedVariables false
set_option linter.unusedSimpArgs false
set_option maxRecDepth 100000
set_option maxHeartbeats 8000000
namespace Go.Proofs.YtocgdgmfnockiaaGreatDoor
open Go.RowKit

def OutSt (d q:Nat) (av:List Nat) (w:World) (ys:List (Vt d)):Prop:=∃(G:List Nat) (ov:Value) (l:List Six),Blk w q [ov]/\OwnC Six.cells 6 G w ov l/\Sixes (VtIn (fun b=>b<0\/(q<b/\b ∉ G)) d w) l ys/\∀b ∈ G,q<b/\b ∉ av
theorem OutSt.keep {d q:Nat} {av S:List Nat} {w w':World} {ys:List (Vt d)} (h:OutSt d q av w ys) (k:Keep S w w') (hS:∀b ∈ S,b<q):OutSt d q av w' ys:=by
 obtain⟨G,ov,l,h1,h2,h3,h4⟩:=h;refine⟨G,ov,l,h1.keep k (fun hm=>by have:=hS _ hm;omega),h2.keep k (fun b hb hm=>by have:=hS _ hm;have:=h4 b hb;omega),h3.mono fun u x hx=>hx.keep d k (fun b hb hm=>?_) (fun b hb _=>hb),h4⟩;have:=hS b hm;rcases hb with hb|hb<;>omega
def zsix:Six:=⟨.int .i64 0,.int .u64 0,.int .i64 0,.string ⟨#[]⟩,.slice none 0 0,.slice none 0 0⟩
theorem set_six (A R:List Value) (z0 z1 z2 z3 z4 z5 u0 u1 u2 u3 u4 u5:Value) (n:Nat) (hA:A.length=n):
  ((((((A++([z0,z1,z2,z3,z4,z5]++R)).set n u0).set (n+1) u1).set (n+2) u2).set (n+3) u3).set (n+4) u4).set (n+5) u5=A++([u0,u1,u2,u3,u4,u5]++R):=by
 subst hA;simp[List.set_append]
theorem get_six (A R:List Value) (z0 z1 z2 z3 z4 z5:Value) (n j:Nat) (hA:A.length=n) (hj:j<6):(A++([z0,z1,z2,z3,z4,z5]++R))[n+j]?=[z0,z1,z2,z3,z4,z5][j]?:=by
 subst hA;rw[List.getElem?_append_right (by omega),Nat.add_sub_cancel_left,List.getElem?_append_left (by simpa using hj)]
theorem elem1C (d q hb:Nat) (how:Int) (b o n c:Nat) (ma ko:Option Addr) (mn mc kn kc:Nat) (y:Vt d) (ys:List (Vt d)) (w:World) (av:List Nat) (hO:OutSt d q av w ys) (hav:∀a ∈ av,a<w.heap.size/\a≠q) (hH:Blk w hb [.int .i64 how]) (hbq:hb<q) (hys:ys.length<=1000)
  (hback:∀wx,Keep [] w wx->Calls Tryz.prog 26 #[.agg #[.slice (some ⟨b,o,none⟩) n c,.slice ma mn mc,.slice ko kn kc],.int .i64 how] wx fun e w'=>∃v',e=.returned v'/\Keep [] wx w'/\VtIn (fun p=>wx.heap.size<=p) d w' v' y):
  Calls Tryz.prog 123 #[.agg #[.slice (some ⟨b,o,none⟩) n c,.slice ma mn mc,.slice ko kn kc],.pointer (some ⟨q,0,none⟩),.pointer (some ⟨hb,0,none⟩)] w fun e w'=>e=.returned (.bool true)/\OutSt d q av w' (ys++[y])/\∃S,Keep S w w'/\∀b ∈ S,q<=b/\b ∉ av:=by
 obtain⟨G,ov,l,hq,hOw,hSx,hG⟩:=hO;obtain⟨ao,cc,hov,hcc⟩:=hOw.shape;obtain⟨nl,hnl⟩:∃nl,nl=l.length:=⟨_,rfl⟩;rw[<-hnl]at hov hcc;subst hov;have hnl1:nl<=1000:=by rw[hnl,hSx.1];exact hys
 obtain⟨wa,hwa⟩:∃wa,wa=w.alloc (.cells #[.slice (some ⟨b,o,none⟩) n c,.slice ma mn mc,.slice ko kn kc] 57):=⟨_,rfl⟩;obtain⟨yb,hyb⟩:∃yb,yb=w.heap.size:=⟨_,rfl⟩;have ka:Keep [] w wa:=by rw[hwa];exact(Keep.refl [] w).alloc _
 have hya:Blk wa yb [.slice (some ⟨b,o,none⟩) n c,.slice ma mn mc,.slice ko kn kc]:=by rw[hwa,hyb];exact Blk.new w _ _
 have hqa:=hq.keep ka (by simp);have hha:=hH.keep ka (by simp);have hsa:wa.heap.size=yb+1:=by rw[hwa,hyb];simp
 have hql:q<yb:=by rw[hyb];exact hq.lt
 have hGl:∀b ∈ G,q<b/\b<yb:=fun b hb=>⟨(hG b hb).1,by rw[hyb];exact hOw.lt b hb⟩;have HG:=qq2 hG hav;have HS:=qq (show(fun w':World=>w'.cell? ⟨yb,0,none⟩=some (.slice (some ⟨b,o,none⟩) n c)/\w'.cell? ⟨yb,1,none⟩=some (.slice ma mn mc)/\w'.cell? ⟨yb,2,none⟩=some (.slice ko kn kc)/\w'.cell? ⟨hb,0,none⟩=some (.int .i64 how)/\w'.cell? ⟨q,0,none⟩=some (.slice ao nl cc)) wa from⟨hya.cell rfl,hya.cell rfl,hya.cell rfl,hha.cell rfl,hqa.cell rfl⟩);have HK:=qq (fun(w1 w2:World) (k:Keep [] w1 w2) (h:(fun w':World=>w'.cell? ⟨yb,0,none⟩=some (.slice (some ⟨b,o,none⟩) n c)/\w'.cell? ⟨yb,1,none⟩=some (.slice ma mn mc)/\w'.cell? ⟨yb,2,none⟩=some (.slice ko kn kc)/\w'.cell? ⟨hb,0,none⟩=some (.int .i64 how)/\w'.cell? ⟨q,0,none⟩=some (.slice ao nl cc)) w1)=>(show(fun w':World=>w'.cell? ⟨yb,0,none⟩=some (.slice (some ⟨b,o,none⟩) n c)/\w'.cell? ⟨yb,1,none⟩=some (.slice ma mn mc)/\w'.cell? ⟨yb,2,none⟩=some (.slice ko kn kc)/\w'.cell? ⟨hb,0,none⟩=some (.int .i64 how)/\w'.cell? ⟨q,0,none⟩=some (.slice ao nl cc)) w2 from
  ⟨k.cell_some h.1 (by simp),k.cell_some h.2.1 (by simp),k.cell_some h.2.2.1 (by simp),k.cell_some h.2.2.2.1 (by simp),k.cell_some h.2.2.2.2 (by simp)⟩))
 have HB:=qq (fun(wx:World) (kx:Keep [] wa wx)=>hback wx (ka.trans kx (by simp)));have HW:=qq2 hwa hyb;have HO:=qq7 hOw hSx hGl hqa ka hsa hql;have Hnl:=qq hnl;obtain⟨i0,hi0,hz0,hz1,hz2⟩:=info_parts info_var;have Hi:=qq4 hi0 hz0 hz1 hz2;clear hq hOw hSx hG hav hH hback hwa hyb ka hya hqa hha hsa hql hGl hnl hi0 hz0 hz1 hz2
 go_enter Tryz.func123,Tryz.ntmps123
 go_wp2_with fail
 rw[<-HW.out.1,<-HW.out.2];refine wp_region_head (fun w'=>w'.cell? ⟨yb,0,none⟩=some (.slice (some ⟨b,o,none⟩) n c)/\w'.cell? ⟨yb,1,none⟩=some (.slice ma mn mc)/\w'.cell? ⟨yb,2,none⟩=some (.slice ko kn kc)/\w'.cell? ⟨hb,0,none⟩=some (.int .i64 how)/\w'.cell? ⟨q,0,none⟩=some (.slice ao nl cc)) 6 (by kernel_rfl) ?_;change wpHead _ _ _ _ _ _ _ _ _ (World.drew _);refine wpHead_take (i:=0) (v:=?_) rfl (by rfl) (by kernel_rfl) (by kernel_rfl) (by kernel_rfl) (by kernel_rfl) (by kernel_rfl) (fun _ _ _ h=>h) HS.out (Or.inl ⟨by rfl,?_⟩) ?_
 rotate_left 1
 ·(intro w hSw;(try dsimp only at hSw);go_simp;try with_reducible rfl)
 try simp only[Act.put,List.setIfInBounds_toArray,List.set_cons_zero,List.set_cons_succ]
 refine wpHead_take (i:=1) (v:=?_) rfl (by rfl) (by kernel_rfl) (by kernel_rfl) (by kernel_rfl) (by kernel_rfl) (by kernel_rfl) (fun _ _ _ h=>h) HS.out (Or.inl ⟨by rfl,?_⟩) ?_
 rotate_left 1
 ·(intro w hSw;(try dsimp only at hSw);go_simp;try with_reducible rfl)
 try simp only[Act.put,List.setIfInBounds_toArray,List.set_cons_zero,List.set_cons_succ]
 refine wpHead_take (i:=2) (v:=?_) rfl (by rfl) (by kernel_rfl) (by kernel_rfl) (by kernel_rfl) (by kernel_rfl) (by kernel_rfl) (fun _ _ _ h=>h) HS.out (Or.inl ⟨by rfl,?_⟩) ?_
 rotate_left 1
 ·(intro w hSw;(try dsimp only at hSw);go_simp;try with_reducible rfl)
 try simp only[Act.put,List.setIfInBounds_toArray,List.set_cons_zero,List.set_cons_succ]
 refine wpHead_take (i:=4) (v:=?_) rfl (by rfl) (by kernel_rfl) (by kernel_rfl) (by kernel_rfl) (by kernel_rfl) (by kernel_rfl) (fun _ _ _ h=>h) HS.out (Or.inl ⟨by rfl,?_⟩) ?_
 rotate_left 1
 ·(intro w hSw;(try dsimp only at hSw);go_simp;try with_reducible rfl)
 try simp only[Act.put,List.setIfInBounds_toArray,List.set_cons_zero,List.set_cons_succ]
 refine wpHead_ready (rs:=[3,5]) (by kernel_rfl) (by kernel_rfl) (by simp) ?_;refine headCons rfl (fun K hK=>?_) (headCons rfl (fun K hK=>?_) headNil)
 ·go_simp;refine(HB.out _ (Keep.refl [] wa).drew).mono ?_;rintro e wB ⟨v',rfl,kB,hVB⟩;obtain⟨zk,zs,zn,zt,za1,za2,zl1,zc1,zl2,zc2,rfl⟩:=hVB.six;have KB:Keep [] wa wB:=(Keep.refl [] wa).drew.trans kB (by simp);have SB:=HK.out wa wB KB HS.out;have HB2:=qq3 KB hVB SB;clear KB hVB kB;refine hK _ _ SB ?_;clear hK K SB;refine wpHead_ready (rs:=[5]) (by kernel_rfl) (by kernel_rfl) (by simp) ?_;refine headCons rfl (fun K hK=>?_) headNil;go_simp;refine hK _ _ (HK.out wB _ ((Keep.refl [] wB).alloc _) HB2.out.2.2) ?_;clear hK K;have HT:=qq (show Keep [] wa (wB.alloc (.cells #[.int .i64 0,.int .u64 0,.int .i64 0,.string ⟨#[]⟩,.slice none 0 0,.slice none 0 0] 26))/\Blk (wB.alloc (.cells #[.int .i64 0,.int .u64 0,.int .i64 0,.string ⟨#[]⟩,.slice none 0 0,.slice none 0 0] 26)) wB.heap.size zsix.cells/\VtIn (fun p=>wa.heap.size<=p) d (wB.alloc (.cells #[.int .i64 0,.int .u64 0,.int .i64 0,.string ⟨#[]⟩,.slice none 0 0,.slice none 0 0] 26)) (.agg #[.int .i64 zk,.int .u64 (zn:Int),.int .i64 zs,.string zt,.slice za1 zl1 zc1,.slice za2 zl2 zc2]) y from⟨HB2.out.1.alloc _,Blk.new wB _ _,HB2.out.2.1.keep d ((Keep.refl [] wB).alloc _) (fun _ _=>by simp) (fun b hb _=>hb)⟩);generalize wB.alloc (.cells #[.int .i64 0,.int .u64 0,.int .i64 0,.string ⟨#[]⟩,.slice none 0 0,.slice none 0 0] 26)=wt at HT ⊢;generalize wB.heap.size=zb at HT ⊢;refine wpHead_tail (by kernel_rfl) ?_;refine wpAny_ready (rs:=[6]) (by kernel_rfl) (by simp) ?_;refine(AllReady.cons rfl (fun K hK=>?_) AllReady.nil);rw[if_pos (by rfl)];refine wp_append_ownC (cf:=Six.cells) (G:=G) (l:=l) Six.len (by decide) _ _ 24 26 rfl i0 88 Tryz.underlying24 Hi.out.1 ⟨_,Hi.out.2.1,rfl⟩ Hi.out.2.2.1 Hi.out.2.2.2 rfl ((HO.out.1.keep HO.out.2.2.2.2.1 (by simp)).keep HT.out.1 (by simp)) _ [zsix] rfl (srcSix zsix (by simp[Value.oneCell',Six.cells,zsix]) HT.out.2.1) (by rw[<-Hnl.out];simp;omega) (by rw[<-Hnl.out];simp;omega) ?_;intro v'' wC G' hO' kC hG';rcases hO' with⟨_,_,hnil⟩|⟨g,c',cs,rfl,rfl,hbg,hcs,htk,hle⟩
  ·simp at hnil
  obtain⟨n1,hn1⟩:∃n1,n1=nl+1:=⟨_,rfl⟩;have hlen:(l++[zsix]).length=n1:=by rw[List.length_append,<-Hnl.out,hn1];rfl
  have hA:(l.flatMap Six.cells).length=nl*6:=by rw[flatMap_length Six.len,Hnl.out]
  obtain⟨R,hR⟩:∃R,cs=l.flatMap Six.cells++([.int .i64 0,.int .u64 0,.int .i64 0,.string ⟨#[]⟩,.slice none 0 0,.slice none 0 0]++R):=by
   refine⟨cs.drop (n1*6),?_⟩;rw[hlen,List.flatMap_append]at htk
   conv=>lhs;rw[<-List.take_append_drop (n1*6) cs]
   rw[htk,List.append_assoc];rfl
  subst hR;rw[hlen]at hle ⊢;have f0:wC.cell? ⟨g,nl*6,none⟩=some (.int .i64 0):=hbg.cell (i:=nl*6) (get_six _ R _ _ _ _ _ _ _ 0 hA (by omega));have f1:=hbg.cell (i:=nl*6+1) (get_six _ R _ _ _ _ _ _ _ 1 hA (by omega));have f2:=hbg.cell (i:=nl*6+2) (get_six _ R _ _ _ _ _ _ _ 2 hA (by omega));have f3:=hbg.cell (i:=nl*6+3) (get_six _ R _ _ _ _ _ _ _ 3 hA (by omega));have f4:=hbg.cell (i:=nl*6+4) (get_six _ R _ _ _ _ _ _ _ 4 hA (by omega));have f5:=hbg.cell (i:=nl*6+5) (get_six _ R _ _ _ _ _ _ _ 5 hA (by omega));have ff:=hbg.frozen;have hqG:q ∉ G:=fun hm=>by have:=(HO.out.2.2.1 q hm).1;omega
  have hqC:=((HO.out.2.2.2.1.keep HT.out.1 (by simp)).keep kC hqG);have cq:=hqC.cell (i:=0) rfl;have fq:=hqC.frozen;have hgq:q<g:=by
   rcases hG' g (by simp)with h|h
   ·exact(HO.out.2.2.1 g h).1
   ·have:=HT.out.1.size;have:=HO.out.2.2.2.2.2.1;have:=HO.out.2.2.2.2.2.2;omega
  have hqg1:¬q=g:=by omega
  have hqg2:¬g=q:=by omega
  have hnlt:(nl:Int)<(n1:Int):=by omega
  have Hn1:=qq hn1;have HC:=qq8 hbg hcs hle kC hG' hqC hA hgq;clear hbg hcs hle kC hG' hqC hA hgq htk hlen hqG hn1;refine hK _ _ ?_;clear hK K;refine wpAny_take (i:=7) (v:=?_) rfl (by kernel_rfl) (by kernel_rfl) (by kernel_rfl) (fun _ _ _ h=>h) (Or.inl ⟨by rfl,?_⟩) ?_
  rotate_left 1
  ·(intro w;go_simp;try with_reducible rfl)
  try simp only[Act.put,List.setIfInBounds_toArray,List.set_cons_zero,List.set_cons_succ]
  refine wpAny_ready (rs:=[8,9]) (by kernel_rfl) (by simp) ?_;refine AllReady.cons rfl (fun K hK=>?_) (AllReady.cons rfl (fun K hK=>?_) AllReady.nil)
  ·go_simp;refine hK _ _ ?_;clear hK K;refine wpAny_ready (rs:=[9]) (by kernel_rfl) (by simp) ?_;refine(AllReady.cons rfl (fun K hK=>?_) AllReady.nil);go_simp;refine hK _ _ ?_;clear hK K;refine wpAny_done (by kernel_rfl) ?_ _;have hkz:Keep (g::q::[]) wC (((((((wC.setCell ⟨g,nl*6,none⟩ (.int .i64 zk)).setCell ⟨g,nl*6+1,none⟩ (.int .u64 (zn:Int))).setCell ⟨g,nl*6+2,none⟩ (.int .i64 zs)).setCell ⟨g,nl*6+3,none⟩ (.string zt)).setCell ⟨g,nl*6+4,none⟩ (.slice za1 zl1 zc1)).setCell ⟨g,nl*6+5,none⟩ (.slice za2 zl2 zc2)).setCell ⟨q,0,none⟩ (.slice (some ⟨g,0,none⟩) n1 c')):=(((((((Keep.refl (g::q::[]) wC).set (.inl (by simp)) _ _ _).set (.inl (by simp)) _ _ _).set (.inl (by simp)) _ _ _).set (.inl (by simp)) _ _ _).set (.inl (by simp)) _ _ _).set (.inl (by simp)) _ _ _).set (.inl (by simp)) _ _ _;have hb9:=((((((HC.out.1.set (nl*6) (.int .i64 zk)).set (nl*6+1) (.int .u64 (zn:Int))).set (nl*6+2) (.int .i64 zs)).set (nl*6+3) (.string zt)).set (nl*6+4) (.slice za1 zl1 zc1)).set (nl*6+5) (.slice za2 zl2 zc2)).set_other hqg2 0 none (.slice (some ⟨g,0,none⟩) n1 c');have hq9:=((((((HC.out.2.2.2.2.2.1.set_other hqg1 (nl*6) none (.int .i64 zk)).set_other hqg1 (nl*6+1) none (.int .u64 (zn:Int))).set_other hqg1 (nl*6+2) none (.int .i64 zs)).set_other hqg1 (nl*6+3) none (.string zt)).set_other hqg1 (nl*6+4) none (.slice za1 zl1 zc1)).set_other hqg1 (nl*6+5) none (.slice za2 zl2 zc2)).set 0 (.slice (some ⟨g,0,none⟩) n1 c');rw[set_six _ R _ _ _ _ _ _ _ _ _ _ _ _ _ HC.out.2.2.2.2.2.2.1]at hb9;generalize((((((wC.setCell ⟨g,nl*6,none⟩ (.int .i64 zk)).setCell ⟨g,nl*6+1,none⟩ (.int .u64 (zn:Int))).setCell ⟨g,nl*6+2,none⟩ (.int .i64 zs)).setCell ⟨g,nl*6+3,none⟩ (.string zt)).setCell ⟨g,nl*6+4,none⟩ (.slice za1 zl1 zc1)).setCell ⟨g,nl*6+5,none⟩ (.slice za2 zl2 zc2)).setCell ⟨q,0,none⟩ (.slice (some ⟨g,0,none⟩) n1 c')=wz2 at hkz hb9 hq9 ⊢;clear f0 f1 f2 f3 f4 f5 ff cq fq;have HF:=qq (show OutSt d q av wz2 (ys++[y])/\∃S,Keep S w wz2/\∀b ∈ S,q<=b/\b ∉ av by
    obtain⟨hbg,hcs,hle,kC,hG',hqC,hA,hgq⟩:=HC.out;obtain⟨hOw,hSx,hGl,hqa,ka,hsa,hql⟩:=HO.out;obtain⟨hT1,hT2,hT3⟩:=HT.out;have s1:=ka.size;have s2:=hT1.size;have hl2:(l++[(Six.mk (.int .i64 zk) (.int .u64 (zn:Int)) (.int .i64 zs) (.string zt) (.slice za1 zl1 zc1) (.slice za2 zl2 zc2))]).length=n1:=by rw[List.length_append,<-Hnl.out,Hn1.out];rfl
    have kw:Keep (q::G) w wz2:=((ka.trans hT1 (by simp)).nil.trans kC (fun b hb=>.inl (by simp[hb]))).trans hkz (fun b hb=>by
     simp only[List.mem_cons,List.not_mem_nil,or_false]at hb;rcases hb with rfl|rfl
     ·exact(hG' b (by simp)).elim (fun h=>.inl (by simp[h])) (fun h=>.inr (by omega))
     ·exact .inl (by simp))
    have kt:Keep (q::G) wt wz2:=(kC.weaken (fun b hb=>.inl (by simp[hb]))).trans hkz (fun b hb=>by
     simp only[List.mem_cons,List.not_mem_nil,or_false]at hb;rcases hb with rfl|rfl
     ·exact(hG' b (by simp)).elim (fun h=>.inl (by simp[h])) (fun h=>.inr (by omega))
     ·exact .inl (by simp))
    refine⟨⟨[g],.slice (some ⟨g,0,none⟩) n1 c',l++[(Six.mk (.int .i64 zk) (.int .u64 (zn:Int)) (.int .i64 zs) (.string zt) (.slice za1 zl1 zc1) (.slice za2 zl2 zc2))],hq9,.inr ⟨g,c',_,rfl,by rw[hl2],hb9,by simpa using hcs,?_,by rw[hl2];exact hle⟩,?_,fun b hb=>by
     rw[List.mem_singleton]at hb;subst hb;refine⟨hgq,fun hm=>?_⟩;rcases hG' b (by simp)with h|h
     ·exact(HG.out.1 b h).2 hm
     ·have:=(HG.out.2 b hm).1;omega⟩,q::G,kw,fun b hb=>?_⟩
    ·rw[hl2,<-List.append_assoc,List.take_left' (by rw[List.length_append,hA,Hn1.out];simp;omega),List.flatMap_append];rfl
    ·have hs:VtIn (fun b=>b<0\/wa.heap.size<=b) d wt (Six.mk (.int .i64 zk) (.int .u64 (zn:Int)) (.int .i64 zs) (.string zt) (.slice za1 zl1 zc1) (.slice za2 zl2 zc2)).agg y:=VtIn.keep d hT3 (Keep.refl [] wt) (fun b hb=>by simp) (fun b hb _=>.inr hb);exact Sixes.step (L:=wa.heap.size) (M:=wt.heap.size) hSx hs kw kt (by omega) (fun b hb=>⟨(hGl b hb).1,by have:=(hGl b hb).2;omega⟩) (by omega) (by omega) (Nat.le_refl _) hG'
    ·simp only[List.mem_cons]at hb;rcases hb with rfl|hb
     ·exact⟨Nat.le_refl _,fun hm=>(HG.out.2 _ hm).2 rfl⟩
     ·exact⟨by have:=(hGl b hb).1;omega,(HG.out.1 b hb).2⟩)
   clear hkz hb9 hq9;go_wp2;go_ret;exact⟨rfl,HF.out⟩
  ·go_simp;refine hK _ _ ?_;clear hK K;refine wpAny_ready (rs:=[8]) (by kernel_rfl) (by simp) ?_;refine(AllReady.cons rfl (fun K hK=>?_) AllReady.nil);go_simp;refine hK _ _ ?_;clear hK K;refine wpAny_done (by kernel_rfl) ?_ _;have hkz:Keep (g::q::[]) wC ((((((((wC.setCell ⟨q,0,none⟩ (.slice (some ⟨g,0,none⟩) n1 c')).setCell ⟨g,nl*6,none⟩ (.int .i64 zk)).setCell ⟨g,nl*6+1,none⟩ (.int .u64 (zn:Int))).setCell ⟨g,nl*6+2,none⟩ (.int .i64 zs)).setCell ⟨g,nl*6+3,none⟩ (.string zt)).setCell ⟨g,nl*6+4,none⟩ (.slice za1 zl1 zc1)).setCell ⟨g,nl*6+5,none⟩ (.slice za2 zl2 zc2))):=((((((((Keep.refl (g::q::[]) wC).set (.inl (by simp)) _ _ _).set (.inl (by simp)) _ _ _).set (.inl (by simp)) _ _ _).set (.inl (by simp)) _ _ _).set (.inl (by simp)) _ _ _).set (.inl (by simp)) _ _ _).set (.inl (by simp)) _ _ _);have hb9:=(((((((HC.out.1.set_other hqg2 0 none (.slice (some ⟨g,0,none⟩) n1 c')).set (nl*6) (.int .i64 zk)).set (nl*6+1) (.int .u64 (zn:Int))).set (nl*6+2) (.int .i64 zs)).set (nl*6+3) (.string zt)).set (nl*6+4) (.slice za1 zl1 zc1)).set (nl*6+5) (.slice za2 zl2 zc2));have hq9:=(((((((HC.out.2.2.2.2.2.1.set 0 (.slice (some ⟨g,0,none⟩) n1 c')).set_other hqg1 (nl*6) none (.int .i64 zk)).set_other hqg1 (nl*6+1) none (.int .u64 (zn:Int))).set_other hqg1 (nl*6+2) none (.int .i64 zs)).set_other hqg1 (nl*6+3) none (.string zt)).set_other hqg1 (nl*6+4) none (.slice za1 zl1 zc1)).set_other hqg1 (nl*6+5) none (.slice za2 zl2 zc2));rw[set_six _ R _ _ _ _ _ _ _ _ _ _ _ _ _ HC.out.2.2.2.2.2.2.1]at hb9;generalize(((((((wC.setCell ⟨q,0,none⟩ (.slice (some ⟨g,0,none⟩) n1 c')).setCell ⟨g,nl*6,none⟩ (.int .i64 zk)).setCell ⟨g,nl*6+1,none⟩ (.int .u64 (zn:Int))).setCell ⟨g,nl*6+2,none⟩ (.int .i64 zs)).setCell ⟨g,nl*6+3,none⟩ (.string zt)).setCell ⟨g,nl*6+4,none⟩ (.slice za1 zl1 zc1)).setCell ⟨g,nl*6+5,none⟩ (.slice za2 zl2 zc2))=wz2 at hkz hb9 hq9 ⊢;clear f0 f1 f2 f3 f4 f5 ff cq fq;have HF:=qq (show OutSt d q av wz2 (ys++[y])/\∃S,Keep S w wz2/\∀b ∈ S,q<=b/\b ∉ av by
    obtain⟨hbg,hcs,hle,kC,hG',hqC,hA,hgq⟩:=HC.out;obtain⟨hOw,hSx,hGl,hqa,ka,hsa,hql⟩:=HO.out;obtain⟨hT1,hT2,hT3⟩:=HT.out;have s1:=ka.size;have s2:=hT1.size;have hl2:(l++[(Six.mk (.int .i64 zk) (.int .u64 (zn:Int)) (.int .i64 zs) (.string zt) (.slice za1 zl1 zc1) (.slice za2 zl2 zc2))]).length=n1:=by rw[List.length_append,<-Hnl.out,Hn1.out];rfl
    have kw:Keep (q::G) w wz2:=((ka.trans hT1 (by simp)).nil.trans kC (fun b hb=>.inl (by simp[hb]))).trans hkz (fun b hb=>by
     simp only[List.mem_cons,List.not_mem_nil,or_false]at hb;rcases hb with rfl|rfl
     ·exact(hG' b (by simp)).elim (fun h=>.inl (by simp[h])) (fun h=>.inr (by omega))
     ·exact .inl (by simp))
    have kt:Keep (q::G) wt wz2:=(kC.weaken (fun b hb=>.inl (by simp[hb]))).trans hkz (fun b hb=>by
     simp only[List.mem_cons,List.not_mem_nil,or_false]at hb;rcases hb with rfl|rfl
     ·exact(hG' b (by simp)).elim (fun h=>.inl (by simp[h])) (fun h=>.inr (by omega))
     ·exact .inl (by simp))
    refine⟨⟨[g],.slice (some ⟨g,0,none⟩) n1 c',l++[(Six.mk (.int .i64 zk) (.int .u64 (zn:Int)) (.int .i64 zs) (.string zt) (.slice za1 zl1 zc1) (.slice za2 zl2 zc2))],hq9,.inr ⟨g,c',_,rfl,by rw[hl2],hb9,by simpa using hcs,?_,by rw[hl2];exact hle⟩,?_,fun b hb=>by
     rw[List.mem_singleton]at hb;subst hb;refine⟨hgq,fun hm=>?_⟩;rcases hG' b (by simp)with h|h
     ·exact(HG.out.1 b h).2 hm
     ·have:=(HG.out.2 b hm).1;omega⟩,q::G,kw,fun b hb=>?_⟩
    ·rw[hl2,<-List.append_assoc,List.take_left' (by rw[List.length_append,hA,Hn1.out];simp;omega),List.flatMap_append];rfl
    ·have hs:VtIn (fun b=>b<0\/wa.heap.size<=b) d wt (Six.mk (.int .i64 zk) (.int .u64 (zn:Int)) (.int .i64 zs) (.string zt) (.slice za1 zl1 zc1) (.slice za2 zl2 zc2)).agg y:=VtIn.keep d hT3 (Keep.refl [] wt) (fun b hb=>by simp) (fun b hb _=>.inr hb);exact Sixes.step (L:=wa.heap.size) (M:=wt.heap.size) hSx hs kw kt (by omega) (fun b hb=>⟨(hGl b hb).1,by have:=(hGl b hb).2;omega⟩) (by omega) (by omega) (Nat.le_refl _) hG'
    ·simp only[List.mem_cons]at hb;rcases hb with rfl|hb
     ·exact⟨Nat.le_refl _,fun hm=>(HG.out.2 _ hm).2 rfl⟩
     ·exact⟨by have:=(hGl b hb).1;omega,(HG.out.1 b hb).2⟩)
   clear hkz hb9 hq9;go_wp2;go_ret;exact⟨rfl,HF.out⟩
 ·go_simp;have KZ:Keep [] wa (wa.alloc (.cells #[.int .i64 0,.int .u64 0,.int .i64 0,.string ⟨#[]⟩,.slice none 0 0,.slice none 0 0] 26)).drew:=((Keep.refl [] wa).alloc _).drew;have SZ:=HK.out wa _ KZ HS.out;have hbz:Blk (wa.alloc (.cells #[.int .i64 0,.int .u64 0,.int .i64 0,.string ⟨#[]⟩,.slice none 0 0,.slice none 0 0] 26)).drew wa.heap.size zsix.cells:=(Blk.new wa zsix.cells 26).drew;have hsz:(wa.alloc (.cells #[.int .i64 0,.int .u64 0,.int .i64 0,.string ⟨#[]⟩,.slice none 0 0,.slice none 0 0] 26)).drew.heap.size=wa.heap.size+1:=by simp
  have HZ:=qq4 KZ SZ hbz hsz;refine hK _ _ SZ ?_;clear hK K KZ SZ hbz hsz;generalize(wa.alloc (.cells #[.int .i64 0,.int .u64 0,.int .i64 0,.string ⟨#[]⟩,.slice none 0 0,.slice none 0 0] 26)).drew=wz at HZ ⊢;refine wpHead_ready (rs:=[3]) (by kernel_rfl) (by kernel_rfl) (by simp) ?_;refine headCons rfl (fun K hK=>?_) headNil;go_simp;refine(HB.out _ HZ.out.1).mono ?_;rintro e wt ⟨v',rfl,kB,hVB⟩;obtain⟨zk,zs,zn,zt,za1,za2,zl1,zc1,zl2,zc2,rfl⟩:=hVB.six;refine hK _ _ (HK.out _ _ kB HZ.out.2.1) ?_;clear hK K;have HT:=qq (show Keep [] wa wt/\Blk wt wa.heap.size zsix.cells/\VtIn (fun p=>wa.heap.size<=p) d wt (.agg #[.int .i64 zk,.int .u64 (zn:Int),.int .i64 zs,.string zt,.slice za1 zl1 zc1,.slice za2 zl2 zc2]) y from⟨HZ.out.1.trans kB (by simp),HZ.out.2.2.1.keep kB (by simp),hVB.keep d (Keep.refl [] wt) (fun _ _=>by simp) (fun b hb _=>by have:=HZ.out.2.2.2;omega)⟩);clear kB hVB;refine wpHead_tail (by kernel_rfl) ?_;refine wpAny_ready (rs:=[6]) (by kernel_rfl) (by simp) ?_;refine(AllReady.cons rfl (fun K hK=>?_) AllReady.nil);rw[if_pos (by rfl)];refine wp_append_ownC (cf:=Six.cells) (G:=G) (l:=l) Six.len (by decide) _ _ 24 26 rfl i0 88 Tryz.underlying24 Hi.out.1 ⟨_,Hi.out.2.1,rfl⟩ Hi.out.2.2.1 Hi.out.2.2.2 rfl ((HO.out.1.keep HO.out.2.2.2.2.1 (by simp)).keep HT.out.1 (by simp)) _ [zsix] rfl (srcSix zsix (by simp[Value.oneCell',Six.cells,zsix]) HT.out.2.1) (by rw[<-Hnl.out];simp;omega) (by rw[<-Hnl.out];simp;omega) ?_;intro v'' wC G' hO' kC hG';rcases hO' with⟨_,_,hnil⟩|⟨g,c',cs,rfl,rfl,hbg,hcs,htk,hle⟩
  ·simp at hnil
  obtain⟨n1,hn1⟩:∃n1,n1=nl+1:=⟨_,rfl⟩;have hlen:(l++[zsix]).length=n1:=by rw[List.length_append,<-Hnl.out,hn1];rfl
  have hA:(l.flatMap Six.cells).length=nl*6:=by rw[flatMap_length Six.len,Hnl.out]
  obtain⟨R,hR⟩:∃R,cs=l.flatMap Six.cells++([.int .i64 0,.int .u64 0,.int .i64 0,.string ⟨#[]⟩,.slice none 0 0,.slice none 0 0]++R):=by
   refine⟨cs.drop (n1*6),?_⟩;rw[hlen,List.flatMap_append]at htk
   conv=>lhs;rw[<-List.take_append_drop (n1*6) cs]
   rw[htk,List.append_assoc];rfl
  subst hR;rw[hlen]at hle ⊢;have f0:wC.cell? ⟨g,nl*6,none⟩=some (.int .i64 0):=hbg.cell (i:=nl*6) (get_six _ R _ _ _ _ _ _ _ 0 hA (by omega));have f1:=hbg.cell (i:=nl*6+1) (get_six _ R _ _ _ _ _ _ _ 1 hA (by omega));have f2:=hbg.cell (i:=nl*6+2) (get_six _ R _ _ _ _ _ _ _ 2 hA (by omega));have f3:=hbg.cell (i:=nl*6+3) (get_six _ R _ _ _ _ _ _ _ 3 hA (by omega));have f4:=hbg.cell (i:=nl*6+4) (get_six _ R _ _ _ _ _ _ _ 4 hA (by omega));have f5:=hbg.cell (i:=nl*6+5) (get_six _ R _ _ _ _ _ _ _ 5 hA (by omega));have ff:=hbg.frozen;have hqG:q ∉ G:=fun hm=>by have:=(HO.out.2.2.1 q hm).1;omega
  have hqC:=((HO.out.2.2.2.1.keep HT.out.1 (by simp)).keep kC hqG);have cq:=hqC.cell (i:=0) rfl;have fq:=hqC.frozen;have hgq:q<g:=by
   rcases hG' g (by simp)with h|h
   ·exact(HO.out.2.2.1 g h).1
   ·have:=HT.out.1.size;have:=HO.out.2.2.2.2.2.1;have:=HO.out.2.2.2.2.2.2;omega
  have hqg1:¬q=g:=by omega
  have hqg2:¬g=q:=by omega
  have hnlt:(nl:Int)<(n1:Int):=by omega
  have Hn1:=qq hn1;have HC:=qq8 hbg hcs hle kC hG' hqC hA hgq;clear hbg hcs hle kC hG' hqC hA hgq htk hlen hqG hn1;refine hK _ _ ?_;clear hK K;refine wpAny_take (i:=7) (v:=?_) rfl (by kernel_rfl) (by kernel_rfl) (by kernel_rfl) (fun _ _ _ h=>h) (Or.inl ⟨by rfl,?_⟩) ?_
  rotate_left 1
  ·(intro w;go_simp;try with_reducible rfl)
  try simp only[Act.put,List.setIfInBounds_toArray,List.set_cons_zero,List.set_cons_succ]
  refine wpAny_ready (rs:=[8,9]) (by kernel_rfl) (by simp) ?_;refine AllReady.cons rfl (fun K hK=>?_) (AllReady.cons rfl (fun K hK=>?_) AllReady.nil)
  ·go_simp;refine hK _ _ ?_;clear hK K;refine wpAny_ready (rs:=[9]) (by kernel_rfl) (by simp) ?_;refine(AllReady.cons rfl (fun K hK=>?_) AllReady.nil);go_simp;refine hK _ _ ?_;clear hK K;refine wpAny_done (by kernel_rfl) ?_ _;have hkz:Keep (g::q::[]) wC (((((((wC.setCell ⟨g,nl*6,none⟩ (.int .i64 zk)).setCell ⟨g,nl*6+1,none⟩ (.int .u64 (zn:Int))).setCell ⟨g,nl*6+2,none⟩ (.int .i64 zs)).setCell ⟨g,nl*6+3,none⟩ (.string zt)).setCell ⟨g,nl*6+4,none⟩ (.slice za1 zl1 zc1)).setCell ⟨g,nl*6+5,none⟩ (.slice za2 zl2 zc2)).setCell ⟨q,0,none⟩ (.slice (some ⟨g,0,none⟩) n1 c')):=(((((((Keep.refl (g::q::[]) wC).set (.inl (by simp)) _ _ _).set (.inl (by simp)) _ _ _).set (.inl (by simp)) _ _ _).set (.inl (by simp)) _ _ _).set (.inl (by simp)) _ _ _).set (.inl (by simp)) _ _ _).set (.inl (by simp)) _ _ _;have hb9:=((((((HC.out.1.set (nl*6) (.int .i64 zk)).set (nl*6+1) (.int .u64 (zn:Int))).set (nl*6+2) (.int .i64 zs)).set (nl*6+3) (.string zt)).set (nl*6+4) (.slice za1 zl1 zc1)).set (nl*6+5) (.slice za2 zl2 zc2)).set_other hqg2 0 none (.slice (some ⟨g,0,none⟩) n1 c');have hq9:=((((((HC.out.2.2.2.2.2.1.set_other hqg1 (nl*6) none (.int .i64 zk)).set_other hqg1 (nl*6+1) none (.int .u64 (zn:Int))).set_other hqg1 (nl*6+2) none (.int .i64 zs)).set_other hqg1 (nl*6+3) none (.string zt)).set_other hqg1 (nl*6+4) none (.slice za1 zl1 zc1)).set_other hqg1 (nl*6+5) none (.slice za2 zl2 zc2)).set 0 (.slice (some ⟨g,0,none⟩) n1 c');rw[set_six _ R _ _ _ _ _ _ _ _ _ _ _ _ _ HC.out.2.2.2.2.2.2.1]at hb9;generalize((((((wC.setCell ⟨g,nl*6,none⟩ (.int .i64 zk)).setCell ⟨g,nl*6+1,none⟩ (.int .u64 (zn:Int))).setCell ⟨g,nl*6+2,none⟩ (.int .i64 zs)).setCell ⟨g,nl*6+3,none⟩ (.string zt)).setCell ⟨g,nl*6+4,none⟩ (.slice za1 zl1 zc1)).setCell ⟨g,nl*6+5,none⟩ (.slice za2 zl2 zc2)).setCell ⟨q,0,none⟩ (.slice (some ⟨g,0,none⟩) n1 c')=wz2 at hkz hb9 hq9 ⊢;clear f0 f1 f2 f3 f4 f5 ff cq fq;have HF:=qq (show OutSt d q av wz2 (ys++[y])/\∃S,Keep S w wz2/\∀b ∈ S,q<=b/\b ∉ av by
    obtain⟨hbg,hcs,hle,kC,hG',hqC,hA,hgq⟩:=HC.out;obtain⟨hOw,hSx,hGl,hqa,ka,hsa,hql⟩:=HO.out;obtain⟨hT1,hT2,hT3⟩:=HT.out;have s1:=ka.size;have s2:=hT1.size;have hl2:(l++[(Six.mk (.int .i64 zk) (.int .u64 (zn:Int)) (.int .i64 zs) (.string zt) (.slice za1 zl1 zc1) (.slice za2 zl2 zc2))]).length=n1:=by rw[List.length_append,<-Hnl.out,Hn1.out];rfl
    have kw:Keep (q::G) w wz2:=((ka.trans hT1 (by simp)).nil.trans kC (fun b hb=>.inl (by simp[hb]))).trans hkz (fun b hb=>by
     simp only[List.mem_cons,List.not_mem_nil,or_false]at hb;rcases hb with rfl|rfl
     ·exact(hG' b (by simp)).elim (fun h=>.inl (by simp[h])) (fun h=>.inr (by omega))
     ·exact .inl (by simp))
    have kt:Keep (q::G) wt wz2:=(kC.weaken (fun b hb=>.inl (by simp[hb]))).trans hkz (fun b hb=>by
     simp only[List.mem_cons,List.not_mem_nil,or_false]at hb;rcases hb with rfl|rfl
     ·exact(hG' b (by simp)).elim (fun h=>.inl (by simp[h])) (fun h=>.inr (by omega))
     ·exact .inl (by simp))
    refine⟨⟨[g],.slice (some ⟨g,0,none⟩) n1 c',l++[(Six.mk (.int .i64 zk) (.int .u64 (zn:Int)) (.int .i64 zs) (.string zt) (.slice za1 zl1 zc1) (.slice za2 zl2 zc2))],hq9,.inr ⟨g,c',_,rfl,by rw[hl2],hb9,by simpa using hcs,?_,by rw[hl2];exact hle⟩,?_,fun b hb=>by
     rw[List.mem_singleton]at hb;subst hb;refine⟨hgq,fun hm=>?_⟩;rcases hG' b (by simp)with h|h
     ·exact(HG.out.1 b h).2 hm
     ·have:=(HG.out.2 b hm).1;omega⟩,q::G,kw,fun b hb=>?_⟩
    ·rw[hl2,<-List.append_assoc,List.take_left' (by rw[List.length_append,hA,Hn1.out];simp;omega),List.flatMap_append];rfl
    ·have hs:VtIn (fun b=>b<0\/wa.heap.size<=b) d wt (Six.mk (.int .i64 zk) (.int .u64 (zn:Int)) (.int .i64 zs) (.string zt) (.slice za1 zl1 zc1) (.slice za2 zl2 zc2)).agg y:=VtIn.keep d hT3 (Keep.refl [] wt) (fun b hb=>by simp) (fun b hb _=>.inr hb);exact Sixes.step (L:=wa.heap.size) (M:=wt.heap.size) hSx hs kw kt (by omega) (fun b hb=>⟨(hGl b hb).1,by have:=(hGl b hb).2;omega⟩) (by omega) (by omega) (Nat.le_refl _) hG'
    ·simp only[List.mem_cons]at hb;rcases hb with rfl|hb
     ·exact⟨Nat.le_refl _,fun hm=>(HG.out.2 _ hm).2 rfl⟩
     ·exact⟨by have:=(hGl b hb).1;omega,(HG.out.1 b hb).2⟩)
   clear hkz hb9 hq9;go_wp2;go_ret;exact⟨rfl,HF.out⟩
  ·go_simp;refine hK _ _ ?_;clear hK K;refine wpAny_ready (rs:=[8]) (by kernel_rfl) (by simp) ?_;refine(AllReady.cons rfl (fun K hK=>?_) AllReady.nil);go_simp;refine hK _ _ ?_;clear hK K;refine wpAny_done (by kernel_rfl) ?_ _;have hkz:Keep (g::q::[]) wC ((((((((wC.setCell ⟨q,0,none⟩ (.slice (some ⟨g,0,none⟩) n1 c')).setCell ⟨g,nl*6,none⟩ (.int .i64 zk)).setCell ⟨g,nl*6+1,none⟩ (.int .u64 (zn:Int))).setCell ⟨g,nl*6+2,none⟩ (.int .i64 zs)).setCell ⟨g,nl*6+3,none⟩ (.string zt)).setCell ⟨g,nl*6+4,none⟩ (.slice za1 zl1 zc1)).setCell ⟨g,nl*6+5,none⟩ (.slice za2 zl2 zc2))):=((((((((Keep.refl (g::q::[]) wC).set (.inl (by simp)) _ _ _).set (.inl (by simp)) _ _ _).set (.inl (by simp)) _ _ _).set (.inl (by simp)) _ _ _).set (.inl (by simp)) _ _ _).set (.inl (by simp)) _ _ _).set (.inl (by simp)) _ _ _);have hb9:=(((((((HC.out.1.set_other hqg2 0 none (.slice (some ⟨g,0,none⟩) n1 c')).set (nl*6) (.int .i64 zk)).set (nl*6+1) (.int .u64 (zn:Int))).set (nl*6+2) (.int .i64 zs)).set (nl*6+3) (.string zt)).set (nl*6+4) (.slice za1 zl1 zc1)).set (nl*6+5) (.slice za2 zl2 zc2));have hq9:=(((((((HC.out.2.2.2.2.2.1.set 0 (.slice (some ⟨g,0,none⟩) n1 c')).set_other hqg1 (nl*6) none (.int .i64 zk)).set_other hqg1 (nl*6+1) none (.int .u64 (zn:Int))).set_other hqg1 (nl*6+2) none (.int .i64 zs)).set_other hqg1 (nl*6+3) none (.string zt)).set_other hqg1 (nl*6+4) none (.slice za1 zl1 zc1)).set_other hqg1 (nl*6+5) none (.slice za2 zl2 zc2));rw[set_six _ R _ _ _ _ _ _ _ _ _ _ _ _ _ HC.out.2.2.2.2.2.2.1]at hb9;generalize(((((((wC.setCell ⟨q,0,none⟩ (.slice (some ⟨g,0,none⟩) n1 c')).setCell ⟨g,nl*6,none⟩ (.int .i64 zk)).setCell ⟨g,nl*6+1,none⟩ (.int .u64 (zn:Int))).setCell ⟨g,nl*6+2,none⟩ (.int .i64 zs)).setCell ⟨g,nl*6+3,none⟩ (.string zt)).setCell ⟨g,nl*6+4,none⟩ (.slice za1 zl1 zc1)).setCell ⟨g,nl*6+5,none⟩ (.slice za2 zl2 zc2))=wz2 at hkz hb9 hq9 ⊢;clear f0 f1 f2 f3 f4 f5 ff cq fq;have HF:=qq (show OutSt d q av wz2 (ys++[y])/\∃S,Keep S w wz2/\∀b ∈ S,q<=b/\b ∉ av by
    obtain⟨hbg,hcs,hle,kC,hG',hqC,hA,hgq⟩:=HC.out;obtain⟨hOw,hSx,hGl,hqa,ka,hsa,hql⟩:=HO.out;obtain⟨hT1,hT2,hT3⟩:=HT.out;have s1:=ka.size;have s2:=hT1.size;have hl2:(l++[(Six.mk (.int .i64 zk) (.int .u64 (zn:Int)) (.int .i64 zs) (.string zt) (.slice za1 zl1 zc1) (.slice za2 zl2 zc2))]).length=n1:=by rw[List.length_append,<-Hnl.out,Hn1.out];rfl
    have kw:Keep (q::G) w wz2:=((ka.trans hT1 (by simp)).nil.trans kC (fun b hb=>.inl (by simp[hb]))).trans hkz (fun b hb=>by
     simp only[List.mem_cons,List.not_mem_nil,or_false]at hb;rcases hb with rfl|rfl
     ·exact(hG' b (by simp)).elim (fun h=>.inl (by simp[h])) (fun h=>.inr (by omega))
     ·exact .inl (by simp))
    have kt:Keep (q::G) wt wz2:=(kC.weaken (fun b hb=>.inl (by simp[hb]))).trans hkz (fun b hb=>by
     simp only[List.mem_cons,List.not_mem_nil,or_false]at hb;rcases hb with rfl|rfl
     ·exact(hG' b (by simp)).elim (fun h=>.inl (by simp[h])) (fun h=>.inr (by omega))
     ·exact .inl (by simp))
    refine⟨⟨[g],.slice (some ⟨g,0,none⟩) n1 c',l++[(Six.mk (.int .i64 zk) (.int .u64 (zn:Int)) (.int .i64 zs) (.string zt) (.slice za1 zl1 zc1) (.slice za2 zl2 zc2))],hq9,.inr ⟨g,c',_,rfl,by rw[hl2],hb9,by simpa using hcs,?_,by rw[hl2];exact hle⟩,?_,fun b hb=>by
     rw[List.mem_singleton]at hb;subst hb;refine⟨hgq,fun hm=>?_⟩;rcases hG' b (by simp)with h|h
     ·exact(HG.out.1 b h).2 hm
     ·have:=(HG.out.2 b hm).1;omega⟩,q::G,kw,fun b hb=>?_⟩
    ·rw[hl2,<-List.append_assoc,List.take_left' (by rw[List.length_append,hA,Hn1.out];simp;omega),List.flatMap_append];rfl
    ·have hs:VtIn (fun b=>b<0\/wa.heap.size<=b) d wt (Six.mk (.int .i64 zk) (.int .u64 (zn:Int)) (.int .i64 zs) (.string zt) (.slice za1 zl1 zc1) (.slice za2 zl2 zc2)).agg y:=VtIn.keep d hT3 (Keep.refl [] wt) (fun b hb=>by simp) (fun b hb _=>.inr hb);exact Sixes.step (L:=wa.heap.size) (M:=wt.heap.size) hSx hs kw kt (by omega) (fun b hb=>⟨(hGl b hb).1,by have:=(hGl b hb).2;omega⟩) (by omega) (by omega) (Nat.le_refl _) hG'
    ·simp only[List.mem_cons]at hb;rcases hb with rfl|hb
     ·exact⟨Nat.le_refl _,fun hm=>(HG.out.2 _ hm).2 rfl⟩
     ·exact⟨by have:=(hGl b hb).1;omega,(HG.out.1 b hb).2⟩)
   clear hkz hb9 hq9;go_wp2;go_ret;exact⟨rfl,HF.out⟩
end Go.Proofs.YtocgdgmfnockiaaGreatDoor
