/- Variants back: a member more of an object (membersOf's closure). -/
import Derived.Test.YtocgdgmfnockiaaGreatDoorV41
import Derived.Test.YtocgdgmfnockiaaGreatDoorV23
import Derived.Test.YtocgdgmfnockiaaGreatDoorV42
set_option linter.unusedVariables false
set_option linter.unusedSimpArgs false
set_option maxRecDepth 100000
set_option maxHeartbeats 8000000
namespace Go.Proofs.YtocgdgmfnockiaaGreatDoor
open Go.RowKit

def OutO (d qk qv:Nat) (av:List Nat) (w:World) (ks:List ByteArray) (ys:List (Vt d)):Prop:=∃(G1:List Nat) (kv:Value) (G2:List Nat) (ov:Value) (l:List Six),Blk w qk [kv]/\OwnC Six.text 1 G1 w kv ks/\Blk w qv [ov]/\OwnC Six.cells 6 G2 w ov l/\
 Sixes (VtIn (fun b=>b<0\/(qk<b/\b ∉ qv::(G1++G2))) d w) l ys/\(∀b ∈ G1,qv<b/\b ∉ av)/\(∀b ∈ G2,qv<b/\b ∉ av)/\∀b ∈ G1,b ∉ G2
theorem OutO.keep {d qk qv:Nat} {av S:List Nat} {w w':World} {ks:List ByteArray} {ys:List (Vt d)} (h:OutO d qk qv av w ks ys) (k:Keep S w w') (hS:∀b ∈ S,b<qk) (hkv:qk<qv):OutO d qk qv av w' ks ys:=by
 obtain⟨G1,kv,G2,ov,l,h1,h2,h3,h4,h5,h6,h7,h8⟩:=h;refine⟨G1,kv,G2,ov,l,h1.keep k (fun hm=>by have:=hS _ hm;omega),h2.keep k (fun b hb hm=>by have:=hS _ hm;have:=(h6 b hb).1;omega),h3.keep k (fun hm=>by have:=hS _ hm;omega),h4.keep k (fun b hb hm=>by have:=hS _ hm;have:=(h7 b hb).1;omega),h5.mono fun u x hx=>hx.keep d k (fun b hb hm=>?_) (fun b hb _=>hb),h6,h7,h8⟩;have:=hS b hm;rcases hb with hb|hb<;>omega
theorem Sixes.step2 {d T L M M2:Nat} {G G':List Nat} {wr wB wz:World} {l:List Six} {ys:List (Vt d)} {s:Six} {y:Vt d} (hl:Sixes (VtIn (fun b=>b<0\/(T<b/\b ∉ G)) d wr) l ys) (hs:VtIn (fun b=>L<=b) d wB s.agg y)
  (k1:Keep (T::G) wr wz) (k2:Keep (T::G) wB wz) (hG:∀b ∈ G,T<b/\b<L) (hTL:T<L) (hr:wr.heap.size<=M) (hM:wB.heap.size<=M2) (hG':∀b ∈ G',b ∈ G\/(M<=b/\(b<L\/M2<=b))):
  Sixes (VtIn (fun b=>b<0\/(T<b/\b ∉ G')) d wz) (l++[s]) (ys++[y]):=by
 refine Sixes.snoc (hl.mono fun u x h=>h.keep d k1 (fun b hb=>?_) (fun b hb hlt=>?_)) (hs.keep d k2 (fun b hb=>?_) (fun b hb hlt=>?_))
 ·simp only[List.mem_cons,not_or];rcases hb with hb|hb
  ·omega
  ·exact⟨by omega,hb.2⟩
 ·rcases hb with hb|hb
  ·omega
  ·exact .inr ⟨hb.1,fun hm=>(hG' b hm).elim hb.2 (fun h=>by omega)⟩
 ·simp only[List.mem_cons,not_or];exact⟨by omega,fun hm=>by have:=(hG b hm).2;omega⟩
 ·exact .inr ⟨by omega,fun hm=>(hG' b hm).elim (fun h=>by have:=(hG b h).2;omega) (fun h=>by omega)⟩

theorem outStep {d qk qv:Nat} {av G1 G2 G1' G2':List Nat} {w wz wb wc wd we wz9:World} {kv ov v1 v2:Value} {ks:List ByteArray} {key:ByteArray} {l:List Six} {ys:List (Vt d)} {s:Six} {y:Vt d}
  (hO1:OwnC Six.text 1 G1 w kv ks) (hO2:OwnC Six.cells 6 G2 w ov l) (hSx:Sixes (VtIn (fun b=>b<0\/(qk<b/\b ∉ qv::(G1++G2))) d w) l ys) (hG1:∀b ∈ G1,qv<b/\b ∉ av) (hG2:∀b ∈ G2,qv<b/\b ∉ av) (hdis:∀b ∈ G1,b ∉ G2) (hav:∀a ∈ av,a<w.heap.size/\a≠qk/\a≠qv) (hkv:qk<qv) (hkl:qk<w.heap.size) (hvl:qv<w.heap.size)
  (kz:Keep [] w wz) (hO1':OwnC Six.text 1 G1' wb v1 (ks++[key])) (kb:Keep G1 wz wb) (hG1':∀b ∈ G1',b ∈ G1\/wz.heap.size<=b) (kc:Keep [] wb wc) (hV:VtIn (fun p=>wb.heap.size<=p) d wc s.agg y) (kd:Keep [] wc wd) (hO2':OwnC Six.cells 6 G2' we v2 (l++[s])) (ke:Keep G2 wd we) (hG2':∀b ∈ G2',b ∈ G2\/wd.heap.size<=b)
  (hbk:Blk wz9 qk [v1]) (hbv:Blk wz9 qv [v2]) (k9:Keep (qk::qv::[]) we wz9):OutO d qk qv av wz9 (ks++[key]) (ys++[y])/\∃S,Keep S w wz9/\∀b ∈ S,qk<=b/\b ∉ av:=by
 have s1:=kz.size;have s2:=kb.size;have s3:=kc.size;have s4:=kd.size;have s5:=ke.size;have l1:=hO1.lt;have l2:=hO2.lt;have l1':=hO1'.lt;have q1:∀b ∈ G1',qv<b/\b ∉ av:=fun b hb=>by
  rcases hG1' b hb with h|h
  ·exact hG1 b h
  ·exact⟨by omega,fun hm=>by have:=(hav b hm).1;omega⟩
 have q2:∀b ∈ G2',qv<b/\b ∉ av:=fun b hb=>by
  rcases hG2' b hb with h|h
  ·exact hG2 b h
  ·exact⟨by omega,fun hm=>by have:=(hav b hm).1;omega⟩
 have kw:Keep (qk::qv::(G1++G2)) w wz9:=((((kz.nil.trans kb (fun b hb=>.inl (by simp[hb]))).trans kc (by simp)).trans kd (by simp)).trans ke (fun b hb=>.inl (by simp[hb]))).trans k9 (fun b hb=>.inl (by simp at hb;rcases hb with rfl|rfl<;>simp))
 have kcz:Keep (qk::qv::(G1++G2)) wc wz9:=((kd.nil).trans ke (fun b hb=>.inl (by simp[hb]))).trans k9 (fun b hb=>.inl (by simp at hb;rcases hb with rfl|rfl<;>simp))
 refine⟨⟨G1',v1,G2',v2,l++[s],hbk,?_,hbv,?_,?_,q1,q2,?_⟩,qk::qv::(G1++G2),kw,?_⟩
 ·have h1:=((hO1'.keep kc (by simp)).keep kd (by simp)).keep ke (fun b hb hm=>(hG1' b hb).elim (fun h=>hdis b h hm) (fun h=>by have:=l2 b hm;omega));exact h1.keep k9 (fun b hb hm=>by have:=(q1 b hb).1;simp at hm;omega)
 ·exact hO2'.keep k9 (fun b hb hm=>by have:=(q2 b hb).1;simp at hm;omega)
 ·refine Sixes.step2 (L:=wb.heap.size) (M:=w.heap.size) (M2:=wd.heap.size) hSx hV kw kcz (fun b hb=>?_) (by omega) (Nat.le_refl _) (by omega) (fun b hb=>?_)
  ·simp only[List.mem_cons,List.mem_append]at hb;rcases hb with rfl|hb|hb
   ·exact⟨hkv,by omega⟩
   ·exact⟨by have:=(hG1 b hb).1;omega,by have:=l1 b hb;omega⟩
   ·exact⟨by have:=(hG2 b hb).1;omega,by have:=l2 b hb;omega⟩
  ·simp only[List.mem_cons,List.mem_append]at hb ⊢;rcases hb with rfl|hb|hb
   ·exact .inl (.inl rfl)
   ·rcases hG1' b hb with h|h
    ·exact .inl (.inr (.inl h))
    ·exact .inr ⟨by omega,.inl (l1' b hb)⟩
   ·rcases hG2' b hb with h|h
    ·exact .inl (.inr (.inr h))
    ·exact .inr ⟨by omega,.inr h⟩
 ·intro b hb hm;rcases hG1' b hb with h|h
  ·rcases hG2' b hm with h2|h2
   ·exact hdis b h h2
   ·have:=l1 b h;omega
  ·rcases hG2' b hm with h2|h2
   ·have:=l2 b h2;omega
   ·have:=l1' b hb;omega
 ·intro b hb;simp only[List.mem_cons,List.mem_append]at hb;rcases hb with rfl|rfl|hb|hb
  ·exact⟨Nat.le_refl _,fun hm=>(hav _ hm).2.1 rfl⟩
  ·exact⟨by omega,fun hm=>(hav _ hm).2.2 rfl⟩
  ·exact⟨by have:=(hG1 b hb).1;omega,(hG1 b hb).2⟩
  ·exact⟨by have:=(hG2 b hb).1;omega,(hG2 b hb).2⟩
theorem memb1C (d qk qv hb:Nat) (how:Int) (b og mi cg:Nat) (ma ko:Option Addr) (mn mc kn kc:Nat) (key:ByteArray) (yl:Vt d) (ks:List ByteArray) (ys:List (Vt d)) (w:World) (av:List Nat) (hO:OutO d qk qv av w ks ys) (hav:∀a ∈ av,a<w.heap.size/\a≠qk/\a≠qv) (hH:Blk w hb [.int .i64 how]) (hbq:hb<qk) (hkv:qk<qv) (hys:ys.length<=1000) (hks9:ks.length<=1000)
  (hback:∀(wx:World) (S:List Nat),Keep S w wx->(∀x ∈ S,qk<=x)->Calls Tryz.prog 26 #[.agg #[.slice (some ⟨b,og,none⟩) mi cg,.slice ma mn mc,.slice ko kn kc],.int .i64 how] wx fun e w'=>∃v',e=.returned v'/\Keep [] wx w'/\VtIn (fun p=>wx.heap.size<=p) d w' v' yl):
  Calls Tryz.prog 127 #[.string key,.agg #[.slice (some ⟨b,og,none⟩) mi cg,.slice ma mn mc,.slice ko kn kc],.pointer (some ⟨qk,0,none⟩),.pointer (some ⟨qv,0,none⟩),.pointer (some ⟨hb,0,none⟩)] w fun e w'=>e=.returned (.bool true)/\OutO d qk qv av w' (ks++[key]) (ys++[yl])/\∃S,Keep S w w'/\∀b ∈ S,qk<=b/\b ∉ av:=by
 obtain⟨wa,hwa⟩:∃wa,wa=w.alloc (.cells #[.slice (some ⟨b,og,none⟩) mi cg,.slice ma mn mc,.slice ko kn kc] 57):=⟨_,rfl⟩;obtain⟨yb,hyb⟩:∃yb,yb=w.heap.size:=⟨_,rfl⟩;have ka0:Keep [] w wa:=by rw[hwa];exact(Keep.refl [] w).alloc _
 have hya:Blk wa yb [.slice (some ⟨b,og,none⟩) mi cg,.slice ma mn mc,.slice ko kn kc]:=by rw[hwa,hyb];exact Blk.new w _ _
 have hybw:w.heap.size<=yb:=by omega
 have HW:=qq2 hwa hyb;clear hwa hyb;obtain⟨G1,kv,G2,ov,l,hqk,hO1,hqv,hO2,hSx,hG1,hG2,hdis⟩:=hO;obtain⟨ka,kn1,kc1,hkv⟩:=hO1.shape2;subst hkv;obtain⟨ao,nl,cc,hov⟩:=hO2.shape2;subst hov;have hll:l.length<=1000:=by rw[hSx.1];exact hys
 have hqka:=hqk.keep ka0 (by simp);have hqva:=hqv.keep ka0 (by simp);have hha:=hH.keep ka0 (by simp);have hkl:=hqk.lt;have hvl:=hqv.lt;have hhl:=hH.lt;have hyl:=hya.lt;have hsz:=ka0.size;have HS:=qq (show(fun w':World=>w'.cell? ⟨yb,0,none⟩=some (.slice (some ⟨b,og,none⟩) mi cg)/\w'.cell? ⟨yb,1,none⟩=some (.slice ma mn mc)/\w'.cell? ⟨yb,2,none⟩=some (.slice ko kn kc)/\w'.cell? ⟨hb,0,none⟩=some (.int .i64 how)/\w'.cell? ⟨qk,0,none⟩=some (.slice ka kn1 kc1)/\w'.cell? ⟨qv,0,none⟩=some (.slice ao nl cc)) wa from⟨hya.cell rfl,hya.cell rfl,hya.cell rfl,hha.cell rfl,hqka.cell rfl,hqva.cell rfl⟩);have HK:=qq (fun(w1 w2:World) (S:List Nat) (k:Keep S w1 w2) (hS:yb ∉ S/\hb ∉ S/\qk ∉ S/\qv ∉ S) (h:(fun w':World=>w'.cell? ⟨yb,0,none⟩=some (.slice (some ⟨b,og,none⟩) mi cg)/\w'.cell? ⟨yb,1,none⟩=some (.slice ma mn mc)/\w'.cell? ⟨yb,2,none⟩=some (.slice ko kn kc)/\w'.cell? ⟨hb,0,none⟩=some (.int .i64 how)/\w'.cell? ⟨qk,0,none⟩=some (.slice ka kn1 kc1)/\w'.cell? ⟨qv,0,none⟩=some (.slice ao nl cc)) w1)=>(show(fun w':World=>w'.cell? ⟨yb,0,none⟩=some (.slice (some ⟨b,og,none⟩) mi cg)/\w'.cell? ⟨yb,1,none⟩=some (.slice ma mn mc)/\w'.cell? ⟨yb,2,none⟩=some (.slice ko kn kc)/\w'.cell? ⟨hb,0,none⟩=some (.int .i64 how)/\w'.cell? ⟨qk,0,none⟩=some (.slice ka kn1 kc1)/\w'.cell? ⟨qv,0,none⟩=some (.slice ao nl cc)) w2 from⟨k.cell_some h.1 (by exact hS.1),k.cell_some h.2.1 (by exact hS.1),k.cell_some h.2.2.1 (by exact hS.1),k.cell_some h.2.2.2.1 (by exact hS.2.1),k.cell_some h.2.2.2.2.1 (by exact hS.2.2.1),k.cell_some h.2.2.2.2.2 (by exact hS.2.2.2)⟩));have HG:=qq4 hG1 hG2 hdis hav;have HO:=qq6 hO1 hO2 hSx hqka hqva ka0;have HY:=qq (show yb<wa.heap.size/\hb<w.heap.size/\qk<w.heap.size/\qv<w.heap.size/\w.heap.size<=yb/\w.heap.size<=wa.heap.size from⟨hyl,hhl,hkl,hvl,hybw,hsz⟩);have Hll:=qq hll;obtain⟨i1,hi1,hy0,hy1,hy2⟩:=info_parts info_str;have Hi1:=qq4 hi1 hy0 hy1 hy2;obtain⟨i0,hi0,hz0,hz1,hz2⟩:=info_parts info_var;have Hi:=qq4 hi0 hz0 hz1 hz2;have HB:=qq hback;have Hks:=qq hks9;clear hqk hO1 hqv hO2 hSx hG1 hG2 hdis hav hqka hqva hha hkl hvl hhl hyl hsz hybw hll hi1 hy0 hy1 hy2 hi0 hz0 hz1 hz2 hback hks9 hH ka0 hya
 go_enter Tryz.func127,Tryz.ntmps127
 go_wp2_with fail
 rw[<-HW.out.1,<-HW.out.2];refine wp_region_head (fun w':World=>w'.cell? ⟨yb,0,none⟩=some (.slice (some ⟨b,og,none⟩) mi cg)/\w'.cell? ⟨yb,1,none⟩=some (.slice ma mn mc)/\w'.cell? ⟨yb,2,none⟩=some (.slice ko kn kc)/\w'.cell? ⟨hb,0,none⟩=some (.int .i64 how)/\w'.cell? ⟨qk,0,none⟩=some (.slice ka kn1 kc1)/\w'.cell? ⟨qv,0,none⟩=some (.slice ao nl cc)) 10 (by kernel_rfl) ?_;change wpHead _ _ _ _ _ _ _ _ _ (World.drew _);refine wpHead_take (i:=0) (v:=?_) rfl (by rfl) (by kernel_rfl) (by kernel_rfl) (by kernel_rfl) (by kernel_rfl) (by kernel_rfl) (fun _ _ _ h=>h) HS.out (Or.inl ⟨by rfl,?_⟩) ?_
 rotate_left 1
 ·(intro w hSw;(try dsimp only at hSw);go_simp;try with_reducible rfl)
 try simp only[Act.put,List.setIfInBounds_toArray,List.set_cons_zero,List.set_cons_succ]
 refine wpHead_take (i:=1) (v:=?_) rfl (by rfl) (by kernel_rfl) (by kernel_rfl) (by kernel_rfl) (by kernel_rfl) (by kernel_rfl) (fun _ _ _ h=>h) HS.out (Or.inl ⟨by rfl,?_⟩) ?_
 rotate_left 1
 ·(intro w hSw;(try dsimp only at hSw);go_simp;try with_reducible rfl)
 try simp only[Act.put,List.setIfInBounds_toArray,List.set_cons_zero,List.set_cons_succ]
 refine wpHead_take (i:=4) (v:=?_) rfl (by rfl) (by kernel_rfl) (by kernel_rfl) (by kernel_rfl) (by kernel_rfl) (by kernel_rfl) (fun _ _ _ h=>h) HS.out (Or.inl ⟨by rfl,?_⟩) ?_
 rotate_left 1
 ·(intro w hSw;(try dsimp only at hSw);go_simp;try with_reducible rfl)
 try simp only[Act.put,List.setIfInBounds_toArray,List.set_cons_zero,List.set_cons_succ]
 refine wpHead_take (i:=5) (v:=?_) rfl (by rfl) (by kernel_rfl) (by kernel_rfl) (by kernel_rfl) (by kernel_rfl) (by kernel_rfl) (fun _ _ _ h=>h) HS.out (Or.inl ⟨by rfl,?_⟩) ?_
 rotate_left 1
 ·(intro w hSw;(try dsimp only at hSw);go_simp;try with_reducible rfl)
 try simp only[Act.put,List.setIfInBounds_toArray,List.set_cons_zero,List.set_cons_succ]
 refine wpHead_take (i:=6) (v:=?_) rfl (by rfl) (by kernel_rfl) (by kernel_rfl) (by kernel_rfl) (by kernel_rfl) (by kernel_rfl) (fun _ _ _ h=>h) HS.out (Or.inl ⟨by rfl,?_⟩) ?_
 rotate_left 1
 ·(intro w hSw;(try dsimp only at hSw);go_simp;try with_reducible rfl)
 try simp only[Act.put,List.setIfInBounds_toArray,List.set_cons_zero,List.set_cons_succ]
 refine wpHead_ready (rs:=[2]) (by kernel_rfl) (by kernel_rfl) (by simp) ?_;refine headCons rfl (fun K hK=>?_) headNil;go_simp;have SZ:=HK.out wa _ [] ((Keep.refl [] wa).alloc (.cells #[.string key] 9)).drew (by simp) HS.out;have HZ:=qq (show Keep [] wa (wa.alloc (.cells #[.string key] 9)).drew/\Blk (wa.alloc (.cells #[.string key] 9)).drew wa.heap.size [.string key]/\(wa.alloc (.cells #[.string key] 9)).drew.heap.size=wa.heap.size+1/\(fun w':World=>w'.cell? ⟨yb,0,none⟩=some (.slice (some ⟨b,og,none⟩) mi cg)/\w'.cell? ⟨yb,1,none⟩=some (.slice ma mn mc)/\w'.cell? ⟨yb,2,none⟩=some (.slice ko kn kc)/\w'.cell? ⟨hb,0,none⟩=some (.int .i64 how)/\w'.cell? ⟨qk,0,none⟩=some (.slice ka kn1 kc1)/\w'.cell? ⟨qv,0,none⟩=some (.slice ao nl cc)) (wa.alloc (.cells #[.string key] 9)).drew from⟨((Keep.refl [] wa).alloc _).drew,(Blk.new wa [.string key] 9).drew,by simp,SZ⟩);refine hK _ _ SZ ?_;clear hK K SZ;generalize(wa.alloc (.cells #[.string key] 9)).drew=wz at HZ ⊢;refine wpHead_ready (rs:=[3]) (by kernel_rfl) (by kernel_rfl) (by simp) ?_;refine headCons rfl (fun K hK=>?_) headNil;rw[if_pos (by rfl)];refine wp_append_ownC (cf:=Six.text) (G:=G1) (l:=ks) Six.tlen (by decide) _ _ 23 9 rfl i1 16 Tryz.underlying23 Hi1.out.1 ⟨_,Hi1.out.2.1,rfl⟩ Hi1.out.2.2.1 Hi1.out.2.2.2 rfl ((HO.out.1.keep HO.out.2.2.2.2.2 (by simp)).keep HZ.out.1 (by simp)) _ [key] rfl (Src.oneC (cf:=Six.text) (x:=key) Six.tlen (by simp[Value.oneCell',Six.text]) Tryz.underlying23 HZ.out.2.1) (by have:=Hks.out;simp;omega) (by have:=Hks.out;simp;omega) ?_;intro v1 wb G1' hO1' kb hG1';obtain⟨ra,rn,rc,hv1⟩:=hO1'.shape2;subst hv1;have hn1:∀p,p<=qv->p ∉ G1:=fun p hp hm=>by have:=(HG.out.1 p hm).1;omega
 have hn2:∀p,p<=qv->p ∉ G2:=fun p hp hm=>by have:=(HG.out.2.1 p hm).1;omega
 have hy1:yb ∉ G1:=fun hm=>by have:=HO.out.1.lt yb hm;have:=HY.out.2.2.2.2.1;omega
 have hy2:yb ∉ G2:=fun hm=>by have:=HO.out.2.1.lt yb hm;have:=HY.out.2.2.2.2.1;omega
 have SB:=HK.out wz wb G1 kb ⟨hy1,hn1 _ (by omega),hn1 _ (by omega),hn1 _ (by omega)⟩ HZ.out.2.2.2;have HA:=qq7 hO1' kb hG1' hn1 hn2 hy2 SB;refine hK _ _ SB ?_;clear hK K hO1' kb hG1' hn1 hn2 hy1 hy2 SB;refine wpHead_ready (rs:=[7]) (by kernel_rfl) (by kernel_rfl) (by simp) ?_;refine headCons rfl (fun K hK=>?_) headNil;go_simp;refine(HB.out wb G1 (((HO.out.2.2.2.2.2.trans HZ.out.1 (by simp)).nil).trans HA.out.2.1 (fun x hx=>.inl hx)) (fun x hx=>by have:=(HG.out.1 x hx).1;omega)).mono ?_;rintro e wc ⟨v',rfl,kc0,hV⟩;obtain⟨zk,zs,zn,zt,za1,za2,zl1,zc1,zl2,zc2,rfl⟩:=hV.six;have SC:=HK.out wb wc [] kc0 (by simp) HA.out.2.2.2.2.2.2;have HV:=qq3 kc0 hV SC;refine hK _ _ SC ?_;clear hK K SC kc0 hV;refine wpHead_ready (rs:=[8]) (by kernel_rfl) (by kernel_rfl) (by simp) ?_;refine headCons rfl (fun K hK=>?_) headNil;go_simp;have SD:=HK.out wc _ [] ((Keep.refl [] wc).alloc (.cells #[.int .i64 zk,.int .u64 (zn:Int),.int .i64 zs,.string zt,.slice za1 zl1 zc1,.slice za2 zl2 zc2] 26)) (by simp) HV.out.2.2;have HD:=qq (show Keep [] wc (wc.alloc (.cells #[.int .i64 zk,.int .u64 (zn:Int),.int .i64 zs,.string zt,.slice za1 zl1 zc1,.slice za2 zl2 zc2] 26))/\Blk (wc.alloc (.cells #[.int .i64 zk,.int .u64 (zn:Int),.int .i64 zs,.string zt,.slice za1 zl1 zc1,.slice za2 zl2 zc2] 26)) wc.heap.size (Six.mk (.int .i64 zk) (.int .u64 (zn:Int)) (.int .i64 zs) (.string zt) (.slice za1 zl1 zc1) (.slice za2 zl2 zc2)).cells/\(wc.alloc (.cells #[.int .i64 zk,.int .u64 (zn:Int),.int .i64 zs,.string zt,.slice za1 zl1 zc1,.slice za2 zl2 zc2] 26)).heap.size=wc.heap.size+1/\(fun w':World=>w'.cell? ⟨yb,0,none⟩=some (.slice (some ⟨b,og,none⟩) mi cg)/\w'.cell? ⟨yb,1,none⟩=some (.slice ma mn mc)/\w'.cell? ⟨yb,2,none⟩=some (.slice ko kn kc)/\w'.cell? ⟨hb,0,none⟩=some (.int .i64 how)/\w'.cell? ⟨qk,0,none⟩=some (.slice ka kn1 kc1)/\w'.cell? ⟨qv,0,none⟩=some (.slice ao nl cc)) (wc.alloc (.cells #[.int .i64 zk,.int .u64 (zn:Int),.int .i64 zs,.string zt,.slice za1 zl1 zc1,.slice za2 zl2 zc2] 26))from⟨(Keep.refl [] wc).alloc _,Blk.new wc _ _,by simp,SD⟩);refine hK _ _ SD ?_;clear hK K SD;generalize wc.alloc (.cells #[.int .i64 zk,.int .u64 (zn:Int),.int .i64 zs,.string zt,.slice za1 zl1 zc1,.slice za2 zl2 zc2] 26)=wd at HD ⊢;refine wpHead_ready (rs:=[9]) (by kernel_rfl) (by kernel_rfl) (by simp) ?_;refine headCons rfl (fun K hK=>?_) headNil;rw[if_pos (by rfl)];refine wp_append_ownC (cf:=Six.cells) (G:=G2) (l:=l) Six.len (by decide) _ _ 24 26 rfl i0 88 Tryz.underlying24 Hi.out.1 ⟨_,Hi.out.2.1,rfl⟩ Hi.out.2.2.1 Hi.out.2.2.2 rfl (((((HO.out.2.1.keep HO.out.2.2.2.2.2 (by simp)).keep HZ.out.1 (by simp)).keep HA.out.2.1 (fun x hx hm=>HG.out.2.2.1 x hm hx)).keep HV.out.1 (by simp)).keep HD.out.1 (by simp)) _ [(Six.mk (.int .i64 zk) (.int .u64 (zn:Int)) (.int .i64 zs) (.string zt) (.slice za1 zl1 zc1) (.slice za2 zl2 zc2))] rfl (srcSix _ (six_one zk zs zn zt za1 za2 zl1 zc1 zl2 zc2) HD.out.2.1) (by have:=Hll.out;simp;omega) (by have:=Hll.out;simp;omega) ?_;intro v2 we G2' hO2' ke hG2';obtain⟨sa,sn,sc,hv2⟩:=hO2'.shape2;subst hv2;have SE:=HK.out wd we G2 ke ⟨HA.out.2.2.2.2.2.1,HA.out.2.2.2.2.1 _ (by omega),HA.out.2.2.2.2.1 _ (by omega),HA.out.2.2.2.2.1 _ (by omega)⟩ HD.out.2.2.2;have HE2:=qq3 hO2' ke hG2';have KD:Keep G1 wa wd:=((HZ.out.1.nil).trans HA.out.2.1 (fun x hx=>.inl hx)).trans (HV.out.1.trans HD.out.1 (by simp)) (by simp);have hqke:=(HO.out.2.2.2.1.keep KD (HA.out.2.2.2.1 _ (by omega))).keep ke (HA.out.2.2.2.2.1 _ (by omega));have hqve:=(HO.out.2.2.2.2.1.keep KD (HA.out.2.2.2.1 _ (by omega))).keep ke (HA.out.2.2.2.2.1 _ (by omega));have cqk:=hqke.cell (i:=0) rfl;have fqk:=hqke.frozen;have cqv:=hqve.cell (i:=0) rfl;have fqv:=hqve.frozen;have HQ:=qq3 hqke hqve KD;have hne1:¬qk=qv:=by omega
 have hne2:¬qv=qk:=by omega
 refine hK _ _ SE ?_;clear hK K SE hO2' ke hG2' hqke hqve KD;refine wpHead_tail (by kernel_rfl) ?_;refine wpAny_ready (rs:=[10]) (by kernel_rfl) (by simp) ?_;refine(AllReady.cons rfl (fun K hK=>?_) AllReady.nil);go_simp;refine hK _ _ ?_;clear hK K;refine wpAny_ready (rs:=[11]) (by kernel_rfl) (by simp) ?_;refine(AllReady.cons rfl (fun K hK=>?_) AllReady.nil);go_simp;refine hK _ _ ?_;clear hK K;refine wpAny_done (by kernel_rfl) ?_ _;have hbk:=(HQ.out.1.set 0 (.slice ra rn rc)).set_other hne1 0 none (.slice sa sn sc);have hbv:=(HQ.out.2.1.set_other hne2 0 none (.slice ra rn rc)).set 0 (.slice sa sn sc);have kz9:Keep (qk::qv::[]) we ((we.setCell ⟨qk,0,none⟩ (.slice ra rn rc)).setCell ⟨qv,0,none⟩ (.slice sa sn sc)):=((Keep.refl (qk::qv::[]) we).set (.inl (by simp)) _ _ _).set (.inl (by simp)) _ _ _;generalize((we.setCell ⟨qk,0,none⟩ (.slice ra rn rc)).setCell ⟨qv,0,none⟩ (.slice sa sn sc))=wz9 at hbk hbv kz9 ⊢;clear cqk fqk cqv fqv;have HF:=qq (outStep (key:=key) (y:=yl) (s:=(Six.mk (.int .i64 zk) (.int .u64 (zn:Int)) (.int .i64 zs) (.string zt) (.slice za1 zl1 zc1) (.slice za2 zl2 zc2))) HO.out.1 HO.out.2.1 HO.out.2.2.1 HG.out.1 HG.out.2.1 HG.out.2.2.1 HG.out.2.2.2 (by omega) HY.out.2.2.1 HY.out.2.2.2.1 (HO.out.2.2.2.2.2.trans HZ.out.1 (by simp)) HA.out.1 HA.out.2.1 HA.out.2.2.1 (HV.out.1) (show VtIn (fun p=>wb.heap.size<=p) d wc (Six.mk (.int .i64 zk) (.int .u64 (zn:Int)) (.int .i64 zs) (.string zt) (.slice za1 zl1 zc1) (.slice za2 zl2 zc2)).agg yl from HV.out.2.1) HD.out.1 HE2.out.1 HE2.out.2.1 HE2.out.2.2 hbk hbv kz9);clear hbk hbv kz9;go_wp2;go_ret;exact⟨rfl,HF.out⟩
end Go.Proofs.YtocgdgmfnockiaaGreatDoor
