/- Variants: appendVariant of an object; of whatever variant. -/
import Derived.Test.YtocgdgmfnockiaaGreatDoorV12
set_option linter.unusedVariables false
set_option linter.unusedSimpArgs false
set_option maxRecDepth 100000
set_option maxHeartbeats 8000000
namespace Go.Proofs.YtocgdgmfnockiaaGreatDoor
open Go.RowKit
theorem info_fe:(Tryz.prog.info? 72).map (fun i=>(i.zero,i.size,i.bytes))=some (some (.agg #[.string ⟨#[]⟩,.int .u32 0,.int .i64 0]),3,32):=by kernel_rfl
theorem Bld.dup {w:World} {b tot:Nat} {own:List Nat} {K:List ByteArray} {bs:List Nat} (h:Bld w b own K bs tot):w.cell? ⟨b,6,none⟩=some (.bool false):=by
 obtain⟨wr,g,mB,kB,mv,dv,⟨v,lr,h1,_⟩,_⟩:=h;exact h1.cell rfl

def feL (F:List ByteArray) (ks:List ByteArray) (os:List Nat):List FE:=List.zipWith (fun k o=>⟨k,idxK F k,o⟩) ks os
theorem feL_snoc (F:List ByteArray) (ks:List ByteArray) (os:List Nat) (k:ByteArray) (o:Nat) (h:ks.length=os.length):feL F (ks++[k]) (os++[o])=feL F ks os++[⟨k,idxK F k,o⟩]:=by
 unfold feL;rw[List.zipWith_append h];rfl
theorem length_feL (F:List ByteArray) (ks:List ByteArray) (os:List Nat) (h:ks.length=os.length):(feL F ks os).length=ks.length:=by unfold feL;rw[List.length_zipWith,h,Nat.min_self]
theorem feL_key (F:List ByteArray):∀(ks:List ByteArray) (os:List Nat),ks.length=os.length->(feL F ks os).map FE.key=ks
 |[],[],_=>rfl
 |[],_::_,h=>by simp at h
 |_::_,[],h=>by simp at h
 |k::ks,o::os,h=>by
  have:=feL_key F ks os (by simpa using h);unfold feL at this ⊢;simp[this]
theorem feL_id (F:List ByteArray):∀(ks:List ByteArray) (os:List Nat),ks.length=os.length->(feL F ks os).map FE.id=ks.map (idxK F)
 |[],[],_=>rfl
 |[],_::_,h=>by simp at h
 |_::_,[],h=>by simp at h
 |k::ks,o::os,h=>by
  have:=feL_id F ks os (by simpa using h);unfold feL at this ⊢;simp[this]
theorem feL_off (F:List ByteArray):∀(ks:List ByteArray) (os:List Nat),ks.length=os.length->(feL F ks os).map FE.off=os
 |[],[],_=>rfl
 |[],_::_,h=>by simp at h
 |_::_,[],h=>by simp at h
 |k::ks,o::os,h=>by
  have:=feL_off F ks os (by simpa using h);unfold feL at this ⊢;simp[this]
theorem nodup_le {α:Type} (l m:List α) (hn:l.Nodup) (hm:∀x ∈ l,x ∈ m):l.length<=m.length:=hn.length_le_of_subset hm
theorem mem_addKV {α:Type} {f:List ByteArray->α->List ByteArray} (hf:∀K x,K<+:f K x):∀(ks:List ByteArray) (cs:List α) (K:List ByteArray),ks.length=cs.length->∀k ∈ ks,k ∈ addKV f K ks cs
 |[],_,_,_,k,hk=>by simp at hk
 |_::_,[],_,h,_,_=>by simp at h
 |x::ks,c::cs,K,h,k,hk=>by
  rw[addKV];rw[List.mem_cons]at hk;rcases hk with rfl|hk
  ·exact((hf _ c).trans (addKV_prefix hf ks cs _)).subset (mem_addK K k)
  ·exact mem_addKV hf ks cs _ (by simpa using h) k hk
theorem pairwise_nodup {l:List ByteArray} (h:l.Pairwise (fun a b=>ltK a b=true)):l.Nodup:=h.imp (fun h=>ltK_ne h)

theorem kid_roomO {d:Nat} {F K ks:List ByteArray} {c:List (Vt d)} {i tot tt L:Nat} {y:Vt d} (hok:∀z ∈ c,OkV d z) (hks:∀k ∈ ks,k.size<=200) (hlen:ks.length=c.length) (hy:c[i]?=some y) (h1:L+64*(1+ks.length+(c.map (wtV d)).sum)<=50000000) (h2:K.length+(1+ks.length+(c.map (wtV d)).sum)<=500000)
  (h3:tot+200*(1+ks.length+(c.map (wtV d)).sum)<=500000000) (ht:tt+szK K=tot+szK (addKV (addV d) K (ks.take i) (c.take i))):
  L+((c.take i).map (encV d F)).flatten.length+64*wtV d y<=50000000/\(addKV (addV d) K (ks.take i) (c.take i)).length+1+wtV d y<=500000/\tt+200+200*wtV d y<=500000000:=by
 have e1:=sum_take (wtV d) c i y hy;have hok':∀z ∈ c.take i,OkV d z:=fun z hz=>hok z (List.mem_of_mem_take hz);have e2:=flatten_bound (F:=F) hok';have hi:=(List.getElem?_eq_some_iff.1 hy).1;have e3:=addKV_bounds (wt:=wtV d) (ks.take i) (c.take i) K (fun k hk=>hks k (List.mem_of_mem_take hk)) (fun z hz K=>addV_bounds d z (hok' z hz) K);rw[List.length_take,Nat.min_eq_left (by omega)]at e3;omega
theorem appendObj (d:Nat) (IH:AppOk d) (num:Nat) (scale:Int) (text:ByteArray) (kv cv:Value) (ks:List ByteArray) (c:List (Vt d)) (w0 w:World) (b tot:Nat) (own:List Nat) (K F:List ByteArray) (bs:List Nat) (hkv:TextsAt w0 kv ks) (hc:KidsAt (VtAt d w0) w0 cv c) (hok:∀y ∈ c,OkV d y) (hk0:Keep [] w0 w) (hB:Bld w b own K bs tot)
  (ho:∀o ∈ own,w0.heap.size<=o) (hl1:bs.length+64*(1+ks.length+(c.map (wtV d)).sum)<=50000000) (hl2:K.length+(1+ks.length+(c.map (wtV d)).sum)<=500000) (hl3:tot+200*(1+ks.length+(c.map (wtV d)).sum)<=500000000) (hF:addKV (addV d) K ks c<+:F) (hF2:F.length<=49)
  (hcl:c.length<=500) (hkl:ks.length=c.length) (hks:∀k ∈ ks,k.size<=200) (hord:ks.Pairwise (fun a b=>ltK a b=true)):
  Calls Tryz.prog 17 #[.pointer (some ⟨b,0,none⟩),.agg #[.int .i64 0,.int .u64 (num:Int),.int .i64 scale,.string text,kv,cv]] w fun e w'=>e=.returned .nilIface/\
   ∃own' tot',Bld w' b own' (addKV (addV d) K ks c) (bs++(objHdr (ks.map (idxK F)) (offsL 0 ((c.map (encV d F)).map List.length)) (c.map (encV d F)).flatten.length++(c.map (encV d F)).flatten)) tot'/\Own2 w w' own own'/\tot'+szK K=tot+szK (addKV (addV d) K ks c):=by
 obtain⟨ta,tcap,rfl,htc,htell⟩:=hkv;obtain⟨ka,kcap,rfl,hkc,hcell⟩:=hc;obtain⟨n,hn⟩:∃n,n=c.length:=⟨_,rfl⟩;rw[hkl,<-hn]at htc ⊢;have H:=qq (And.intro hB (And.intro ho (And.intro hk0 (And.intro hok (And.intro hcell (And.intro hF (And.intro hl1 (And.intro hl2 (And.intro hl3 (And.intro hn (And.intro htell (And.intro hkl (And.intro hks hord)))))))))))));rw[<-hn]at hcl hkc;have hw1:Keep [] w (w.alloc (.cells #[.int .i64 0,.int .u64 (num:Int),.int .i64 scale,.string text,.slice ta n tcap,.slice ka n kcap] 26)):=(Keep.refl [] w).alloc _;have hx1:Blk (w.alloc (.cells #[.int .i64 0,.int .u64 (num:Int),.int .i64 scale,.string text,.slice ta n tcap,.slice ka n kcap] 26)) w.heap.size [.int .i64 0,.int .u64 (num:Int),.int .i64 scale,.string text,.slice ta n tcap,.slice ka n kcap]:=Blk.new w _ _;have hs1:(w.alloc (.cells #[.int .i64 0,.int .u64 (num:Int),.int .i64 scale,.string text,.slice ta n tcap,.slice ka n kcap] 26)).heap.size=w.heap.size+1:=by simp
 obtain⟨st,hst⟩:∃st,st=bs.length:=⟨_,rfl⟩;have Hst:=qq hst;have hstl:st<=50000000:=by omega
 clear hB ho hk0 hok hcell hF hl1 hl2 hl3 hn hst htell hkl hks hord
 go_enter Tryz.func17,Tryz.ntmps17
 go_wp2_with fail
 generalize w.alloc (.cells #[.int .i64 0,.int .u64 (num:Int),.int .i64 scale,.string text,.slice ta n tcap,.slice ka n kcap] 26)=w1 at hw1 hx1 hs1 ⊢;refine(offsetC b tot own K bs w1 (H.out.1.keep hw1 (by simp))).mono ?_;rintro e w2 ⟨rfl,k2⟩;rw[<-Hst.out];have c5:(w2.alloc (.cells #[] 72)).cell? ⟨w.heap.size,5,none⟩=some (.slice ka n kcap):=((hx1.keep k2 (by simp)).alloc _).cell rfl;have hg3:Blk (w2.alloc (.cells #[] 72)) w2.heap.size []:=Blk.new w2 [] _;have K3:Keep [] w1 (w2.alloc (.cells #[] 72)):=k2.alloc _;have hn3:w1.heap.size<=w2.heap.size:=k2.size;have hxo:w.heap.size ∉ own:=fun hm=>by have:=H.out.1.olt _ hm;omega
 have HS:=qq3 hg3 K3 hn3;have HX:=qq4 hx1 hw1 hs1 hxo;clear k2 hg3 K3 hn3 hx1 hw1 hs1 hxo;go_wp2_with fail
 generalize w2.alloc (.cells #[] 72)=w3 at HS ⊢;have hO3:OwnC cfF 3 [w2.heap.size] w3 (.slice (some ⟨w2.heap.size,0,none⟩) 0 0) (feL F (ks.take 0) (offsL 0 (((c.take 0).map (encV d F)).map List.length))):=.inr ⟨w2.heap.size,0,[],rfl,rfl,HS.out.1,rfl,rfl,Nat.le_refl _⟩;have hB3:Bld w3 b own (addKV (addV d) K (ks.take 0) (c.take 0)) (bs++((c.take 0).map (encV d F)).flatten) tot:=by simpa[addKV]using H.out.1.keep (HX.out.2.1.trans HS.out.2.1 (by simp)) (by simp)
 have hgn:w2.heap.size ∉ own:=fun hm=>by have:=H.out.1.olt _ hm;have:=HS.out.2.2;have:=HX.out.2.2.1;omega
 have HL:=qq5 hO3 hB3 HS.out.2.1 hgn HS.out.2.2;clear hO3 hB3 hgn c5 HS
 go_loopw [25,6] (fun iv v11 wr=>∃(i:Nat) (ow:List Nat) (tt:Nat) (G:List Nat),i<=n/\iv=.int .i64 (i:Int)/\Hid (OwnC cfF 3 G wr v11 (feL F (ks.take i) (offsL 0 (((c.take i).map (encV d F)).map List.length)))/\Bld wr b ow (addKV (addV d) K (ks.take i) (c.take i)) (bs++((c.take i).map (encV d F)).flatten) tt/\
   Own2 w1 wr own ow/\(∀x ∈ G,x ∉ ow/\w1.heap.size<=x)/\tt+szK K=tot+szK (addKV (addV d) K (ks.take i) (c.take i)))) (fun i _ _=>n-(intOf i).toNat)
 case atStart=>exact⟨0,own,tot,[w2.heap.size],Nat.zero_le _,rfl,Lib.hid ⟨HL.out.1,HL.out.2.1,⟨HL.out.2.2.1.nil,fun x hx=>.inl hx⟩,fun x hx=>by simp at hx;subst hx;exact⟨HL.out.2.2.2.1,HL.out.2.2.2.2⟩,by simp[addKV]⟩⟩
 case round=>
  obtain⟨i,ow,tt,G,hi,rfl,HR⟩:=hrel;obtain⟨hB,ho,hk0,hok,hcell,hF,hl1,hl2,hl3,hn,htell,hkl,hks,hord⟩:=H.out;by_cases hlt:i<n
  ·have hlti:(i:Int)<(n:Int):=by omega
   obtain⟨y,hy⟩:∃y,c[i]?=some y:=⟨_,List.getElem?_eq_getElem (by omega)⟩;obtain⟨k,hk⟩:∃k,ks[i]?=some k:=⟨_,List.getElem?_eq_getElem (by omega)⟩;obtain⟨a,u0,u1,u2,u3,u4,u5,rfl,d0,d1,d2,d3,d4,d5,hP⟩:=hcell i y hy;obtain⟨yk,ys,yn,yt,ya1,ya2,yl1,yc1,yl2,yc2,rfl,rfl,rfl,rfl,rfl,rfl⟩:=hP.shape;obtain⟨ta',rfl,dk⟩:=htell i k hk;have Kr:=HR.out.2.2.1.keep0 (hk0.trans HX.out.2.1 (by simp)) ho;have e0:wr.cell? (a.add (i*6))=some (.int .i64 yk):=Kr.1.cell_some d0 (by simp);have e1:wr.cell? ⟨(a.add (i*6)).block,(a.add (i*6)).off+1,none⟩=some (.int .u64 (yn:Int)):=Kr.1.cell_some d1 (by simp);have e2:wr.cell? ⟨(a.add (i*6)).block,(a.add (i*6)).off+2,none⟩=some (.int .i64 ys):=Kr.1.cell_some d2 (by simp);have e3:wr.cell? ⟨(a.add (i*6)).block,(a.add (i*6)).off+3,none⟩=some (.string yt):=Kr.1.cell_some d3 (by simp);have e4:wr.cell? ⟨(a.add (i*6)).block,(a.add (i*6)).off+4,none⟩=some (.slice ya1 yl1 yc1):=Kr.1.cell_some d4 (by simp);have e5:wr.cell? ⟨(a.add (i*6)).block,(a.add (i*6)).off+5,none⟩=some (.slice ya2 yl2 yc2):=Kr.1.cell_some d5 (by simp);have Ka:Keep [] wr (wr.alloc (.cells #[.int .i64 yk,.int .u64 (yn:Int),.int .i64 ys,.string yt,.slice ya1 yl1 yc1,.slice ya2 yl2 yc2] 26)):=(Keep.refl [] wr).alloc _;have hYa:Blk (wr.alloc (.cells #[.int .i64 yk,.int .u64 (yn:Int),.int .i64 ys,.string yt,.slice ya1 yl1 yc1,.slice ya2 yl2 yc2] 26)) wr.heap.size [.int .i64 yk,.int .u64 (yn:Int),.int .i64 ys,.string yt,.slice ya1 yl1 yc1,.slice ya2 yl2 yc2]:=Blk.new wr _ _;have ck:(wr.alloc (.cells #[.int .i64 yk,.int .u64 (yn:Int),.int .i64 ys,.string yt,.slice ya1 yl1 yc1,.slice ya2 yl2 yc2] 26)).cell? (ta'.add i)=some (.string k):=Ka.cell_some (Kr.1.cell_some dk (by simp)) (by simp);have cb:(wr.alloc (.cells #[.int .i64 yk,.int .u64 (yn:Int),.int .i64 ys,.string yt,.slice ya1 yl1 yc1,.slice ya2 yl2 yc2] 26)).cell? ⟨w.heap.size,4,none⟩=some (.slice (some ta') n tcap):=((HX.out.1.keep HR.out.2.2.1.1 HX.out.2.2.2).alloc _).cell rfl;have Hd:=qq2 hP Kr;have Hy:=qq2 hy hk;clear d0 d1 d2 d3 d4 d5 dk hP Kr hB ho hk0 hok hcell hF hl1 hl2 hl3 hn htell hkl hks hord hy hk;go_wp2_with fail
   generalize wr.alloc (.cells #[.int .i64 yk,.int .u64 (yn:Int),.int .i64 ys,.string yt,.slice ya1 yl1 yc1,.slice ya2 yl2 yc2] 26)=wa at Ka hYa ck cb ⊢;obtain⟨hB,ho,hk0,hok,hcell,hF,hl1,hl2,hl3,hn,htell,hkl,hks,hord⟩:=H.out;obtain⟨hy,hk⟩:=Hy.out;obtain⟨hOr,hBr,hO2,hGr,htr⟩:=HR.out;obtain⟨off,hoff⟩:∃off,off=((c.take i).map (encV d F)).flatten.length:=⟨_,rfl⟩;have hroom:=kid_roomO (F:=F) (L:=bs.length) hok hks hkl hy hl1 hl2 hl3 htr;rw[<-hoff]at hroom;obtain⟨Ki,hKi⟩:∃Ki,Ki=addKV (addV d) K (ks.take i) (c.take i):=⟨_,rfl⟩;rw[<-hKi]at hroom hBr htr;have hkS:k.size<=200:=hks k (List.mem_of_getElem? hk);have hpre:addV d (addK Ki k) y<+:F:=by
    rw[hKi,<-addKV_take (addV d) K hk hy];exact(addKV_take_prefix (addV_prefix d) ks c K (i+1)).trans hF
   have hid:idxK (addK Ki k) k=idxK F k:=(idxK_prefix ((addV_prefix d _ y).trans hpre) (mem_addK Ki k)).symm;have hnx:=nextFieldC b tt st ow Ki (bs++((c.take i).map (encV d F)).flatten) k wa (hBr.keep Ka (by simp)) (by rw[List.length_append,Hst.out];omega) (by rw[List.length_append,<-hoff];omega) (by omega) (by omega) (by omega);have hbd:=addK_bounds Ki k hkS;rw[hid,show(bs++((c.take i).map (encV d F)).flatten).length-st=off by rw[List.length_append,Hst.out,<-hoff];omega]at hnx;have hGn:wr.heap.size ∉ G:=fun hm=>by have:=hOr.lt _ hm;omega
   have hyo:wr.heap.size ∉ ow:=fun hm=>by have:=hBr.olt _ hm;omega
   have hOa:=hOr.keep Ka (by simp);have hlen:(feL F (ks.take i) (offsL 0 (((c.take i).map (encV d F)).map List.length))).length=i:=by
    rw[length_feL _ _ _ (by rw[length_offsL];simp;omega),List.length_take,Nat.min_eq_left (by omega)]
   have HI:=qq (And.intro hoff (And.intro hroom (And.intro hKi (And.intro hpre (And.intro hbd (And.intro hGn (And.intro hyo (And.intro hlen (And.intro hOa (And.intro Ka (And.intro hYa (And.intro hBr htr))))))))))));clear hB ho hk0 hok hcell hF hl1 hl2 hl3 hn htell hkl hks hord hy hk hOr hBr hO2 hGr htr hoff hroom hKi hpre hbd hGn hyo hlen hOa Ka hYa hid hkS e0 e1 e2 e3 e4 e5 ck cb;refine hnx.mono ?_;rintro e wb ⟨rfl,oF,tF,hBF,hOF,htF⟩;obtain⟨hoff,hroom,hKi,hpre,hbd,hGn,hyo,hlen,hOa,Ka,hYa,hBr,htr⟩:=HI.out;obtain⟨hOr,-,hO2,hGr,-⟩:=HR.out;have hGF:∀x ∈ G,x ∉ ow:=fun x hx=>(hGr x hx).1;have hOb:=hOa.keep hOF.1 hGF;have hO3:=hOb.keep (S:=[]) ((Keep.refl [] wb).alloc (.cells #[.string k,.int .u32 (idxK F k:Int),.int .i64 (off:Int)] 72)) (by simp);have hYb:=(hYa.keep hOF.1 hyo).alloc (.cells #[.string k,.int .u32 (idxK F k:Int),.int .i64 (off:Int)] 72);have KFb:Keep ow wr (wb.alloc (.cells #[.string k,.int .u32 (idxK F k:Int),.int .i64 (off:Int)] 72)):=(Ka.nil.trans hOF.1 (fun x hx=>.inl hx)).alloc _;have hBF3:=hBF.keep (S:=[]) ((Keep.refl [] wb).alloc (.cells #[.string k,.int .u32 (idxK F k:Int),.int .i64 (off:Int)] 72)) (by simp);have hsrc:Src Tryz.prog 3 69 (.slice (some ⟨wb.heap.size,0,none⟩) 1 1) [FE.mk k (idxK F k) off].length ([FE.mk k (idxK F k) off].flatMap cfF) (wb.alloc (.cells #[.string k,.int .u32 (idxK F k:Int),.int .i64 (off:Int)] 72)):=
    Src.oneC (cf:=cfF) (x:=FE.mk k (idxK F k) off) cfF_len (by simp[Value.oneCell',cfF]) Tryz.underlying69 (Blk.new wb _ _)
   obtain⟨i0,hi0,hz0,hz1,hz2⟩:=info_parts info_fe;have hlb:((feL F (ks.take i) (offsL 0 (((c.take i).map (encV d F)).map List.length))).length+[FE.mk k (idxK F k) off].length)*32<=140737488355328:=by rw[hlen];simp;omega
   have hl6:(feL F (ks.take i) (offsL 0 (((c.take i).map (encV d F)).map List.length))).length+[FE.mk k (idxK F k) off].length<=1000000000000:=by rw[hlen];simp;omega
   have HF:=qq5 hYb KFb hBF3 hOF htF;clear hoff hroom hKi hpre hbd hGn hyo hlen hOa Ka hYa hBr htr hOr hO2 hGr hGF hOb hYb KFb hBF3 hBF hOF htF hnx;go_wp2_with(at_builtin;refine wpList_append_ownC (cf:=cfF) cfF_len (by decide) rfl _ _ 69 72 rfl i0 32 Tryz.underlying69 hi0 ⟨_,hz0,rfl⟩ hz1 hz2 rfl hO3 _ [FE.mk k (idxK F k) off] rfl hsrc hlb hl6 ?_;intro v' wc G' hO4 k4 hG4;refine halt ?_)
   obtain⟨hoff,hroom,hKi,hpre,hbd,hGn,hyo,hlen,hOa,Ka,hYa,hBr,htr⟩:=HI.out;obtain⟨hYb,KFb,hBF3,hOF,htF⟩:=HF.out;obtain⟨hOr,-,hO2,hGr,-⟩:=HR.out;obtain⟨hy,hk⟩:=Hy.out;have hYc:=hYb.keep k4 hGn;have f0:wc.cell? ⟨wr.heap.size,0,none⟩=some (.int .i64 yk):=hYc.cell rfl;have f1:wc.cell? ⟨wr.heap.size,1,none⟩=some (.int .u64 (yn:Int)):=hYc.cell rfl;have f2:wc.cell? ⟨wr.heap.size,2,none⟩=some (.int .i64 ys):=hYc.cell rfl;have f3:wc.cell? ⟨wr.heap.size,3,none⟩=some (.string yt):=hYc.cell rfl;have f4:wc.cell? ⟨wr.heap.size,4,none⟩=some (.slice ya1 yl1 yc1):=hYc.cell rfl;have f5:wc.cell? ⟨wr.heap.size,5,none⟩=some (.slice ya2 yl2 yc2):=hYc.cell rfl;have hsa:wr.heap.size<=wa.heap.size:=Ka.size;have hoF:∀x ∈ oF,x ∈ ow\/wr.heap.size<=x:=fun x hx=>(hOF.2 x hx).imp_right (fun h=>Nat.le_trans hsa h);have hGoF:∀x ∈ oF,x ∉ G:=fun x hx hm=>by
    rcases hoF x hx with h|h
    ·exact(hGr x hm).1 h
    ·have:=hOr.lt x hm;omega
   have hBc:=hBF3.keep k4 hGoF;have hwow:∀x ∈ ow,w0.heap.size<=x:=Hd.out.2.2;have hw01:w0.heap.size<=w1.heap.size:=Nat.le_trans H.out.2.2.1.size HX.out.2.1.size;have Kc:Keep [] w0 wc:=(Hd.out.2.1.trans KFb (fun x hx=>.inr (hwow x hx))).trans k4 (fun x hx=>.inr (Nat.le_trans hw01 (hGr x hx).2));have hoF0:∀o ∈ oF,w0.heap.size<=o:=fun o hm=>(hoF o hm).elim (hwow o) (fun h=>Nat.le_trans Hd.out.2.1.size h);have hIH:=IH y _ w0 wc b tF oF (addK Ki k) F (bs++((c.take i).map (encV d F)).flatten) Hd.out.1 (H.out.2.2.2.1 y (List.mem_of_getElem? hy)) Kc hBc hoF0 (by rw[List.length_append,<-hoff];exact hroom.1) (by omega) (by omega) hpre hF2;have HJ:=qq5 hO4 k4 hG4 hoF hBc;clear hO4 k4 hG4 hy hk hoff hroom hKi hpre hbd hGn hyo hlen hOa Ka hYa hBr htr hYb KFb hBF3 hOF htF hOr hO2 hGr hYc hsa hoF hGoF hBc hwow hw01 Kc hoF0 hO3 hsrc hlb hl6 hz0 hz1 hz2;refine Lib.hid ?_;go_wp2_with fail
   refine hIH.mono ?_;rintro e wd ⟨rfl,ow',tt',hBd,hOd,htd⟩;have HK:=qq3 hBd hOd htd;clear hBd hOd htd hIH;go_wp2_with fail
   obtain⟨hO4,k4,hG4,hoF,hBc⟩:=HJ.out;obtain⟨hBd,hOd,htd⟩:=HK.out;obtain⟨hoff,hroom,hKi,hpre,hbd,hGn,hyo,hlen,hOa,Ka,hYa,hBr,htr⟩:=HI.out;obtain⟨hYb,KFb,hBF3,hOF,htF⟩:=HF.out;obtain⟨hOr,-,hO2,hGr,-⟩:=HR.out;obtain⟨hy,hk⟩:=Hy.out;have hwr:w1.heap.size<=wr.heap.size:=hO2.1.size;have hbs:wr.heap.size<=(wb.alloc (.cells #[.string k,.int .u32 (idxK F k:Int),.int .i64 (off:Int)] 72)).heap.size:=KFb.size;have hGow:∀x ∈ G',x ∉ oF/\w1.heap.size<=x:=fun x hx=>by
    rcases hG4 x hx with h|h
    ·refine⟨fun hm=>?_,(hGr x h).2⟩;rcases hoF x hm with h'|h'
     ·exact(hGr x h).1 h'
     ·have:=hOr.lt x h;omega
    ·refine⟨fun hm=>?_,by omega⟩;have:=hBF3.olt x hm;omega
   have hK4:Keep own w1 wc:=(hO2.1.trans KFb (fun x hx=>hO2.2 x hx)).trans k4 (fun x hx=>.inr (hGr x hx).2);have hoF1:∀x ∈ oF,x ∈ own\/w1.heap.size<=x:=fun x hx=>(hoF x hx).elim (hO2.2 x) (fun h=>.inr (Nat.le_trans hwr h));refine⟨⟨i+1,ow',tt',G',hlt,by simp,Lib.hid ⟨?_,?_,⟨hK4.trans hOd.1 hoF1,fun x hx=>?_⟩,fun x hx=>⟨fun hm=>?_,(hGow x hx).2⟩,?_⟩⟩,by simp[intOf];omega⟩
   ·have:=hO4.keep hOd.1 (fun x hx=>(hGow x hx).1);rw[map_take_snoc _ hy,take_snoc hk,List.map_append,offsL_append,sum_lens,<-hoff];have e:offsL (0+off) (List.map List.length [encV d F y])=[off]:=by simp[offsL]
    have hcl:=(List.getElem?_eq_some_iff.1 hy).1;have hkl:=(List.getElem?_eq_some_iff.1 hk).1;rw[e,feL_snoc _ _ _ _ _ (by rw[length_offsL];simp;omega)];exact this
   ·rw[addKV_take (addV d) K hk hy,map_take_snoc _ hy,List.flatten_append,<-List.append_assoc,<-hKi];simpa using hBd
   ·rcases hOd.2 x hx with h|h
    ·exact hoF1 x h
    ·exact .inr (Nat.le_trans hK4.size h)
   ·rcases hOd.2 x hm with h|h
    ·exact(hGow x hx).1 h
    ·have:=hO4.lt x hx;omega
   ·rw[addKV_take (addV d) K hk hy,<-hKi];omega
  ·have hie:i=n:=by omega
   subst hie;have hlti:¬(i:Int)<(i:Int):=by omega
   obtain⟨hB,ho,hk0,hok,hcell,hF,hl1,hl2,hl3,hn,htell,hkl,hks,hord⟩:=H.out;obtain⟨hO,hBr,hOr,hGr,htr⟩:=HR.out;have hct:c.take i=c:=List.take_of_length_le (by omega);have hkt:ks.take i=ks:=List.take_of_length_le (by omega);rw[hct,hkt]at hO hBr htr;have hdup:=hBr.dup;obtain⟨g,rest,hA,hgo,hbo,hopen⟩:=hBr.open;obtain⟨os,hos⟩:∃os,os=offsL 0 ((c.map (encV d F)).map List.length):=⟨_,rfl⟩;rw[<-hos]at hO;have hosl:ks.length=os.length:=by rw[hos,length_offsL];simp;omega
   have hlen:i=(feL F ks os).length:=by rw[length_feL _ _ _ hosl];omega
   obtain⟨ds,hds⟩:∃ds,ds=(c.map (encV d F)).flatten.length:=⟨_,rfl⟩;obtain⟨nb,hnb⟩:∃nb,nb=(bs++(c.map (encV d F)).flatten).length:=⟨_,rfl⟩;have hnbl:nb=st+ds:=by rw[hnb,List.length_append,Hst.out,hds]
   have hroom:=flatten_bound (F:=F) hok;have hwt:ds<=50000000/\nb<=100000000:=by rw[<-hds]at hroom;omega
   have hmem:∀k ∈ ks,k ∈ F:=fun k hk=>hF.subset (mem_addKV (addV_prefix d) ks c K hkl k hk);have hkn:ks.length<=255:=by have:=nodup_le ks F (pairwise_nodup hord) hmem;omega
   have hfe:∀x ∈ feL F ks os,x.off<2147483648/\x.id<=255:=fun x hx=>by
    have h1:x.off ∈ (feL F ks os).map FE.off:=List.mem_map_of_mem hx;have h2:x.id ∈ (feL F ks os).map FE.id:=List.mem_map_of_mem hx;rw[feL_off _ _ _ hosl,hos]at h1;rw[feL_id _ _ _ hosl]at h2;have:=offsL_le _ _ _ h1;rw[sum_lens,<-hds]at this;refine⟨by omega,?_⟩;obtain⟨k,hk,e⟩:=List.mem_map.1 h2;have:=idxK_lt (hmem k hk);omega
   have hpw:(feL F ks os).Pairwise (fun x y=>ltK x.key y.key=true):=by
    have:((feL F ks os).map FE.key).Pairwise (fun a b=>ltK a b=true):=by rw[feL_key _ _ _ hosl];exact hord
    rwa[List.pairwise_map]at this
   have HZ:=qq (And.intro hA (And.intro hO (And.intro hpw (And.intro hfe (And.intro hopen (And.intro hOr (And.intro htr (And.intro hds (And.intro hnb (And.intro hlen (And.intro hos (And.intro hosl (And.intro (fun x hx=>(⟨fun e=>(hGr x hx).1 (e▸hbo),fun hm=>(hGr x hx).1 (hgo x hm)⟩:x≠b/\x ∉ g)) hdup)))))))))))));have hi255:i<=255:=by omega
   clear hB ho hk0 hok hcell hF hl1 hl2 hl3 hn htell hkl hks hord hA hO hpw hfe hopen hOr htr hds hnb hlen hos hosl hGr hgo hbo hroom hdup hct hkt hBr hkn hmem;go_wp2_with fail
   refine(finishObjC b nb st ds i (2+i+(i+1)*sizeW ds) G _ (feL F ks os) g rest (bs++(c.map (encV d F)).flatten) _ HZ.out.1 HZ.out.2.2.2.2.2.2.2.2.1 HZ.out.2.2.2.2.2.2.2.2.2.1 (by omega) hwt.2 hi255 rfl HZ.out.2.2.2.1 HZ.out.2.2.1 HZ.out.2.1 HZ.out.2.2.2.2.2.2.2.2.2.2.2.2.1 HZ.out.2.2.2.2.2.2.2.2.2.2.2.2.2).mono ?_;rintro e we ⟨rfl,hP⟩;have HP:=qq hP;clear hP;go_wp2;go_ret;obtain⟨hA,hO,hpw,hfe,hopen,hOr,htr,hds,hnb,hlen,hos,hosl,hgb,hdup⟩:=HZ.out;obtain⟨r,L,hRm,hkk,hrg⟩:=HP.out;obtain⟨own',hBe,hOe⟩:=hopen _ r _ L hRm hkk hrg;have hOw:=hOr.trans hOe;refine⟨rfl,own',tt,?_,⟨HX.out.2.1.nil.trans hOw.1 (fun x hx=>.inl hx),fun x hx=>(hOw.2 x hx).imp_right (fun h=>Nat.le_trans HX.out.2.1.size h)⟩,htr⟩;rw[Hst.out,List.take_left,List.drop_left,feL_id _ _ _ hosl,feL_off _ _ _ hosl,hds,hos]at hBe;exact hBe

theorem appendV:∀d,AppOk d
 |0=>fun x v w0 w b tot own K F bs h _ _ _ _ _ _ _ _ _=>h.elim
 |d+1=>by
  intro x v w0 w b tot own K F bs hv hok hk0 hB ho hl1 hl2 hl3 hF hF2;have hx:OkN (OkV d) x:=hok;obtain⟨kv,cv,rfl,hkv,hcv⟩:=hv;obtain⟨kind,num,scale,text,ks,c⟩:=x;have hkl:=keys_wt ks;have e1:wtV (d+1) (Node.mk kind num scale text ks c:Node (Vt d))=1+text.size / 16+(ks.map fun k=>1+k.size / 16).sum+(c.map (wtV d)).sum:=rfl;rw[e1]at hl1 hl2 hl3;have e2:addV (d+1) K (Node.mk kind num scale text ks c:Node (Vt d))=addN (addV d) K (Node.mk kind num scale text ks c):=rfl;have e3:encV (d+1) F (Node.mk kind num scale text ks c:Node (Vt d))=encN F (encV d F) (Node.mk kind num scale text ks c):=rfl;rw[e2]at hF ⊢;rw[e3];by_cases h0:kind=0
  ·subst h0;have ea:addN (addV d) K (Node.mk 0 num scale text ks c)=addKV (addV d) K ks c:=by unfold addN;rw[if_pos rfl]
   have eb:encN F (encV d F) (Node.mk 0 num scale text ks c)=objHdr (ks.map (idxK F)) (offsL 0 ((c.map (encV d F)).map List.length)) (c.map (encV d F)).flatten.length++(c.map (encV d F)).flatten:=by unfold encN;rw[if_pos rfl]
   rw[ea]at hF ⊢;rw[eb];exact appendObj d (appendV d) num scale text kv cv ks c w0 w b tot own K F bs hkv hcv hx.kids hk0 hB ho (by omega) (by omega) (by omega) hF hF2 hx.kidsLe (hx.keysKids rfl) hx.keyLe hx.sorted
  ·by_cases h1:kind=1
   ·subst h1;have ea:addN (addV d) K (Node.mk 1 num scale text ks c)=c.foldl (addV d) K:=by unfold addN;rw[if_neg (by simp),if_pos rfl]
    have eb:encN F (encV d F) (Node.mk 1 num scale text ks c)=arrHdr (offsL 0 ((c.map (encV d F)).map List.length)) (c.map (encV d F)).flatten.length++(c.map (encV d F)).flatten:=by unfold encN;rw[if_neg (by simp),if_pos rfl]
    rw[ea]at hF ⊢;rw[eb];exact appendArr d (appendV d) num scale text kv cv c w0 w b tot own K F bs hcv hx.kids hk0 hB ho (by omega) (by omega) (by omega) hF hF2 hx.kidsLe
   ·have ea:addN (addV d) K (Node.mk kind num scale text ks c)=K:=by unfold addN;rw[if_neg h0,if_neg h1]
    have eb:encN F (encV d F) (Node.mk kind num scale text ks c)=primB kind scale num text:=by unfold encN;rw[if_neg h0,if_neg h1]
    rw[ea,eb];obtain⟨g,rest,hA,-,-,hopen⟩:=hB.open;have hkd:=hx.kind0;refine(appendPrimC b kind num scale text kv cv g rest bs w hA (by omega) (by simp at hkd;omega) hx.num hx.flat hx.textLe).mono ?_;rintro e we ⟨rfl,r,L,hRm,hkk,hrg⟩;obtain⟨own',hBe,hOe⟩:=hopen _ r _ L hRm hkk hrg;exact⟨rfl,own',tot,hBe,hOe,rfl⟩
end Go.Proofs.YtocgdgmfnockiaaGreatDoor
