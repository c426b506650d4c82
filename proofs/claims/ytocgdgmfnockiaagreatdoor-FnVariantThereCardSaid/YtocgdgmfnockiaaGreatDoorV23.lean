/- Variants, the law's side: hasText, collect, KeyCount. Variants, the law's side: fewNodes. -/
import Derived.Test.YtocgdgmfnockiaaGreatDoorV20
import Derived.Test.YtocgdgmfnockiaaGreatDoorV22
set_option linter.unusedVariables false
set_option linter.unusedSimpArgs false
set_option maxRecDepth 100000
set_option maxHeartbeats 8000000
namespace Go.Proofs.YtocgdgmfnockiaaGreatDoor
open Go.RowKit
theorem info_str:(Tryz.prog.info? 9).map (fun i=>(i.zero,i.size,i.bytes))=some (some (.string ⟨#[]⟩),1,16):=by kernel_rfl
theorem strNe {x s:ByteArray} (h:¬x=s):(x.toList==s.toList)=false:=by
 cases hb:x.toList==s.toList with
 |false=>rfl
 |true=>exact absurd (ba_ext (eq_of_beq hb)) h
theorem hasTextC (v:Value) (K:List ByteArray) (s:ByteArray) (w:World) (h:TextsAt w v K) (hK:K.length<=1000000):Calls Tryz.prog 29 #[v,.string s] w fun e w'=>e=.returned (.bool (hasK K s))/\w=w':=by
 obtain⟨ao,cap,rfl,hc,hcell⟩:=h;obtain⟨n,hn⟩:∃n,n=K.length:=⟨_,rfl⟩;rw[<-hn]at hc hK ⊢;have H:=qq2 hcell hn;clear hcell hn
 go_enter Tryz.func29,Tryz.ntmps29
 go_wp2_with fail
 go_loopw [9] (fun i wr=>∃j:Nat,j<=n/\i=.int .i64 (j:Int)/\w=wr/\Hid (∀x ∈ K.take j,x≠s)) (fun i _=>n-(intOf i).toNat)
 case atStart=>exact⟨0,Nat.zero_le _,rfl,rfl,qq (by simp)⟩
 case round=>
  obtain⟨j,hj,rfl,rfl,HR⟩:=hrel;by_cases hj2:j<n
  ·have hlti:(j:Int)<(n:Int):=by omega
   obtain⟨x,hx⟩:∃x,K[j]?=some x:=⟨_,List.getElem?_eq_getElem (by rw[<-H.out.2];exact hj2)⟩;obtain⟨a,rfl,hcx⟩:=H.out.1 j x hx;have Hx:=qq hx;clear hx;by_cases hxs:x=s
   ·subst hxs;have hf:hasK K x=true:=hasK_iff.2 (List.mem_of_getElem? Hx.out);have Hf:=qq hf;clear hf;go_wp2;go_ret;exact⟨by rw[Hf.out];rfl,rfl⟩
   ·have hsx:=strNe hxs;go_wp2;go_roundw
    case rel=>
     refine⟨j+1,hj2,by go_num,trivial,qq (fun y hy=>?_)⟩;rw[take_snoc Hx.out,List.mem_append]at hy;rcases hy with hy|hy
     ·exact HR.out y hy
     ·rw[List.mem_singleton]at hy;subst hy;exact hxs
    case measure=>simp[intOf];omega
  ·have hjn:j=n:=by omega
   subst hjn;have hf:hasK K s=false:=hasK_false.2 (fun hm=>HR.out s (by rw[H.out.2,List.take_length];exact hm) rfl);have Hf:=qq hf;clear hf;go_wp2;go_ret;exact⟨by rw[Hf.out];rfl,rfl⟩
theorem addK_len (K:List ByteArray) (k:ByteArray):(addK K k).length<=K.length+1:=by
 unfold addK;split<;>simp
theorem foldl_addK_len:∀(ks K:List ByteArray),(ks.foldl addK K).length<=K.length+ks.length
 |[],K=>by simp
 |k::ks,K=>by
  have:=foldl_addK_len ks (addK K k);have:=addK_len K k;simp only[List.foldl_cons,List.length_cons];omega
theorem foldl_len {α:Type} {f:List ByteArray->α->List ByteArray} {wt:α->Nat}:∀(cs:List α) (K:List ByteArray),(∀c ∈ cs,∀K,(f K c).length<=K.length+wt c)->(cs.foldl f K).length<=K.length+(cs.map wt).sum
 |[],K,_=>by simp
 |c::cs,K,h=>by
  have h1:=h c (by simp) K;have h2:=foldl_len (wt:=wt) cs (f K c) (fun x hx=>h x (by simp[hx]));simp only[List.foldl_cons,List.map_cons,List.sum_cons];omega
theorem colV_len:∀(d:Nat) (K:List ByteArray) (x:Vt d),(colV d K x).length<=K.length+wtV d x
 |0,K,x=>by simp[colV]
 |d+1,K,x=>by
  show(colN (colV d) K x).length<=K.length+wtN (wtV d) x
  unfold colN;have h1:=foldl_addK_len (Node.keys x) K;have h2:=foldl_len (f:=colV d) (wt:=wtV d) (Node.kids x) ((Node.keys x).foldl addK K) (fun c _ K=>colV_len d K c);have h3:=keys_wt (Node.keys x);unfold wtN;omega

theorem KidsAt.kid {α:Type} {R:Value->α->Prop} {w:World} {v:Value} {l:List α} {i:Nat} {y:α} (h:KidsAt R w v l) (hy:l[i]?=some y) (hR:∀u,R u y->∃(k s:Int) (n:Nat) (t:ByteArray) (a1 a2:Option Addr) (l1 c1 l2 c2:Nat),u=.agg #[.int .i64 k,.int .u64 (n:Int),.int .i64 s,.string t,.slice a1 l1 c1,.slice a2 l2 c2]):
  ∃(a:Addr) (cap:Nat) (k s:Int) (n:Nat) (t:ByteArray) (a1 a2:Option Addr) (l1 c1 l2 c2:Nat),v=.slice (some a) l.length cap/\l.length<=cap/\R (.agg #[.int .i64 k,.int .u64 (n:Int),.int .i64 s,.string t,.slice a1 l1 c1,.slice a2 l2 c2]) y/\
   w.cell? (a.add (i*6))=some (.int .i64 k)/\w.cell? ⟨(a.add (i*6)).block,(a.add (i*6)).off+1,none⟩=some (.int .u64 (n:Int))/\w.cell? ⟨(a.add (i*6)).block,(a.add (i*6)).off+2,none⟩=some (.int .i64 s)/\
   w.cell? ⟨(a.add (i*6)).block,(a.add (i*6)).off+3,none⟩=some (.string t)/\w.cell? ⟨(a.add (i*6)).block,(a.add (i*6)).off+4,none⟩=some (.slice a1 l1 c1)/\w.cell? ⟨(a.add (i*6)).block,(a.add (i*6)).off+5,none⟩=some (.slice a2 l2 c2):=by
 obtain⟨ao,cap,rfl,hc,hk⟩:=h;obtain⟨a,u0,u1,u2,u3,u4,u5,rfl,c0,c1,c2,c3,c4,c5,p⟩:=hk i y hy;obtain⟨k,s,n,t,a1,a2,l1,q1,l2,q2,e⟩:=hR _ p;injection e with e
 injection e with e
 simp only[List.cons.injEq,and_true]at e;obtain⟨rfl,rfl,rfl,rfl,rfl,rfl⟩:=e;exact⟨a,cap,k,s,n,t,a1,a2,l1,q1,l2,q2,rfl,hc,p,c0,c1,c2,c3,c4,c5⟩
theorem VtAt.sixAt {d:Nat} {w:World} {v:Value} {x:Vt d} (h:VtAt d w v x):∃(k s:Int) (n:Nat) (t:ByteArray) (a1 a2:Option Addr) (l1 c1 l2 c2:Nat),v=.agg #[.int .i64 k,.int .u64 (n:Int),.int .i64 s,.string t,.slice a1 l1 c1,.slice a2 l2 c2]:=by
 cases d with
 |zero=>exact h.elim
 |succ d=>
  obtain⟨kv,cv,e,⟨a1,c1,rfl,_⟩,⟨a2,c2,rfl,_⟩⟩:=h;exact⟨_,_,_,_,_,_,_,_,_,_,e⟩

def ColOk (d:Nat):Prop:=∀(x:Vt d) (v kv:Value) (w0 w:World) (K:List ByteArray) (G:List Nat),VtAt d w0 v x->OkV d x->Keep [] w0 w->OwnC Six.text 1 G w kv K->(∀b ∈ G,w0.heap.size<=b)->K.length+wtV d x<=500000->
 Calls Tryz.prog 14 #[v,kv] w fun e w'=>∃kv' G',e=.returned kv'/\OwnC Six.text 1 G' w' kv' (colV d K x)/\Keep [] w0 w'/\∀b ∈ G',w0.heap.size<=b
theorem collectN (d:Nat) (IH:ColOk d) (x:Vt (d+1)) (v kv:Value) (w0 w:World) (K:List ByteArray) (G:List Nat) (hv:VtAt (d+1) w0 v x) (hok:OkV (d+1) x) (hk0:Keep [] w0 w) (hO:OwnC Six.text 1 G w kv K) (hG:∀b ∈ G,w0.heap.size<=b) (hl:K.length+wtV (d+1) x<=500000):
  Calls Tryz.prog 14 #[v,kv] w fun e w'=>∃kv' G',e=.returned kv'/\OwnC Six.text 1 G' w' kv' (colV (d+1) K x)/\Keep [] w0 w'/\∀b ∈ G',w0.heap.size<=b:=by
 have hok2:OkN (OkV d) x:=hok;obtain⟨kind,num,scale,text,ks,c⟩:=x;obtain⟨kv0,cv,rfl,hT,hC⟩:=hv;have hkl:(Node.kids ⟨kind,num,scale,text,ks,c⟩:List (Vt d))=c:=rfl;have hlen:K.length+wtN (wtV d) ⟨kind,num,scale,text,ks,c⟩<=500000:=hl;show Calls Tryz.prog _ _ _ fun e w'=>∃kv' G',e=.returned kv'/\OwnC Six.text 1 G' w' kv' (colN (colV d) K ⟨kind,num,scale,text,ks,c⟩)/\Keep [] w0 w'/\∀b ∈ G',w0.heap.size<=b
 have hgoal:colN (colV d) K ⟨kind,num,scale,text,ks,c⟩=c.foldl (colV d) (ks.foldl addK K):=rfl;rw[hgoal];have hwt:ks.length+(c.map (wtV d)).sum<=500000-K.length:=by
  have:=keys_wt ks;unfold wtN at hlen;simp only at hlen;omega
 have hkK:K.length<=500000:=by omega
 have hC0:KidsAt (VtAt d w0) w0 cv c:=hC;obtain⟨ta,tcap,hte,htc,htell⟩:=(show TextsAt w0 kv0 ks from hT);subst hte;obtain⟨ka,kcap,rfl,hkc,-⟩:=hC;simp only at hkc ⊢;obtain⟨oa,oc,rfl,hoc⟩:=hO.shape;obtain⟨n,hn⟩:∃n,n=ks.length:=⟨_,rfl⟩;obtain⟨m,hm⟩:∃m,m=c.length:=⟨_,rfl⟩;obtain⟨q,hq⟩:∃q,q=K.length:=⟨_,rfl⟩;rw[<-hn]at htc hwt ⊢;rw[<-hm]at hkc hC0 ⊢;rw[<-hq]at hO hoc hwt hkK ⊢;have hok3:∀y ∈ c,OkV d y:=fun y hy=>hok2.kids y hy;have hm5:m<=500:=by rw[hm];exact hok2.kidsLe
 have hw1:Keep [] w (w.alloc (.cells #[.int .i64 kind,.int .u64 (num:Int),.int .i64 scale,.string text,.slice ta n tcap,.slice ka m kcap] 26)):=(Keep.refl [] w).alloc _;have hx1:Blk (w.alloc (.cells #[.int .i64 kind,.int .u64 (num:Int),.int .i64 scale,.string text,.slice ta n tcap,.slice ka m kcap] 26)) w.heap.size [.int .i64 kind,.int .u64 (num:Int),.int .i64 scale,.string text,.slice ta n tcap,.slice ka m kcap]:=Blk.new w _ _;have hO1:=hO.keep hw1 (by simp);have hk1:Keep [] w0 (w.alloc (.cells #[.int .i64 kind,.int .u64 (num:Int),.int .i64 scale,.string text,.slice ta n tcap,.slice ka m kcap] 26)):=hk0.trans hw1 (by simp);have hbn:w0.heap.size<=w.heap.size:=hk0.size;have hbG:w.heap.size ∉ G:=fun hm=>by have:=hO.lt _ hm;omega
 have H:=qq7 htell hC0 hok3 hn hm hq hwt;have H1:=qq6 hx1 hk1 hO1 hbG hG hbn;clear hT htell hC0 hok hok2 hok3 hl hlen hgoal hn hm hq hwt hw1 hx1 hO1 hk1 hbG hG hO hk0 hkl hbn
 go_enter Tryz.func14,Tryz.ntmps14
 go_wp2_with fail
 generalize w.alloc (.cells #[.int .i64 kind,.int .u64 (num:Int),.int .i64 scale,.string text,.slice ta n tcap,.slice ka m kcap] 26)=w1 at H1 ⊢;have c5:=H1.out.1.cell (i:=5) rfl
 go_loopw [12,1] (fun i v1 wr=>∃(j:Nat) (G1:List Nat) (vv:Value),j<=n/\i=.int .i64 (j:Int)/\vv=v1/\Hid (OwnC Six.text 1 G1 wr vv ((ks.take j).foldl addK K)/\Keep [] w0 wr/\Blk wr w.heap.size [.int .i64 kind,.int .u64 (num:Int),.int .i64 scale,.string text,.slice ta n tcap,.slice ka m kcap]/\(∀b ∈ G1,w0.heap.size<=b)/\w.heap.size ∉ G1)) (fun i _ _=>n-(intOf i).toNat)
 case atStart=>exact⟨0,G,_,Nat.zero_le _,rfl,rfl,Lib.hid ⟨by simpa using H1.out.2.2.1,H1.out.2.1,H1.out.1,H1.out.2.2.2.2.1,H1.out.2.2.2.1⟩⟩
 case round=>
  obtain⟨j,G1,vv,hj,rfl,rfl,HR⟩:=hrel;by_cases hj2:j<n
  ·have hlti:(j:Int)<(n:Int):=by omega
   obtain⟨k,hk⟩:∃k,ks[j]?=some k:=⟨_,List.getElem?_eq_getElem (by rw[<-H.out.2.2.2.1];exact hj2)⟩;obtain⟨a,rfl,hck⟩:=H.out.1 j k hk;have hcr:=HR.out.2.1.cell_some hck (by simp);obtain⟨Kj,hKj⟩:∃Kj,Kj=(ks.take j).foldl addK K:=⟨_,rfl⟩;have hKs:(ks.take (j+1)).foldl addK K=addK Kj k:=by rw[take_snoc hk,List.foldl_append,<-hKj];rfl
   have hKl:Kj.length<=q+j:=by
    have:=foldl_addK_len (ks.take j) K;rw[<-hKj,<-H.out.2.2.2.2.2.1,List.length_take]at this;omega
   have hq5:q+n<=500000:=by have:=H.out.2.2.2.2.2.2;omega
   have hO:=HR.out.1;rw[<-hKj]at hO;have hT:=hasTextC vv Kj k wr (hO.texts (P:=fun _=>True) (fun _ _=>trivial)).at (by omega);have HO:=qq3 hO hKs hKl;clear hk hck hO hKs hKl hKj;go_wp2_with fail
   refine hT.mono ?_;rintro e w2 ⟨rfl,rfl⟩;clear hT;cases hh:hasK Kj k with
   |true=>
    have ha:addK Kj k=Kj:=by unfold addK;rw[hh];rfl
    have HA:=qq ha;clear ha hh;go_wp2;go_roundw
    case rel=>exact⟨j+1,G1,_,hj2,by go_num,rfl,Lib.hid ⟨by rw[HO.out.2.1,HA.out];exact HO.out.1,HR.out.2⟩⟩
    case measure=>simp[intOf];omega
   |false=>
    have ha:addK Kj k=Kj++[k]:=by unfold addK;rw[hh];rfl
    have hKl:=HO.out.2.2;have hO3:=HO.out.1.keep (S:=[]) ((Keep.refl [] wr).alloc (.cells #[.string k] 9)) (by simp);have hsrc:Src Tryz.prog 1 23 (.slice (some ⟨wr.heap.size,0,none⟩) 1 1) [k].length ([k].flatMap Six.text) (wr.alloc (.cells #[.string k] 9)):=
     Src.oneC (cf:=Six.text) (x:=k) Six.tlen (by simp[Value.oneCell',Six.text]) Tryz.underlying23 (Blk.new wr _ _)
    obtain⟨i0,hi0,hz0,hz1,hz2⟩:=info_parts info_str;have hlb:(Kj.length+[k].length)*16<=140737488355328:=by simp;omega
    have hl6:Kj.length+[k].length<=1000000000000:=by simp;omega
    have HA:=qq ha;clear ha hh hKl hcr;go_wp2_with(at_builtin;refine wpList_append_ownC (cf:=Six.text) Six.tlen (by decide) rfl _ _ 23 9 rfl i0 16 Tryz.underlying23 hi0 ⟨_,hz0,rfl⟩ hz1 hz2 rfl hO3 _ [k] rfl hsrc hlb hl6 ?_;intro v' wc G' hO4 k4 hG4;refine halt ?_)
    have HB:=qq3 hO4 k4 hG4;clear hO4 k4 hG4 hO3 hsrc hlb hl6 hz0 hz1 hz2;refine Lib.hid ?_;go_wp2;go_roundw
    case rel=>
     obtain⟨hO4,k4,hG4⟩:=HB.out;obtain⟨hOr,hkr,hxr,hGr,hxG⟩:=HR.out;have hsz:(wr.alloc (.cells #[.string k] 9)).heap.size=wr.heap.size+1:=by simp
     have h0:=hkr.size;have hxl:=hxr.lt;refine⟨j+1,G',_,hj2,by go_num,rfl,Lib.hid ⟨by rw[HO.out.2.1,HA.out];exact hO4,(hkr.alloc _).trans k4 (fun b hb=>.inr (hGr b hb)),(hxr.alloc _).keep k4 hxG,fun b hb=>(hG4 b hb).elim (hGr b) (fun h=>by omega),fun hb=>(hG4 _ hb).elim hxG (fun h=>by omega)⟩⟩
    case measure=>simp[intOf];omega
  ·have hjn:j=n:=by omega
   subst hjn;have hnlt:¬(j:Int)<(j:Int):=by omega
   have hkt:ks.take j=ks:=List.take_of_length_le (by rw[H.out.2.2.2.1];exact Nat.le_refl _);rw[hkt]at HR;have c5:=HR.out.2.2.1.cell (i:=5) rfl;clear hkt;go_wp2_with fail
   go_loopw [28,1] (fun i v2 wr=>∃(l:Nat) (G2:List Nat) (vw:Value),l<=m/\i=.int .i64 (l:Int)/\vw=v2/\Hid (OwnC Six.text 1 G2 wr vw ((c.take l).foldl (colV d) (ks.foldl addK K))/\Keep [] w0 wr/\(∀b ∈ G2,w0.heap.size<=b))) (fun i _ _=>m-(intOf i).toNat)
   case atStart=>exact⟨0,G1,_,Nat.zero_le _,rfl,rfl,Lib.hid ⟨by simpa using HR.out.1,HR.out.2.1,HR.out.2.2.2.1⟩⟩
   case round=>
    obtain⟨l,G2,vw,hl,rfl,rfl,HR2⟩:=hrel;by_cases hl2:l<m
    ·have hlti:(l:Int)<(m:Int):=by omega
     obtain⟨y,hy⟩:∃y,c[l]?=some y:=⟨_,List.getElem?_eq_getElem (by rw[<-H.out.2.2.2.2.1];exact hl2)⟩;obtain⟨a,cap2,yk,ys,yn,yt,ya1,ya2,yl1,yc1,yl2,yc2,he,hcap2,hP,d0,d1,d2,d3,d4,d5⟩:=H.out.2.1.kid hy (fun u hu=>hu.sixAt);injection he with e1 e2 e3
     subst e1;clear e2 e3 hcap2;have Kr:=HR2.out.2.1;have e0:=Kr.cell_some d0 (by simp);have e1:=Kr.cell_some d1 (by simp);have e2:=Kr.cell_some d2 (by simp);have e3:=Kr.cell_some d3 (by simp);have e4:=Kr.cell_some d4 (by simp);have e5:=Kr.cell_some d5 (by simp);have Ka:Keep [] wr (wr.alloc (.cells #[.int .i64 yk,.int .u64 (yn:Int),.int .i64 ys,.string yt,.slice ya1 yl1 yc1,.slice ya2 yl2 yc2] 26)):=(Keep.refl [] wr).alloc _;have hKl:((c.take l).foldl (colV d) (ks.foldl addK K)).length+wtV d y<=500000:=by
      have h1:=foldl_len (f:=colV d) (wt:=wtV d) (c.take l) (ks.foldl addK K) (fun c _ K=>colV_len d K c);have h2:=foldl_addK_len ks K;have h3:=sum_take (wtV d) c l y hy;have h4:=H.out.2.2.2.2.2.2;have h5:=H.out.2.2.2.1;have h6:=H.out.2.2.2.2.2.1;omega
     have hI:=IH y (.agg #[.int .i64 yk,.int .u64 (yn:Int),.int .i64 ys,.string yt,.slice ya1 yl1 yc1,.slice ya2 yl2 yc2]) vw w0 _ _ G2 hP (H.out.2.2.1 y (List.mem_of_getElem? hy)) (Kr.trans Ka (by simp)) (HR2.out.1.keep Ka (by simp)) HR2.out.2.2 hKl;have Hy:=qq hy;clear d0 d1 d2 d3 d4 d5 hP Kr Ka hKl hy;go_wp2_with fail
     refine hI.mono ?_;rintro e w5 ⟨kv',G',rfl,hO5,K5,hG5⟩;have H5:=qq3 hO5 K5 hG5;clear hO5 K5 hG5 hI e0 e1 e2 e3 e4 e5;go_wp2;go_roundw
     case rel=>exact⟨l+1,G',_,hl2,by go_num,rfl,Lib.hid ⟨by rw[foldl_take_succ _ Hy.out];exact H5.out.1,H5.out.2⟩⟩
     case measure=>simp[intOf];omega
    ·have hlm:l=m:=by omega
     subst hlm;have hnl2:¬(l:Int)<(l:Int):=by omega
     have hct:c.take l=c:=List.take_of_length_le (by rw[H.out.2.2.2.2.1];exact Nat.le_refl _);rw[hct]at HR2;clear hct;go_wp2;go_ret;exact⟨_,rfl,G2,HR2.out⟩
theorem collectV:∀d,ColOk d
 |0=>fun x v kv w0 w K G h _ _ _ _ _=>h.elim
 |d+1=>fun x v kv w0 w K G h1 h2 h3 h4 h5 h6=>collectN d (collectV d) x v kv w0 w K G h1 h2 h3 h4 h5 h6
theorem keyCountC (d:Nat) (x:Vt d) (v:Value) (w:World) (hv:VtAt d w v x) (hok:OkV d x) (hwt:wtV d x<=20000):Calls Tryz.prog 6 #[v] w fun e w'=>e=.returned (.int .i64 ((colV d [] x).length:Int))/\Keep [] w w':=by
 obtain⟨vk,vs,vn,vt,va1,va2,vl1,vc1,vl2,vc2,rfl⟩:=hv.sixAt;have Ka:Keep [] w (w.alloc (.cells #[.int .i64 vk,.int .u64 (vn:Int),.int .i64 vs,.string vt,.slice va1 vl1 vc1,.slice va2 vl2 vc2] 26)):=(Keep.refl [] w).alloc _;have hI:=collectV d x (.agg #[.int .i64 vk,.int .u64 (vn:Int),.int .i64 vs,.string vt,.slice va1 vl1 vc1,.slice va2 vl2 vc2]) (.slice none 0 0) w _ [] [] hv hok Ka (.inl ⟨rfl,rfl,rfl⟩) (by simp) (by simp;omega);have HI:=qq hI;clear hI hv hok Ka
 go_enter Tryz.func6,Tryz.ntmps6
 go_wp2_with fail
 refine HI.out.mono ?_;rintro e w2 ⟨kv',G',rfl,hO,k2,-⟩;obtain⟨ao,cc,rfl,-⟩:=hO.shape;clear hO;go_wp2;go_ret;exact⟨rfl,k2⟩

structure ArgN {α:Type} (P:α->Prop) (x:Node α):Prop where
 num:x.num<18446744073709551616
 kindLo:-9223372036854775808<=x.kind/\x.kind<=9223372036854775807
 scaleLo:-9223372036854775808<=x.scale/\x.scale<=9223372036854775807
 text:x.text.size<=maxLen
 keysLen:x.keys.length<=maxLen
 kidsLen:x.kids.length<=maxLen
 keys:∀k ∈ x.keys,k.size<=maxLen
 kids:∀y ∈ x.kids,P y
def ArgV:(d:Nat)->Vt d->Prop
 |0,_=>False
 |d+1,x=>ArgN (ArgV d) x

structure SmN {α:Type} (P:α->Prop) (x:Node α):Prop where
 text:x.text.size<=4096
 keysLen:x.keys.length<=500
 keys:∀k ∈ x.keys,k.size<=200
 kids:∀y ∈ x.kids,P y
def SmV:(d:Nat)->Vt d->Prop
 |0,_=>False
 |d+1,x=>SmN (SmV d) x
theorem OkV.sm:∀(d:Nat) (x:Vt d),OkV d x->SmV d x
 |0,_,h=>h.elim
 |d+1,x,h=>by
  have hx:OkN (OkV d) x:=h;refine(⟨hx.textLe,?_,hx.keyLe,fun y hy=>OkV.sm d y (hx.kids y hy)⟩:SmN (SmV d) x);by_cases h0:Node.keys x=[]
  ·rw[h0];simp
  ·rw[hx.keysKids (hx.keys0 h0)];exact hx.kidsLe

def FewPost (lb:Nat) (M:Int) (Sm:Prop) (wt:Nat) (w:World) (e:Ending) (w':World):Prop:=∃z M',e=.returned (.bool z)/\Keep [lb] w w'/\Blk w' lb [.int .i64 M']/\(Sm->0<=M->M<=20000->(z=true↔(wt:Int)<=M)/\(z=true->M'=M-(wt:Int)))
def FewOk (d:Nat):Prop:=∀(x:Vt d) (v:Value) (lb:Nat) (M:Int) (w0 w:World),VtAt d w0 v x->ArgV d x->Keep [] w0 w->w0.heap.size<=lb->Blk w lb [.int .i64 M]->
 Calls Tryz.prog 12 #[v,.pointer (some ⟨lb,0,none⟩)] w fun e w'=>FewPost lb M (SmV d x) (wtV d x) w e w'

def kwt (ks:List ByteArray):Nat:=(ks.map fun k=>1+k.size / 16).sum
theorem kwt_snoc (ks:List ByteArray) (k:ByteArray):kwt (ks++[k])=kwt ks+(1+k.size / 16):=by simp[kwt]
theorem kwt_le:∀ks:List ByteArray,(∀k ∈ ks,k.size<=200)->kwt ks<=13*ks.length
 |[],_=>by simp[kwt]
 |k::ks,h=>by
  have h1:=h k (by simp);have h2:=kwt_le ks (fun x hx=>h x (by simp[hx]));simp only[kwt,List.map_cons,List.sum_cons,List.length_cons]at h2 ⊢;omega
theorem kwt_take_snoc {ks:List ByteArray} {j:Nat} {k:ByteArray} (h:ks[j]?=some k):kwt (ks.take (j+1))=kwt (ks.take j)+(1+k.size / 16):=by rw[take_snoc h,kwt_snoc]
theorem step16 (s:Nat) (M:Int) (hs:s<=4096) (h1:-100000<=M) (h2:M<=100000):wrap64 (M-wrap64 (1+wrap64 ((s:Int) / 16)))=M-((1+s / 16:Nat):Int):=by
 rw[IntWalk.wrap64_in ((s:Int) / 16) (by omega),IntWalk.wrap64_in (1+(s:Int) / 16) (by omega),IntWalk.wrap64_in _ (by omega)]
 push_cast
 rfl
theorem fewN (d:Nat) (IH:FewOk d) (x:Vt (d+1)) (v:Value) (lb:Nat) (M:Int) (w0 w:World) (hv:VtAt (d+1) w0 v x) (ha:ArgV (d+1) x) (hk0:Keep [] w0 w) (hlb:w0.heap.size<=lb) (hB:Blk w lb [.int .i64 M]):
  Calls Tryz.prog 12 #[v,.pointer (some ⟨lb,0,none⟩)] w fun e w'=>FewPost lb M (SmV (d+1) x) (wtV (d+1) x) w e w':=by
 have ha2:ArgN (ArgV d) x:=ha;have hsm:SmV (d+1) x->SmN (SmV d) x:=id;have hwt:wtV (d+1) x=1+(Node.text x).size / 16+kwt (Node.keys x)+((Node.kids x).map (wtV d)).sum:=rfl;obtain⟨kind,num,scale,text,ks,c⟩:=x;obtain⟨kv0,cv,rfl,hT,hC⟩:=hv;have hC0:KidsAt (VtAt d w0) w0 cv c:=hC;have hT0:TextsAt w0 kv0 ks:=hT;obtain⟨ta,tcap,hte,htc,htell⟩:=hT0;subst hte;obtain⟨ka,kcap,rfl,hkc,-⟩:=hC;simp only at hwt hkc hsm ha2 ⊢;rw[hwt];obtain⟨n,hn⟩:∃n,n=ks.length:=⟨_,rfl⟩;obtain⟨m,hm⟩:∃m,m=c.length:=⟨_,rfl⟩;have hnM:n<=9223372036854775807:=by have:=ha2.keysLen;simp only at this;unfold maxLen at this;omega
 have hmM:m<=9223372036854775807:=by have:=ha2.kidsLen;simp only at this;unfold maxLen at this;omega
 rw[<-hn]at htc ⊢;rw[<-hm]at hkc ⊢;have hC1:KidsAt (VtAt d w0) w0 (.slice ka m kcap) c:=by rw[hm];exact hC0
 have hsmall:SmV (d+1) (show Vt (d+1)from⟨kind,num,scale,text,ks,c⟩)->text.size<=4096/\n<=500/\(∀k ∈ ks,k.size<=200)/\∀y ∈ c,SmV d y:=fun h=>⟨(hsm h).text,by rw[hn];exact(hsm h).keysLen,(hsm h).keys,(hsm h).kids⟩;have hak:∀y ∈ c,ArgV d y:=ha2.kids;obtain⟨Sm,hSm⟩:∃Sm:Prop,Sm=SmV (d+1) (show Vt (d+1)from⟨kind,num,scale,text,ks,c⟩):=⟨_,rfl⟩;rw[<-hSm]at hsmall;show Calls Tryz.prog _ _ _ fun e w'=>FewPost lb M (SmV (d+1) (show Vt (d+1)from⟨kind,num,scale,text,ks,c⟩)) _ w e w'
 rw[<-hSm];obtain⟨own,hown⟩:∃own,own=1+text.size / 16:=⟨_,rfl⟩;rw[<-hown];obtain⟨KW,hKW⟩:∃KW,KW=kwt ks:=⟨_,rfl⟩;rw[<-hKW];obtain⟨CW,hCW⟩:∃CW,CW=(c.map (wtV d)).sum:=⟨_,rfl⟩;rw[<-hCW];have hw1:Keep [] w (w.alloc (.cells #[.int .i64 kind,.int .u64 (num:Int),.int .i64 scale,.string text,.slice ta n tcap,.slice ka m kcap] 26)):=(Keep.refl [] w).alloc _;have hx1:Blk (w.alloc (.cells #[.int .i64 kind,.int .u64 (num:Int),.int .i64 scale,.string text,.slice ta n tcap,.slice ka m kcap] 26)) w.heap.size [.int .i64 kind,.int .u64 (num:Int),.int .i64 scale,.string text,.slice ta n tcap,.slice ka m kcap]:=Blk.new w _ _;have hB1:=hB.alloc (.cells #[.int .i64 kind,.int .u64 (num:Int),.int .i64 scale,.string text,.slice ta n tcap,.slice ka m kcap] 26);have hlbw:w.heap.size≠lb:=by have:=hB.lt;omega
 have hk1:Keep [] w0 (w.alloc (.cells #[.int .i64 kind,.int .u64 (num:Int),.int .i64 scale,.string text,.slice ta n tcap,.slice ka m kcap] 26)):=hk0.trans hw1 (by simp);have H:=qq9 htell hC1 hak hn hm hsmall hown hKW hCW;have H1:=qq4 hx1 hk1 hw1 hlb;clear hT htell hC0 hC1 ha ha2 hsm hwt hn hm hsmall hak hSm hown hKW hCW hw1 hx1 hk1 hB hk0 hlb
 go_enter Tryz.func12,Tryz.ntmps12
 go_wp2_with fail
 generalize w.alloc (.cells #[.int .i64 kind,.int .u64 (num:Int),.int .i64 scale,.string text,.slice ta n tcap,.slice ka m kcap] 26)=w1 at H1 hB1 ⊢;have c0:=hB1.cell (i:=0) rfl;have cf:=hB1.unfrozen;have c3:=H1.out.1.cell (i:=3) rfl;have hM1:Sm->0<=M->M<=20000->wrap64 (M-wrap64 (1+wrap64 ((text.size:Int) / 16)))=M-(own:Int):=fun h h0 h2=>by
  rw[H.out.2.2.2.2.2.2.1];exact step16 text.size M (H.out.2.2.2.2.2.1 h).1 (by omega) (by omega)
 have HM1:=qq hM1;clear hM1
 go_region
 generalize wrap64 (M-wrap64 (1+wrap64 ((text.size:Int) / 16)))=M1 at HM1 ⊢;have H2:=qq (show Keep [lb] w (w1.setCell ⟨lb,0,none⟩ (.int .i64 M1)).drew/\Keep [] w0 (w1.setCell ⟨lb,0,none⟩ (.int .i64 M1)).drew/\Blk (w1.setCell ⟨lb,0,none⟩ (.int .i64 M1)).drew lb [.int .i64 M1]/\Blk (w1.setCell ⟨lb,0,none⟩ (.int .i64 M1)).drew w.heap.size [.int .i64 kind,.int .u64 (num:Int),.int .i64 scale,.string text,.slice ta n tcap,.slice ka m kcap]from
  ⟨(H1.out.2.2.1.nil.set (.inl (by simp)) _ _ _).drew,(H1.out.2.1.set (.inr H1.out.2.2.2) _ _ _).drew,(hB1.set 0 _).drew,(H1.out.1.set_other hlbw _ _ _).drew⟩)
 generalize(w1.setCell ⟨lb,0,none⟩ (.int .i64 M1)).drew=w2 at H2 ⊢;clear c0 cf c3 hB1;have c4:=H2.out.2.2.2.cell (i:=4) rfl;go_wp2_with fail
 go_loopw [21] (fun i wr=>∃(j:Nat) (Mj:Int),j<=n/\i=.int .i64 (j:Int)/\Hid (Keep [lb] w wr/\Keep [] w0 wr/\Blk wr lb [.int .i64 Mj]/\Blk wr w.heap.size [.int .i64 kind,.int .u64 (num:Int),.int .i64 scale,.string text,.slice ta n tcap,.slice ka m kcap]/\(Sm->0<=M->M<=20000->Mj=M-(own:Int)-(kwt (ks.take j):Int)))) (fun i _=>n-(intOf i).toNat)
 case atStart=>exact⟨0,M1,Nat.zero_le _,rfl,Lib.hid ⟨H2.out.1,H2.out.2.1,H2.out.2.2.1,H2.out.2.2.2,fun h h0 h2=>by rw[HM1.out h h0 h2];simp[kwt]⟩⟩
 case round=>
  obtain⟨j,Mj,hj,rfl,HR⟩:=hrel;by_cases hj2:j<n
  ·have hlti:(j:Int)<(n:Int):=by omega
   obtain⟨k,hk⟩:∃k,ks[j]?=some k:=⟨_,List.getElem?_eq_getElem (by rw[<-H.out.2.2.2.1];exact hj2)⟩;obtain⟨a,rfl,hck⟩:=H.out.1 j k hk;have hcr:=HR.out.2.1.cell_some hck (by simp);have cl:=HR.out.2.2.1.cell (i:=0) rfl;have cf:=HR.out.2.2.1.unfrozen;have hM2:Sm->0<=M->M<=20000->wrap64 (Mj-wrap64 (1+wrap64 ((k.size:Int) / 16)))=M-(own:Int)-(kwt (ks.take (j+1)):Int):=fun h h0 h2=>by
    have h4:=H.out.2.2.2.2.2.1 h;have h5:=HR.out.2.2.2.2 h h0 h2;have h6:=kwt_le (ks.take j) (fun x hx=>h4.2.2.1 x (List.mem_of_mem_take hx));have h7:(ks.take j).length<=500:=by rw[List.length_take,<-H.out.2.2.2.1];omega
    have h8:=h4.2.2.1 k (List.mem_of_getElem? hk);have h9:=H.out.2.2.2.2.2.2.1;rw[step16 k.size Mj (by omega) (by omega) (by omega),h5,kwt_take_snoc hk]
    push_cast
    omega
   have HM2:=qq hM2;clear hM2 hk hck c4;go_wp2;generalize wrap64 (Mj-wrap64 (1+wrap64 ((k.size:Int) / 16)))=M2 at HM2 ⊢;go_roundw
   case rel=>exact⟨j+1,M2,hj2,by go_num,Lib.hid ⟨HR.out.1.set (.inl (by simp)) _ _ _,HR.out.2.1.set (.inr H1.out.2.2.2) _ _ _,HR.out.2.2.1.set 0 _,HR.out.2.2.2.1.set_other hlbw _ _ _,HM2.out⟩⟩
   case measure=>simp[intOf];omega
  ·have hjn:j=n:=by omega
   subst hjn;have hnlt:¬(j:Int)<(j:Int):=by omega
   have hkt:ks.take j=ks:=List.take_of_length_le (by rw[H.out.2.2.2.1];exact Nat.le_refl _);rw[hkt,<-H.out.2.2.2.2.2.2.2.1]at HR;have cl:=HR.out.2.2.1.cell (i:=0) rfl;clear hkt c4;by_cases hneg:Mj<0
   ·go_wp2;go_ret;unfold FewPost;refine⟨false,Mj,rfl,HR.out.1,HR.out.2.2.1,fun h h0 h2=>?_⟩;have:=HR.out.2.2.2.2 h h0 h2;simp;omega
   ·go_wp2_with fail
    go_loopw [7] (fun i wr=>∃(l:Nat) (Ml:Int),l<=m/\i=.int .i64 (l:Int)/\Hid (Keep [lb] w wr/\Keep [] w0 wr/\Blk wr lb [.int .i64 Ml]/\Blk wr w.heap.size [.int .i64 kind,.int .u64 (num:Int),.int .i64 scale,.string text,.slice ta j tcap,.slice ka m kcap]/\(Sm->0<=M->M<=20000->Ml=M-(own:Int)-(KW:Int)-(((c.take l).map (wtV d)).sum:Int)/\0<=Ml))) (fun i _=>m-(intOf i).toNat)
    case atStart=>exact⟨0,Mj,Nat.zero_le _,rfl,Lib.hid ⟨HR.out.1,HR.out.2.1,HR.out.2.2.1,HR.out.2.2.2.1,fun h h0 h2=>by rw[HR.out.2.2.2.2 h h0 h2]at hneg ⊢;simp;omega⟩⟩
    case round=>
     obtain⟨l,Ml,hl,rfl,HR2⟩:=hrel;have c5:=HR2.out.2.2.2.1.cell (i:=5) rfl;by_cases hl2:l<m
     ·have hlti:(l:Int)<(m:Int):=by omega
      obtain⟨y,hy⟩:∃y,c[l]?=some y:=⟨_,List.getElem?_eq_getElem (by rw[<-H.out.2.2.2.2.1];exact hl2)⟩;obtain⟨a,cap2,yk,ys,yn,yt,ya1,ya2,yl1,yc1,yl2,yc2,he,hcap2,hP,d0,d1,d2,d3,d4,d5⟩:=H.out.2.1.kid hy (fun u hu=>hu.sixAt);injection he with e1 e2 e3
      subst e1;clear e2 e3 hcap2;have Kr:=HR2.out.2.1;have e0:=Kr.cell_some d0 (by simp);have e1:=Kr.cell_some d1 (by simp);have e2:=Kr.cell_some d2 (by simp);have e3:=Kr.cell_some d3 (by simp);have e4:=Kr.cell_some d4 (by simp);have e5:=Kr.cell_some d5 (by simp);have hI:=IH y (.agg #[.int .i64 yk,.int .u64 (yn:Int),.int .i64 ys,.string yt,.slice ya1 yl1 yc1,.slice ya2 yl2 yc2]) lb Ml w0 _ hP (H.out.2.2.1 y (List.mem_of_getElem? hy)) Kr H1.out.2.2.2 HR2.out.2.2.1;have Hy:=qq hy;clear d0 d1 d2 d3 d4 d5 hP Kr hy;go_wp2_with fail
      refine hI.mono ?_;rintro e w5 ⟨z,M',rfl,k5,hB5,hz5⟩;have H5:=qq3 k5 hB5 hz5;clear k5 hB5 hz5 hI e0 e1 e2 e3 e4 e5;have hst:=sum_take (wtV d) c l y Hy.out;rw[<-H.out.2.2.2.2.2.2.2.2]at hst;have hty:((c.take (l+1)).map (wtV d)).sum=((c.take l).map (wtV d)).sum+wtV d y:=by rw[take_snoc Hy.out];simp
      have Hst:=qq2 hst hty;clear hst hty;cases z with
      |false=>
       go_wp2;go_ret;unfold FewPost;refine⟨false,M',rfl,HR2.out.1.trans H5.out.1 (by simp),H5.out.2.1,fun h h0 h2=>?_⟩;have h3:=HR2.out.2.2.2.2 h h0 h2;have h4:=(H5.out.2.2 ((H.out.2.2.2.2.2.1 h).2.2.2 y (List.mem_of_getElem? Hy.out)) h3.2 (by omega)).1;have h5:=Hst.out.1;simp at h4 ⊢;omega
      |true=>
       go_wp2;go_roundw
       case rel=>
        refine⟨l+1,M',hl2,by go_num,Lib.hid ⟨HR2.out.1.trans H5.out.1 (by simp),HR2.out.2.1.trans H5.out.1 (fun x hx=>by simp at hx;subst hx;exact .inr H1.out.2.2.2),H5.out.2.1,HR2.out.2.2.2.1.keep H5.out.1 (by simpa using hlbw),fun h h0 h2=>?_⟩⟩;have h3:=HR2.out.2.2.2.2 h h0 h2;have h4:=H5.out.2.2 ((H.out.2.2.2.2.2.1 h).2.2.2 y (List.mem_of_getElem? Hy.out)) h3.2 (by omega);have h5:=h4.2 (by simp);have h6:=h4.1.1 (by simp);rw[Hst.out.2]
        push_cast
        omega
       case measure=>simp[intOf];omega
     ·have hlm:l=m:=by omega
      subst hlm;have hnl2:¬(l:Int)<(l:Int):=by omega
      have hct:c.take l=c:=List.take_of_length_le (by rw[H.out.2.2.2.2.1];exact Nat.le_refl _);rw[hct,<-H.out.2.2.2.2.2.2.2.2]at HR2;clear hct;go_wp2;go_ret;unfold FewPost;refine⟨true,Ml,rfl,HR2.out.1,HR2.out.2.2.1,fun h h0 h2=>?_⟩;have:=HR2.out.2.2.2.2 h h0 h2;simp;omega
theorem fewV:∀d,FewOk d
 |0=>fun x v lb M w0 w h _ _ _ _=>h.elim
 |d+1=>fun x v lb M w0 w h1 h2 h3 h4 h5=>fewN d (fewV d) x v lb M w0 w h1 h2 h3 h4 h5
end Go.Proofs.YtocgdgmfnockiaaGreatDoor
