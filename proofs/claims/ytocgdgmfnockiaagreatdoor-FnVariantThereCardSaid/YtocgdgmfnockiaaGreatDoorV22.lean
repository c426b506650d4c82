/- Variants read: variants that lie in blocks of which something is known. No walk here. Slices of the call's own: an append within a drawn region. No walk here. -/
import Derived.Test.YtocgdgmfnockiaaGreatDoorV02
import Derived.Test.YtocgdgmfnockiaaGreatDoorV08
set_option linter.unusedVariables false
set_option linter.unusedSimpArgs false
set_option maxRecDepth 100000
set_option maxHeartbeats 8000000
namespace Go.Proofs.YtocgdgmfnockiaaGreatDoor
open Go.RowKit

def TextsIn (P:Nat->Prop) (w:World) (v:Value) (l:List ByteArray):Prop:=
 ∃ao cap,v=.slice ao l.length cap/\l.length<=cap/\∀(i:Nat) (s:ByteArray),l[i]?=some s->∃a:Addr,ao=some a/\P a.block/\w.cell? (a.add i)=some (.string s)
theorem TextsIn.keep {P Q:Nat->Prop} {S:List Nat} {w w':World} {v:Value} {l:List ByteArray} (h:TextsIn P w v l) (k:Keep S w w') (hP:∀b,P b->b ∉ S) (hQ:∀b,P b->b<w.heap.size->Q b):TextsIn Q w' v l:=by
 obtain⟨ao,cap,h1,h2,h3⟩:=h;refine⟨ao,cap,h1,h2,fun i s hs=>?_⟩;obtain⟨a,e,p,hc⟩:=h3 i s hs;exact⟨a,e,hQ _ p (by have:=World.block_lt_of_cell? _ _ hc;rwa[add_block]at this),k.cell_some hc (by rw[add_block];exact hP _ p)⟩
theorem TextsIn.at {P:Nat->Prop} {w:World} {v:Value} {l:List ByteArray} (h:TextsIn P w v l):TextsAt w v l:=by
 obtain⟨ao,cap,h1,h2,h3⟩:=h;exact⟨ao,cap,h1,h2,fun i s hs=>by obtain⟨a,e,_,hc⟩:=h3 i s hs;exact⟨a,e,hc⟩⟩

def KidsIn {α:Type} (P:Nat->Prop) (R:Value->α->Prop) (w:World) (v:Value) (l:List α):Prop:=
 ∃ao cap,v=.slice ao l.length cap/\l.length<=cap/\∀(i:Nat) (x:α),l[i]?=some x->∃(a:Addr) (u0 u1 u2 u3 u4 u5:Value),ao=some a/\P a.block/\w.cell? (cellAt (a.add (i*6)) 0)=some u0/\w.cell? (cellAt (a.add (i*6)) 1)=some u1/\
  w.cell? (cellAt (a.add (i*6)) 2)=some u2/\w.cell? (cellAt (a.add (i*6)) 3)=some u3/\w.cell? (cellAt (a.add (i*6)) 4)=some u4/\w.cell? (cellAt (a.add (i*6)) 5)=some u5/\R (.agg #[u0,u1,u2,u3,u4,u5]) x
theorem KidsIn.keep {α:Type} {P Q:Nat->Prop} {R R':Value->α->Prop} {S:List Nat} {w w':World} {v:Value} {l:List α} (h:KidsIn P R w v l) (k:Keep S w w') (hP:∀b,P b->b ∉ S) (hQ:∀b,P b->b<w.heap.size->Q b) (hR:∀u x,R u x->R' u x):KidsIn Q R' w' v l:=by
 obtain⟨ao,cap,h1,h2,h3⟩:=h;refine⟨ao,cap,h1,h2,fun i x hx=>?_⟩;obtain⟨a,u0,u1,u2,u3,u4,u5,e,p,c0,c1,c2,c3,c4,c5,r⟩:=h3 i x hx;have hb:∀j,(cellAt (a.add (i*6)) j).block ∉ S:=fun j=>by rw[cellAt_block,add_block];exact hP _ p
 exact⟨a,u0,u1,u2,u3,u4,u5,e,hQ _ p (by have:=World.block_lt_of_cell? _ _ c0;rwa[cellAt_block,add_block]at this),k.cell_some c0 (hb 0),k.cell_some c1 (hb 1),k.cell_some c2 (hb 2),k.cell_some c3 (hb 3),k.cell_some c4 (hb 4),k.cell_some c5 (hb 5),hR _ _ r⟩
theorem KidsIn.at {α:Type} {P:Nat->Prop} {R R':Value->α->Prop} {w:World} {v:Value} {l:List α} (h:KidsIn P R w v l) (hR:∀u x,R u x->R' u x):KidsAt R' w v l:=by
 obtain⟨ao,cap,h1,h2,h3⟩:=h;refine⟨ao,cap,h1,h2,fun i x hx=>?_⟩;obtain⟨a,u0,u1,u2,u3,u4,u5,e,_,c0,c1,c2,c3,c4,c5,r⟩:=h3 i x hx;exact⟨a,u0,u1,u2,u3,u4,u5,e,c0,c1,c2,c3,c4,c5,hR _ _ r⟩

def VtIn (P:Nat->Prop):(d:Nat)->World->Value->Vt d->Prop
 |0,_,_,_=>False
 |d+1,w,v,x=>let x:Node (Vt d):=x;∃kv cv,v=.agg #[.int .i64 x.kind,.int .u64 (x.num:Int),.int .i64 x.scale,.string x.text,kv,cv]/\TextsIn P w kv x.keys/\KidsIn P (VtIn P d w) w cv x.kids
theorem VtIn.keep:∀(d:Nat) {P Q:Nat->Prop} {S:List Nat} {w w':World} {v:Value} {x:Vt d},VtIn P d w v x->Keep S w w'->(∀b,P b->b ∉ S)->(∀b,P b->b<w.heap.size->Q b)->VtIn Q d w' v x
 |0,_,_,_,_,_,_,_,h,_,_,_=>h
 |d+1,P,Q,S,w,w',v,x,h,k,hP,hQ=>by
  obtain⟨kv,cv,h1,h2,h3⟩:=h;exact⟨kv,cv,h1,h2.keep k hP hQ,h3.keep k hP hQ (fun u y hy=>VtIn.keep d hy k hP hQ)⟩
theorem VtIn.at:∀(d:Nat) {P:Nat->Prop} {w:World} {v:Value} {x:Vt d},VtIn P d w v x->VtAt d w v x
 |0,_,_,_,_,h=>h
 |d+1,P,w,v,x,h=>by
  obtain⟨kv,cv,h1,h2,h3⟩:=h;exact⟨kv,cv,h1,h2.at,h3.at (fun u y hy=>VtIn.at d hy)⟩

structure Six where
 u0:Value
 u1:Value
 u2:Value
 u3:Value
 u4:Value
 u5:Value
def Six.cells (s:Six):List Value:=[s.u0,s.u1,s.u2,s.u3,s.u4,s.u5]
def Six.agg (s:Six):Value:=.agg #[s.u0,s.u1,s.u2,s.u3,s.u4,s.u5]
def Six.text (s:ByteArray):List Value:=[.string s]
theorem Six.len (s:Six):s.cells.length=6:=rfl
theorem Six.tlen (s:ByteArray):(Six.text s).length=1:=rfl

theorem VtIn.six {P:Nat->Prop} {d:Nat} {w:World} {v:Value} {x:Vt d} (h:VtIn P d w v x):∃(k s:Int) (n:Nat) (t:ByteArray) (a1 a2:Option Addr) (l1 c1 l2 c2:Nat),v=.agg #[.int .i64 k,.int .u64 (n:Int),.int .i64 s,.string t,.slice a1 l1 c1,.slice a2 l2 c2]:=by
 cases d with
 |zero=>exact h.elim
 |succ d=>
  obtain⟨kv,cv,e,⟨a1,c1,rfl,_⟩,⟨a2,c2,rfl,_⟩⟩:=h;exact⟨_,_,_,_,_,_,_,_,_,_,e⟩
theorem OwnC.texts {G:List Nat} {w:World} {v:Value} {l:List ByteArray} {P:Nat->Prop} (h:OwnC Six.text 1 G w v l) (hP:∀b ∈ G,P b):TextsIn P w v l:=by
 obtain⟨ao,c,hv,hc⟩:=h.shape;refine⟨ao,c,hv,hc,fun i s hs=>?_⟩;obtain⟨g,c',hG,hv',_,hcell⟩:=h.cell Six.tlen hs (j:=0) (u:=.string s) rfl;rw[hv]at hv';injection hv' with e1 e2 e3
 subst e1;refine⟨_,rfl,hP g (by rw[hG];simp),?_⟩;rw[add_at,Nat.zero_add];simpa using hcell

def Sixes {α:Type} (R:Value->α->Prop) (l:List Six) (ys:List α):Prop:=l.length=ys.length/\∀(i:Nat) (s:Six) (y:α),l[i]?=some s->ys[i]?=some y->R s.agg y
theorem Sixes.nil {α:Type} (R:Value->α->Prop):Sixes R [] []:=⟨rfl,fun i s y h=>by simp at h⟩
theorem Sixes.mono {α:Type} {R R':Value->α->Prop} {l:List Six} {ys:List α} (h:Sixes R l ys) (hR:∀u y,R u y->R' u y):Sixes R' l ys:=⟨h.1,fun i s y h1 h2=>hR _ _ (h.2 i s y h1 h2)⟩
theorem Sixes.snoc {α:Type} {R:Value->α->Prop} {l:List Six} {ys:List α} (h:Sixes R l ys) {s:Six} {y:α} (hs:R s.agg y):Sixes R (l++[s]) (ys++[y]):=by
 refine⟨by simp[h.1],fun i t z h1 h2=>?_⟩;rcases Nat.lt_or_ge i l.length with hi|hi
 ·rw[List.getElem?_append_left hi]at h1;rw[List.getElem?_append_left (by rw[<-h.1];exact hi)]at h2;exact h.2 i t z h1 h2
 ·have e:i=l.length:=by
   have:=(List.getElem?_eq_some_iff.1 h1).1;simp at this;omega
  subst e;rw[List.getElem?_append_right (Nat.le_refl _),Nat.sub_self]at h1;rw[h.1,List.getElem?_append_right (Nat.le_refl _),Nat.sub_self]at h2;simp at h1 h2;subst h1;subst h2;exact hs
theorem OwnC.kids {α:Type} {G:List Nat} {w:World} {v:Value} {l:List Six} {ys:List α} {P:Nat->Prop} {R:Value->α->Prop} (h:OwnC Six.cells 6 G w v l) (hP:∀b ∈ G,P b) (hR:Sixes R l ys):KidsIn P R w v ys:=by
 obtain⟨ao,c,hv,hc⟩:=h.shape;refine⟨ao,c,by rw[hv,hR.1],by rw[<-hR.1];exact hc,fun i y hy=>?_⟩;have hi:i<l.length:=by rw[hR.1];exact(List.getElem?_eq_some_iff.1 hy).1
 obtain⟨s,hs⟩:∃s,l[i]?=some s:=⟨_,List.getElem?_eq_getElem hi⟩;have hc:=fun j u (hj:s.cells[j]?=some u)=>h.cell Six.len hs (j:=j) (u:=u) hj;obtain⟨g,c',hG,hv',_,h0⟩:=hc 0 s.u0 rfl;rw[hv]at hv';injection hv' with e1 e2 e3
 subst e1;have hg:∀j u,s.cells[j]?=some u->w.cell? ⟨g,i*6+j,none⟩=some u:=fun j u hj=>by
  obtain⟨g',c2,hG',_,_,hh⟩:=hc j u hj;rw[hG]at hG';simp at hG';subst hG';exact hh
 refine⟨_,s.u0,s.u1,s.u2,s.u3,s.u4,s.u5,rfl,hP g (by rw[hG];simp),?_,?_,?_,?_,?_,?_,hR.2 i s y hs hy⟩;all_goals rw[add_at,Nat.zero_add]
 ·simpa[cellAt]using hg 0 s.u0 rfl
 ·simpa[cellAt]using hg 1 s.u1 rfl
 ·simpa[cellAt]using hg 2 s.u2 rfl
 ·simpa[cellAt]using hg 3 s.u3 rfl
 ·simpa[cellAt]using hg 4 s.u4 rfl
 ·simpa[cellAt]using hg 5 s.u5 rfl

theorem wp_append_ownC {α:Type} {cf:α->List Value} {sz:Nat} {G:List Nat} (hcf:∀x,(cf x).length=sz) (hsz0:0<sz) {P:Program} {w:World} {v:Value} {l:List α} {o:Oper} {a:Act} {K:Act->World->Prop} {Q:Exit->Act->World->Prop} (s x:Operand) (t e:TypeId)
  (ho:o.op=.call {callee:=.builtin .append,args:=#[s,x],argTypes:=#[t,t]}) (i:TypeInfo) (bytes:Nat) (ht:P.underlying t=some (.slice e)) (hi:P.info? e=some i)
  (hz:∃z,i.zero=some z/\z.cells.size=sz) (hsize:i.size=sz) (hby:i.bytes=bytes) (hv:a.eval s=v) (h:OwnC cf sz G w v l) (xv:Value) (news:List α)
  (hx:a.eval x=xv) (hs:Src P sz t xv news.length (news.flatMap cf) w) (hb:(l.length+news.length)*bytes<=140737488355328) (h63:l.length+news.length<=1000000000000)
  (hK:∀v' w' G',OwnC cf sz G' w' v' (l++news)->Keep G w w'->(∀b ∈ G',b ∈ G\/w.heap.size<=b)->K (a.put o.dst v') w'):Oper.wp P o a w K Q:=by
 obtain⟨v',w',G',hrun,r1,r2,r3⟩:=h.append hcf hsz0 (P:=P) t o.type e i bytes ht hi hz hsize hby xv news hs hb h63;unfold Oper.wp;simp[execOp,ho,resolve,invoke,builtin,hv,hx,hrun,Result.andThen];exact hK v' w' G' r1 r2 r3
theorem OwnC.shape2 {α:Type} {cf:α->List Value} {sz:Nat} {G:List Nat} {w:World} {v:Value} {l:List α} (h:OwnC cf sz G w v l):∃ao nl cc,v=.slice ao nl cc:=by
 obtain⟨ao,c,rfl,_⟩:=h.shape;exact⟨_,_,_,rfl⟩
theorem info_var:(Tryz.prog.info? 26).map (fun i=>(i.zero,i.size,i.bytes))=some (some (.agg #[.int .i64 0,.int .u64 0,.int .i64 0,.string ⟨#[]⟩,.slice none 0 0,.slice none 0 0]),6,88):=by kernel_rfl

theorem srcSix (s:Six) (h1:∀u ∈ s.cells,u.oneCell'=true) {w:World} {b:Nat} (h:Blk w b s.cells):Src Tryz.prog 6 24 (.slice (some ⟨b,0,none⟩) 1 1) [s].length ([s].flatMap Six.cells) w:=
 Src.oneC (cf:=Six.cells) (x:=s) Six.len h1 Tryz.underlying24 h

theorem Sixes.step {d B T L M:Nat} {G G':List Nat} {wr wB wz:World} {l:List Six} {ys:List (Vt d)} {s:Six} {y:Vt d} (hl:Sixes (VtIn (fun b=>b<B\/(T<b/\b ∉ G)) d wr) l ys) (hs:VtIn (fun b=>b<B\/L<=b) d wB s.agg y)
  (k1:Keep (T::G) wr wz) (k2:Keep (T::G) wB wz) (hBT:B<=T) (hG:∀b ∈ G,T<b/\b<L) (hTL:T<L) (hr:wr.heap.size<=M) (hM:wB.heap.size<=M) (hG':∀b ∈ G',b ∈ G\/M<=b):
  Sixes (VtIn (fun b=>b<B\/(T<b/\b ∉ G')) d wz) (l++[s]) (ys++[y]):=by
 refine Sixes.snoc (hl.mono fun u x h=>h.keep d k1 (fun b hb=>?_) (fun b hb hlt=>?_)) (hs.keep d k2 (fun b hb=>?_) (fun b hb hlt=>?_))
 ·simp only[List.mem_cons,not_or];rcases hb with hb|hb
  ·exact⟨by omega,fun hm=>by have:=(hG b hm).1;omega⟩
  ·exact⟨by omega,hb.2⟩
 ·rcases hb with hb|hb
  ·exact .inl hb
  ·exact .inr ⟨hb.1,fun hm=>(hG' b hm).elim hb.2 (fun h=>by omega)⟩
 ·simp only[List.mem_cons,not_or];rcases hb with hb|hb
  ·exact⟨by omega,fun hm=>by have:=(hG b hm).1;omega⟩
  ·exact⟨by omega,fun hm=>by have:=(hG b hm).2;omega⟩
 ·rcases hb with hb|hb
  ·exact .inl hb
  ·exact .inr ⟨by omega,fun hm=>(hG' b hm).elim (fun h=>by have:=(hG b h).2;omega) (fun h=>by omega)⟩
end Go.Proofs.YtocgdgmfnockiaaGreatDoor
