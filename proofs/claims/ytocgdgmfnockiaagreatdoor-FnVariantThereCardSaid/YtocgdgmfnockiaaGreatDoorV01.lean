/- Plain laws on worlds: a block that is known whole (Blk), and what a call keeps (Keep). No program here. A region that draws its order, with ONE operation that acts: what stands ahead of it only reads, what stands behind it only reads. One walk in the order of the text serves every order. No program here. -/
import Derived.Lib.Hide
import Derived.WalkKit
import Derived.Deep.Draws
import Derived.StillTail
import Derived.Tactics
set_option linter.unusedVariables false
set_option linter.unusedSimpArgs false
set_option maxRecDepth 100000
set_option maxHeartbeats 8000000
namespace Go.Proofs.YtocgdgmfnockiaaGreatDoor
open Go.RowKit
theorem qq {p:Prop} (a:p):Go.RowKit.Hid p:=a
theorem qq2 {p q:Prop} (a:p) (b:q):Go.RowKit.Hid (p/\q):=⟨a,b⟩
theorem qq3 {p q r:Prop} (a:p) (b:q) (c:r):Go.RowKit.Hid (p/\q/\r):=⟨a,b,c⟩
theorem qq4 {p q r s:Prop} (a:p) (b:q) (c:r) (d:s):Go.RowKit.Hid (p/\q/\r/\s):=⟨a,b,c,d⟩
theorem qq5 {p q r s t:Prop} (a:p) (b:q) (c:r) (d:s) (e:t):Go.RowKit.Hid (p/\q/\r/\s/\t):=⟨a,b,c,d,e⟩
theorem qq6 {p q r s t u:Prop} (a:p) (b:q) (c:r) (d:s) (e:t) (f:u):Go.RowKit.Hid (p/\q/\r/\s/\t/\u):=⟨a,b,c,d,e,f⟩
theorem qq7 {p q r s t u v:Prop} (a:p) (b:q) (c:r) (d:s) (e:t) (f:u) (g:v):Go.RowKit.Hid (p/\q/\r/\s/\t/\u/\v):=⟨a,b,c,d,e,f,g⟩
theorem qq8 {p q r s t u v x:Prop} (a:p) (b:q) (c:r) (d:s) (e:t) (f:u) (g:v) (h:x):Go.RowKit.Hid (p/\q/\r/\s/\t/\u/\v/\x):=⟨a,b,c,d,e,f,g,h⟩
theorem qq9 {p q r s t u v x y:Prop} (a:p) (b:q) (c:r) (d:s) (e:t) (f:u) (g:v) (h:x) (i:y):Go.RowKit.Hid (p/\q/\r/\s/\t/\u/\v/\x/\y):=⟨a,b,c,d,e,f,g,h,i⟩
theorem qq10 {p q r s t u v x y z:Prop} (a:p) (b:q) (c:r) (d:s) (e:t) (f:u) (g:v) (h:x) (i:y) (j:z):Go.RowKit.Hid (p/\q/\r/\s/\t/\u/\v/\x/\y/\z):=⟨a,b,c,d,e,f,g,h,i,j⟩

def Blk (w:World) (b:Nat) (cs:List Value):Prop:=∃T,w.heap[b]?=some (.cells cs.toArray T (0,0))

structure Keep (S:List Nat) (w w':World):Prop where
 os:w'.os=w.os
 tape:w'.tape=w.tape
 output:w'.output=w.output
 size:w.heap.size<=w'.heap.size
 block:∀k,k<w.heap.size->k ∉ S->w'.heap[k]?=w.heap[k]?
theorem Blk.lt {w:World} {b:Nat} {cs:List Value} (h:Blk w b cs):b<w.heap.size:=by
 obtain⟨T,h⟩:=h;rcases Nat.lt_or_ge b w.heap.size with h'|h'
 ·exact h'
 ·simp[Array.getElem?_eq_none h']at h
theorem Blk.cell {w:World} {b:Nat} {cs:List Value} (h:Blk w b cs) {i:Nat} {v:Value} (e:cs[i]?=some v):w.cell? ⟨b,i,none⟩=some v:=by
 obtain⟨T,h⟩:=h;simp[World.cell?,h,e]
theorem Blk.c2 {w:World} {b:Nat} {cs:List Value} (h:Blk w b cs) (i j:Nat) {xi xj:Value} (hi:cs[i]?=some xi) (hj:cs[j]?=some xj):w.cell? ⟨b,i,none⟩=some xi/\w.cell? ⟨b,j,none⟩=some xj:=⟨h.cell hi,h.cell hj⟩
theorem Blk.c3 {w:World} {b:Nat} {cs:List Value} (h:Blk w b cs) (i j k:Nat) {xi xj xk:Value} (hi:cs[i]?=some xi) (hj:cs[j]?=some xj) (hk:cs[k]?=some xk):w.cell? ⟨b,i,none⟩=some xi/\w.cell? ⟨b,j,none⟩=some xj/\w.cell? ⟨b,k,none⟩=some xk:=⟨h.cell hi,h.cell hj,h.cell hk⟩
theorem Blk.c4 {w:World} {b:Nat} {cs:List Value} (h:Blk w b cs) (i j k l:Nat) {xi xj xk xl:Value} (hi:cs[i]?=some xi) (hj:cs[j]?=some xj) (hk:cs[k]?=some xk) (hl:cs[l]?=some xl):w.cell? ⟨b,i,none⟩=some xi/\w.cell? ⟨b,j,none⟩=some xj/\w.cell? ⟨b,k,none⟩=some xk/\w.cell? ⟨b,l,none⟩=some xl:=⟨h.cell hi,h.cell hj,h.cell hk,h.cell hl⟩
theorem Blk.c5 {w:World} {b:Nat} {cs:List Value} (h:Blk w b cs) (i j k l m:Nat) {xi xj xk xl xm:Value} (hi:cs[i]?=some xi) (hj:cs[j]?=some xj) (hk:cs[k]?=some xk) (hl:cs[l]?=some xl) (hm:cs[m]?=some xm):w.cell? ⟨b,i,none⟩=some xi/\w.cell? ⟨b,j,none⟩=some xj/\w.cell? ⟨b,k,none⟩=some xk/\w.cell? ⟨b,l,none⟩=some xl/\w.cell? ⟨b,m,none⟩=some xm:=⟨h.cell hi,h.cell hj,h.cell hk,h.cell hl,h.cell hm⟩
theorem Blk.c6 {w:World} {b:Nat} {cs:List Value} (h:Blk w b cs) (i j k l m n:Nat) {xi xj xk xl xm xn:Value} (hi:cs[i]?=some xi) (hj:cs[j]?=some xj) (hk:cs[k]?=some xk) (hl:cs[l]?=some xl) (hm:cs[m]?=some xm) (hn:cs[n]?=some xn):w.cell? ⟨b,i,none⟩=some xi/\w.cell? ⟨b,j,none⟩=some xj/\w.cell? ⟨b,k,none⟩=some xk/\w.cell? ⟨b,l,none⟩=some xl/\w.cell? ⟨b,m,none⟩=some xm/\w.cell? ⟨b,n,none⟩=some xn:=⟨h.cell hi,h.cell hj,h.cell hk,h.cell hl,h.cell hm,h.cell hn⟩
theorem Blk.c7 {w:World} {b:Nat} {cs:List Value} (h:Blk w b cs) (i j k l m n o:Nat) {xi xj xk xl xm xn xo:Value} (hi:cs[i]?=some xi) (hj:cs[j]?=some xj) (hk:cs[k]?=some xk) (hl:cs[l]?=some xl) (hm:cs[m]?=some xm) (hn:cs[n]?=some xn) (ho:cs[o]?=some xo):w.cell? ⟨b,i,none⟩=some xi/\w.cell? ⟨b,j,none⟩=some xj/\w.cell? ⟨b,k,none⟩=some xk/\w.cell? ⟨b,l,none⟩=some xl/\w.cell? ⟨b,m,none⟩=some xm/\w.cell? ⟨b,n,none⟩=some xn/\w.cell? ⟨b,o,none⟩=some xo:=⟨h.cell hi,h.cell hj,h.cell hk,h.cell hl,h.cell hm,h.cell hn,h.cell ho⟩
theorem Blk.c8 {w:World} {b:Nat} {cs:List Value} (h:Blk w b cs) (i j k l m n o p:Nat) {xi xj xk xl xm xn xo xp:Value} (hi:cs[i]?=some xi) (hj:cs[j]?=some xj) (hk:cs[k]?=some xk) (hl:cs[l]?=some xl) (hm:cs[m]?=some xm) (hn:cs[n]?=some xn) (ho:cs[o]?=some xo) (hp:cs[p]?=some xp):w.cell? ⟨b,i,none⟩=some xi/\w.cell? ⟨b,j,none⟩=some xj/\w.cell? ⟨b,k,none⟩=some xk/\w.cell? ⟨b,l,none⟩=some xl/\w.cell? ⟨b,m,none⟩=some xm/\w.cell? ⟨b,n,none⟩=some xn/\w.cell? ⟨b,o,none⟩=some xo/\w.cell? ⟨b,p,none⟩=some xp:=⟨h.cell hi,h.cell hj,h.cell hk,h.cell hl,h.cell hm,h.cell hn,h.cell ho,h.cell hp⟩
theorem Blk.c9 {w:World} {b:Nat} {cs:List Value} (h:Blk w b cs) (i j k l m n o p q:Nat) {xi xj xk xl xm xn xo xp xq:Value} (hi:cs[i]?=some xi) (hj:cs[j]?=some xj) (hk:cs[k]?=some xk) (hl:cs[l]?=some xl) (hm:cs[m]?=some xm) (hn:cs[n]?=some xn) (ho:cs[o]?=some xo) (hp:cs[p]?=some xp) (hq:cs[q]?=some xq):w.cell? ⟨b,i,none⟩=some xi/\w.cell? ⟨b,j,none⟩=some xj/\w.cell? ⟨b,k,none⟩=some xk/\w.cell? ⟨b,l,none⟩=some xl/\w.cell? ⟨b,m,none⟩=some xm/\w.cell? ⟨b,n,none⟩=some xn/\w.cell? ⟨b,o,none⟩=some xo/\w.cell? ⟨b,p,none⟩=some xp/\w.cell? ⟨b,q,none⟩=some xq:=⟨h.cell hi,h.cell hj,h.cell hk,h.cell hl,h.cell hm,h.cell hn,h.cell ho,h.cell hp,h.cell hq⟩
theorem Blk.frozen {w:World} {b:Nat} {cs:List Value} (h:Blk w b cs) (i:Nat):w.frozen? ⟨b,i,none⟩=false:=by
 obtain⟨T,h⟩:=h;simp[World.frozen?,h]
theorem Blk.unfrozen {w:World} {b:Nat} {cs:List Value} (h:Blk w b cs):∀i,w.frozen? ⟨b,i,none⟩=false:=h.frozen
theorem Blk.uniq {w:World} {b:Nat} {cs ds:List Value} (h:Blk w b cs) (k:Blk w b ds):cs=ds:=by
 obtain⟨T,h⟩:=h;obtain⟨U,k⟩:=k;rw[h]at k;simp at k;exact k.1
theorem Blk.set {w:World} {b:Nat} {cs:List Value} (h:Blk w b cs) (i:Nat) (v:Value):Blk (w.setCell ⟨b,i,none⟩ v) b (cs.set i v):=by
 obtain⟨T,h⟩:=h;exact⟨T,by simp only[World.setCell,Array.getElem?_modify,if_true,h];simp⟩
theorem Blk.set_other {w:World} {b c:Nat} {cs:List Value} (h:Blk w b cs) (hne:b≠c) (i:Nat) (s:Option Nat) (v:Value):Blk (w.setCell ⟨c,i,s⟩ v) b cs:=by
 obtain⟨T,h⟩:=h;refine⟨T,?_⟩;simp only[World.setCell,Array.getElem?_modify];rw[if_neg (Ne.symm hne)];exact h
theorem Blk.drew {w:World} {b:Nat} {cs:List Value} (h:Blk w b cs):Blk w.drew b cs:=h
theorem Blk.drewN {w:World} {b:Nat} {cs:List Value} (h:Blk w b cs) (n:Nat):Blk (w.drewN n) b cs:=h
theorem Blk.alloc {w:World} {b:Nat} {cs:List Value} (h:Blk w b cs) (o:Obj):Blk (w.alloc o) b cs:=by
 have hl:=h.lt;obtain⟨T,h⟩:=h;exact⟨T,by rw[Below.heap_alloc _ _ _ hl];exact h⟩
theorem Blk.new (w:World) (cs:List Value) (T:TypeId):Blk (w.alloc (.cells cs.toArray T)) w.heap.size cs:=
 ⟨T,by show(w.heap.push _)[w.heap.size]?=_;simp⟩
theorem Blk.of_new {w:World} {b:Nat} {cs:List Value} {T:TypeId} (hb:b=w.heap.size):Blk (w.alloc (.cells cs.toArray T)) b cs:=by
 subst hb;exact Blk.new _ _ _
theorem Keep.refl (S:List Nat) (w:World):Keep S w w:=⟨rfl,rfl,rfl,Nat.le_refl _,fun _ _ _=>rfl⟩
theorem Keep.trans {S S':List Nat} {a b c:World} (h:Keep S a b) (k:Keep S' b c) (hs:∀x ∈ S',x ∈ S\/a.heap.size<=x):Keep S a c:=
 ⟨k.os.trans h.os,k.tape.trans h.tape,k.output.trans h.output,Nat.le_trans h.size k.size,fun i hi hn=>
  (k.block i (Nat.lt_of_lt_of_le hi h.size) (fun hm=>(hs i hm).elim hn (fun hle=>absurd hi (by omega)))).trans (h.block i hi hn)⟩
theorem Keep.drew {S:List Nat} {a w:World} (h:Keep S a w):Keep S a w.drew:=⟨h.os,h.tape,h.output,h.size,h.block⟩
theorem Keep.drewN {S:List Nat} {a w:World} (h:Keep S a w) (n:Nat):Keep S a (w.drewN n):=⟨h.os,h.tape,h.output,h.size,h.block⟩
theorem Keep.alloc {S:List Nat} {a w:World} (h:Keep S a w) (o:Obj):Keep S a (w.alloc o):=
 ⟨h.os,h.tape,h.output,by simp;exact Nat.le_succ_of_le h.size,fun k hk hn=>by rw[Below.heap_alloc _ _ _ (Nat.lt_of_lt_of_le hk h.size)];exact h.block k hk hn⟩
theorem Keep.set {S:List Nat} {a w:World} (h:Keep S a w) {b:Nat} (hb:b ∈ S\/a.heap.size<=b) (i:Nat) (s:Option Nat) (v:Value):Keep S a (w.setCell ⟨b,i,s⟩ v):=
 ⟨h.os,h.tape,h.output,by simpa using h.size,fun k hk hn=>by
  rw[Below.heap_setCell _ _ _ _ (fun e=>by subst e;exact hb.elim hn (fun hle=>absurd hk (by simp at hle ⊢;omega)))];exact h.block k hk hn⟩
theorem Keep.weaken {S S':List Nat} {a w:World} (h:Keep S a w) (hs:∀x ∈ S,x ∈ S'\/a.heap.size<=x):Keep S' a w:=
 (Keep.refl S' a).trans h hs
theorem Blk.keep {S:List Nat} {w w':World} {b:Nat} {cs:List Value} (h:Blk w b cs) (k:Keep S w w') (hn:b ∉ S):Blk w' b cs:=by
 have hl:=h.lt;obtain⟨T,h⟩:=h;exact⟨T,by rw[k.block b hl hn];exact h⟩
theorem Keep.cell {S:List Nat} {w w':World} (k:Keep S w w') {b i:Nat} {s:Option Nat} (hl:b<w.heap.size) (hn:b ∉ S):w'.cell? ⟨b,i,s⟩=w.cell? ⟨b,i,s⟩:=
 World.cell?_of_block (w:=w) (k.block b hl hn)
theorem Keep.cell_some {S:List Nat} {w w':World} (k:Keep S w w') {p:Addr} {v:Value} (h:w.cell? p=some v) (hn:p.block ∉ S):w'.cell? p=some v:=by
 have hl:=World.block_lt_of_cell? _ _ h;rw[show w'.cell? p=w.cell? p from World.cell?_of_block (w:=w) (k.block p.block hl hn)];exact h
theorem Keep.below {w w':World} (k:Keep [] w w'):Below w.heap.size w w':=⟨k.os,k.tape,k.output,k.size,fun i hi=>k.block i hi (by simp)⟩
theorem Keep.of_below {S:List Nat} {w w':World} (k:Below w.heap.size w w'):Keep S w w':=⟨k.os,k.tape,k.output,k.size,fun i hi _=>k.block i hi⟩
section
variable {P:Program} {ops:Array Oper} {md:Region.Mode}

def rootB (md:Region.Mode) (ops:Array Oper) (n:Nat):Bool:=
 (List.range ops.size).all fun t=>decide (t<=n)||(List.range t).any fun s=>decide (n<=s)&&Region.waitsFor md ops t s
theorem none_early {n:Nat} {listed:Array Bool} (hs:Region.sinkB md ops n=true) (hroot:rootB md ops n=true) (hn:n<ops.size) (inv:HeadInv md ops n listed)
  (i:Nat) (hi:i<n) (hun:listed.getD i true=false) (t:Nat) (ht:n<=t):t ∉ Region.ready md ops listed:=by
 intro hr;obtain⟨_,ot,hot,hall⟩:=mem_ready.1 hr;have htl:t<ops.size:=(Array.getElem?_eq_some_iff.1 hot).1;have waits:∀s,Region.waitsFor md ops t s=true->listed.getD s true=false->False:=fun s hw hu=>by
  obtain⟨o',ho',e,he,hb,hon⟩:=Region.waitsFor_spec hw;obtain rfl:o'=ot:=Option.some.inj (ho'.symm.trans hot);have h:=hall e he hb;rw[hon,getD_both hu]at h;cases h
 rcases Nat.eq_or_lt_of_le ht with rfl|hlt
 ·
  have key:∀d j,n-j=d->j<n->listed.getD j true=false->False:=by
   intro d
   induction d using Nat.strongRecOn with
   |_ d ih=>
    intro j hd hj huj;obtain⟨k,hk,hk2⟩:=List.any_eq_true.1 (List.all_eq_true.1 hs j (List.mem_range.2 hj));simp only[Bool.and_eq_true,decide_eq_true_eq]at hk2;have hkn:=List.mem_range.1 hk;by_cases hkn':k=n
    ·subst hkn';exact waits j hk2.2 huj
    ·obtain⟨ok,hok,e,he,hb,hon⟩:=Region.waitsFor_spec hk2.2;cases hl:listed.getD k false with
     |true=>
      have h:=inv.closed k ok hok hl e he hb;rw[hon,getD_both huj]at h;cases h
     |false=>exact ih (n-k) (by omega) k rfl (by omega) (getD_in (by rw[inv.size];omega) hl)
  exact key _ i rfl hi hun
 ·have h:=List.all_eq_true.1 hroot t (List.mem_range.2 htl);simp only[Bool.or_eq_true,decide_eq_true_eq]at h;rcases h with h|h
  ·omega
  ·obtain⟨s,hs1,hs2⟩:=List.any_eq_true.1 h;simp only[Bool.and_eq_true,decide_eq_true_eq]at hs2;have:=List.mem_range.1 hs1;exact waits s hs2.2 (inv.tail s hs2.1 (by omega))
theorem head_first {w:World} {n i:Nat} {oi:Oper} {v:Value} {L:Array Bool->Act->Prop} (hi:ops[i]?=some oi) (hsel:Region.noSelect ops=true)
  (hwait:∀listed,HeadInv md ops n listed->∀i,i<n->listed.getD i true=false->∀t,n<=t->t ∉ Region.ready md ops listed) (hin:i<n)
  (hdone:∀listed a,L listed a->∀j ∈ Region.ready md ops listed,n<=j):
  ∀(f:Nat) (listed:Array Bool) (a:Act),HeadInv md ops n listed->
   (∀j oj,ops[j]?=some oj->j≠i->listed.getD j true=false->(∀e ∈ oj.after,Region.binds md e=true->e.on≠i)->oi.apart ops oj=true)->
   i ∈ Region.ready md ops listed->YieldsAt P ops w oi v a->
   wpAnyL P md ops w n L f (listed.setIfInBounds i true) (a.put oi.dst v)->wpAnyL P md ops w n L (f+1) listed a:=by
 intro f
 induction f with
 |zero=>
  intro listed a inv _ hr hy H;refine⟨List.ne_nil_of_mem hr,fun j hj=>?_⟩;have hjn:j<n:=Nat.lt_of_not_le fun h=>hwait _ inv i hin (mem_ready.1 hr).1 j h hj;refine⟨hjn,?_⟩;by_cases hji:j=i
  ·subst hji;exact hy.stOp hi H
  ·exact absurd (hdone _ _ H j (ready_mono hj hji)) (by omega)
 |succ f ih=>
  intro listed a inv hfree hr hy H;refine⟨List.ne_nil_of_mem hr,fun j hj=>?_⟩;have hun:=(mem_ready.1 hr).1;have hjn:j<n:=Nat.lt_of_not_le fun h=>hwait _ inv i hin hun j h hj;refine⟨hjn,?_⟩;by_cases hji:j=i
  ·subst hji;exact hy.stOp hi H
  ·obtain⟨hjun,oj,hoj,hall⟩:=mem_ready.1 hj;have hno:∀e ∈ oj.after,Region.binds md e=true->e.on≠i:=fun e he hb heq=>by
    have h:=hall e he hb;rw[heq,getD_both hun]at h;cases h
   have h2:=stOp_put hoj (hfree j oj hoj hji hjun hno) (fun cs b=>Region.noSelect_spec hsel i oi cs b hi) (fun cs b=>Region.noSelect_spec hsel j oj cs b hoj) hy (H.2 j (ready_mono hj hji)).2;refine stOp_mono (fun a' h3=>ih _ a' (inv.set hj hjn) (fun k ok hk hki hu hn=>hfree k ok hk hki ?_ hn) (ready_mono hr (Ne.symm hji)) h3.1 ?_) h2
   ·by_cases hjk:j=k
    ·subst hjk;exact hjun
    ·rwa[getD_set_ne true hjk]at hu
   ·rw[Array.setIfInBounds_comm _ _ hji];exact h3.2

def midFrom (md:Region.Mode) (ops:Array Oper) (n:Nat):Nat->Nat->Array Bool->Bool
 |0,_,listed=>decide (Region.ready md ops listed=[n])&&Region.lexFrom md ops (ops.size-(n+1)) (n+1) (listed.setIfInBounds n true)
 |f+1,k,listed=>(Region.ready md ops listed).contains k&&Region.free md ops listed k&&midFrom md ops n f (k+1) (listed.setIfInBounds k true)
def midB (md:Region.Mode) (ops:Array Oper) (n:Nat):Bool:=
 Region.noSelect ops&&decide (n<ops.size)&&Region.sinkB md ops n&&rootB md ops n&&midFrom md ops n n 0 (Array.replicate ops.size false)
theorem head_lex {w:World} {n:Nat} {Lq:Act->Prop} (hsel:Region.noSelect ops=true)
  (hwait:∀listed,HeadInv md ops n listed->∀i,i<n->listed.getD i true=false->∀t,n<=t->t ∉ Region.ready md ops listed):
  ∀(l:List Oper) (k:Nat) (listed:Array Bool) (a:Act),(∀j,j<l.length->l[j]?=ops[k+j]?)->k+l.length=n->HeadInv md ops n listed->
  midFrom md ops n l.length k listed=true->wpStill P ops w Lq l a->
  wpAnyL P md ops w n (fun listed' a'=>midFrom md ops n 0 n listed'=true/\Lq a') l.length listed a
 |[],k,listed,a,_,hk,_,hB,h=>⟨by simpa[midFrom]using hB,h⟩
 |o::l,k,listed,a,hl,hk,inv,hB,h=>by
  have h0:ops[k]?=some o:=by simpa using(hl 0 (by simp)).symm
  simp only[List.length_cons,midFrom,Bool.and_eq_true]at hB;have hkn:k<n:=by simp only[List.length_cons]at hk;omega
  have hr:k ∈ Region.ready md ops listed:=by simpa using hB.1.1
  obtain⟨v,hy,hK⟩:=yieldsAt_of_stOp h0 (show stOp P ops w k (wpStill P ops w Lq l) a by unfold stOp;simp only[h0];exact h);refine head_first h0 hsel hwait hkn (fun listed' a' hL j hj=>?_) l.length listed a inv (Region.free_spec h0 hB.1.2) hr hy
   (head_lex hsel hwait l (k+1) _ _ (fun j hj=>by have:=hl (j+1) (by simp;omega);simpa[Nat.add_assoc,Nat.add_comm 1 j]using this)
    (by simp only[List.length_cons]at hk;omega) (inv.set hr hkn) hB.2 hK)
  have h1:=hL.1;simp only[midFrom,Bool.and_eq_true,decide_eq_true_eq]at h1;rw[h1.1]at hj;have:j=n:=by simpa using hj
  omega
theorem Oper.wp_exit {o:Oper} {a:Act} {w:World} {K:Act->World->Prop} {Q Q':Exit->Act->World->Prop} (hQ:∀e a w,e≠.normal->Q' e a w->Q e a w) (h:o.wp P a w K Q'):o.wp P a w K Q:=by
 unfold Oper.wp at*;generalize(execOp a.eval o).run P w=r at*;cases r with
 |ok n w'=>
  cases n<;>simp only[Oper.upon]at h ⊢
  case enter f args=>
   refine h.mono fun e w'' he=>?_;cases e with
   |returned v=>exact he
   |panicked c=>exact hQ _ _ _ (by simp) he
   |outgrown=>obtain⟨a0,w0,h0⟩:=he;exact⟨a0,w0,hQ _ _ _ (by simp) h0⟩
  all_goals exact h
 |halt x w'=>
  cases x<;>simp only[Oper.upon]at h ⊢
  exact hQ _ _ _ (by simp) h

theorem wp_region_mid {id:Nat} {Q:Exit->Act->World->Prop} {a:Act} {w:World} {l:List Oper} (n:Nat) (hm:P.follows .mixedOrders=true) (hB:midB .any l.toArray n=true)
  (h:wpStill P l.toArray w.drew (fun a'=>wpList P l.toArray (Exit.then (fun a2 w2=>wpStill P l.toArray w2 (fun a3=>Q .normal a3 w2) (l.drop (n+1)) a2) Q) ((l.drop n).take 1) a' w.drew) (l.take n) a):
  (Code.region id l.toArray true).wp P Q a w:=by
 simp only[midB,Bool.and_eq_true,decide_eq_true_eq]at hB;obtain⟨⟨⟨⟨hsel,hn⟩,hs⟩,hroot⟩,hmid⟩:=hB;have hn':n<l.length:=by simpa using hn
 have htl:(l.take n).length=n:=by simp;omega
 have inv0:HeadInv .any l.toArray n (Array.replicate l.toArray.size false):=
  ⟨by simp,fun j oj _ hl=>(by rw[getD_replicate_false]at hl;cases hl),fun t _ ht=>getD_in (by simpa using ht) (getD_replicate_false _ _)⟩
 have H:=head_lex (md:=.any) hsel (fun listed inv i hi hun t ht=>none_early hs hroot hn inv i hi hun t ht) (l.take n) 0 _ a (fun j hj=>by
  have hj':j<n:=by rw[htl]at hj;exact hj
  simp[hj']) (by simpa using htl) inv0 (by rw[htl];exact hmid) h
 refine wp_region_any hm ?_;have:=wpAny_of_head (Q':=Q) (g:=l.toArray.size-n) (fun listed a' hL=>by
  obtain⟨h1,h2⟩:=hL;simp only[midFrom,Bool.and_eq_true,decide_eq_true_eq]at h1;obtain⟨hr,hlex⟩:=h1;rw[show l.toArray.size-n=(l.toArray.size-(n+1))+1 by simp;omega];refine⟨fun h0=>(by rw[hr]at h0;cases h0),fun i hi=>?_⟩;rw[hr]at hi;obtain rfl:i=n:=by simpa using hi
  have e1:(l.drop i).take 1=[l[i]]:=by
   rw[List.drop_eq_getElem_cons hn'];rfl
  rw[e1]at h2;have hop:l.toArray[i]?=some l[i]:=by simp[hn']
  have fin:∀a2 w2,wpStill P l.toArray w2 (fun a3=>Q .normal a3 w2) (l.drop (i+1)) a2->
    wpAny P .any l.toArray Q (l.toArray.size-(i+1)) (listed.setIfInBounds i true) a2 w2:=fun a2 w2 hst=>by
   refine wpAny_of_still (Q:=fun a3=>Q .normal a3 w2) (fun _ h=>h) _ _ _ ?_;have:=wpAnyS_lex (md:=.any) (w:=w2) hsel (l.drop (i+1)) (i+1) (listed.setIfInBounds i true) a2 (fun j=>by simp[List.getElem?_drop]) (by simpa using hlex) hst;simpa using this
  unfold wpOp;simp only[hop];unfold wpList at h2;split
  ·rename_i hw;simp only[hw,if_true]at h2;rcases h2 with h2|⟨hask,a0,w0,h0⟩
   ·exact .inl (Oper.wp_exit (fun e a w he hq=>by cases e<;>first|exact absurd rfl he|exact hq) (Oper.wp_mono (fun a2 w2 hk=>fin a2 w2 hk) h2))
   ·exact .inr ⟨hask,a0,w0,h0⟩
  ·rename_i hw;simp only[hw]at h2;exact fin _ _ h2) _ _ _ H
 rw[htl,show n+(l.toArray.size-n)=l.toArray.size by simp;omega]at this;exact this
end
end Go.Proofs.YtocgdgmfnockiaaGreatDoor
