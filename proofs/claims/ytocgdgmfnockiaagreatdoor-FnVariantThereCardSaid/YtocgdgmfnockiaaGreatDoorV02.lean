/- Plain laws: rows of whole numbers, cells stored one behind the other, copy between blocks that are known whole. No program here. Variants as trees of a depth, and where they lie in memory. No walk here. Plain laws on machine numbers, bits and packed values. No program here. Variants: the small functions of headers. Variants: writeOffset. Slices of numbers and addresses, in short. No walk here. Slices of the call's own, of elements of whatever size. No walk here. Variants read: bytes in memory. No walk here. A region that draws its order, in two parts: a head in which what is read stays as it is, and a tail that waits for all of the head. No program here. -/
import Derived.Test.YtocgdgmfnockiaaGreatDoorV01
import Derived.Laws.IdiomCopy
import Derived.Laws.CopyOwn
import Derived.Laws.BitsAllLaws
import Derived.Laws.Bits64
import Derived.Test.YtocgdgmfnockiaaGreatDoorProg
import Derived.WalkKit
import Derived.WalkSpells
import Derived.WalkLawsBesides
import Derived.Deep.QuietTactic
import Derived.BigQuiet
import Derived.StillTailTactics
import Derived.Lib.Hide
import Derived.IntWalk
import Derived.Deep.Draws
import Derived.Lib.AppendZeros
import Derived.Deep.OwnRows
import Derived.Deep.AppendSrc
import Derived.Deep.Upon
import Derived.StillTail
import Derived.OrdersHeld
set_option linter.unusedVariables false
set_option linter.unusedSimpArgs false
set_option maxRecDepth 100000
set_option maxHeartbeats 8000000
namespace Go.Proofs.YtocgdgmfnockiaaGreatDoor
open Go.RowKit

def rowV (k:IntKind) (l:List Nat):List Value:=l.map fun(n:Nat)=>.int k (n:Int)
@[simp] theorem length_rowV (k:IntKind) (l:List Nat):(rowV k l).length=l.length:=by simp[rowV]
theorem rowV_get {k:IntKind} {l:List Nat} {i n:Nat} (h:l[i]?=some n):(rowV k l)[i]?=some (.int k (n:Int)):=by simp[rowV,h]
theorem rowV_append (k:IntKind) (l m:List Nat):rowV k (l++m)=rowV k l++rowV k m:=by simp[rowV]
theorem rowV_take (k:IntKind) (l:List Nat) (n:Nat):rowV k (l.take n)=(rowV k l).take n:=by simp[rowV]
theorem rowV_drop (k:IntKind) (l:List Nat) (n:Nat):rowV k (l.drop n)=(rowV k l).drop n:=by simp[rowV]
theorem rowV_set (k:IntKind) (l:List Nat) (i n:Nat):rowV k (l.set i n)=(rowV k l).set i (.int k (n:Int)):=by simp[rowV,List.map_set]
theorem rowV_splice (k:IntKind) (l:List Nat) (o:Nat) (m:List Nat):rowV k (splice l o m)=splice (rowV k l) o (rowV k m):=by simp[splice,rowV]
theorem rowV_replicate (k:IntKind) (n x:Nat):rowV k (List.replicate n x)=List.replicate n (.int k (x:Int)):=by simp[rowV]
theorem rowV_inj {k:IntKind} {l m:List Nat} (h:rowV k l=rowV k m):l=m:=by
 unfold rowV at h
 induction l generalizing m with
 |nil=>cases m<;>simp_all
 |cons a l ih=>cases m with
  |nil=>simp at h
  |cons b m=>simp at h;obtain⟨h1,h2⟩:=h;rw[ih h2];simp;omega
theorem one_rowV (k:IntKind) (l:List Nat):∀v ∈ rowV k l,v.oneCell'=true:=by
 intro v hv;simp[rowV]at hv;obtain⟨n,_,rfl⟩:=hv;rfl
def setsAt {α:Type} (cs:List α) (o:Nat):List α->List α
 |[]=>cs
 |v::r=>setsAt (cs.set o v) (o+1) r
theorem setsAt_splice {α:Type}:∀(vs cs:List α) (o:Nat),o+vs.length<=cs.length->setsAt cs o vs=splice cs o vs
 |[],cs,o,_=>by simp[setsAt,splice]
 |v::r,cs,o,h=>by
  simp at h;rw[setsAt,setsAt_splice r _ _ (by simp;omega)];have h1:(cs.set o v).take (o+1)=cs.take o++[v]:=by
   rw[List.take_succ_eq_append_getElem (by simp;omega),List.take_set_of_le (Nat.le_refl _)];simp
  have h2:(cs.set o v).drop (o+1+r.length)=cs.drop (o+(r.length+1)):=by
   rw[List.drop_set,if_pos (by omega),show o+1+r.length=o+(r.length+1)by omega]
  simp only[splice,h1,h2,List.length_cons];simp
theorem Blk.setCells {w:World} {b:Nat}:∀{vs cs:List Value} {o:Nat},Blk w b cs->o+vs.length<=cs.length->Blk (w.setCells b o vs) b (splice cs o vs):=by
 intro vs
 induction vs generalizing w with
 |nil=>intro cs o h _;simpa[splice,World.setCells]using h
 |cons v r ih=>
  intro cs o h hl;rw[<-setsAt_splice _ _ _ hl,setsAt,World.setCells,setsAt_splice _ _ _ (by simp at*;omega)];exact ih (h.set o v) (by simp at*;omega)
theorem Blk.setCells_other {b c:Nat} {cs:List Value} {vs:List Value} (hn:b≠c):∀{w:World} {o:Nat},Blk w b cs->Blk (w.setCells c o vs) b cs:=by
 induction vs with
 |nil=>intro w o h;exact h
 |cons v r ih=>intro w o h;exact ih (h.set_other hn _ _ _)
theorem Keep.setCells {S:List Nat} {a:World} {b:Nat} {vs:List Value} (hb:b ∈ S\/a.heap.size<=b):∀{w:World} {o:Nat},Keep S a w->Keep S a (w.setCells b o vs):=by
 induction vs with
 |nil=>intro w o h;exact h
 |cons v r ih=>intro w o h;exact ih (h.set hb _ _ _)

theorem run_copy_blk {P:Program} {w:World} {g s:Nat} {cur scs:List Value} (hg:Blk w g cur) (hs:Blk w s scs) (dT sT ty elem:TypeId) (o so dLen dCap sLen sCap:Nat)
  (hu:P.underlying dT=some (.slice elem)) (hz:(P.info? elem).map (·.size)=some 1) (n:Nat) (hn:n=Nat.min sLen dLen)
  (hd:o+n<=cur.length) (hss:so+n<=scs.length) (h1:∀v ∈ scs,v.oneCell'=true):
  (Builtin.copy_ #[dT,sT] ty #[.slice (some ⟨g,o,none⟩) dLen dCap,.slice (some ⟨s,so,none⟩) sLen sCap]).run P w=.ok (.int .i64 n) (w.setCells g o ((scs.drop so).take n)):=by
 have hlen:((scs.drop so).take n).length=n:=by simp;omega
 have:=run_copy_cells (P:=P) w dT sT ty elem g o dLen dCap ⟨s,so,none⟩ sLen sCap ((scs.drop so).take n) hu hz (by rw[hlen,hn])
  (fun j v hj=>by
   have hjn:j<n:=by
    rcases Nat.lt_or_ge j n with h|h
    ·exact h
    ·rw[List.getElem?_eq_none (by rw[hlen];exact h)]at hj;cases hj
   have hadd:(⟨s,so,none⟩:Addr).add j=⟨s,so+j,none⟩:=by unfold Addr.add;split<;>simp_all
   rw[hadd];refine hs.cell ?_;rw[List.getElem?_take,if_pos hjn,List.getElem?_drop]at hj;exact hj)
  (fun j hj=>by
   rw[hlen]at hj;rw[hg.cell (v:=cur[o+j]'(by omega)) (by simp)];rfl)
  (fun j _=>hg.frozen _)
  (fun v hv=>h1 v (List.mem_of_mem_drop (List.mem_of_mem_take hv)))
 rw[this,hlen];rfl

def leBytes:Nat->Nat->List Nat
 |0,_=>[]
 |k+1,n=>n%256::leBytes k (n / 256)
@[simp] theorem length_leBytes:∀(k n:Nat),(leBytes k n).length=k
 |0,_=>rfl
 |k+1,n=>by simp[leBytes,length_leBytes k]

def leVal:List Nat->Nat
 |[]=>0
 |b::l=>b+256*leVal l
theorem leVal_lt:∀(l:List Nat),(∀x ∈ l,x<256)->leVal l<256^l.length
 |[],_=>by simp[leVal]
 |b::l,h=>by
  have h1:=h b (by simp);have h2:=leVal_lt l (fun x hx=>h x (by simp[hx]));simp only[leVal,List.length_cons,Nat.pow_succ];omega
theorem leVal_leBytes:∀(k n:Nat),n<256^k->leVal (leBytes k n)=n
 |0,n,h=>by simp at h;simp[leBytes,leVal,h]
 |k+1,n,h=>by
  rw[leBytes,leVal,leVal_leBytes k (n / 256) (by rw[Nat.pow_succ]at h;omega)];omega
theorem leBytes_lt (k n:Nat):∀x ∈ leBytes k n,x<256:=by
 induction k generalizing n with
 |zero=>simp[leBytes]
 |succ k ih=>
  intro x hx;simp[leBytes]at hx;rcases hx with rfl|hx
  ·omega
  ·exact ih _ x hx
theorem leBytes_leVal:∀(l:List Nat),(∀x ∈ l,x<256)->leBytes l.length (leVal l)=l
 |[],_=>rfl
 |b::l,h=>by
  have h1:=h b (by simp);have h2:=leBytes_leVal l (fun x hx=>h x (by simp[hx]));simp only[List.length_cons,leBytes,leVal];rw[show(b+256*leVal l)%256=b by omega,show(b+256*leVal l) / 256=leVal l by omega,h2]
theorem leBytes8 (n:Nat):rowV .u8 (leBytes 8 n)=[.int .u8 ((n:Int)%256),.int .u8 ((n:Int) / 256%256),.int .u8 ((n:Int) / 65536%256),.int .u8 ((n:Int) / 16777216%256),
  .int .u8 ((n:Int) / 4294967296%256),.int .u8 ((n:Int) / 1099511627776%256),.int .u8 ((n:Int) / 281474976710656%256),.int .u8 ((n:Int) / 72057594037927936%256)]:=by
 simp[rowV,leBytes,Nat.div_div_eq_div_mul]

structure Node (α:Type) where
 kind:Int
 num:Nat
 scale:Int
 text:ByteArray
 keys:List ByteArray
 kids:List α

def Vt:Nat->Type
 |0=>Empty
 |d+1=>Node (Vt d)

def TextsAt (w:World) (v:Value) (l:List ByteArray):Prop:=
 ∃ao cap,v=.slice ao l.length cap/\l.length<=cap/\∀(i:Nat) (s:ByteArray),l[i]?=some s->∃a:Addr,ao=some a/\w.cell? (a.add i)=some (.string s)
theorem TextsAt.keep {w w':World} {v:Value} {l:List ByteArray} (h:TextsAt w v l) (k:Keep [] w w'):TextsAt w' v l:=by
 obtain⟨ao,cap,h1,h2,h3⟩:=h;exact⟨ao,cap,h1,h2,fun i s hs=>by obtain⟨a,e,hc⟩:=h3 i s hs;exact⟨a,e,k.cell_some hc (by simp)⟩⟩

def cellAt (a:Addr):Nat->Addr
 |0=>a
 |j+1=>⟨a.block,a.off+(j+1),none⟩

def KidsAt {α:Type} (P:Value->α->Prop) (w:World) (v:Value) (l:List α):Prop:=
 ∃ao cap,v=.slice ao l.length cap/\l.length<=cap/\∀(i:Nat) (x:α),l[i]?=some x->∃(a:Addr) (u0 u1 u2 u3 u4 u5:Value),ao=some a/\w.cell? (cellAt (a.add (i*6)) 0)=some u0/\w.cell? (cellAt (a.add (i*6)) 1)=some u1/\
  w.cell? (cellAt (a.add (i*6)) 2)=some u2/\w.cell? (cellAt (a.add (i*6)) 3)=some u3/\w.cell? (cellAt (a.add (i*6)) 4)=some u4/\w.cell? (cellAt (a.add (i*6)) 5)=some u5/\P (.agg #[u0,u1,u2,u3,u4,u5]) x
theorem cellAt_block (a:Addr):∀j,(cellAt a j).block=a.block
 |0=>rfl
 |_+1=>rfl
theorem KidsAt.keep {α:Type} {P Q:Value->α->Prop} {w w':World} {v:Value} {l:List α} (h:KidsAt P w v l) (k:Keep [] w w') (hP:∀u x,P u x->Q u x):KidsAt Q w' v l:=by
 obtain⟨ao,cap,h1,h2,h3⟩:=h;refine⟨ao,cap,h1,h2,fun i x hx=>?_⟩;obtain⟨a,u0,u1,u2,u3,u4,u5,e,c0,c1,c2,c3,c4,c5,p⟩:=h3 i x hx;exact⟨a,u0,u1,u2,u3,u4,u5,e,k.cell_some c0 (by simp),k.cell_some c1 (by simp),k.cell_some c2 (by simp),k.cell_some c3 (by simp),k.cell_some c4 (by simp),k.cell_some c5 (by simp),hP _ _ p⟩

def VtAt:(d:Nat)->World->Value->Vt d->Prop
 |0,_,_,_=>False
 |d+1,w,v,x=>let x:Node (Vt d):=x;∃kv cv,v=.agg #[.int .i64 x.kind,.int .u64 (x.num:Int),.int .i64 x.scale,.string x.text,kv,cv]/\TextsAt w kv x.keys/\KidsAt (VtAt d w) w cv x.kids
theorem VtAt.keep:∀(d:Nat) {w w':World} {v:Value} {x:Vt d},VtAt d w v x->Keep [] w w'->VtAt d w' v x
 |0,_,_,_,_,h,_=>h
 |d+1,w,w',v,x,h,k=>by
  obtain⟨kv,cv,h1,h2,h3⟩:=h;exact⟨kv,cv,h1,h2.keep k,h3.keep k (fun u y hy=>VtAt.keep d hy k)⟩
theorem mul_two_pow_mod (v i:Nat) (hi:i<=64):v*2^i%18446744073709551616=v%2^(64-i)*2^i:=by
 rw[show 18446744073709551616=2^(64-i)*2^i by rw[<-Nat.pow_add,show 64-i+i=64 by omega]];exact Nat.mul_mod_mul_right _ _ _
theorem acc_lt (x v i:Nat) (hx:x<2^i) (hi:i<=64):x+v%2^(64-i)*2^i<18446744073709551616:=by
 have h1:v%2^(64-i)<2^(64-i):=Nat.mod_lt _ (Nat.two_pow_pos _);have h2:(v%2^(64-i)+1)*2^i<=2^(64-i)*2^i:=Nat.mul_le_mul_right _ h1;rw[<-Nat.pow_add,show 64-i+i=64 by omega]at h2;rw[Nat.add_mul]at h2;have:(2:Nat)^64=18446744073709551616:=rfl;omega
theorem acc_mod (x v i:Nat) (hx:x<2^i) (hi:i<=64):(x+v*2^i)%18446744073709551616=x+v%2^(64-i)*2^i:=by
 rw[Nat.add_mod,mul_two_pow_mod v i hi];have h:=acc_lt x v i hx hi;rw[Nat.mod_eq_of_lt (a:=x) (by omega),Nat.mod_eq_of_lt h]

theorem or_acc (x v i:Nat) (hx:x<2^i) (hi:i<=64):
  bits .or .u64 (x:Int) (IntKind.u64.wrap ((v:Int)*2^i))=(((x+v*2^i)%18446744073709551616:Nat):Int):=by
 have e:IntKind.u64.wrap ((v:Int)*2^i)=((v*2^i%18446744073709551616:Nat):Int):=by
  rw[IntKind.wrap_u64,Int.natCast_emod,Int.natCast_mul,Int.natCast_pow];rfl
 have h:=acc_lt x v i hx hi;have h0:(2:Nat)^i<=2^64:=Nat.pow_le_pow_right (by omega) hi;have h64:(2:Nat)^64=18446744073709551616:=rfl;rw[e,u64_or_nat _ _ (by omega) (Nat.mod_lt _ (by omega)),acc_mod x v i hx hi,mul_two_pow_mod v i hi,Nat.or_comm,
  nat_join i _ _ (Nat.mul_mod_left _ _) hx,Nat.add_comm]

def packN (w:Nat):List Nat->Nat
 |[]=>0
 |v::l=>v+2^w*packN w l
theorem packN_lt {w:Nat}:∀{l:List Nat},(∀v ∈ l,v<2^w)->packN w l<2^(w*l.length)
 |[],_=>by simp[packN]
 |v::l,h=>by
  have h1:=h v (by simp);have h2:=packN_lt (l:=l) (fun x hx=>h x (by simp[hx]));have h3:2^w*(packN w l+1)<=2^w*2^(w*l.length):=Nat.mul_le_mul_left _ h2;rw[<-Nat.pow_add]at h3;simp only[packN,List.length_cons];rw[show w*(l.length+1)=w+w*l.length by rw[Nat.mul_add];omega];rw[Nat.mul_add]at h3;omega
theorem packN_append (w:Nat):∀(l m:List Nat),packN w (l++m)=packN w l+2^(w*l.length)*packN w m
 |[],m=>by simp[packN]
 |v::l,m=>by
  simp only[List.cons_append,packN,packN_append w l m,List.length_cons];rw[show w*(l.length+1)=w+w*l.length by rw[Nat.mul_add];omega,Nat.pow_add];rw[Nat.mul_add,Nat.mul_assoc];omega
theorem packN_replicate_zero (w n:Nat):packN w (List.replicate n 0)=0:=by
 induction n with
 |zero=>rfl
 |succ n ih=>simp[List.replicate_succ,packN,ih]
theorem packN_get {w:Nat}:∀{l:List Nat} {i v:Nat},(∀v ∈ l,v<2^w)->l[i]?=some v->packN w l / 2^(w*i)%2^w=v
 |[],i,v,_,h=>by simp at h
 |a::l,0,v,hl,h=>by
  simp at h;subst h;simp only[packN,Nat.mul_zero,Nat.pow_zero,Nat.div_one,Nat.add_mul_mod_self_left];exact Nat.mod_eq_of_lt (hl a (by simp))
 |a::l,i+1,v,hl,h=>by
  simp at h;rw[<-packN_get (l:=l) (i:=i) (fun x hx=>hl x (by simp[hx])) h];have ha:=hl a (by simp);simp only[packN];rw[show w*(i+1)=w+w*i by rw[Nat.mul_add];omega,Nat.pow_add,<-Nat.div_div_eq_div_mul,Nat.add_mul_div_left _ _ (Nat.two_pow_pos w),Nat.div_eq_of_lt ha,Nat.zero_add]
theorem assertC (b:Bool) (v:Value) (w:World):Calls Tryz.prog 105 #[.bool b,v] w fun e w'=>e=.returned (.tuple #[])/\w=w':=by
 go_enter Tryz.func105,Tryz.ntmps105
 go_wp2;go_end0;exact⟨rfl,rfl⟩
theorem arrayHeaderC (large:Bool) (k:Nat) (w:World) (h0:1<=k) (h4:k<=4):Calls Tryz.prog 89 #[.bool large,.int .u8 (k:Int)] w fun e w'=>e=.returned (.int .u8 ((3+4*(k-1)+(if large then 16 else 0):Nat):Int))/\w=w':=by
 have hk:k=1\/k=2\/k=3\/k=4:=by omega
 cases large<;>rcases hk with rfl|rfl|rfl|rfl<;>
 ·go_enter Tryz.func89,Tryz.ntmps89
  go_wp2;go_ret;exact⟨rfl,rfl⟩
theorem objectHeaderC (large:Bool) (k:Nat) (w:World) (h0:1<=k) (h4:k<=4):Calls Tryz.prog 88 #[.bool large,.int .u8 1,.int .u8 (k:Int)] w fun e w'=>e=.returned (.int .u8 ((2+4*(k-1)+(if large then 64 else 0):Nat):Int))/\w=w':=by
 have hk:k=1\/k=2\/k=3\/k=4:=by omega
 cases large<;>rcases hk with rfl|rfl|rfl|rfl<;>
 ·go_enter Tryz.func88,Tryz.ntmps88
  go_wp2;go_ret;exact⟨rfl,rfl⟩

def sizeW (n:Nat):Nat:=if n<=255 then 1 else if n<=65535 then 2 else if n<=16777215 then 3 else 4
theorem intSizeC (n:Nat) (w:World) (hn:n<=134217728):Calls Tryz.prog 54 #[.int .i64 (n:Int)] w fun e w'=>e=.returned (.int .u8 (sizeW n:Int))/\w=w':=by
 have hi:(n:Int)<=134217728:=by omega
 have h0:(0:Int)<=(n:Int):=by omega
 by_cases h1:n<=255
 ·have h1i:(n:Int)<=255:=by omega
  have Hs:=qq (show sizeW n=1 by unfold sizeW;rw[if_pos h1])
  go_enter Tryz.func54,Tryz.ntmps54
  go_wp2_with fail
  refine(assertC _ _ _).mono ?_;rintro e w' ⟨rfl,rfl⟩;go_wp2_with fail
  refine(assertC _ _ _).mono ?_;rintro e w' ⟨rfl,rfl⟩;go_wp2;go_ret;exact⟨by rw[Hs.out];rfl,rfl⟩
 ·have h1i:¬(n:Int)<=255:=by omega
  by_cases h2:n<=65535
  ·have h2i:(n:Int)<=65535:=by omega
   have Hs:=qq (show sizeW n=2 by unfold sizeW;rw[if_neg h1,if_pos h2])
   go_enter Tryz.func54,Tryz.ntmps54
   go_wp2_with fail
   refine(assertC _ _ _).mono ?_;rintro e w' ⟨rfl,rfl⟩;go_wp2_with fail
   refine(assertC _ _ _).mono ?_;rintro e w' ⟨rfl,rfl⟩;go_wp2;go_ret;exact⟨by rw[Hs.out];rfl,rfl⟩
  ·have h2i:¬(n:Int)<=65535:=by omega
   by_cases h3:n<=16777215
   ·have h3i:(n:Int)<=16777215:=by omega
    have Hs:=qq (show sizeW n=3 by unfold sizeW;rw[if_neg h1,if_neg h2,if_pos h3])
    go_enter Tryz.func54,Tryz.ntmps54
    go_wp2_with fail
    refine(assertC _ _ _).mono ?_;rintro e w' ⟨rfl,rfl⟩;go_wp2_with fail
    refine(assertC _ _ _).mono ?_;rintro e w' ⟨rfl,rfl⟩;go_wp2;go_ret;exact⟨by rw[Hs.out];rfl,rfl⟩
   ·have h3i:¬(n:Int)<=16777215:=by omega
    have Hs:=qq (show sizeW n=4 by unfold sizeW;rw[if_neg h1,if_neg h2,if_neg h3])
    go_enter Tryz.func54,Tryz.ntmps54
    go_wp2_with fail
    refine(assertC _ _ _).mono ?_;rintro e w' ⟨rfl,rfl⟩;go_wp2_with fail
    refine(assertC _ _ _).mono ?_;rintro e w' ⟨rfl,rfl⟩;go_wp2;go_ret;exact⟨by rw[Hs.out];rfl,rfl⟩
theorem splice_snoc {α:Type} (cs X:List α) (o:Nat) (v:α) (h:o+X.length<cs.length):(splice cs o X).set (o+X.length) v=splice cs o (X++[v]):=by
 have h1:(cs.take o).length=o:=by simp;omega
 unfold splice;rw[List.set_append_right _ _ (by omega),h1,Nat.add_sub_cancel_left,List.set_append_right _ _ (by omega),Nat.sub_self];rw[List.drop_eq_getElem_cons h,List.set_cons_zero];simp[Nat.add_assoc]
theorem leBytes_snoc:∀(k n:Nat),leBytes (k+1) n=leBytes k n++[n / 256^k%256]
 |0,n=>by simp[leBytes]
 |k+1,n=>by
  have h:=leBytes_snoc k (n / 256);rw[leBytes,h,leBytes,Nat.div_div_eq_div_mul,Nat.pow_succ',List.cons_append]

theorem low_byte (q:Nat) (hq:q<9223372036854775808):bits BinOp.and IntKind.i64 (q:Int) 255%256=((q%256:Nat):Int):=by
 have e:bits BinOp.and IntKind.i64 (q:Int) 255=IntKind.i64.wrap ((BitVec.ofInt 64 (q:Int)&&&BitVec.ofInt 64 255).toNat:Int):=rfl;have h1:(BitVec.ofInt 64 (q:Int)).toNat=q:=by
  rw[BitVec.toNat_ofInt];have:(q:Int)%((2^64:Nat):Int)=(q:Int):=Int.emod_eq_of_lt (by omega) (by omega);rw[this];simp
 have h2:(BitVec.ofInt 64 (255:Int)).toNat=255:=by decide
 have h3:q&&&255=q%256:=Nat.and_two_pow_sub_one_eq_mod q 8;rw[e,BitVec.toNat_and,h1,h2,h3];have hb:q%256<256:=Nat.mod_lt _ (by omega);have hw:IntKind.i64.wrap ((q%256:Nat):Int)=((q%256:Nat):Int):=by simp only[IntKind.wrap,IntKind.bits,IntKind.signed];simp;omega
 rw[hw];omega
theorem writeOffsetC (b o n cap v k:Nat) (cs:List Value) (w:World) (hb:Blk w b cs) (hk1:1<=k) (hk4:k<=4) (hkn:k<=n) (hon:o+k<=cs.length) (hv:v<2147483648):
  Calls Tryz.prog 57 #[.slice (some ⟨b,o,none⟩) n cap,.int .i64 (v:Int),.int .u8 (k:Int)] w fun e w'=>e=.returned (.tuple #[])/\Keep [b] w w'/\Blk w' b (splice cs o (rowV .u8 (leBytes k v))):=by
 have h0:Blk w b (splice cs o (rowV .u8 (leBytes 0 v))):=by simpa[splice,rowV,leBytes]using hb
 have Hb:=qq h0;clear hb h0
 go_enter Tryz.func57,Tryz.ntmps57
 go_wp2_with fail
 refine(assertC _ _ _).mono ?_;rintro e w' ⟨rfl,rfl⟩;go_wp2_with fail
 refine(assertC _ _ _).mono ?_;rintro e w' ⟨rfl,rfl⟩;go_wp2_with fail
 go_loopw [16] (fun i wr=>∃j:Nat,j<=k/\i=.int .u8 (j:Int)/\Keep [b] w wr/\Blk wr b (splice cs o (rowV .u8 (leBytes j v)))) (fun i _=>k-(intOf i).toNat)
 case atStart=>exact⟨0,Nat.zero_le _,rfl,Keep.refl _ _,Hb.out⟩
 case round=>
  obtain⟨j,hj,rfl,kk,hV⟩:=hrel;by_cases hj2:j<k
  ·obtain⟨y,hy⟩:∃y,y=v / 256^j%256:=⟨_,rfl⟩;have hyb:y<256:=by rw[hy];exact Nat.mod_lt _ (by omega)
   obtain⟨u,hcu⟩:∃u,wr.cell? ⟨b,o+j,none⟩=some u:=by
    have hl:o+j<(splice cs o (rowV .u8 (leBytes j v))).length:=by rw[length_splice _ _ _ (by simp;omega)];omega
    exact⟨_,hV.cell (List.getElem?_eq_getElem hl)⟩
   have hfu:=hV.unfrozen;have HV:=qq2 hV hy;clear hV hy;go_wp2;have hq:(v:Int) / 2^(j*8)=((v / 256^j:Nat):Int):=by
    rw[show(256:Nat)^j=2^(j*8)by rw[Nat.mul_comm,Nat.pow_mul]];simp
   have hlow:bits BinOp.and IntKind.i64 ((v:Int) / 2^(j*8)) 255%256=(y:Int):=by
    rw[hq,low_byte _ (Nat.lt_of_le_of_lt (Nat.div_le_self _ _) (by omega)),HV.out.2]
   rw[hlow];go_roundw
   case rel=>
    refine⟨j+1,hj2,by go_num,kk.set (by simp) _ _ _,?_⟩;have h:=HV.out.1.set (o+j) (.int .u8 (y:Int));have hl:(leBytes j v).length=j:=length_leBytes j v;have e:=splice_snoc cs (rowV .u8 (leBytes j v)) o (.int .u8 (y:Int)) (by simp;omega);rw[length_rowV,hl]at e;rw[e]at h;rw[leBytes_snoc,<-HV.out.2,rowV_append];exact h
   case measure=>simp[intOf];omega
  ·have hjk:j=k:=by omega
   subst hjk;have HV:=qq hV;clear hV;go_wp2;go_end0;exact⟨rfl,kk,HV.out⟩
theorem add_at (g o i:Nat):(⟨g,o,none⟩:Addr).add i=⟨g,o+i,none⟩:=by unfold Addr.add;split<;>simp_all
theorem zeroCells_row (k:IntKind) (n:Nat):Builtin.zeroCells (Value.int k 0).cells n=(rowV k (List.replicate n 0)).toArray:=by
 rw[rowV_replicate];unfold Builtin.zeroCells;apply Array.ext
 ·simp[Value.cells]
 ·intro i h1 h2;simp[Value.cells,Nat.mod_one]
theorem madeRow (z:Value) (n:Nat):madeCells #[z] n=(List.replicate n z).toArray:=by
 unfold madeCells;apply Array.ext
 ·simp
 ·intro i h1 h2;simp[Nat.mod_one]
theorem splice_length {α:Type} (cs:List α) (o:Nat) (vs:List α) (h:o+vs.length<=cs.length):(splice cs o vs).length=cs.length:=length_splice _ _ _ h
theorem splice_zero {α:Type} (cs vs:List α):splice cs 0 vs=vs++cs.drop vs.length:=by simp[splice]
theorem splice_take {α:Type} (cs vs:List α) (o:Nat) (h:o+vs.length<=cs.length):(splice cs o vs).take (o+vs.length)=cs.take o++vs:=by
 unfold splice;have h1:(cs.take o++vs).length=o+vs.length:=by simp;omega
 rw[<-List.append_assoc,List.take_left' h1]

def RowAt (w:World) (v:Value) (k:IntKind) (vs:List Nat):Prop:=
 (v=.slice none 0 0/\vs=[])\/∃a cap,v=.slice (some a) vs.length cap/\vs.length<=cap/\∀(i x:Nat),vs[i]?=some x->w.cell? (a.add i)=some (.int k (x:Int))
theorem RowAt.keepS {S:List Nat} {w w':World} {v:Value} {k:IntKind} {vs:List Nat} (h:RowAt w v k vs) (kk:Keep S w w') (hS:∀a n c,v=.slice (some a) n c->a.block ∉ S):RowAt w' v k vs:=by
 rcases h with h|⟨a,cap,h1,h2,h3⟩
 ·exact .inl h
 ·exact .inr ⟨a,cap,h1,h2,fun i x hx=>kk.cell_some (h3 i x hx) (by rw[show(a.add i).block=a.block by unfold Addr.add;split<;>rfl];exact hS _ _ _ h1)⟩
theorem RowAt.keep {w w':World} {v:Value} {k:IntKind} {vs:List Nat} (h:RowAt w v k vs) (kk:Keep [] w w'):RowAt w' v k vs:=
 h.keepS kk (fun _ _ _ _=>by simp)
theorem RowAt.open {w:World} {v:Value} {k:IntKind} {vs:List Nat} (h:RowAt w v k vs):∃ao cap,v=.slice ao vs.length cap/\vs.length<=cap/\∀(i x:Nat),vs[i]?=some x->∃a,ao=some a/\w.cell? (a.add i)=some (.int k (x:Int)):=by
 rcases h with⟨rfl,rfl⟩|⟨a,cap,h1,h2,h3⟩
 ·exact⟨none,0,rfl,Nat.le_refl _,fun i x hx=>by simp at hx⟩
 ·exact⟨some a,cap,h1,h2,fun i x hx=>⟨a,rfl,h3 i x hx⟩⟩
theorem Keep.cat {S S' T:List Nat} {a b c:World} (h:Keep S a b) (k:Keep S' b c) (hs:∀x ∈ S,x ∈ T\/a.heap.size<=x) (hs':∀x ∈ S',x ∈ T\/a.heap.size<=x):Keep T a c:=(h.weaken hs).trans k hs'
theorem Keep.nil {T:List Nat} {a b:World} (h:Keep [] a b):Keep T a b:=h.weaken (by simp)
theorem run_copy_from {P:Program} {w:World} {g:Nat} {cur:List Value} (hg:Blk w g cur) (dT sT ty elem:TypeId) (o dLen dCap:Nat) (a:Addr) (sLen sCap:Nat) (xs:List Value)
  (hu:P.underlying dT=some (.slice elem)) (hz:(P.info? elem).map (·.size)=some 1) (hn:xs.length=Nat.min sLen dLen) (hsrc:∀(j:Nat) (v:Value),xs[j]?=some v->w.cell? (a.add j)=some v)
  (hd:o+xs.length<=cur.length) (h1:∀v ∈ xs,v.oneCell'=true):
  (Builtin.copy_ #[dT,sT] ty #[.slice (some ⟨g,o,none⟩) dLen dCap,.slice (some a) sLen sCap]).run P w=.ok (.int .i64 (xs.length:Int)) (w.setCells g o xs):=
 run_copy_cells (P:=P) w dT sT ty elem g o dLen dCap a sLen sCap xs hu hz hn hsrc
  (fun j hj=>by rw[hg.cell (v:=cur[o+j]'(by omega)) (by simp)];rfl) (fun j _=>hg.frozen _) h1

theorem halt {p:Prop} (h:Hid p):p:=h.out
theorem results_cell1 {fn:Func} {p:Tmp} {ty:TypeId} (h:fn.results=#[.cell p ty]) (tmps:Array Value) (P:Program) (w:World):
  (results fn tmps).run P w=((asAddr (tmps.getD p undef)).run P w).andThen fun a w₁=>(loadVar ty a).run P w₁:=by
 simp only[results,h];simp[Sem.run_bind,Result.andThen]

def OwnC {α:Type} (cf:α->List Value) (sz:Nat) (G:List Nat) (w:World) (v:Value) (l:List α):Prop:=
 (G=[]/\v=.slice none 0 0/\l=[])\/∃g c cs,G=[g]/\v=.slice (some ⟨g,0,none⟩) l.length c/\Blk w g cs/\cs.length=c*sz/\cs.take (l.length*sz)=l.flatMap cf/\l.length<=c
section
variable {α:Type} {cf:α->List Value} {sz:Nat} {G:List Nat}
theorem OwnC.keep {S:List Nat} {w w':World} {v:Value} {l:List α} (h:OwnC cf sz G w v l) (kk:Keep S w w') (hS:∀b ∈ G,b ∉ S):OwnC cf sz G w' v l:=by
 rcases h with h|⟨g,c,cs,rfl,h2,h3,h5⟩
 ·exact .inl h
 ·exact .inr ⟨g,c,cs,rfl,h2,h3.keep kk (hS g (by simp)),h5⟩
theorem OwnC.lt {w:World} {v:Value} {l:List α} (h:OwnC cf sz G w v l):∀b ∈ G,b<w.heap.size:=by
 rcases h with⟨rfl,_⟩|⟨g,c,cs,rfl,h2,h3,h5⟩
 ·simp
 ·intro b hb;simp at hb;subst hb;exact h3.lt
theorem OwnC.nodup {w:World} {v:Value} {l:List α} (h:OwnC cf sz G w v l):G.Nodup:=by
 rcases h with⟨rfl,_⟩|⟨g,c,cs,rfl,_⟩<;>simp
theorem OwnC.ne {w:World} {v:Value} {l:List α} (h:OwnC cf sz G w v l) (hl:l≠[]):G≠[]:=by
 rcases h with⟨_,_,rfl⟩|⟨g,c,cs,rfl,_⟩
 ·exact absurd rfl hl
 ·simp
theorem OwnC.shape {w:World} {v:Value} {l:List α} (h:OwnC cf sz G w v l):∃ao c,v=.slice ao l.length c/\l.length<=c:=by
 rcases h with⟨_,h,rfl⟩|⟨g,c,cs,_,h1,_,_,_,h7⟩
 ·exact⟨none,0,h,Nat.le_refl _⟩
 ·exact⟨_,c,h1,h7⟩
theorem flatMap_length (hcf:∀x,(cf x).length=sz):∀l:List α,(l.flatMap cf).length=l.length*sz
 |[]=>by simp
 |x::l=>by rw[List.flatMap_cons,List.length_append,hcf,flatMap_length hcf l,List.length_cons,Nat.succ_mul,Nat.add_comm]
theorem flatMap_get (hcf:∀x,(cf x).length=sz):∀(l:List α) (i:Nat) (x:α) (j:Nat),l[i]?=some x->j<sz->(l.flatMap cf)[i*sz+j]?=(cf x)[j]?
 |[],i,x,j,h,_=>by simp at h
 |y::l,0,x,j,h,hj=>by
  simp at h;subst h;rw[List.flatMap_cons,Nat.zero_mul,Nat.zero_add,List.getElem?_append_left (by rw[hcf];exact hj)]
 |y::l,i+1,x,j,h,hj=>by
  simp at h;rw[List.flatMap_cons,List.getElem?_append_right (by rw[hcf,Nat.succ_mul];omega),hcf];rw[show(i+1)*sz+j-sz=i*sz+j by rw[Nat.succ_mul];omega];exact flatMap_get hcf l i x j h hj

theorem OwnC.cell (hcf:∀x,(cf x).length=sz) {w:World} {v:Value} {l:List α} (h:OwnC cf sz G w v l) {i:Nat} {x:α} (hx:l[i]?=some x) {j:Nat} {u:Value} (hj:(cf x)[j]?=some u):
  ∃g c,G=[g]/\v=.slice (some ⟨g,0,none⟩) l.length c/\l.length<=c/\w.cell? ⟨g,i*sz+j,none⟩=some u:=by
 rcases h with⟨_,_,rfl⟩|⟨g,c,cs,hG,h1,h4,h5,h6,h7⟩
 ·simp at hx
 ·have hil:=(List.getElem?_eq_some_iff.1 hx).1;have hjs:j<sz:=by rw[<-hcf x];exact(List.getElem?_eq_some_iff.1 hj).1
  refine⟨g,c,hG,h1,h7,h4.cell ?_⟩;have hle:i*sz+j<l.length*sz:=by
   have:(i+1)*sz<=l.length*sz:=Nat.mul_le_mul_right _ hil;rw[Nat.succ_mul]at this;omega
  have:=flatMap_get hcf l i x j hx hjs;rw[<-h6,List.getElem?_take,if_pos hle,hj]at this;exact this
theorem OwnC.append (hcf:∀x,(cf x).length=sz) (hsz0:0<sz) {P:Program} {w:World} {v:Value} {l:List α} (t ty e:TypeId) (i:TypeInfo) (bytes:Nat) (ht:P.underlying t=some (.slice e)) (hi:P.info? e=some i)
  (hz:∃z,i.zero=some z/\z.cells.size=sz) (hsize:i.size=sz) (hby:i.bytes=bytes) (h:OwnC cf sz G w v l) (x:Value) (news:List α)
  (hs:Src P sz t x news.length (news.flatMap cf) w) (hb:(l.length+news.length)*bytes<=140737488355328) (h63:l.length+news.length<=1000000000000):
  ∃v' w' G',(Builtin.append_ #[t,t] ty #[v,x]).run P w=.ok v' w'/\OwnC cf sz G' w' v' (l++news)/\Keep G w w'/\(∀b ∈ G',b ∈ G\/w.heap.size<=b):=by
 obtain⟨z,hz,hzs⟩:=hz;have hs':Src P i.size t x news.length (news.flatMap cf) w:=by rw[hsize];exact hs
 have hln:=flatMap_length hcf news;have hll:=flatMap_length hcf l;have grow:∀(base:Option Addr) (c:Nat),c<l.length+news.length->(Builtin.firstCells i.size l.length (.slice base l.length c)).run P w.drew=.ok (l.flatMap cf).toArray w.drew->
   ∃v' w' G',(Builtin.append_ #[t,t] ty #[.slice base l.length c,x]).run P w=.ok v' w'/\OwnC cf sz G' w' v' (l++news)/\Keep G w w'/\(∀b ∈ G',b ∈ G\/w.heap.size<=b):=by
  intro base c hc hold;have hrun:=run_append_grow_src (P:=P) w t t ty e i z ht hi hz base l.length c (l.flatMap cf) hold x news.length (news.flatMap cf) hs' hc (by omega) (growslice_fits hc (by rw[hby];exact hb));have hge:=grownCap_ge w (l.length+news.length) c e;refine⟨_,_,[w.heap.size],hrun,.inr ⟨w.heap.size,_,((l.flatMap cf++news.flatMap cf).toArray++Builtin.zeroCells z.cells (grownCap w (l.length+news.length) c e-(l.length+news.length))).toList,rfl,by rw[List.length_append],?_,?_,?_,?_⟩,((Keep.refl [] w).drew.alloc _).nil,by simp⟩
  ·have:=Blk.new w.drew ((l.flatMap cf++news.flatMap cf).toArray++Builtin.zeroCells z.cells (grownCap w (l.length+news.length) c e-(l.length+news.length))).toList e;rw[Array.toArray_toList]at this;exact this
  ·rw[Array.length_toList,Array.size_append,List.size_toArray,size_zeroCells,List.length_append,hln,hll,hzs,<-Nat.add_mul,<-Nat.add_mul];congr 1;omega
  ·rw[List.flatMap_append,Array.toList_append,List.toList_toArray,List.take_left' (by rw[List.length_append,List.length_append,hln,hll,Nat.add_mul])]
  ·rw[List.length_append];exact hge
 rcases h with⟨rfl,rfl,rfl⟩|⟨g,c,cs,rfl,rfl,h4,h5,h6,h7⟩
 ·by_cases hn:news=[]
  ·subst hn;refine⟨_,_,[],run_append_nothing (P:=P) w t t ty e i ht hi none 0 0 (Nat.le_refl _) x hs',.inl ⟨rfl,rfl,rfl⟩,Keep.refl _ _,by simp⟩
  ·have hpos:0<news.length:=List.length_pos_iff.2 hn;exact grow none 0 (by simpa using hpos) (run_firstCells_none w.drew i.size 0 0 0)
 ·by_cases hfit:l.length+news.length<=c
  ·have hmul:(l.length+news.length)*sz<=c*sz:=Nat.mul_le_mul_right _ hfit;rw[Nat.add_mul]at hmul;have hrun:=run_append_room_src (P:=P) w t t ty e i ht hi g 0 l.length c x news.length (news.flatMap cf) hs' hfit
    (fun j hj=>by
     rw[hln]at hj;rw[hsize,h4.cell (i:=0+l.length*sz+j) (v:=cs[0+l.length*sz+j]'(by omega)) (by simp)];rfl)
    (fun j hj=>h4.frozen _)
   rw[hsize,Nat.zero_add]at hrun;refine⟨_,_,[g],hrun,.inr ⟨g,c,splice cs (l.length*sz) (news.flatMap cf),rfl,by rw[List.length_append],h4.setCells (by rw[hln];omega),by rw[length_splice _ _ _ (by rw[hln];omega)];exact h5,?_,by rw[List.length_append];exact hfit⟩,Keep.setCells (by simp) (Keep.refl _ _),fun b hb=>.inl hb⟩;rw[List.flatMap_append];unfold splice;rw[h6,<-List.append_assoc,List.take_left' (by rw[List.length_append,List.length_append,hln,hll,Nat.add_mul])]
  ·refine grow _ c (by omega) (run_firstCells_some w.drew i.size l.length ⟨g,0,none⟩ l.length c (l.flatMap cf) (by rw[hsize];exact hll) (fun j u hu=>?_));have hj:j<l.length*sz:=by
    have:=(List.getElem?_eq_some_iff.1 hu).1;rw[hll]at this;exact this
   rw[add_at,Nat.zero_add];rw[<-h6,List.getElem?_take,if_pos hj]at hu;exact h4.drew.cell hu

theorem wpList_append_ownC (hcf:∀x,(cf x).length=sz) (hsz0:0<sz) {P:Program} {w:World} {v:Value} {l:List α} {ops:Array Oper} {rest:List Oper} {o:Oper} {a:Act} {Q:Exit->Act->World->Prop} (hgd:o.guard=none) (s x:Operand) (t e:TypeId)
  (ho:o.op=.call {callee:=.builtin .append,args:=#[s,x],argTypes:=#[t,t]}) (i:TypeInfo) (bytes:Nat) (ht:P.underlying t=some (.slice e)) (hi:P.info? e=some i)
  (hz:∃z,i.zero=some z/\z.cells.size=sz) (hsize:i.size=sz) (hby:i.bytes=bytes) (hv:a.eval s=v) (h:OwnC cf sz G w v l) (xv:Value) (news:List α)
  (hx:a.eval x=xv) (hs:Src P sz t xv news.length (news.flatMap cf) w) (hb:(l.length+news.length)*bytes<=140737488355328) (h63:l.length+news.length<=1000000000000)
  (hK:∀v' w' G',OwnC cf sz G' w' v' (l++news)->Keep G w w'->(∀b ∈ G',b ∈ G\/w.heap.size<=b)->wpList P ops Q rest (a.put o.dst v') w'):wpList P ops Q (o::rest) a w:=by
 refine wpList_plain hgd fun K hK'=>?_;obtain⟨v',w',G',hrun,r1,r2,r3⟩:=h.append hcf hsz0 (P:=P) t o.type e i bytes ht hi hz hsize hby xv news hs hb h63;unfold Oper.wp;simp[execOp,ho,resolve,invoke,builtin,hv,hx,hrun,Result.andThen];exact hK' _ _ (hK v' w' G' r1 r2 r3)

theorem Src.oneC {x:α} (hcf:∀x,(cf x).length=sz) (h1:∀u ∈ cf x,u.oneCell'=true) {P:Program} {w:World} {t e:TypeId} (ht:P.underlying t=some (.slice e)) {b c:Nat} (h:Blk w b (cf x)):
  Src P sz t (.slice (some ⟨b,0,none⟩) 1 c) [x].length ([x].flatMap cf) w:=by
 refine Src.ofSlice w ht _ _ _ _ (by simp[hcf]) (fun j u hu=>?_) (by simpa using h1);rw[add_at,Nat.zero_add];exact h.cell (by simpa using hu)

theorem OwnC.setAll (hcf:∀x,(cf x).length=sz) {w:World} {g c:Nat} {l:List α} {w':World} {cs:List Value} (h:Blk w' g cs) (hc:cs.length=c*sz) (ht:cs.take (l.length*sz)=l.flatMap cf) (hl:l.length<=c):OwnC cf sz [g] w' (.slice (some ⟨g,0,none⟩) l.length c) l:=
 .inr ⟨g,c,cs,rfl,rfl,h,hc,ht,hl⟩
end

def Byt (w:World) (b o:Nat) (D:List Nat):Prop:=∀(j x:Nat),D[j]?=some x->w.cell? ⟨b,o+j,none⟩=some (.int .u8 (x:Int))
theorem Byt.keep {S:List Nat} {w w':World} {b o:Nat} {D:List Nat} (h:Byt w b o D) (k:Keep S w w') (hb:b ∉ S):Byt w' b o D:=fun j x hj=>k.cell_some (h j x hj) hb
theorem Byt.drew {w:World} {b o:Nat} {D:List Nat} (h:Byt w b o D):Byt w.drew b o D:=h
theorem Byt.left {w:World} {b o:Nat} {A B:List Nat} (h:Byt w b o (A++B)):Byt w b o A:=fun j x hj=>h j x (by rw[List.getElem?_append_left (List.getElem?_eq_some_iff.1 hj).1];exact hj)
theorem Byt.right {w:World} {b o:Nat} {A B:List Nat} (h:Byt w b o (A++B)):Byt w b (o+A.length) B:=fun j x hj=>by
 have:=h (A.length+j) x (by rw[List.getElem?_append_right (by omega),Nat.add_sub_cancel_left];exact hj);rw[Nat.add_assoc];exact this
theorem Byt.tail {w:World} {b o y:Nat} {D:List Nat} (h:Byt w b o (y::D)):Byt w b (o+1) D:=fun j x hj=>by
 have:=h (j+1) x (by simpa using hj);rw[show o+1+j=o+(j+1)by omega];exact this
theorem Byt.head {w:World} {b o y:Nat} {D:List Nat} (h:Byt w b o (y::D)):w.cell? ⟨b,o,none⟩=some (.int .u8 (y:Int)):=h 0 y rfl
theorem Byt.take {w:World} {b o:Nat} {D:List Nat} (h:Byt w b o D) (n:Nat):Byt w b o (D.take n):=fun j x hj=>by
 rw[List.getElem?_take]at hj;split at hj
 ·exact h j x hj
 ·cases hj
theorem Byt.drop {w:World} {b o:Nat} {D:List Nat} (h:Byt w b o D) (n:Nat):Byt w b (o+n) (D.drop n):=fun j x hj=>by
 rw[List.getElem?_drop]at hj;rw[Nat.add_assoc];exact h _ x hj
section
variable {P:Program} {ops:Array Oper} {Q:Exit->Act->World->Prop} {md:Region.Mode} {S:World->Prop}

def headDone (n:Nat) (listed:Array Bool):Bool:=(List.range n).all fun k=>listed.getD k false

def wpHead (P:Program) (md:Region.Mode) (ops:Array Oper) (Q:Exit->Act->World->Prop) (S:World->Prop) (n:Nat):Nat->Array Bool->Act->World->Prop
 |0,listed,a,w=>Region.ready md ops listed=[]/\Q .normal a w
 |fuel+1,listed,a,w=>if headDone n listed=true then wpAny P md ops Q (fuel+1) listed a w else
  (Region.ready md ops listed=[]->Q .normal a w)/\∀i ∈ Region.ready md ops listed,wpOp P ops Q i (fun a' w'=>S w'/\wpHead P md ops Q S n fuel (listed.setIfInBounds i true) a' w') a w
theorem wpAny_of_wpHead {n:Nat}:∀(fuel:Nat) (listed:Array Bool) (a:Act) (w:World),wpHead P md ops Q S n fuel listed a w->wpAny P md ops Q fuel listed a w
 |0,_,_,_,h=>h
 |fuel+1,listed,a,w,h=>by
  unfold wpHead at h;split at h
  ·exact h
  ·exact⟨h.1,fun i hi=>wpOp_mono (fun a' w' h'=>wpAny_of_wpHead fuel _ a' w' h'.2) (h.2 i hi)⟩
theorem wpHead_tail {n:Nat} {fuel:Nat} {listed:Array Bool} {a:Act} {w:World} (hd:headDone n listed=true) (h:wpAny P md ops Q fuel listed a w):wpHead P md ops Q S n fuel listed a w:=by
 cases fuel with
 |zero=>exact h
 |succ fuel=>unfold wpHead;rw[if_pos hd];exact h

def reach (md:Region.Mode) (ops:Array Oper):Nat->Nat->Nat->Bool
 |0,_,_=>false
 |f+1,t,k=>Region.waitsFor md ops t k||(List.range ops.size).any fun m=>Region.waitsFor md ops t m&&reach md ops f m k

def tailWaits (md:Region.Mode) (ops:Array Oper) (n:Nat):Bool:=(List.range ops.size).all fun t=>decide (t<n)||(List.range n).all fun k=>reach md ops 5 t k

def Closed (md:Region.Mode) (ops:Array Oper) (listed:Array Bool):Prop:=∀(k:Nat) (o:Oper),ops[k]?=some o->listed.getD k false=true->∀e ∈ o.after,Region.binds md e=true->listed.getD e.on false=true
def closedB (md:Region.Mode) (ops:Array Oper) (listed:Array Bool):Bool:=(List.range ops.size).all fun k=>!listed.getD k false||(match ops[k]? with|some o=>o.after.all fun e=>!Region.binds md e||listed.getD e.on false|none=>true)
theorem closed_of {listed:Array Bool} (h:closedB md ops listed=true):Closed md ops listed:=fun k o hk hl e he hb=>by
 have h1:=List.all_eq_true.1 h k (List.mem_range.2 (Array.getElem?_eq_some_iff.1 hk).1);rw[hl,hk]at h1;have h2:=Array.all_eq_true'.1 (show(o.after.all fun e=>!Region.binds md e||listed.getD e.on false)=true from h1) e he;simpa[hb]using h2
theorem Closed.step {listed:Array Bool} {j:Nat} (hc:Closed md ops listed) (hj:j ∈ Region.ready md ops listed):Closed md ops (listed.setIfInBounds j true):=fun k o hk hl e he hb=>by
 have hup:∀x,listed.getD x false=true->(listed.setIfInBounds j true).getD x false=true:=fun x hx=>by
  by_cases h:j=x
  ·subst h;by_cases h2:j<listed.size
   ·simp[Array.getD,h2]
   ·simp[Array.getD,h2]at hx
  ·rw[getD_set_ne false h];exact hx
 by_cases h:j=k
 ·subst h;obtain⟨_,oj,hoj,hall⟩:=mem_ready.1 hj;obtain rfl:o=oj:=Option.some.inj (hk.symm.trans hoj);exact hup _ (hall e he hb)
 ·rw[getD_set_ne false h]at hl;exact hup _ (hc k o hk hl e he hb)
theorem reach_listed {listed:Array Bool} (hc:Closed md ops listed) {k:Nat}:∀(f t:Nat) (o:Oper),ops[t]?=some o->(∀e ∈ o.after,Region.binds md e=true->listed.getD e.on false=true)->reach md ops f t k=true->listed.getD k false=true
 |0,_,_,_,_,h=>by cases h
 |f+1,t,o,ho,hall,h=>by
  have at1:∀m,Region.waitsFor md ops t m=true->listed.getD m false=true:=fun m hm=>by
   obtain⟨o',ho',e,he,hb,hon⟩:=Region.waitsFor_spec hm;obtain rfl:o=o':=Option.some.inj (ho.symm.trans ho');rw[<-hon];exact hall e he hb
  unfold reach at h;rcases Bool.or_eq_true_iff.1 h with h|h
  ·exact at1 k h
  ·obtain⟨m,hm,h2⟩:=List.any_eq_true.1 h;obtain⟨h3,h4⟩:=Bool.and_eq_true_iff.1 h2;have hml:=List.mem_range.1 hm;exact reach_listed hc f m ops[m] (Array.getElem?_eq_getElem hml) (hc m _ (Array.getElem?_eq_getElem hml) (at1 m h3)) h4
theorem tail_late {n i j:Nat} {listed:Array Bool} (hc:Closed md ops listed) (ht:tailWaits md ops n=true) (hi:i<n) (hun:listed.getD i true=false) (hj:j ∈ Region.ready md ops listed):j<n:=by
 rcases Nat.lt_or_ge j n with h|h
 ·exact h
 ·obtain⟨_,oj,hoj,hall⟩:=mem_ready.1 hj;have hjl:j<ops.size:=(Array.getElem?_eq_some_iff.1 hoj).1;have h1:=List.all_eq_true.1 ht j (List.mem_range.2 hjl);simp only[Bool.or_eq_true,decide_eq_true_eq]at h1;rcases h1 with h1|h1
  ·omega
  ·have h2:=List.all_eq_true.1 h1 i (List.mem_range.2 hi);have h3:=reach_listed hc 5 j oj hoj hall h2;rw[getD_both hun]at h3;cases h3
theorem headDone_false {n i:Nat} {listed:Array Bool} (hi:i<n) (hun:listed.getD i true=false):headDone n listed=false:=by
 cases h:headDone n listed with
 |false=>rfl
 |true=>
  have:=List.all_eq_true.1 h i (List.mem_range.2 hi);rw[getD_both hun]at this;cases this
theorem wpHead_first {n i:Nat} {oi:Oper} {v:Value} (hi:ops[i]?=some oi) (hin:i<n) (hsel:∀(j:Nat) (o:Oper) cs b,ops[j]?=some o->o.op≠.select cs b) (ht:tailWaits md ops n=true)
  (hQ:∀c a w,Q (.panic c) (a.put oi.dst v) w->Q (.panic c) a w):
  ∀(fuel:Nat) (listed:Array Bool) (a:Act) (w:World),
   (∀j oj,ops[j]?=some oj->j≠i->listed.getD j true=false->(∀e ∈ oj.after,Region.binds md e=true->e.on≠i)->oi.apart ops oj=true)->
   Closed md ops listed->i ∈ Region.ready md ops listed->YieldsIf P ops S oi v a->S w->
   wpHead P md ops Q S n fuel (listed.setIfInBounds i true) (a.put oi.dst v) w->wpHead P md ops Q S n (fuel+1) listed a w:=by
 intro fuel
 induction fuel with
 |zero=>
  intro listed a w _ hc hr hy hS H;have hun:=(mem_ready.1 hr).1;unfold wpHead;rw[if_neg (by rw[headDone_false hin hun];simp)];refine⟨fun h=>(by rw[h]at hr;cases hr),fun j hj=>?_⟩;by_cases hji:j=i
  ·subst hji;exact hy.wpOp hi hS ⟨hS,H⟩
  ·have:=ready_mono hj hji;rw[H.1]at this;cases this
 |succ fuel ih=>
  intro listed a w hfree hc hr hy hS H;have hun:=(mem_ready.1 hr).1;have H0:=H;unfold wpHead;rw[if_neg (by rw[headDone_false hin hun];simp)];refine⟨fun h=>(by rw[h]at hr;cases hr),fun j hj=>?_⟩;by_cases hji:j=i
  ·subst hji;exact hy.wpOp hi hS ⟨hS,H⟩
  ·have hjn:=tail_late hc ht hin hun hj;have hjun:=(mem_ready.1 hj).1;unfold wpHead at H;split at H
   ·rename_i hd;have h1:=List.all_eq_true.1 hd j (List.mem_range.2 hjn);rw[getD_set_ne false (Ne.symm hji),getD_both hjun]at h1;cases h1
   ·have h1:=H.2 j (ready_mono hj hji);obtain⟨_,oj,hoj,hall⟩:=mem_ready.1 hj;have hnot:∀e ∈ oj.after,Region.binds md e=true->e.on≠i:=fun e he hb heq=>by
     have h1:=hall e he hb;rw[heq,getD_both hun]at h1;cases h1
    have h2:=wpOp_putIf hoj (hfree j oj hoj hji hjun hnot) (fun cs b=>hsel i oi cs b hi) (fun cs b=>hsel j oj cs b hoj) hQ hy h1;have hfree':∀k ok,ops[k]?=some ok->k≠i->(listed.setIfInBounds j true).getD k true=false->
      (∀e ∈ ok.after,Region.binds md e=true->e.on≠i)->oi.apart ops ok=true:=fun k ok hk hki hunk hno=>by
     refine hfree k ok hk hki ?_ hno;by_cases hjk:j=k
     ·subst hjk;exact hjun
     ·rw[getD_set_ne true hjk]at hunk;exact hunk
    refine wpOp_mono (fun a' w' h3=>⟨h3.2.1,ih (listed.setIfInBounds j true) a' w' hfree' (hc.step hj) (ready_mono hr (Ne.symm hji)) h3.1 h3.2.1 ?_⟩) h2;rw[Array.setIfInBounds_comm _ _ hji];exact h3.2.2
theorem wpHead_take {n i:Nat} {oi:Oper} {v:Value} {fuel:Nat} {listed:Array Bool} {a:Act} {w:World} (hi:ops[i]?=some oi) (hin:decide (i<n)=true)
  (hs:Region.noSelect ops=true) (ht:tailWaits md ops n=true) (hc:closedB md ops listed=true) (hf:Region.free md ops listed i=true) (hr:(Region.ready md ops listed).contains i=true)
  (hQ:∀c a w,Q (.panic c) (a.put oi.dst v) w->Q (.panic c) a w) (hS:S w) (hy:YieldsIf P ops S oi v a)
  (h:wpHead P md ops Q S n fuel (listed.setIfInBounds i true) (a.put oi.dst v) w):wpHead P md ops Q S n (fuel+1) listed a w:=
 wpHead_first hi (of_decide_eq_true hin) (Region.noSelect_spec hs) ht hQ fuel listed a w (Region.free_spec hi hf) (closed_of hc) (by simpa using hr) hy hS h

theorem wpHead_ready {n:Nat} {rs:List Nat} {fuel:Nat} {listed:Array Bool} {a:Act} {w:World} (hd:headDone n listed=false) (hr:Region.ready md ops listed=rs) (hne:rs≠[])
  (h:∀i ∈ rs,wpOp P ops Q i (fun a' w'=>S w'/\wpHead P md ops Q S n fuel (listed.setIfInBounds i true) a' w') a w):wpHead P md ops Q S n (fuel+1) listed a w:=by
 unfold wpHead;rw[if_neg (by rw[hd];simp)];exact⟨fun h0=>absurd (hr▸h0) hne,hr▸h⟩
theorem headNil {fuel n:Nat} {listed:Array Bool} {a:Act} {w:World}:∀i ∈ ([]:List Nat),wpOp P ops Q i (fun a' w'=>S w'/\wpHead P md ops Q S n fuel (listed.setIfInBounds i true) a' w') a w:=fun _ h=>by cases h
theorem headCons {fuel n i:Nat} {listed:Array Bool} {a:Act} {w:World} {o:Oper} {rs:List Nat} (ho:ops[i]?=some o)
  (h:∀K':Act->World->Prop,(∀a' w',S w'->wpHead P md ops Q S n fuel (listed.setIfInBounds i true) a' w'->K' a' w')->if Region.wanted o (yielded ops a.tmps)=true then Oper.wp P o a w K' Q else K' (a.put o.dst undef) w)
  (hs:∀j ∈ rs,wpOp P ops Q j (fun a' w'=>S w'/\wpHead P md ops Q S n fuel (listed.setIfInBounds j true) a' w') a w):∀j ∈ i::rs,wpOp P ops Q j (fun a' w'=>S w'/\wpHead P md ops Q S n fuel (listed.setIfInBounds j true) a' w') a w:=fun j hj=>by
 rcases List.mem_cons.1 hj with rfl|hj
 ·exact wpOp_step ho (fun K' hK=>h K' (fun a' w' h1 h2=>hK a' w' ⟨h1,h2⟩))
 ·exact hs j hj

theorem wpHead_done {n:Nat} {listed:Array Bool} {a:Act} {w:World} (hr:Region.ready md ops listed=[]) (h:Q .normal a w):∀fuel,wpHead P md ops Q S n fuel listed a w
 |0=>⟨hr,h⟩
 |fuel+1=>by
  unfold wpHead;split
  ·exact wpAny_done hr h _
  ·exact⟨fun _=>h,by rw[hr];simp⟩

theorem wp_region_head {id:Nat} {a:Act} {w:World} (S:World->Prop) (n:Nat) (hm:P.follows .mixedOrders=true)
  (h:wpHead P .any ops Q S n ops.size (Array.replicate ops.size false) a w.drew):(Code.region id ops true).wp P Q a w:=
 wp_region_any hm (wpAny_of_wpHead _ _ _ _ h)
end
end Go.Proofs.YtocgdgmfnockiaaGreatDoor
