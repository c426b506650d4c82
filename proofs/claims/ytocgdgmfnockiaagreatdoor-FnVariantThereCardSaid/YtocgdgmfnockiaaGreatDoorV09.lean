/- Variants: AddKey in one; Offset, NextElement, NextField. Variants: offsets written behind one another. Variants: FinishArray. Variants: FinishArray. The sorting of slices, laid at this program (printed by layt.py as the shelf's plain mode prints it). Variants: strings compared; the fields' sorting. -/
import Derived.Test.YtocgdgmfnockiaaGreatDoorV08
import Derived.Shelf.SlSortCmp.WholeK
import Derived.Shelf.SlSortCmp.NoneTotal
import Derived.Sort.Walk0
set_option linter.unusedVariables false
set_option linter.unusedSimpArgs false
set_option maxRecDepth 100000
set_option maxHeartbeats 8000000
namespace Go.Proofs.YtocgdgmfnockiaaGreatDoor
open Go.RowKit

def szK (K:List ByteArray):Nat:=(K.map (·.size)).sum
theorem szK_append (K L:List ByteArray):szK (K++L)=szK K+szK L:=by simp[szK]
theorem addKeyC (b tot:Nat) (own:List Nat) (K:List ByteArray) (bs:List Nat) (k:ByteArray) (w:World) (h:Bld w b own K bs tot) (hs:k.size<=1000000) (hKl:K.length<=1000000) (ht:tot<=1000000000000):
  Calls Tryz.prog 76 #[.pointer (some ⟨b,0,none⟩),.string k] w fun e w'=>e=.returned (.int .u32 (idxK (addK K k) k:Int))/\∃own' tot',Bld w' b own' (addK K k) bs tot'/\Own2 w w' own own'/\tot'+szK K=tot+szK (addK K k):=by
 cases hh:hasK K k with
 |true=>
  have hk:=hasK_iff.1 hh;have e:addK K k=K:=by unfold addK;rw[hh];rfl
  rw[e];refine(addKeyOld b tot own K bs k w h hk (by unfold maxLen;omega)).mono ?_;rintro e w' ⟨rfl,rfl⟩;exact⟨rfl,own,tot,h,Own2.refl _ _,rfl⟩
 |false=>
  have hk:=hasK_false.1 hh;have e:addK K k=K++[k]:=by unfold addK;rw[hh];rfl
  rw[e,idxK_snoc hk];refine(addKeyNew b tot own K bs k w h hk hs hKl ht).mono ?_;rintro e w' ⟨rfl,own',h1,h2⟩;exact⟨rfl,own',_,h1,h2,by rw[szK_append];simp[szK];omega⟩
theorem offsetC (b tot:Nat) (own:List Nat) (K:List ByteArray) (bs:List Nat) (w:World) (h:Bld w b own K bs tot):
  Calls Tryz.prog 30 #[.pointer (some ⟨b,0,none⟩)] w fun e w'=>e=.returned (.int .i64 (bs.length:Int))/\Keep [] w w':=by
 obtain⟨wr,g,mB,kB,mv,dv,hB,-⟩:=h;have H:=qq hB;clear hB
 go_enter Tryz.func30,Tryz.ntmps30
 go_wp2_with fail
 refine(bufLenC b g _ bs _ H.out).mono ?_;rintro e w1 ⟨rfl,k1⟩;go_wp2;go_ret;exact⟨rfl,k1⟩
theorem nextElemC (b tot start:Nat) (own:List Nat) (K:List ByteArray) (bs:List Nat) (w:World) (h:Bld w b own K bs tot) (hs:start<=bs.length) (hm:bs.length<=1000000000000):
  Calls Tryz.prog 33 #[.pointer (some ⟨b,0,none⟩),.int .i64 (start:Int)] w fun e w'=>e=.returned (.int .i64 ((bs.length-start:Nat):Int))/\Keep [] w w':=by
 obtain⟨n,hn⟩:∃n,n=bs.length:=⟨_,rfl⟩;have H:=qq2 h hn;have e:(n:Int)-(start:Int)=((n-start:Nat):Int):=by omega
 rw[<-hn]at hs hm ⊢;clear h hn
 go_enter Tryz.func33,Tryz.ntmps33
 go_wp2_with fail
 refine(offsetC b tot own K bs _ H.out.1).mono ?_;rintro e w1 ⟨rfl,k1⟩;rw[<-H.out.2];go_wp2;go_ret;exact⟨rfl,k1⟩
theorem nextFieldC (b tot start:Nat) (own:List Nat) (K:List ByteArray) (bs:List Nat) (k:ByteArray) (w:World) (h:Bld w b own K bs tot) (hs:start<=bs.length) (hm:bs.length<=1000000000000) (hk:k.size<=1000000) (hKl:K.length<=1000000) (ht:tot<=1000000000000):
  Calls Tryz.prog 31 #[.pointer (some ⟨b,0,none⟩),.int .i64 (start:Int),.string k] w fun e w'=>e=.returned (.agg #[.string k,.int .u32 (idxK (addK K k) k:Int),.int .i64 ((bs.length-start:Nat):Int)])/\
   ∃own' tot',Bld w' b own' (addK K k) bs tot'/\Own2 w w' own own'/\tot'+szK K=tot+szK (addK K k):=by
 obtain⟨n,hn⟩:∃n,n=bs.length:=⟨_,rfl⟩;have H:=qq2 h hn;have e:(n:Int)-(start:Int)=((n-start:Nat):Int):=by omega
 rw[<-hn]at hs hm ⊢;clear h hn
 go_enter Tryz.func31,Tryz.ntmps31
 go_wp2_with fail
 obtain⟨w0,hw0⟩:∃w0,w0=w.alloc (.cells #[.string ⟨#[]⟩,.int .u32 0,.int .i64 0] 72):=⟨_,rfl⟩;have hr0:Blk w0 w.heap.size [.string ⟨#[]⟩,.int .u32 0,.int .i64 0]:=by rw[hw0];exact Blk.new w _ _
 have K0:Keep [] w w0:=by rw[hw0];exact(Keep.refl [] w).alloc _
 have hB0:=H.out.1.keep K0 (by simp);have hnm:=H.out.1.notMem (Nat.le_refl _);rw[<-hw0];clear hw0;refine(addKeyC b tot own K bs k w0 hB0 hk hKl ht).mono ?_;rintro e w1 ⟨rfl,own',tot',q1,q2,q3⟩;have hr1:=hr0.keep q2.1 hnm;have hnm':w.heap.size ∉ own':=fun hm=>(q2.2 _ hm).elim hnm (fun h=>by have:=hr0.lt;omega);have HQ:=qq6 q1 q2 q3 hr1 K0 hnm';clear q1 q2 q3 hr0 hr1 K0 hB0 hnm hnm';go_wp2_with fail
 refine(offsetC b tot' own' (addK K k) bs _ HQ.out.1).mono ?_;rintro e w2 ⟨rfl,k2⟩;rw[<-H.out.2];obtain⟨q1,q2,q3,hr1,K0,hnm'⟩:=HQ.out;have hr2:=hr1.keep k2 (by simp);have c0:w2.cell? ⟨w.heap.size,0,none⟩=some (.string ⟨#[]⟩):=hr2.cell rfl;have c1:w2.cell? ⟨w.heap.size,1,none⟩=some (.int .u32 0):=hr2.cell rfl;have c2:w2.cell? ⟨w.heap.size,2,none⟩=some (.int .i64 0):=hr2.cell rfl;have f0:=hr2.frozen 0;have f1:=hr2.frozen 1;have f2:=hr2.frozen 2;have HR:=qq2 hr2 k2;clear q1 q2 q3 hr1 hr2 k2 K0 hnm';go_wp2;obtain⟨q1,q2,q3,hr1,K0,hnm'⟩:=HQ.out;obtain⟨hr2,k2⟩:=HR.out;have hr3:=((hr2.set 0 (.string k)).set 1 (.int .u32 (idxK (addK K k) k:Int))).set 2 (.int .i64 ((n-start:Nat):Int));have K3:Keep [w.heap.size] w2 (((w2.setCell ⟨w.heap.size,0,none⟩ (.string k)).setCell ⟨w.heap.size,1,none⟩ (.int .u32 (idxK (addK K k) k:Int))).setCell ⟨w.heap.size,2,none⟩ (.int .i64 ((n-start:Nat):Int))):=
  (((Keep.refl [w.heap.size] w2).set (by simp) _ _ _).set (by simp) _ _ _).set (by simp) _ _ _
 generalize(((w2.setCell ⟨w.heap.size,0,none⟩ (.string k)).setCell ⟨w.heap.size,1,none⟩ (.int .u32 (idxK (addK K k) k:Int))).setCell ⟨w.heap.size,2,none⟩ (.int .i64 ((n-start:Nat):Int)))=w3 at hr3 K3 ⊢;have d0:w3.cell? ⟨w.heap.size,0,none⟩=some (.string k):=hr3.cell rfl;have d1:w3.cell? ⟨w.heap.size,1,none⟩=some (.int .u32 (idxK (addK K k) k:Int)):=hr3.cell rfl;have d2:w3.cell? ⟨w.heap.size,2,none⟩=some (.int .i64 ((n-start:Nat):Int)):=hr3.cell rfl;refine bodyPost_ret (v:=.agg #[.string k,.int .u32 (idxK (addK K k) k:Int),.int .i64 ((n-start:Nat):Int)]) ?_ rfl ⟨rfl,own',tot',(q1.keep k2 (by simp)).keep K3 (fun x hx=>by simp;intro e;exact hnm' (e▸hx)),⟨?_,fun x hx=>(q2.2 x hx).imp_right (fun h=>Nat.le_trans K0.size h)⟩,q3⟩
 ·rw[results_cell1 rfl];go_simp
 ·exact((K0.nil.trans q2.1 (fun x hx=>.inl hx)).trans k2.nil (fun x hx=>.inl hx)).trans K3 (by simp)

def tabB (w:Nat) (l:List Nat):List Nat:=l.flatMap (leBytes w)
theorem tabB_append (w:Nat) (l m:List Nat):tabB w (l++m)=tabB w l++tabB w m:=by simp[tabB]
@[simp] theorem length_tabB (w:Nat):∀l:List Nat,(tabB w l).length=l.length*w
 |[]=>by simp[tabB]
 |x::l=>by
  have:=length_tabB w l;unfold tabB at this ⊢;rw[List.flatMap_cons,List.length_append,this,length_leBytes,List.length_cons,Nat.succ_mul,Nat.add_comm]
theorem tabB_take_succ (w:Nat) (l:List Nat) (i:Nat) (x:Nat) (h:l[i]?=some x):tabB w (l.take (i+1))=tabB w (l.take i)++leBytes w x:=by
 have hi:=(List.getElem?_eq_some_iff.1 h).1;rw[List.take_succ_eq_append_getElem hi,tabB_append];have:l[i]=x:=by rw[List.getElem?_eq_getElem hi]at h;exact Option.some.inj h
 rw[this];simp[tabB]
theorem splice_mid (A W X R V:List Nat) (h:V.length<=X.length):splice (A++(W++(X++R))) (A.length+W.length) V=A++((W++V)++(X.drop V.length++R)):=by
 have e:A++(W++(X++R))=(A++W)++(X++R):=by rw[List.append_assoc]
 have hl:(A++W).length=A.length+W.length:=by simp
 unfold splice;rw[e,List.take_left' hl,<-List.drop_drop,List.drop_left' hl,List.drop_append_of_le_length h];simp[List.append_assoc]

theorem writeHdrC (r o n cap v k:Nat) (A W X R:List Nat) (w:World) (hb:Blk w r (rowV .u8 (A++(W++(X++R))))) (ho:o=A.length+W.length) (hk:k<=X.length) (hk1:1<=k) (hk4:k<=4) (hkn:k<=n) (hv:v<2147483648):
  Calls Tryz.prog 57 #[.slice (some ⟨r,o,none⟩) n cap,.int .i64 (v:Int),.int .u8 (k:Int)] w fun e w'=>e=.returned (.tuple #[])/\Keep [r] w w'/\Blk w' r (rowV .u8 (A++((W++leBytes k v)++(X.drop k++R)))):=by
 refine(writeOffsetC r o n cap v k _ w hb hk1 hk4 hkn (by simp;omega) hv).mono ?_;rintro e w' ⟨rfl,k1,h1⟩;refine⟨rfl,k1,?_⟩;rw[<-rowV_splice,ho,splice_mid _ _ _ _ _ (by rw[length_leBytes];exact hk),length_leBytes]at h1;exact h1
theorem sizeW_pos (n:Nat):1<=sizeW n:=by unfold sizeW;split<;>(try split)<;>(try split)<;>omega
theorem sizeW_le (n:Nat):sizeW n<=4:=by unfold sizeW;split<;>(try split)<;>(try split)<;>omega
theorem sizeW_fits (n:Nat) (h:n<4294967296):n<256^sizeW n:=by
 unfold sizeW;split
 ·omega
 ·split
  ·omega
  ·split<;>omega

theorem Bld.open {w:World} {b tot:Nat} {own:List Nat} {K:List ByteArray} {bs:List Nat} (h:Bld w b own K bs tot):∃g rest,BufAt w b g rest bs/\(∀x ∈ g,x ∈ own)/\b ∈ own/\
  ∀(w':World) (r:Nat) (bs' L:List Nat),BufRoom w' b r rest bs' L->Keep (b::g) w w'->(r ∈ g\/w.heap.size<=r)->∃own',Bld w' b own' K bs' tot/\Own2 w w' own own':=by
 obtain⟨wr,g,mB,kB,mv,dv,h1,hD,h5,h6,h7,hw,hlt⟩:=h;refine⟨g,_,h1,fun x hx=>hw x (by rw[h5];simp[hx]),hw b (by rw[h5];simp),fun w' r bs' L hB kk hr=>?_⟩;have hbr:=hB.lt;have hdis:∀x,x ∈ mB\/x ∈ kB->x ∉ b::g:=fun x hx hm=>by
  rw[h5]at h6;simp only[List.nodup_cons,List.nodup_append,List.mem_append,not_or]at h6;rw[List.mem_cons]at hm;rcases hm with rfl|hm
  ·exact hx.elim h6.1.2.1 h6.1.2.2
  ·exact h6.2.2.2 x hm x hx rfl
 have hwr:∀x ∈ b::([r]++(mB++kB)),x ∈ wr\/w.heap.size<=x:=fun x hx=>by
  rw[h5];simp only[List.mem_cons,List.mem_append,List.mem_singleton,List.not_mem_nil,or_false]at hx ⊢;rcases hx with hx|hx|hx|hx
  ·exact .inl (.inl hx)
  ·subst hx;exact hr.imp (fun h=>.inr (.inl h)) id
  ·exact .inl (.inr (.inr (.inl hx)))
  ·exact .inl (.inr (.inr (.inr hx)))
 have hoo:∀x ∈ own,x ∈ r::own:=fun x hx=>List.mem_cons_of_mem _ hx;refine⟨r::own,⟨b::([r]++(mB++kB)),[r],mB,kB,mv,dv,hB.at,?_,rfl,?_,h7,?_,?_⟩,⟨kk.weaken (fun x hx=>.inl ?_),?_⟩⟩
 ·rcases hD with⟨rfl,rfl,rfl,rfl,rfl⟩|⟨m,D,vs,rfl,rfl,hm,hI,hO,hl,hk0,hkr⟩
  ·exact .inl ⟨rfl,rfl,rfl,rfl,rfl⟩
  ·refine .inr ⟨m,D,vs,rfl,rfl,ownsMap_keep hm kk (hdis m (.inl (by simp))),hI,hO.keep kk (fun x hx=>hdis x (.inr hx)),hl,hk0,fun i k' hk'=>?_⟩;obtain⟨v,hv,hrr⟩:=hkr i k' hk';exact⟨v,hv,hrr.keep kk (fun x hx=>.inl (by
    rw[h5];rw[List.mem_cons]at hx;rcases hx with rfl|hx
    ·simp
    ·simp[hx])) hwr hoo⟩
 ·have hbr':b≠r:=by obtain⟨lr,_,_,_,_,_,h⟩:=hB;exact h
  rw[h5]at h6;simp only[List.nodup_cons,List.nodup_append,List.mem_append,List.mem_singleton,List.not_mem_nil,not_or,not_false_eq_true,List.nodup_nil,true_and]at h6 ⊢;obtain⟨⟨a1,a2,a3⟩,a4,⟨a5,a6,a7⟩,a8⟩:=h6;refine⟨⟨hbr',a2,a3⟩,⟨a5,a6,a7⟩,?_⟩;intro c hc x hx e;subst hc e;rcases hr with hr|hr
  ·exact a8 _ hr _ hx rfl
  ·have:c ∈ own:=hw c (by rw[h5];rcases hx with hx|hx<;>simp[hx])
   have:=hlt c this;omega
 ·intro x hx;rw[List.mem_cons];rw[List.mem_cons,List.mem_append,List.mem_append,List.mem_singleton]at hx;rcases hx with hx|hx|hx|hx
  ·exact .inr (hw x (by rw[h5];simp[hx]))
  ·exact .inl hx
  ·exact .inr (hw x (by rw[h5];simp[hx]))
  ·exact .inr (hw x (by rw[h5];simp[hx]))
 ·intro x hx;rw[List.mem_cons]at hx;rcases hx with rfl|hx
  ·exact hbr.2
  ·exact Nat.lt_of_lt_of_le (hlt x hx) kk.size
 ·rw[List.mem_cons]at hx;rcases hx with rfl|hx
  ·exact hw x (by rw[h5];simp)
  ·exact hw x (by rw[h5];simp[hx])
 ·intro x hx;rw[List.mem_cons]at hx;rcases hx with rfl|hx
  ·rcases hr with hr|hr
   ·exact .inl (hw x (by rw[h5];simp[hr]))
   ·exact .inr hr
  ·exact .inl hx

def arrHdr (offs:List Nat) (tot:Nat):List Nat:=
 (3+4*(sizeW tot-1)+if 255<offs.length then 16 else 0)::(leBytes (if 255<offs.length then 4 else 1) offs.length++tabB (sizeW tot) (offs++[tot]))
theorem length_arrHdr (offs:List Nat) (tot:Nat):(arrHdr offs tot).length=1+(if 255<offs.length then 4 else 1)+(offs.length+1)*sizeW tot:=by
 unfold arrHdr;simp;omega
theorem shiftL {L1 bs src:List Nat} {start ds hs n n2 s2:Nat} (hL:L1.take n2=bs++src) (hn:n=bs.length) (hst:start+ds=n) (hs2:s2=start+hs) (hn2:n2=n+hs) (hle:n2<=L1.length):
  splice L1 s2 ((L1.drop start).take (n-start))=bs.take start++([]++((L1.drop start).take hs++(bs.drop start++L1.drop n2))):=by
 have e1:L1.take n=bs:=by
  have:=congrArg (List.take n) hL;rw[List.take_take,Nat.min_eq_left (by omega),List.take_left' hn.symm]at this;exact this
 have e2:L1.take start=bs.take start:=by
  have:=congrArg (List.take start) e1;rw[List.take_take,Nat.min_eq_left (by omega)]at this;exact this
 have e3:(L1.drop start).take (n-start)=bs.drop start:=by rw[<-List.drop_take,e1]
 have hl:((L1.drop start).take (n-start)).length=ds:=by simp;omega
 unfold splice;rw[hl,e3,hs2,List.take_add,e2,show start+hs+ds=n2 by omega];simp[List.append_assoc]

def Shifted (w w6:World) (b r c n2:Nat) (rest:List Value) (A X R:List Nat):Prop:=
 Blk w6 r (rowV .u8 (A++([]++(X++R))))/\(∃lr,Blk w6 b (.slice (some ⟨r,0,none⟩) n2 c::.int .i64 0::.int .i8 lr::rest))/\Keep [b,r] w w6
theorem set_mid (A X R:List Nat) (h:Nat) (hx:1<=X.length):(A++([]++(X++R))).set A.length h=A++([h]++(X.drop 1++R)):=by
 have:=splice_mid A [] X R [h] (by simpa using hx);rw[List.length_nil,Nat.add_zero,splice_one _ _ _ (by simp;omega)]at this;rw[this];simp
def cfI (x:Nat):List Value:=[.int .i64 (x:Int)]

theorem hdr_full (A W X R V:List Nat) (p o:Nat) (h:X.length=p+o):A++((W++V)++((X.drop p).drop o++R))=A++((W++V)++R):=by
 rw[List.drop_drop,<-h,List.drop_length];rfl
theorem arrHdr_eq {offs:List Nat} {hv k sz o ds:Nat} (hsz:sz=offs.length) (hk:k=if 255<sz then 4 else 1) (ho:o=sizeW ds) (hhv:hv=3+4*(o-1)+(if decide ((255:Int)<(sz:Int))=true then 16 else 0)):
  [hv]++leBytes k sz++tabB o (offs.take sz)++leBytes o ds=arrHdr offs ds:=by
 subst hk ho hhv;subst hsz;unfold arrHdr;rw[List.take_length,tabB_append];by_cases h:255<offs.length
 ·have hi:(255:Int)<(offs.length:Int):=by omega
  simp[h,hi,tabB]
 ·have hi:¬(255:Int)<(offs.length:Int):=by omega
  simp[h,hi,tabB]
theorem finishArrC (b n start ds sz hs k:Nat) (oo:Option Addr) (oc:Nat) (offs:List Nat) (g:List Nat) (rest:List Value) (bs:List Nat) (w:World) (h:BufAt w b g rest bs) (hn:n=bs.length) (hsz:sz=offs.length) (hst:start+ds=n) (hlim:n<=100000000) (hsl:sz<=1000000)
  (hk:k=if 255<sz then 4 else 1) (hhs:hs=1+k+(sz+1)*sizeW ds) (hof:∀x ∈ offs,x<2147483648) (hG:∀(i x:Nat),offs[i]?=some x->∃a,oo=some a/\a.block≠b/\a.block ∉ g/\w.cell? (a.add i)=some (.int .i64 (x:Int))):
  Calls Tryz.prog 34 #[.pointer (some ⟨b,0,none⟩),.int .i64 (start:Int),.slice oo sz oc] w fun e w'=>e=.returned .nilIface/\Put w w' b g rest (bs.take start++(arrHdr offs ds++bs.drop start)):=by
 have HB:=qq2 hG h;have Hn:=qq5 hn hsz hof hhs hk;have hk1:1<=k:=by rw[hk];split<;>omega
 have hk4:k<=4:=by rw[hk];split<;>omega
 obtain⟨o,ho⟩:∃o,o=sizeW ds:=⟨_,rfl⟩;have Ho:=qq ho;have ho1:1<=o:=by rw[ho];exact sizeW_pos _
 have ho4:o<=4:=by rw[ho];exact sizeW_le _
 rw[<-ho]at hhs;have hmul:(sz+1)*o<=(sz+1)*4:=Nat.mul_le_mul_left _ ho4;have hmul1:(sz+1)*1<=(sz+1)*o:=Nat.mul_le_mul_left _ ho1;have hds:(n:Int)-(start:Int)=(ds:Int):=by omega
 have hds0:¬(ds:Int)<0:=by omega
 have hhsi:1+(k:Int)+((sz:Int)+1)*(o:Int)=(hs:Int):=by rw[hhs];simp
 have hhsl:hs<=1+4+(sz+1)*4:=by omega
 have hhs3:3<=hs:=by omega
 have hkhs:1+k+o<=hs:=by rw[hhs,Nat.succ_mul];omega
 obtain⟨hv,hhv⟩:∃hv,hv=3+4*(o-1)+(if decide ((255:Int)<(sz:Int))=true then 16 else 0):=⟨_,rfl⟩;have Hv:=qq hhv;clear hn h hG hof hsz ho hhs hk hhv
 go_enter Tryz.func34,Tryz.ntmps34
 go_wp2_with fail
 refine(bufLenC b g rest bs _ HB.out.2).mono ?_;rintro e w1 ⟨rfl,k1⟩;have hB1:=HB.out.2.keep k1 (by simp) (by simp);rw[<-Hn.out.1];have HK1:=qq2 k1 hB1;clear k1 hB1
 go_upto_if 30 with(fail)
 go_cut [10]from 30 to 30 (fun s10 wx=>s10=.int .i64 (k:Int)/\wx=w1)
 case first=>
  by_cases hb:(255:Int)<(sz:Int)
  ·have hk:k=4:=by rw[Hn.out.2.2.2.2,if_pos (by omega)]
   subst hk;go_wp2_with fail
   go_meet
   exact⟨rfl,rfl⟩
  ·have hk:k=1:=by rw[Hn.out.2.2.2.2,if_neg (by omega)]
   subst hk;go_wp2_with fail
   go_meet
   exact⟨rfl,rfl⟩
 obtain⟨rfl,rfl⟩:=hcut;go_wp2_with fail
 refine(intSizeC ds _ (by omega)).mono ?_;rintro e w1' ⟨rfl,rfl⟩;rw[<-Ho.out];go_wp2_with fail
 refine(bufGrowC b hs g rest bs _ HK1.out.2 (by omega) (by rw[<-Hn.out.1];omega)).mono ?_;rintro e w2 ⟨rfl,hG⟩;obtain⟨r,L,q1,q2,q3,q4⟩:=BufRoom.of_grown hG;rw[<-Hn.out.1]at q2;have HG:=qq3 q1 q3 (HK1.out.1.nil.trans q4 (fun x hx=>.inl hx));clear q1 q3 q4 hG;go_wp2_with fail
 refine(availC b r rest bs L _ HG.out.1 (by rw[<-Hn.out.1];omega)).mono ?_;rintro e w3 ⟨rfl,k3⟩;rw[<-Hn.out.1];have HA:=qq2 (HG.out.1.keep k3 (by simp) (by simp)) (HG.out.2.2.trans k3.nil (fun x hx=>.inl hx));clear k3;have hne0:¬L.length-n=0:=by omega
 have hhc:hs<=L.length-n:=by omega
 go_wp2_with fail
 refine wp_region_mid 6 (by kernel_rfl) (by kernel_rfl) ?_;simp only[List.take_succ_cons,List.take_zero,List.drop_succ_cons,List.drop_zero];change wpStill _ _ (World.drew _) _ _ _;repeat still_step
 refine wpStill_nil ?_;go_wp2_with fail
 refine(writeRoom b r hs (L.length-n) ⟨r,n,none⟩ ((L.drop n).take hs) rest bs L w3.drew HA.out.1.drew (by simp;omega) (by omega) (by rw[<-Hn.out.1];omega) (by have:=HA.out.1;obtain⟨lr,_,_,_,_,_,h⟩:=this;exact Ne.symm h) (fun j x hj=>?_)).mono ?_
 ·rw[add_at];obtain⟨lr,_,h2,_⟩:=HA.out.1;refine h2.drew.cell (rowV_get ?_);rw[List.getElem?_take]at hj;split at hj
  ·rw[List.getElem?_drop]at hj;exact hj
  ·cases hj
 rintro e w4 ⟨rfl,L1,e1,q1,k1⟩;have HW:=qq2 q1 (HA.out.2.drew.cat (T:=[b,r]) k1 (by simp) (by simp));obtain⟨c,hc⟩:∃c,c=L1.length:=⟨_,rfl⟩;have hL1:n+hs<=c:=by omega
 have Hc:=qq2 hc e1;clear q1 k1 e1 hc;go_wp2_with fail
 repeat still_step
 refine wpStill_nil ?_;go_wp2_with fail
 refine(bytesC b r rest (bs++(L.drop n).take hs) L1 _ HW.out.1).mono ?_;rintro e w5 ⟨rfl,k5⟩;have hlen:(bs++(L.drop n).take hs).length=n+hs:=by rw[List.length_append,<-Hn.out.1];simp;omega
 rw[hlen,<-Hc.out.1];have HY:=qq3 (HW.out.1.keep k5 (by simp) (by simp)) (HW.out.2.trans k5.nil (fun x hx=>.inl hx)) hlen;clear k5 hlen;obtain⟨s2,hs2⟩:∃s2,s2=start+hs:=⟨_,rfl⟩;obtain⟨n2,hn2⟩:∃n2,n2=n+hs:=⟨_,rfl⟩;have hw1:IntKind.i64.wrap ((start:Int)+(hs:Int))=(s2:Int):=by rw[IntKind.wrap_i64];omega
 have hw2:IntKind.i64.wrap ((start:Int)+(ds:Int))=(n:Int):=by rw[IntKind.wrap_i64];omega
 have hsn2:s2<=n2:=by omega
 have hnn2:n<=n2:=by omega
 have hstn:start<=n:=by omega
 have hn2c:n2<=c:=by omega
 have hnc:n<=c:=by omega
 rw[<-hn2];have Hs2:=qq2 hs2 hn2;obtain⟨X,hX⟩:∃X,X=(L1.drop start).take hs:=⟨_,rfl⟩;obtain⟨R,hR⟩:∃R,R=bs.drop start++L1.drop n2:=⟨_,rfl⟩;obtain⟨A,hA⟩:∃A,A=bs.take start:=⟨_,rfl⟩;have HX:=qq3 hX hR hA;clear hX hR hA hs2 hn2
 go_upto_region 16 with(fail)
 go_cut []from 70 to 82 (fun wx=>∃w6,w6=wx/\Shifted w w6 b r c n2 rest A X R)
 case first=>
  obtain⟨lr5,hb5,hr5,ht5,hle5,hm5,hbr⟩:=HY.out.1;obtain⟨hs2,hn2⟩:=Hs2.out;have hL1e:L1.take n2=bs++(L.drop n).take hs:=by rw[HY.out.2.2]at ht5;rw[hn2];exact ht5
  have hsh:=shiftL hL1e Hn.out.1 hst hs2 hn2 (by rw[<-Hc.out.1];exact hn2c);rw[<-HX.out.1,<-HX.out.2.1,<-HX.out.2.2]at hsh;by_cases hz:c=s2
  ·have hds0':n-start=0:=by omega
   have hcp:=fun ty d dl dc sc=>run_copy_none (P:=Tryz.prog) w5.drew 30 30 ty 5 d (some ⟨r,start,none⟩) dl dc (n-start) sc Tryz.underlying30 size_u8t (by rw[hds0'];simp);have HZ:Hid (∃w6,w6=w5.drew/\Shifted w w6 b r c n2 rest A X R):=Lib.hid ⟨_,rfl,by
    rw[hds0',List.take_zero]at hsh;have e:splice L1 s2 []=L1:=by simp[splice]
    rw[e]at hsh;rw[<-hsh];exact hr5.drew,⟨lr5,by rw[HY.out.2.2,<-Hc.out.1,<-hn2]at hb5;exact hb5.drew⟩,HY.out.2.1.drew⟩
   clear hs2 hn2 hr5 hb5 ht5 hle5 hm5 hL1e hbr hsh hds0';subst hz;go_wp2_with fail
   refine wp_region_mid 11 (by kernel_rfl) (by kernel_rfl) ?_;simp only[List.take_succ_cons,List.take_zero,List.drop_succ_cons,List.drop_zero];change wpStill _ _ (World.drew _) _ _ _;repeat still_step
   refine wpStill_nil ?_;go_wp2_with fail
   repeat still_step
   refine wpStill_nil ?_;go_wp2_with fail
   go_meet
   exact HZ.out
  ·have hcp:=fun ty=>run_copy_blk (P:=Tryz.prog) (w:=w5.drew) hr5.drew hr5.drew 30 30 ty 5 s2 start (n2-s2) (c-s2) (n-start) (c-start) Tryz.underlying30 size_u8t (n-start) (by show n-start=min _ _;omega) (by rw[length_rowV,<-Hc.out.1];omega) (by rw[length_rowV,<-Hc.out.1];omega) (one_rowV _ _);rw[<-rowV_drop,<-rowV_take]at hcp;have hr6:Blk (w5.drew.setCells r s2 (rowV .u8 ((L1.drop start).take (n-start)))) r (rowV .u8 (splice L1 s2 ((L1.drop start).take (n-start)))):=by
    rw[rowV_splice];exact hr5.drew.setCells (by simp;rw[<-Hc.out.1];omega)
   rw[hsh]at hr6;have hb6:=hb5.drew.setCells_other (c:=r) (vs:=rowV .u8 ((L1.drop start).take (n-start))) (o:=s2) hbr;rw[HY.out.2.2,<-Hc.out.1,<-hn2]at hb6;have HZ:Hid (∃w6,w6=(w5.drew.setCells r s2 (rowV .u8 ((L1.drop start).take (n-start))))/\Shifted w w6 b r c n2 rest A X R):=Lib.hid ⟨_,rfl,hr6,⟨lr5,hb6⟩,Keep.setCells (by simp) HY.out.2.1.drew⟩;clear hs2 hn2 hr5 hb5 ht5 hle5 hm5 hL1e hbr hsh hr6 hb6;go_wp2_with fail
   refine wp_region_mid 11 (by kernel_rfl) (by kernel_rfl) ?_;simp only[List.take_succ_cons,List.take_zero,List.drop_succ_cons,List.drop_zero];change wpStill _ _ (World.drew _) _ _ _;repeat still_step
   refine wpStill_nil ?_;go_wp2_with fail
   repeat still_step
   refine wpStill_nil ?_;go_wp2_with fail
   go_meet
   exact HZ.out
 case rest=>
  obtain⟨w6,rfl,hr6,⟨lr6,hb6⟩,K6⟩:=hcut;have hAl:A.length=start:=by rw[HX.out.2.2,List.length_take,<-Hn.out.1];omega
  have hXl:X.length=hs:=by rw[HX.out.1,List.length_take,List.length_drop,<-Hc.out.1];have:=Hs2.out;omega
  have hbr:b≠r:=by obtain⟨lr5,_,_,_,_,_,h⟩:=HY.out.1;exact h
  obtain⟨u6,cs6⟩:∃u,w6.cell? ⟨r,start,none⟩=some u:=⟨_,hr6.cell (List.getElem?_eq_getElem (by rw[length_rowV];simp;omega))⟩;have fs6:=hr6.frozen start;have hr7:=hr6.set start (.int .u8 (hv:Int));rw[<-rowV_set]at hr7;have hsm:=set_mid A X R hv (by omega);rw[hAl]at hsm;rw[hsm]at hr7;have hb7:=hb6.set_other (c:=r) hbr start none (.int .u8 (hv:Int));have K7:Keep [b,r] w (w6.setCell ⟨r,start,none⟩ (.int .u8 (hv:Int))):=K6.set (by simp) _ _ _;have HZ:=qq6 hr7 hb7 K7 hAl hXl hbr;clear hr6 hb6 K6 hAl hXl hbr hr7 hb7 K7 hsm;go_wp2_with fail
  refine(arrayHeaderC (decide ((255:Int)<(sz:Int))) o _ ho1 ho4).mono ?_;rintro e w6' ⟨rfl,rfl⟩;rw[<-Hv.out];have hstn2:start<n2:=by have:=Hs2.out;omega
  have hstc:start<c:=by have:=Hs2.out;omega
  have hs1n:start+1<=n2:=by omega
  have hne1:¬c=start+1:=by have:=Hs2.out;omega
  go_wp2_with fail
  refine(writeHdrC r (start+1) _ _ sz k A [hv] (X.drop 1) R _ HZ.out.1 (by have:=HZ.out.2.2.2.1;simp;omega) (by have:=HZ.out.2.2.2.2.1;simp;omega) hk1 hk4 (by have:=Hs2.out;omega) (by omega)).mono ?_;rintro e w8 ⟨rfl,k8,hr8⟩;have hbr8:b ∉ [r]:=by simp;exact HZ.out.2.2.2.2.2
  have HQ:=qq3 hr8 (HZ.out.2.1.keep k8 hbr8) (HZ.out.2.2.1.trans k8 (by simp));clear k8 hr8;obtain⟨s3,hs3⟩:∃s3,s3=start+1+k:=⟨_,rfl⟩;have hs3i:(start:Int)+1+(k:Int)=(s3:Int):=by rw[hs3];simp
  have hs3n:s3+(sz+1)*o=start+hs:=by rw[Hn.out.2.2.2.1,<-Ho.out,hs3];omega
  have Hs3:=qq hs3;have hsn2:start+hs<=n2:=by have:=Hs2.out.2;omega
  clear hs3;go_wp2_with fail
  go_loopw [102] (fun iv wr=>∃i:Nat,i<=sz/\iv=.int .i64 (i:Int)/\Hid (Blk wr r (rowV .u8 (A++(([hv]++leBytes k sz++tabB o (offs.take i))++(X.drop (k+1+i*o)++R)))))/\Hid (Blk wr b (.slice (some ⟨r,0,none⟩) n2 c::.int .i64 0::.int .i8 lr6::rest))/\Hid (Keep [b,r] w wr)) (fun i _=>sz-(intOf i).toNat)
  case atStart=>exact⟨0,Nat.zero_le _,rfl,qq (by simpa[tabB,List.drop_drop]using HQ.out.1),qq HQ.out.2.1,qq HQ.out.2.2⟩
  case round=>
   obtain⟨i,hi,rfl,h1,h2,h3⟩:=hrel;obtain⟨m,hm⟩:∃m,m=i*o:=⟨_,rfl⟩;have hmi:(i:Int)*(o:Int)=(m:Int):=by rw[hm];simp
   have hml:s3+m+o<=start+hs:=by have:=Nat.mul_le_mul_right o (show i+1<=sz+1 by omega);rw[Nat.succ_mul]at this;omega
   have hml2:s3+m<=n2:=by omega
   have hml3:s3+m<=c:=by omega
   have hml5:s3+m<=200000000:=by omega
   have hml4:¬c=s3+m:=by omega
   have Hm:=qq2 hm hml;clear hm hml;by_cases hilt:i<sz
   ·have hilti:(i:Int)<(sz:Int):=by omega
    obtain⟨x,hx⟩:∃x,offs[i]?=some x:=⟨_,List.getElem?_eq_getElem (by have:=Hn.out.2.1;omega)⟩;obtain⟨a,rfl,ha1,ha2,hac⟩:=HB.out.1 i x hx;have hxr:x<2147483648:=Hn.out.2.2.1 x (List.mem_of_getElem? hx);have halt:a.block<w.heap.size:=by have:=World.block_lt_of_cell? _ _ hac;rwa[add_block]at this
    have har:a.block≠r:=by
     intro e;rcases HG.out.2.1 with h|h
     ·exact ha2 (e▸h)
     ·have:=HK1.out.1.size;omega
    have hac2:=h3.out.cell_some hac (by rw[add_block];simp;exact⟨ha1,har⟩);go_wp2_with fail
    refine(writeHdrC r (s3+m) _ _ x o A _ (X.drop (k+1+i*o)) R _ h1.out (by have e1:=HZ.out.2.2.2.1;have e2:=Hs3.out;have e3:=Hm.out.1;have e4:=Hn.out.2.1;simp;rw[Nat.min_eq_left (by omega)];omega) (by have e1:=HZ.out.2.2.2.2.1;have e2:=Hs3.out;have e3:=Hm.out;simp;omega) ho1 ho4 (by have:=Hm.out.2;omega) hxr).mono ?_;rintro e w9 ⟨rfl,k9,hr9⟩;have HR9:=qq2 hr9 k9;clear k9 hr9;go_wp2_with fail
    go_roundw
    case rel=>
     obtain⟨hr9,k9⟩:=HR9.out;refine⟨i+1,hilt,rfl,Lib.hid ?_,qq (h2.out.keep k9 hbr8),qq (h3.out.trans k9 (by simp))⟩;rw[tabB_take_succ _ _ _ _ hx,List.drop_drop,<-List.append_assoc ([hv]++leBytes k sz),Nat.succ_mul]at*;have e:k+1+i*o+o=k+1+(i*o+o):=by omega
     rw[e]at hr9;exact hr9
    case measure=>simp[intOf];omega
   ·have hilti:¬(i:Int)<(sz:Int):=by omega
    have hie:i=sz:=by omega
    subst hie;go_wp2_with fail
    refine(writeHdrC r (s3+m) _ _ ds o A _ (X.drop (k+1+i*o)) R _ h1.out (by have e1:=HZ.out.2.2.2.1;have e2:=Hs3.out;have e3:=Hm.out.1;have e4:=Hn.out.2.1;simp;rw[Nat.min_eq_left (by omega)];omega) (by have e1:=HZ.out.2.2.2.2.1;have e2:=Hs3.out;have e3:=Hm.out;simp;omega) ho1 ho4 (by have:=Hm.out.2;omega) (by omega)).mono ?_;rintro e w9 ⟨rfl,k9,hr9⟩;have HR9:=qq2 hr9 k9;clear k9 hr9;go_wp2;go_ret;obtain⟨hr9,k9⟩:=HR9.out;obtain⟨hn,hsz,hof,hhs,hk⟩:=Hn.out;have hW:A++(([hv]++leBytes k i++tabB o (offs.take i)++leBytes o ds)++((X.drop (k+1+i*o)).drop o++R))=(bs.take start++(arrHdr offs ds++bs.drop start))++L1.drop n2:=by
     rw[hdr_full _ _ _ _ _ _ _ (by rw[HZ.out.2.2.2.2.1,hhs,<-Ho.out,Nat.succ_mul];omega),arrHdr_eq hsz hk Ho.out Hv.out,HX.out.2.1,HX.out.2.2];simp[List.append_assoc]
    rw[hW]at hr9;refine⟨rfl,Put.mk2 ?_ (L:=(bs.take start++(arrHdr offs ds++bs.drop start))++L1.drop n2) ?_ (h3.out.trans k9 (by simp))⟩
    ·exact HG.out.2.1.imp id (fun h=>Nat.le_trans HK1.out.1.size h)
    ·obtain⟨hs2,hn2⟩:=Hs2.out;obtain⟨hc,_⟩:=Hc.out;have hl:(bs.take start++(arrHdr offs ds++bs.drop start)).length=n2:=by
      simp[length_arrHdr];rw[<-hsz,<-hk,<-hn,<-Ho.out];omega
     refine⟨lr6,?_,hr9,by rw[List.take_left],by simp,?_,HZ.out.2.2.2.2.2⟩
     ·have:=h2.out.keep k9 hbr8;rw[hl];have hl2:((bs.take start++(arrHdr offs ds++bs.drop start))++L1.drop n2).length=c:=by
       rw[List.length_append,hl,List.length_drop];omega
      rw[hl2];exact this
     ·obtain⟨_,_,_,_,_,hm,_⟩:=HY.out.1;rw[List.length_append,hl,List.length_drop];omega
open Go.Shelf
def SortFE_ren:Go.Shelf.Ren:=⟨fun|6=>77|15=>134|14=>133|28=>165|29=>166|20=>157|21=>158|22=>159|23=>160|24=>161|25=>162|26=>163|27=>164|46=>170|47=>171|48=>172|49=>173|50=>174|57=>182|n=>n,fun|22=>69|24=>72|25=>151|3=>3|39=>107|0=>0|53=>70|55=>22|4=>4|46=>254|45=>253|50=>219|5=>5|9=>9|66=>271|70=>39|76=>280|77=>281|n=>n,fun|n=>n⟩
theorem SortFE:Go.Proofs.SlLaysF0.n6 Tryz.prog SortFE_ren:={
 mixed:=by kernel_rfl
 f6:=⟨Tryz.f77.name,by kernel_rfl,Tryz.func77.trans (congrArg some (by kernel_rfl))⟩
 f14:=⟨Tryz.f133.name,by kernel_rfl,Tryz.func133.trans (congrArg some (by kernel_rfl))⟩
 f15:=Tryz.func134.trans (congrArg some (by kernel_rfl))
 f20:=⟨Tryz.f157.name,by kernel_rfl,Tryz.func157.trans (congrArg some (by kernel_rfl))⟩
 f21:=⟨Tryz.f158.name,by kernel_rfl,Tryz.func158.trans (congrArg some (by kernel_rfl))⟩
 f22:=⟨Tryz.f159.name,by kernel_rfl,Tryz.func159.trans (congrArg some (by kernel_rfl))⟩
 f23:=⟨Tryz.f160.name,by kernel_rfl,Tryz.func160.trans (congrArg some (by kernel_rfl))⟩
 f24:=⟨Tryz.f161.name,by kernel_rfl,Tryz.func161.trans (congrArg some (by kernel_rfl))⟩
 f25:=⟨Tryz.f162.name,by kernel_rfl,Tryz.func162.trans (congrArg some (by kernel_rfl))⟩
 f26:=⟨Tryz.f163.name,by kernel_rfl,Tryz.func163.trans (congrArg some (by kernel_rfl))⟩
 f27:=⟨Tryz.f164.name,by kernel_rfl,Tryz.func164.trans (congrArg some (by kernel_rfl))⟩
 f28:=Tryz.func165.trans (congrArg some (by kernel_rfl))
 f29:=Tryz.func166.trans (congrArg some (by kernel_rfl))
 f46:=⟨Tryz.f170.name,by kernel_rfl,Tryz.func170.trans (congrArg some (by kernel_rfl))⟩
 f47:=Tryz.func171.trans (congrArg some (by kernel_rfl))
 f48:=Tryz.func172.trans (congrArg some (by kernel_rfl))
 f49:=⟨Tryz.f173.name,by kernel_rfl,Tryz.func173.trans (congrArg some (by kernel_rfl))⟩
 f50:=⟨Tryz.f174.name,by kernel_rfl,Tryz.func174.trans (congrArg some (by kernel_rfl))⟩
 f57:=⟨Tryz.f182.name,by kernel_rfl,Tryz.func182.trans (congrArg some (by kernel_rfl))⟩
 t0:=Tryz.underlying0
 a0:=Tryz.isAgg0
 z0:=Tryz.sizeOf0
 v0:=Tryz.zeroValue0
 t3:=Tryz.underlying3
 a3:=Tryz.isAgg3
 z3:=Tryz.sizeOf3
 v3:=Tryz.zeroValue3
 t4:=Tryz.underlying4
 a4:=Tryz.isAgg4
 z4:=Tryz.sizeOf4
 v4:=Tryz.zeroValue4
 t5:=Tryz.underlying5
 a5:=Tryz.isAgg5
 z5:=Tryz.sizeOf5
 v5:=Tryz.zeroValue5
 t9:=Tryz.underlying9
 a9:=Tryz.isAgg9
 z9:=Tryz.sizeOf9
 v9:=Tryz.zeroValue9
 t22:=Tryz.underlying69
 a22:=Tryz.isAgg69
 z22:=Tryz.sizeOf69
 v22:=Tryz.zeroValue69
 t25:=Tryz.underlying151
 a25:=Tryz.isAgg151
 z25:=Tryz.sizeOf151
 v25:=Tryz.zeroValue151
 t39:=Tryz.underlying107
 a39:=Tryz.isAgg107
 z39:=Tryz.sizeOf107
 v39:=Tryz.zeroValue107
 t45:=Tryz.underlying253
 a45:=Tryz.isAgg253
 z45:=Tryz.sizeOf253
 v45:=Tryz.zeroValue253
 t46:=Tryz.underlying254
 a46:=Tryz.isAgg254
 z46:=Tryz.sizeOf254
 v46:=Tryz.zeroValue254
 t50:=Tryz.underlying219
 a50:=Tryz.isAgg219
 z50:=Tryz.sizeOf219
 v50:=Tryz.zeroValue219
 t53:=Tryz.underlying70
 a53:=Tryz.isAgg70
 z53:=Tryz.sizeOf70
 v53:=Tryz.zeroValue70
 t55:=Tryz.underlying22
 a55:=Tryz.isAgg22
 z55:=Tryz.sizeOf22
 v55:=Tryz.zeroValue22
 t66:=Tryz.underlying271
 a66:=Tryz.isAgg271
 z66:=Tryz.sizeOf271
 v66:=Tryz.zeroValue271
 t70:=Tryz.underlying39
 a70:=Tryz.isAgg39
 z70:=Tryz.sizeOf39
 v70:=Tryz.zeroValue39
 t76:=Tryz.underlying280
 a76:=Tryz.isAgg280
 z76:=Tryz.sizeOf280
 v76:=Tryz.zeroValue280
 t77:=Tryz.underlying281
 a77:=Tryz.isAgg281
 z77:=Tryz.sizeOf281
 v77:=Tryz.zeroValue281}
def SortVR_ren:Go.Shelf.Ren:=⟨fun|6=>186|15=>134|14=>188|28=>165|29=>166|20=>189|21=>190|22=>191|23=>192|24=>193|25=>194|26=>195|27=>196|46=>197|47=>171|48=>172|49=>198|50=>199|57=>200|n=>n,fun|22=>269|24=>267|25=>287|3=>3|39=>107|0=>0|53=>70|55=>22|4=>4|46=>254|45=>253|50=>219|5=>5|9=>9|66=>271|70=>39|76=>280|77=>281|n=>n,fun|n=>n⟩
theorem SortVR:Go.Proofs.SlLaysF0.n6 Tryz.prog SortVR_ren:={
 mixed:=by kernel_rfl
 f6:=⟨Tryz.f186.name,by kernel_rfl,Tryz.func186.trans (congrArg some (by kernel_rfl))⟩
 f14:=⟨Tryz.f188.name,by kernel_rfl,Tryz.func188.trans (congrArg some (by kernel_rfl))⟩
 f15:=Tryz.func134.trans (congrArg some (by kernel_rfl))
 f20:=⟨Tryz.f189.name,by kernel_rfl,Tryz.func189.trans (congrArg some (by kernel_rfl))⟩
 f21:=⟨Tryz.f190.name,by kernel_rfl,Tryz.func190.trans (congrArg some (by kernel_rfl))⟩
 f22:=⟨Tryz.f191.name,by kernel_rfl,Tryz.func191.trans (congrArg some (by kernel_rfl))⟩
 f23:=⟨Tryz.f192.name,by kernel_rfl,Tryz.func192.trans (congrArg some (by kernel_rfl))⟩
 f24:=⟨Tryz.f193.name,by kernel_rfl,Tryz.func193.trans (congrArg some (by kernel_rfl))⟩
 f25:=⟨Tryz.f194.name,by kernel_rfl,Tryz.func194.trans (congrArg some (by kernel_rfl))⟩
 f26:=⟨Tryz.f195.name,by kernel_rfl,Tryz.func195.trans (congrArg some (by kernel_rfl))⟩
 f27:=⟨Tryz.f196.name,by kernel_rfl,Tryz.func196.trans (congrArg some (by kernel_rfl))⟩
 f28:=Tryz.func165.trans (congrArg some (by kernel_rfl))
 f29:=Tryz.func166.trans (congrArg some (by kernel_rfl))
 f46:=⟨Tryz.f197.name,by kernel_rfl,Tryz.func197.trans (congrArg some (by kernel_rfl))⟩
 f47:=Tryz.func171.trans (congrArg some (by kernel_rfl))
 f48:=Tryz.func172.trans (congrArg some (by kernel_rfl))
 f49:=⟨Tryz.f198.name,by kernel_rfl,Tryz.func198.trans (congrArg some (by kernel_rfl))⟩
 f50:=⟨Tryz.f199.name,by kernel_rfl,Tryz.func199.trans (congrArg some (by kernel_rfl))⟩
 f57:=⟨Tryz.f200.name,by kernel_rfl,Tryz.func200.trans (congrArg some (by kernel_rfl))⟩
 t0:=Tryz.underlying0
 a0:=Tryz.isAgg0
 z0:=Tryz.sizeOf0
 v0:=Tryz.zeroValue0
 t3:=Tryz.underlying3
 a3:=Tryz.isAgg3
 z3:=Tryz.sizeOf3
 v3:=Tryz.zeroValue3
 t4:=Tryz.underlying4
 a4:=Tryz.isAgg4
 z4:=Tryz.sizeOf4
 v4:=Tryz.zeroValue4
 t5:=Tryz.underlying5
 a5:=Tryz.isAgg5
 z5:=Tryz.sizeOf5
 v5:=Tryz.zeroValue5
 t9:=Tryz.underlying9
 a9:=Tryz.isAgg9
 z9:=Tryz.sizeOf9
 v9:=Tryz.zeroValue9
 t22:=Tryz.underlying269
 a22:=Tryz.isAgg269
 z22:=Tryz.sizeOf269
 v22:=Tryz.zeroValue269
 t25:=Tryz.underlying287
 a25:=Tryz.isAgg287
 z25:=Tryz.sizeOf287
 v25:=Tryz.zeroValue287
 t39:=Tryz.underlying107
 a39:=Tryz.isAgg107
 z39:=Tryz.sizeOf107
 v39:=Tryz.zeroValue107
 t45:=Tryz.underlying253
 a45:=Tryz.isAgg253
 z45:=Tryz.sizeOf253
 v45:=Tryz.zeroValue253
 t46:=Tryz.underlying254
 a46:=Tryz.isAgg254
 z46:=Tryz.sizeOf254
 v46:=Tryz.zeroValue254
 t50:=Tryz.underlying219
 a50:=Tryz.isAgg219
 z50:=Tryz.sizeOf219
 v50:=Tryz.zeroValue219
 t53:=Tryz.underlying70
 a53:=Tryz.isAgg70
 z53:=Tryz.sizeOf70
 v53:=Tryz.zeroValue70
 t55:=Tryz.underlying22
 a55:=Tryz.isAgg22
 z55:=Tryz.sizeOf22
 v55:=Tryz.zeroValue22
 t66:=Tryz.underlying271
 a66:=Tryz.isAgg271
 z66:=Tryz.sizeOf271
 v66:=Tryz.zeroValue271
 t70:=Tryz.underlying39
 a70:=Tryz.isAgg39
 z70:=Tryz.sizeOf39
 v70:=Tryz.zeroValue39
 t76:=Tryz.underlying280
 a76:=Tryz.isAgg280
 z76:=Tryz.sizeOf280
 v76:=Tryz.zeroValue280
 t77:=Tryz.underlying281
 a77:=Tryz.isAgg281
 z77:=Tryz.sizeOf281
 v77:=Tryz.zeroValue281}
open Go.Lib Go.Sort
theorem isNaNStr (x:ByteArray) (w:World):Calls Tryz.prog 135 #[.string x] w fun e w'=>e=.returned (.bool false)/\w'=w:=by
 go_enter Tryz.func135,Tryz.ntmps135
 go_wp2;go_ret;exact⟨rfl,rfl⟩

def ltK (x y:ByteArray):Bool:=Op.bytesLess x.toList y.toList
def cmpK (x y:ByteArray):Int:=if ltK x y then -1 else if x.toList==y.toList then 0 else 1
theorem ba_ext {x y:ByteArray} (h:x.toList=y.toList):x=y:=by
 rw[ByteArray.toList_eq x,ByteArray.toList_eq y]at h;exact ByteArray.ext (Array.ext' h)
theorem cmpStr (x y:ByteArray) (w:World):Calls Tryz.prog 79 #[.string x,.string y] w fun e w'=>e=.returned (.int .i64 (cmpK x y))/\w'=w:=by
 have Hc:Hid (cmpK x y=if ltK x y then -1 else if x.toList==y.toList then 0 else 1):=qq rfl;unfold ltK at Hc
 go_enter Tryz.func79,Tryz.ntmps79
 go_wp2_with fail
 refine(isNaNStr _ _).mono ?_;rintro e w' ⟨rfl,rfl⟩;go_wp2_with fail
 refine(isNaNStr _ _).mono ?_;rintro e w' ⟨rfl,rfl⟩;go_wp2_with fail
 all_goals
  go_ret;rw[Hc.out];refine⟨?_,rfl⟩
  simp_all
structure FE where
 key:ByteArray
 id:Nat
 off:Nat
deriving Inhabited
def cfF (e:FE):List Value:=[.string e.key,.int .u32 (e.id:Int),.int .i64 (e.off:Int)]
theorem cfF_len (x:FE):(cfF x).length=3:=rfl
theorem byKeyC (x y:FE) (W:World):Calls Tryz.prog 78 #[.agg (cfF x).toArray,.agg (cfF y).toArray] W fun e w'=>e=.returned (.int .i64 (cmpK x.key y.key))/\∃q os',w'=grow (W.drewN q) os':=by
 have hcon:=fun W'=>cmpStr x.key y.key W';generalize cmpK x.key y.key=r at hcon ⊢;unfold cfF
 go_enter Tryz.func78,Tryz.ntmps78
 go_wp2_with fail
 refine(hcon _).mono ?_;rintro e w' ⟨rfl,rfl⟩;go_wp2;go_ret;exact⟨rfl,0,_,by rw[alloc_eq_grow,alloc_eq_grow,grow_grow];rfl⟩
theorem ltOf_cmpK (x y:FE):ltOf (fun x y:FE=>cmpK x.key y.key) x y=ltK x.key y.key:=by
 unfold ltOf cmpK;cases hk:ltK x.key y.key
 ·simp[hk];split<;>simp
 ·simp[hk]
theorem ltK_eq (x y:ByteArray):ltK x y=decide (x.toList<y.toList):=bytesLess_eq _ _
theorem ltK_irrefl (x:ByteArray):ltK x x=false:=by rw[ltK_eq];simp[List.lt_irrefl]
theorem ltK_trans {x y z:ByteArray} (h1:ltK x y=true) (h2:ltK y z=true):ltK x z=true:=by
 rw[ltK_eq,decide_eq_true_eq]at*;exact List.lt_trans h1 h2
theorem ltK_ntrans {x y z:ByteArray} (h1:ltK x y=false) (h2:ltK y z=false):ltK x z=false:=by
 rw[ltK_eq,decide_eq_false_iff_not,List.not_lt]at*;exact List.le_trans h2 h1
theorem ltK_asymm {x y:ByteArray} (h1:ltK x y=true):ltK y x=false:=by
 cases h:ltK y x with
 |false=>rfl
 |true=>have:=ltK_trans h1 h;rw[ltK_irrefl]at this;cases this
theorem ltK_ne {x y:ByteArray} (h1:ltK x y=true):x≠y:=by rintro rfl;rw[ltK_irrefl]at h1;cases h1
theorem ltK_total {x y:ByteArray} (h1:ltK x y=false) (h2:ltK y x=false):x=y:=by
 rw[ltK_eq,decide_eq_false_iff_not,List.not_lt]at*;exact ba_ext (List.le_antisymm h2 h1)
theorem swoF:SWO (ltOf (fun x y:FE=>cmpK x.key y.key)) where
 irrefl x:=by rw[ltOf_cmpK];exact ltK_irrefl _
 trans x y z h1 h2:=by rw[ltOf_cmpK]at*;exact ltK_trans h1 h2
 ntrans x y z h1 h2:=by rw[ltOf_cmpK]at*;exact ltK_ntrans h1 h2

theorem sorted_same {α:Type} [Inhabited α] {lt:α->α->Bool} (hS:SWO lt) (d d':Array α) (hd:d.toList.Pairwise (fun x y=>lt x y=true)) (hP:PermIn 0 d.size d d') (hSo:SortedIn lt 0 d.size d'):d'=d:=by
 obtain⟨hsz,_,hperm⟩:=hP;have e1:d'.extract 0 d.size=d':=by rw[<-hsz];exact Array.extract_size
 rw[e1,Array.extract_size]at hperm;apply Array.ext';have hasym:∀x y,lt x y=true->lt y x=false:=fun x y h=>by
  cases h2:lt y x with
  |false=>rfl
  |true=>have:=hS.trans x y x h h2;rw[hS.irrefl]at this;cases this
 refine List.Perm.eq_of_pairwise (le:=fun x y=>lt y x=false) ?_ ?_ ?_ hperm
 ·intro a b ha hb h1 h2;have ha':=hperm.mem_iff.1 ha;obtain⟨i,hi,rfl⟩:=List.getElem_of_mem ha';obtain⟨j,hj,rfl⟩:=List.getElem_of_mem hb;rw[List.pairwise_iff_getElem]at hd;rcases Nat.lt_trichotomy i j with h|h|h
  ·rw[hd i j hi hj h]at h2;cases h2
  ·subst h;rfl
  ·rw[hd j i hj hi h]at h1;cases h1
 ·rw[List.pairwise_iff_getElem];intro i j hi hj hij;have hi':i<d'.size:=by simpa using hi
  have hj':j<d'.size:=by simpa using hj
  have:=hSo i j (Nat.zero_le _) hij (by omega);rw[getElem!_pos d' j hj',getElem!_pos d' i hi']at this;simpa using this
 ·exact hd.imp (fun h=>hasym _ _ h)
theorem Keep.grow {S:List Nat} {a w:World} (h:Keep S a w) (os:Array Obj):Keep S a (grow w os):=by
 refine⟨h.os,h.tape,h.output,?_,fun k hk hn=>?_⟩
 ·have:=h.size;show _<=(w.heap++os).size
  rw[Array.size_append];omega
 ·have hs:=h.size;show(w.heap++os)[k]?=_
  rw[Array.getElem?_append_left (by omega)];exact h.block k hk hn

theorem OwnC.holds {α:Type} [Inhabited α] {cf:α->List Value} {sz:Nat} (hcf:∀x,(cf x).length=sz) (hsz:0<sz) {w:World} {g c:Nat} {cs:List Value} {l:List α} (hb:Blk w g cs) (ht:cs.take (l.length*sz)=l.flatMap cf):HoldsK cf sz w g 0 l.toArray:=by
 intro j hj;rw[size_flatK,List.size_toArray]at hj;refine⟨?_,hb.frozen _⟩;refine hb.cell ?_;rw[Nat.zero_add];have h1:j / sz<l.length:=by rw[Nat.div_lt_iff_lt_mul hsz];exact hj
 have h2:j%sz<sz:=Nat.mod_lt _ hsz;have e:j=j / sz*sz+j%sz:=by rw[Nat.mul_comm];exact(Nat.div_add_mod j sz).symm
 have h3:=flatMap_get hcf l (j / sz) (l[j / sz]) (j%sz) (List.getElem?_eq_getElem h1) h2;rw[<-e,<-ht,List.getElem?_take,if_pos hj]at h3;rw[h3,get_flatK _ _ _ _ (by rw[List.size_toArray];exact hj),List.getElem!_toArray,getElem!_pos l _ h1,getElem!_pos _ _ (by rw[hcf];exact h2),List.getElem?_eq_getElem];rfl

theorem sortFieldsC (G:List Nat) (v:Value) (l:List FE) (w:World) (h:OwnC cfF 3 G w v l) (hs:l.Pairwise (fun x y=>ltK x.key y.key=true)) (hl:l.length<=1000000):
  Calls Tryz.prog 77 #[v,.func (.func 78) #[] #[]] w fun e w'=>e=.returned (.tuple #[])/\Keep [] w w':=by
 rcases h with⟨rfl,rfl,rfl⟩|⟨g,c,cs,rfl,rfl,hb,hc,ht,hle⟩
 ·have:=AnyF.slices_SortFunc_none SortFE none 0 (.func (.func 78) #[] #[]) w;refine this.mono ?_;rintro e w' ⟨rfl,rfl⟩;exact⟨rfl,Keep.refl _ _⟩
 ·have eg:∀args w,(callFunc 78 args).run Tryz.prog w=.ok (.enter 78 args) w:=enters_of Tryz.func78 (by kernel_rfl) rfl;have hH:=OwnC.holds (c:=c) cfF_len (by omega) hb ht;have:=AnyQ.slices_SortFunc SortFE 3 Tryz.isAgg72 Tryz.sizeOf72 cfF cfF_len (fun x v hv=>by simp[cfF]at hv;rcases hv with rfl|rfl|rfl<;>rfl) _ swoF 78 #[] g 0 c l.toArray w eg (fun _ _ _ _ x y=>byKeyC x y _) hH hb.lt (by simp;omega)
  refine this.mono ?_;rintro e w' ⟨rfl,d',n,os,hp,hso,rfl⟩;have hd:=sorted_same swoF l.toArray d' (by simpa[ltOf_cmpK]using hs) hp hso;subst hd;refine⟨rfl,?_⟩;unfold sortWorldK;have e:putRowK cfF 3 (Sort.ahead w n) g 0 l.toArray=Sort.ahead w n:=putRow_self id _ g 0 _ hH;rw[e];exact Keep.grow (by constructor<;>first|rfl|(intros;rfl)|exact Nat.le_refl _) os
end Go.Proofs.YtocgdgmfnockiaaGreatDoor
