/- Variants: bytes.Compare, slices.IsSortedFunc: some answer. Variants: Build. -/
import Derived.Test.YtocgdgmfnockiaaGreatDoorV13
set_option linter.unusedVariables false
set_option linter.unusedSimpArgs false
set_option maxRecDepth 100000
set_option maxHeartbeats 8000000
namespace Go.Proofs.YtocgdgmfnockiaaGreatDoor
open Go.RowKit
theorem run_loadBytes {P:Program} {w:World}:∀(l:List Nat) (a:Addr) (acc:ByteArray),(∀(j x:Nat),l[j]?=some x->w.cell? (a.add j)=some (.int .u8 (x:Int)))->∃s,(Extern.Bytes.loadBytes a l.length acc).run P w=.ok s w
 |[],a,acc,_=>⟨acc,rfl⟩
 |y::l,a,acc,h=>by
  have h0:=h 0 y rfl;have e0:a.add 0=a:=by simp[Addr.add]
  rw[e0]at h0;obtain⟨s,hs⟩:=run_loadBytes (P:=P) (w:=w) l (a.add 1) (acc.push ((y:Int)).toNat.toUInt8) (fun j x hj=>by
   rw[Addr.add_add,Nat.add_comm];exact h (j+1) x (by simpa using hj))
  refine⟨s,?_⟩;rw[List.length_cons,Extern.Bytes.loadBytes];rw[Sem.run_bind,run_load,h0];exact hs
theorem KeyRow.bytes {w:World} {wr own:List Nat} {v:Value} {k:ByteArray} (h:KeyRow w wr own v k):∃s,(Extern.Bytes.bytesOf v).run Tryz.prog w=.ok s w:=by
 obtain⟨a,cap,rfl,_,_,_,_,hc⟩:=h;obtain⟨s,hs⟩:=run_loadBytes (P:=Tryz.prog) (bytesN k) a .empty hc;rw[length_bytesN]at hs;exact⟨s,hs⟩
theorem compareC (s1 s2:ByteArray) (v1 v2:Value) (w:World) (h1:(Extern.Bytes.bytesOf v1).run Tryz.prog w=.ok s1 w) (h2:(Extern.Bytes.bytesOf v2).run Tryz.prog w=.ok s2 w):
  Calls Tryz.prog 56 #[v1,v2] w fun e w'=>e=.returned (.int .i64 (Extern.BytealgCompare.cmp s1 s2))/\w'=w:=by
 have hx:(callFunc 106 #[v1,v2]).run Tryz.prog w=.ok (.value (.int .i64 (Extern.BytealgCompare.cmp s1 s2))) w:=by
  rw[run_callFunc_extern (e:=Extern.BytealgCompare.compare) Tryz.func106 (by kernel_rfl) (by kernel_rfl) (by kernel_rfl) (by kernel_rfl)];show((Extern.Bytes.bytesOf v1>>=fun x=>Extern.Bytes.bytesOf v2>>=fun y=>pure (goInt (Extern.BytealgCompare.cmp x y))).run Tryz.prog w).andThen _=_
  rw[Sem.run_bind,h1];show(((Extern.Bytes.bytesOf v2>>=fun y=>pure (goInt (Extern.BytealgCompare.cmp s1 y))).run Tryz.prog w)).andThen _=_
  rw[Sem.run_bind,h2];rfl
 go_enter Tryz.func56,Tryz.ntmps56
 go_wp2;go_ret;exact⟨rfl,rfl⟩
theorem isSortedC (n cap:Nat) (ao:Option Addr) (w:World) (hn:n<=1000000) (hE:∀(w':World),Keep [] w w'->∀i,i<n->∃a v s,ao=some a/\w'.cell? (a.add i)=some v/\(Extern.Bytes.bytesOf v).run Tryz.prog w'=.ok s w'):
  Calls Tryz.prog 55 #[.slice ao n cap,.func (.func 56) #[] #[]] w fun e w'=>∃r:Bool,e=.returned (.bool r)/\Keep [] w w':=by
 have H:=qq hE;clear hE;have hw:wrap64 ((n:Int)-1)=(n:Int)-1:=by unfold wrap64;omega
 go_enter Tryz.func55,Tryz.ntmps55
 go_wp2_with fail
 go_loopw [5] (fun i wr=>∃k:Nat,k<=n/\i=.int .i64 ((k:Int)-1)/\Keep [] w wr) (fun i _=>(intOf i+1).toNat)
 case atStart=>exact⟨n,Nat.le_refl _,rfl,Keep.refl _ _⟩
 case round=>
  obtain⟨k,hk,rfl,kk⟩:=hrel;by_cases hk1:1<k
  ·obtain⟨j,hj⟩:∃j,j=k-1:=⟨_,rfl⟩;obtain⟨j',hj'⟩:∃j',j'=j-1:=⟨_,rfl⟩;have hji:(k:Int)-1=(j:Int):=by omega
   have hj0:(0:Int)<(j:Int):=by omega
   have hjn:j<n:=by omega
   have hjw:IntKind.i64.wrap ((j:Int)-1)=(j':Int):=by rw[IntKind.wrap_i64];omega
   have hjn':j'<n:=by omega
   obtain⟨a,v1,s1,rfl,c1,b1⟩:=H.out wr.drew kk.drew j hjn;obtain⟨a',v2,s2,ea,c2,b2⟩:=H.out wr.drew kk.drew j' hjn';cases ea
   rw[hji];have HC:=qq (compareC s1 s2 v1 v2 _ b1 b2);have Hj:=qq2 hj hj';clear hj hj' hji b1 b2;go_wp2_with fail
   refine wp_region_still_lit (by kernel_rfl) (by kernel_rfl) ?_;change wpStill _ _ (World.drew _) _ _ _;repeat still_step
   still_call HC.out
   repeat still_step
   refine wpStill_nil ?_;go_wp2
   ·go_ret;exact⟨false,rfl,kk.drew⟩
   ·go_roundw
    case rel=>
     have hj:=Hj.out;refine⟨k-1,by omega,?_,kk.drew⟩;congr 1
     omega
    case measure=>
     have hj:=Hj.out;simp[intOf];omega
  ·go_wp2;go_ret;exact⟨true,rfl,kk⟩

def metaB (so:Bool) (K:List ByteArray) (tot:Nat):List Nat:=
 (1+(if so then 16 else 0)+64*(sizeW (max tot K.length)-1))::(leBytes (sizeW (max tot K.length)) K.length++(tabB (sizeW (max tot K.length)) (offsL 0 (K.map (·.size))++[szK K])++((K.map bytesN).flatten++List.replicate (tot-szK K) 0)))
theorem info_u8:(Tryz.prog.info? 5).map (fun i=>(i.zero,i.size,i.bytes))=some (some (.int .u8 0),1,1):=by kernel_rfl
theorem makeBytes (n:Nat) (hn:n<=10000000) (w:World):(Instr.makeSlice 30 (.int .i64 (n:Int)) (.int .i64 (n:Int))).run Tryz.prog w=.ok (.slice (some ⟨w.heap.size,0,none⟩) n n) (w.alloc (.cells (rowV .u8 (List.replicate n 0)).toArray 5)):=by
 obtain⟨i0,hi,hz0,hz1,hz2⟩:=info_parts info_u8;have h:=run_makeSlice (P:=Tryz.prog) w 30 5 i0 (.int .u8 0) Tryz.underlying30 hi hz0 .i64 .i64 n n (by omega) (by omega) (by rw[hz1];omega) (by rw[hz2];omega) (by omega);rw[h,hz1,rowV_replicate,Int.toNat_natCast,Nat.mul_one];show _=Result.ok _ (w.alloc (.cells (List.replicate n (.int .u8 0)).toArray 5))
 rw[<-madeRow];rfl

theorem DictAt.elems {w:World} {wr own mB kB:List Nat} {mv:Value} {ao:Option Addr} {n dc:Nat} {K:List ByteArray} (h:DictAt w wr own mB kB mv (.slice ao n dc) K) (w':World) (kk:Keep [] w w') (i:Nat) (k:ByteArray) (hk:K[i]?=some k):
  ∃a v,ao=some a/\w'.cell? (a.add i)=some v/\KeyRow w' wr own v k/\a.block ∈ kB:=by
 rcases h with⟨_,_,_,_,rfl⟩|⟨m,D,vs,_,_,_,_,hO,hl,_,hkr⟩
 ·simp at hk
 ·obtain⟨v,hv,hr⟩:=hkr i k hk;obtain⟨g,c,hG,hs,_,hc⟩:=hO.cell (cf:=fun v=>[v]) (sz:=1) (fun _=>rfl) hv (j:=0) (u:=v) rfl;injection hs with hs _ _
  refine⟨_,v,hs,?_,hr.keep kk (by simp) (fun x hx=>.inl hx) (fun x hx=>hx),by rw[hG];simp⟩;rw[add_at];exact kk.cell_some (by simpa using hc) (by simp)
theorem hdr_bits (sz:Nat) (h1:1<=sz) (h4:sz<=4):bits .or .u8 1 (((sz:Int)-1)*64)=((1+64*(sz-1):Nat):Int):=by
 have:sz=1\/sz=2\/sz=3\/sz=4:=by omega
 rcases this with rfl|rfl|rfl|rfl<;>decide
theorem hdr_bits2 (sz:Nat) (h1:1<=sz) (h4:sz<=4):bits .or .u8 ((1+64*(sz-1):Nat):Int) 16=((1+16+64*(sz-1):Nat):Int):=by
 have:sz=1\/sz=2\/sz=3\/sz=4:=by omega
 rcases this with rfl|rfl|rfl|rfl<;>decide
theorem results_cell_tmp {fn:Func} {p q:Tmp} {ty:TypeId} (h:fn.results=#[.cell p ty,.tmp q]) (tmps:Array Value) (P:Program) (w:World):
  (results fn tmps).run P w=((asAddr (tmps.getD p undef)).run P w).andThen fun a w₁=>((loadVar ty a).run P w₁).andThen fun v w₂=>.ok (.tuple #[v,tmps.getD q undef]) w₂:=by
 simp only[results,h];simp[Sem.run_bind,Result.andThen]
theorem offsL_get:∀(l:List Nat) (s i:Nat),i<l.length->(offsL s l)[i]?=some (s+(l.take i).sum)
 |[],_,_,h=>by simp at h
 |x::l,s,0,_=>by simp[offsL]
 |x::l,s,i+1,h=>by
  simp only[offsL,List.getElem?_cons_succ,List.take_succ_cons,List.sum_cons];rw[offsL_get l (s+x) i (by simpa using h),Nat.add_assoc]
theorem szK_take {K:List ByteArray} {i:Nat} {k:ByteArray} (h:K[i]?=some k):szK (K.take (i+1))=szK (K.take i)+k.size:=by
 rw[take_snoc h,szK_append];simp[szK]
theorem szK_take_le (K:List ByteArray) (i:Nat):szK (K.take i)<=szK K:=szK_prefix (List.take_prefix i K)
theorem length_bytesK (K:List ByteArray):((K.map bytesN).flatten).length=szK K:=by
 induction K with
 |nil=>rfl
 |cons k K ih=>rw[List.map_cons,List.flatten_cons,List.length_append,ih,length_bytesN];simp[szK]
theorem buildC (b tot:Nat) (own:List Nat) (K:List ByteArray) (bs:List Nat) (w:World) (h:Bld w b own K bs tot) (hK:K.length<=1000) (ht:tot<=1000000) (hszK:szK K<=tot) (hbs:bs≠[]):
  Calls Tryz.prog 18 #[.pointer (some ⟨b,0,none⟩)] w fun e w'=>∃(so:Bool) (r m mc:Nat) (L:List Nat) (ka:Option Addr) (kn kc:Nat),e=.returned (.tuple #[.agg #[.slice (some ⟨r,0,none⟩) bs.length L.length,.slice (some ⟨m,0,none⟩) (metaB so K tot).length mc,.slice ka kn kc],.nilIface])/\
   Keep [] w w'/\w.heap.size<=m/\Blk w' m (rowV .u8 (metaB so K tot))/\Blk w' r (rowV .u8 L)/\L.take bs.length=bs/\r ∈ own:=by
 have hdup:=h;obtain⟨wr,g,mB,kB,mv,dv,hBA,hD,h5,h6,h7,hw,hlt⟩:=h;obtain⟨v,lr,h1,hrow,hbg⟩:=hBA;obtain⟨n,hn⟩:∃n,n=K.length:=⟨_,rfl⟩;obtain⟨ao,dc,rfl,hdc⟩:∃ao dc,dv=.slice ao n dc/\n<=dc:=by
  rcases hD with⟨_,_,_,rfl,rfl⟩|⟨m,D,vs,_,_,_,_,hO,hl,_⟩
  ·exact⟨none,0,by rw[hn];rfl,by rw[hn];simp⟩
  ·obtain⟨ao,dc,h1,h2⟩:=hO.shape;exact⟨ao,dc,by rw[h1,hl,hn],by rw[hn,<-hl];exact h2⟩
 have K1:Keep [] w (w.alloc (.cells #[.slice none 0 0,.slice none 0 0,.slice none 0 0] 57)):=(Keep.refl [] w).alloc _;have hr1:Blk (w.alloc (.cells #[.slice none 0 0,.slice none 0 0,.slice none 0 0] 57)) w.heap.size [.slice none 0 0,.slice none 0 0,.slice none 0 0]:=Blk.new w _ _;have c4:(w.alloc (.cells #[.slice none 0 0,.slice none 0 0,.slice none 0 0] 57)).cell? ⟨b,4,none⟩=some (.slice ao n dc):=(h1.keep K1 (by simp)).cell rfl;have c5:(w.alloc (.cells #[.slice none 0 0,.slice none 0 0,.slice none 0 0] 57)).cell? ⟨b,5,none⟩=some (.int .i64 (tot:Int)):=(h1.keep K1 (by simp)).cell rfl;have hbl:=h1.lt;have H:=qq7 h1 hrow hD h5 hw hlt hbg;have Hn:=qq hn;have hn1:n<=1000:=by omega
 obtain⟨mx,hmx⟩:∃mx,mx=max tot n:=⟨_,rfl⟩;have hmxi:max (tot:Int) (n:Int)=(mx:Int):=by omega
 have hmxl:¬(134217728:Int)<(mx:Int):=by omega
 have hmx2:mx<=134217728:=by omega
 obtain⟨sz,hsz⟩:∃sz,sz=sizeW mx:=⟨_,rfl⟩;have hz1:1<=sz:=by rw[hsz];exact sizeW_pos _
 have hz4:sz<=4:=by rw[hsz];exact sizeW_le _
 have Hm:=qq2 hmx hsz;obtain⟨qn,hqn⟩:∃qn,qn=(n+1)*sz:=⟨_,rfl⟩;have hqi:((n:Int)+1)*(sz:Int)=(qn:Int):=by rw[hqn];simp
 have hq4:qn<=(n+1)*4:=by rw[hqn];exact Nat.mul_le_mul_left _ hz4
 have hq1:(n+1)*1<=qn:=by rw[hqn];exact Nat.mul_le_mul_left _ hz1
 obtain⟨hd,hhd⟩:∃hd,hd=1+sz+qn:=⟨_,rfl⟩;have hdi:1+(sz:Int)+(qn:Int)=(hd:Int):=by omega
 have hdl:hd<=5000:=by omega
 have hd3:3<=hd:=by omega
 obtain⟨tl,htl⟩:∃tl,tl=hd+tot:=⟨_,rfl⟩;have hti:(hd:Int)+(tot:Int)=(tl:Int):=by omega
 have htl2:¬(134217728:Int)<(tl:Int):=by omega
 have htl3:tl<=1100000:=by omega
 have hdtl:hd<=tl:=by omega
 have hmk:=makeBytes tl (by omega);obtain⟨h0,hh0⟩:∃h0,h0=1+64*(sz-1):=⟨_,rfl⟩;have hor:=hdr_bits sz hz1 hz4;have hor2:=hdr_bits2 sz hz1 hz4;rw[<-hh0]at hor hor2;obtain⟨h16,hh16⟩:∃h16,h16=1+16+64*(sz-1):=⟨_,rfl⟩;rw[<-hh16]at hor2;have Hh:=qq2 hh0 hh16;have Hq:=qq3 hqn hhd htl;clear h1 hrow hbg hD h5 h6 h7 hw hlt hdup K1 hn hmx hsz hqn hhd htl hq1 hh0 hh16
 go_enter Tryz.func18,Tryz.ntmps18
 go_wp2_with fail
 refine(intSizeC mx _ hmx2).mono ?_;rintro e w1 ⟨rfl,rfl⟩;rw[<-Hm.out.2]
 go_upto_region 12 with(fail)
 have hm2:Blk ((w.alloc (.cells #[.slice none 0 0,.slice none 0 0,.slice none 0 0] 57)).alloc (.cells (rowV .u8 (List.replicate tl 0)).toArray 5)) (w.heap.size+1) (rowV .u8 (List.replicate tl 0)):=Blk.of_new (by simp);have k2:Keep [] (w.alloc (.cells #[.slice none 0 0,.slice none 0 0,.slice none 0 0] 57)) ((w.alloc (.cells #[.slice none 0 0,.slice none 0 0,.slice none 0 0] 57)).alloc (.cells (rowV .u8 (List.replicate tl 0)).toArray 5)):=(Keep.refl [] _).alloc _;have k1:Keep [] w (w.alloc (.cells #[.slice none 0 0,.slice none 0 0,.slice none 0 0] 57)):=(Keep.refl [] w).alloc _;generalize w.alloc (.cells #[.slice none 0 0,.slice none 0 0,.slice none 0 0] 57)=w1 at hr1 c4 c5 hm2 k2 k1 ⊢;generalize w1.alloc (.cells (rowV .u8 (List.replicate tl 0)).toArray 5)=w2 at hm2 k2 ⊢;have hmw:w.heap.size<=w.heap.size+1:=by omega
 have hmrv:w.heap.size≠w.heap.size+1:=by omega
 have hmb:b≠w.heap.size+1:=by omega
 replace c4:=k2.cell_some c4 (by simp)
 replace c5:=k2.cell_some c5 (by simp)
 have hr2:=hr1.keep k2 (by simp);have K2:Keep [] w w2:=k1.trans k2 (by simp);clear k1 k2 hr1 w1;generalize w.heap.size+1=m at hm2 hmw hmrv hmb ⊢;have hz:(rowV .u8 (List.replicate tl 0))[0]?=some (.int .u8 0):=by rw[rowV_replicate,List.getElem?_replicate,if_pos (by omega)];rfl
 have d0:=hm2.cell hz;have f0:=hm2.frozen 0;obtain⟨w3,hw3⟩:∃x,x=w2.setCell ⟨m,0,none⟩ (.int .u8 (h0:Int)):=⟨_,rfl⟩;have hm3:Blk w3 m (rowV .u8 ([]++([h0]++(List.replicate (hd-1) 0++List.replicate tot 0)))):=by
  have:=hm2.set 0 (.int .u8 (h0:Int));rw[<-hw3,<-rowV_set]at this;have e:(List.replicate tl 0).set 0 h0=[]++([h0]++(List.replicate (hd-1) 0++List.replicate tot 0)):=by
   rw[List.replicate_append_replicate,show hd-1+tot=tl-1 by have:=Hq.out.2.2;omega];obtain⟨t,ht⟩:∃t,tl=t+1:=⟨tl-1,by omega⟩;rw[ht,List.replicate_succ];rfl
  rw[e]at this;exact this
 have K3:Keep [m] w2 w3:=by rw[hw3];exact(Keep.refl _ _).set (by simp) _ _ _
 have K3':Keep [] w w3:=K2.trans K3 (by simp;omega);have hr3:=hr2.keep K3 (by simp;omega);have c43:=K3.cell_some c4 (by simp;omega);have H3:=qq3 hm3 K3' hr3
 go_upto_region 13 with(fail)
 rw[<-hw3];clear hw3 hm2 hr2 K2 hz d0 f0 hm3 K3 K3' hr3 c4 c5
 go_cut [67]from 59 to 66 (fun s67 wx=>∃so:Bool,s67=.bool so/\Keep [] w3 wx)
 case first=>
  by_cases hn0:0<n
  ·have hs:Calls Tryz.prog 55 #[.slice ao n dc,.func (.func 56) #[] #[]] w3 fun e w'=>∃r:Bool,e=.returned (.bool r)/\Keep [] w3 w':=by
    refine isSortedC n dc ao w3 (by omega) (fun w' kk i hi=>?_);obtain⟨k,hk⟩:∃k,K[i]?=some k:=⟨_,List.getElem?_eq_getElem (by have:=Hn.out;omega)⟩;obtain⟨a,v,ha,hc,hr,_⟩:=H.out.2.2.1.elems w' (H3.out.2.1.trans kk (by simp)) i k hk;obtain⟨s,hs⟩:=hr.bytes;exact⟨a,v,s,ha,hc,hs⟩
   have hn0i:(0:Int)<(n:Int):=by omega
   go_wp2_with(go_at_call 55;refine hs.mono ?_;rintro e w' ⟨so,rfl,ks⟩)
   go_meet
   exact⟨so,rfl,ks⟩
  ·have hn00:n=0:=by omega
   subst hn00;go_wp2_with fail
   go_meet
   exact⟨false,rfl,Keep.refl _ _⟩
 obtain⟨so,rfl,ks⟩:=hcut;have hm4:=H3.out.1.keep ks (by simp);have HS:=qq2 ks hm4;obtain⟨hb,hhb⟩:∃hb,hb=1+(if so then 16 else 0)+64*(sz-1):=⟨_,rfl⟩
 go_upto_if 67 with(fail)
 go_cut []from 68 to 72 (fun wx=>Keep [m] wc wx/\Blk wx m (rowV .u8 ([]++([hb]++(List.replicate (hd-1) 0++List.replicate tot 0)))))
 case first=>
  cases so with
  |true=>
   have e0:hb=h16:=by rw[hhb,Hh.out.2];simp
   have d0:wc.cell? ⟨m,0,none⟩=some (.int .u8 (h0:Int)):=hm4.cell rfl;have f0:=hm4.frozen 0;have hm5:=hm4.set 0 (.int .u8 (h16:Int));rw[<-rowV_set]at hm5;have HM:=qq2 hm5 e0;clear hm4 hm5 e0 hhb;go_wp2_with fail
   go_meet
   exact⟨(Keep.refl _ _).set (by simp) _ _ _,by rw[HM.out.2];exact HM.out.1⟩
  |false=>
   have e0:hb=h0:=by rw[hhb,Hh.out.1];simp
   have HM:=qq2 hm4 e0;clear hm4 e0 hhb;go_wp2_with fail
   go_meet
   exact⟨Keep.refl _ _,by rw[HM.out.2];exact HM.out.1⟩
 case rest=>
  have hK0:Keep [] w wc:=((H3.out.2.1.trans HS.out.1 (by simp)).trans hcut.1 (by simp;omega));have hrv:=(H3.out.2.2.keep HS.out.1 (by simp)).keep hcut.1 (by simp;omega);have c46:=hcut.1.cell_some (HS.out.1.cell_some c43 (by simp)) (by simp;omega);have HC:=qq4 hcut.2 hK0 hrv hhb;clear hcut hK0 hrv hhb hm4 ks c43 HS H3 hor hor2 hmk;have hne1:¬tl=1:=by omega
  have hl1:1<=tl:=by omega
  go_wp2_with fail
  refine(writeHdrC m 1 _ _ n sz [] [hb] (List.replicate (hd-1) 0) (List.replicate tot 0) _ HC.out.1 rfl (by rw[List.length_replicate];have:=Hq.out;omega) hz1 hz4 (by have:=Hq.out;omega) (by omega)).mono ?_;rintro e w7 ⟨rfl,k7,hm7⟩;have hmm:b ∉ [m]:=by simp;omega
  have c47:=k7.cell_some c46 (by simp;omega);have H7:Hid (Keep [] w w7/\Blk w7 m (rowV .u8 ([]++(([hb]++leBytes sz n++tabB sz ((offsL 0 (K.map (·.size))).take 0))++(List.replicate (qn-0*sz) 0++(((K.take 0).map bytesN).flatten++List.replicate (tot-szK (K.take 0)) 0)))))/\Blk w7 w.heap.size [.slice none 0 0,.slice none 0 0,.slice none 0 0]):=Lib.hid ⟨HC.out.2.1.trans k7 (by simp;omega),by
   have e:(List.replicate (hd-1) 0).drop sz=List.replicate (qn-0*sz) 0:=by rw[List.drop_replicate];congr 1;have:=Hq.out.2.1;omega
   rw[e]at hm7;simpa[tabB,szK]using hm7,HC.out.2.2.1.keep k7 (by simp;omega)⟩
  clear k7 hm7 c46;go_wp2_with fail
  go_loopw [83,11] (fun iv cv wr=>∃i:Nat,i<=n/\iv=.int .i64 (i:Int)/\cv=.int .i64 ((szK (K.take i):Nat):Int)/\Hid (Keep [] w wr/\Blk wr m (rowV .u8 ([]++(([hb]++leBytes sz n++tabB sz ((offsL 0 (K.map (·.size))).take i))++(List.replicate (qn-i*sz) 0++(((K.take i).map bytesN).flatten++List.replicate (tot-szK (K.take i)) 0)))))/\Blk wr w.heap.size [.slice none 0 0,.slice none 0 0,.slice none 0 0])) (fun i _ _=>n-(intOf i).toNat)
  case atStart=>exact⟨0,Nat.zero_le _,rfl,rfl,H7⟩
  case round=>
   obtain⟨i,hi,rfl,rfl,HR⟩:=hrel;obtain⟨co,hco⟩:∃co,co=szK (K.take i):=⟨_,rfl⟩;obtain⟨m1,hm1⟩:∃m1,m1=i*sz:=⟨_,rfl⟩;have hm1i:(i:Int)*(sz:Int)=(m1:Int):=by rw[hm1];simp
   obtain⟨pp,hpp⟩:∃pp,pp=1+sz+m1:=⟨_,rfl⟩;have hppi:1+(sz:Int)+(m1:Int)=(pp:Int):=by omega
   have hmle:m1+sz<=qn:=by have:=Nat.mul_le_mul_right sz (show i+1<=n+1 by omega);rw[Nat.succ_mul,<-Hq.out.1]at this;omega
   have hpl:pp+sz<=hd:=by have:=Hq.out.2.1;omega
   have hp1:pp<=tl:=by omega
   have hp2:¬tl=pp:=by omega
   have hcot:co<=tot:=by rw[hco];exact Nat.le_trans (szK_take_le K i) hszK
   rw[<-hco,<-hm1]at HR;rw[<-hco];have Hp:=qq4 hm1 hpp hmle hco;clear hm1 hpp hmle hco;by_cases hlt:i<n
   ·have hlti:(i:Int)<(n:Int):=by omega
    obtain⟨k,hk⟩:∃k,K[i]?=some k:=⟨_,List.getElem?_eq_getElem (by have:=Hn.out;omega)⟩;obtain⟨a,v,rfl,hc,hr,-⟩:=H.out.2.2.1.elems wr HR.out.1 i k hk;obtain⟨ak,kcap,rfl,hkc,hkw,hko,hkl,hkb⟩:=hr;have hck:co+k.size<=tot:=by have:=szK_take hk;have:=szK_take_le K (i+1);rw[Hp.out.2.2.2]at*;omega
    have HKb:=qq3 hk (H.out.2.2.2.2.2.1 _ hko) hkb;clear hk hkw hko hkl hkb;go_wp2_with fail
    refine(writeHdrC m pp _ _ co sz [] _ (List.replicate (qn-m1) 0) _ _ HR.out.2.1 (by have:=Hn.out;have:=Hp.out;simp[length_offsL];rw[Nat.min_eq_left (by omega)];omega) (by rw[List.length_replicate];have:=Hp.out.2.2.1;omega) hz1 hz4 (by omega) (by omega)).mono ?_;rintro e w8 ⟨rfl,k8,hm8⟩;obtain⟨Pz,hPz⟩:∃Pz,Pz=([hb]++leBytes sz n++tabB sz ((offsL 0 (K.map (·.size))).take (i+1)))++List.replicate (qn-m1-sz) 0:=⟨_,rfl⟩;have hos:(offsL 0 (K.map (·.size)))[i]?=some co:=by
     rw[offsL_get _ _ _ (by have:=Hn.out;simp;omega),Hp.out.2.2.2,Nat.zero_add,<-List.map_take];rfl
    have hrow:[]++(([hb]++leBytes sz n++tabB sz ((offsL 0 (K.map (·.size))).take i)++leBytes sz co)++((List.replicate (qn-m1) 0).drop sz++(((K.take i).map bytesN).flatten++List.replicate (tot-co) 0)))=Pz++(((K.take i).map bytesN).flatten++(List.replicate (tot-co) 0++[])):=by
     rw[hPz,tabB_take_succ _ _ _ _ hos,List.drop_replicate];simp[List.append_assoc]
    have hPl:Pz.length=hd:=by
     have e1:=Hp.out.2.2.1;have e2:=Hq.out;have e3:=Hn.out;have e4:=Hp.out.1;rw[hPz];simp[length_offsL];rw[Nat.min_eq_left (by omega),Nat.succ_mul];omega
    have hQl:(((K.take i).map bytesN).flatten).length=co:=by rw[length_bytesK];exact Hp.out.2.2.2.symm
    rw[hrow]at hm8;obtain⟨c2,hc2⟩:∃c2,c2=hd+co:=⟨_,rfl⟩;have hc2i:(hd:Int)+(co:Int)=(c2:Int):=by omega
    have hc2l:c2<=tl:=by have:=Hq.out.2.2;omega
    have hks:k.size<=tl-c2:=by have:=Hq.out.2.2;omega
    have hsp:=splice_mid Pz (((K.take i).map bytesN).flatten) (List.replicate (tot-co) 0) [] (bytesN k) (by rw[length_bytesN,List.length_replicate];omega);rw[hPl,hQl,<-hc2,List.drop_replicate,length_bytesN]at hsp;have hrl:(Pz++(((K.take i).map bytesN).flatten++(List.replicate (tot-co) 0++[]))).length=tl:=by
     rw[List.length_append,List.length_append,hPl,hQl];have:=Hq.out.2.2;simp;omega
    have K8:Keep [] w w8:=HR.out.1.trans k8 (by simp;omega);have hrv8:=HR.out.2.2.keep k8 (by simp;omega);have hkc8:∀(j x:Nat),(bytesN k)[j]?=some x->w8.cell? (ak.add j)=some (.int .u8 (x:Int)):=fun j x hj=>k8.cell_some (HKb.out.2.2 j x hj) (by rw[add_block];simp;have:=HKb.out.2.1;omega);have hEnd:∀w9:World,Keep [m] w8 w9->Blk w9 m (rowV .u8 (Pz++((((K.take i).map bytesN).flatten++bytesN k)++(List.replicate (tot-co-k.size) 0++[]))))->
      i+1<=n/\szK (K.take (i+1))=co+k.size/\Hid (Keep [] w w9/\Blk w9 m (rowV .u8 ([]++(([hb]++leBytes sz n++tabB sz ((offsL 0 (K.map (·.size))).take (i+1)))++(List.replicate (qn-(i+1)*sz) 0++(((K.take (i+1)).map bytesN).flatten++List.replicate (tot-szK (K.take (i+1))) 0)))))/\Blk w9 w.heap.size [.slice none 0 0,.slice none 0 0,.slice none 0 0]):=fun w9 k9 hb9=>by
     have e1:=szK_take HKb.out.1;rw[<-Hp.out.2.2.2]at e1;refine⟨hlt,e1,Lib.hid ⟨K8.trans k9 (by simp;omega),?_,hrv8.keep k9 (by simp;omega)⟩⟩;have e2:[]++(([hb]++leBytes sz n++tabB sz ((offsL 0 (K.map (·.size))).take (i+1)))++(List.replicate (qn-(i+1)*sz) 0++(((K.take (i+1)).map bytesN).flatten++List.replicate (tot-szK (K.take (i+1))) 0)))=Pz++((((K.take i).map bytesN).flatten++bytesN k)++(List.replicate (tot-co-k.size) 0++[])):=by
      rw[hPz,map_take_snoc _ HKb.out.1,List.flatten_append,e1,Nat.succ_mul,<-Hp.out.1,show tot-(co+k.size)=tot-co-k.size by omega,show qn-(m1+sz)=qn-m1-sz by omega];simp[List.append_assoc]
     rw[e2];exact hb9
    have HE:=qq hEnd;by_cases hz:tl=c2
    ·replace hz:=hz.symm
     have hk0:k.size=0:=by omega
     have hcp:=fun ty d dl dc=>run_copy_none (P:=Tryz.prog) w8 30 30 ty 5 d (some ak) dl dc k.size kcap Tryz.underlying30 size_u8t (by rw[hk0];simp);have hbk:bytesN k=[]:=List.eq_nil_of_length_eq_zero (by rw[length_bytesN];exact hk0);have HB:Hid (Blk w8 m (rowV .u8 (Pz++((((K.take i).map bytesN).flatten++bytesN k)++(List.replicate (tot-co-k.size) 0++[]))))):=qq (by rw[hbk,List.append_nil,hk0,Nat.sub_zero];exact hm8);have Hk0:=qq hk0;clear hm8 k8 hPz hos hrow hPl hQl hsp hrl K8 hrv8 hkc8 hEnd hk0 hbk hc2;go_wp2_with fail
     go_roundw
     case rel=>
      obtain⟨g1,g2,g3⟩:=HE.out w8 (Keep.refl _ _) HB.out;exact⟨i+1,g1,by simp,by rw[g2,Hk0.out];simp,g3⟩
     case measure=>simp[intOf];omega
    ·have hcp:=fun ty=>run_copy_from (P:=Tryz.prog) hm8 30 30 ty 5 c2 (tl-c2) (tl-c2) ak k.size kcap (rowV .u8 (bytesN k)) Tryz.underlying30 size_u8t (by rw[length_rowV,length_bytesN];show k.size=min _ _;omega) (fun j v hj=>by
       unfold rowV at hj;rw[List.getElem?_map]at hj;obtain⟨x,hx,rfl⟩:=Option.map_eq_some_iff.1 hj;exact hkc8 j x hx) (by rw[length_rowV,length_rowV,length_bytesN,hrl];omega) (one_rowV _ _)
     rw[length_rowV,length_bytesN]at hcp;have hm9:=hm8.setCells (o:=c2) (vs:=rowV .u8 (bytesN k)) (by rw[length_rowV,length_rowV,length_bytesN,hrl];omega);rw[<-rowV_splice,hsp]at hm9;have HB:=qq hm9;clear hm8 k8 hPz hos hrow hPl hQl hsp hrl K8 hrv8 hkc8 hEnd hm9 hc2;go_wp2_with fail
     go_roundw
     case rel=>
      obtain⟨g1,g2,g3⟩:=HE.out _ (Keep.setCells (by simp) (Keep.refl _ _)) HB.out;exact⟨i+1,g1,by simp,by rw[g2];simp,g3⟩
     case measure=>simp[intOf];omega
   ·have hie:i=n:=by omega
    subst hie;have hlti:¬(i:Int)<(i:Int):=by omega
    have hkt:K.take i=K:=List.take_of_length_le (by have:=Hn.out;omega);have hot:(offsL 0 (K.map (·.size))).take i=offsL 0 (K.map (·.size)):=List.take_of_length_le (by have:=Hn.out;rw[length_offsL];simp;omega);have Hk:=qq2 hkt hot;clear hkt hot;go_wp2_with fail
    refine(writeHdrC m pp _ _ co sz [] _ (List.replicate (qn-m1) 0) _ _ HR.out.2.1 (by have:=Hn.out;have:=Hp.out;simp[length_offsL];rw[Nat.min_eq_left (by omega)];omega) (by rw[List.length_replicate];have:=Hp.out.2.2.1;omega) hz1 hz4 (by omega) (by omega)).mono ?_;rintro e w8 ⟨rfl,k8,hm8⟩;have K8:Keep [] w w8:=HR.out.1.trans k8 (by simp;omega);obtain⟨r,L,hgr,hvr,hrb,htk,hle,hmxl⟩:∃r L,g=[r]/\v=.slice (some ⟨r,0,none⟩) bs.length L.length/\Blk w r (rowV .u8 L)/\L.take bs.length=bs/\bs.length<=L.length/\L.length<=maxLen:=by
     rcases H.out.2.1 with⟨_,_,h⟩|h
     ·exact absurd h hbs
     ·exact h
    have hb1:=H.out.1;rw[hvr]at hb1;have hbr:b≠r:=by have:=H.out.2.2.2.2.2.2;rw[hgr]at this;simpa using this
    have hRm:BufRoom w b r _ bs L:=⟨lr,hb1,hrb,htk,hle,hmxl,hbr⟩;have hBy:Calls Tryz.prog 58 #[.pointer (some ⟨b,0,none⟩)] w8.drew fun e w'=>e=.returned (.slice (some ⟨r,0,none⟩) bs.length L.length)/\Keep [] w8.drew w':=bytesC b r _ bs L _ (hRm.keep K8.drew (by simp) (by simp));have c48:w8.cell? ⟨b,4,none⟩=some (.slice ao i dc):=(H.out.1.keep K8 (by simp)).cell rfl;have hrv8:=HR.out.2.2.keep k8 (by simp;omega);have hro:r ∈ own:=H.out.2.2.2.2.1 r (by rw[H.out.2.2.2.1,hgr];simp);have HZ:=qq6 hm8 K8 hrv8 hrb htk hro;have hbw:¬b=w.heap.size:=by omega
    have hwb:¬w.heap.size=b:=by omega
    clear hm8 k8 K8 hgr hvr hrb htk hle hmxl hb1 hbr hRm hrv8 hro;go_wp2_with fail
    go_region_held3 (fun w'=>w'.cell? ⟨b,4,none⟩=some (.slice ao i dc)) (go_keep) (first|(go_at_call 58;refine hBy.mono ?_;rintro e w9 ⟨rfl,k9⟩;have c49:w9.cell? ⟨b,4,none⟩=some (.slice ao i dc):=k9.cell_some c48 (by simp);have hrv9:=HZ.out.2.2.1.drew.keep k9 (by simp);have r0:=hrv9.cell (i:=0) rfl;have r1:=hrv9.cell (i:=1) rfl;have r2:=hrv9.cell (i:=2) rfl;have g0:=hrv9.frozen 0;have g1:=hrv9.frozen 1;have g2:=hrv9.frozen 2;have H9:=qq2 k9 hrv9;clear k9 hrv9))
    have hfin:Blk (((w9.setCell ⟨w.heap.size,0,none⟩ (.slice (some ⟨r,0,none⟩) bs.length L.length)).setCell ⟨w.heap.size,1,none⟩ (.slice (some ⟨m,0,none⟩) tl tl)).setCell ⟨w.heap.size,2,none⟩ (.slice ao i dc)) w.heap.size [.slice (some ⟨r,0,none⟩) bs.length L.length,.slice (some ⟨m,0,none⟩) tl tl,.slice ao i dc]:=
     ((H9.out.2.set 0 _).set 1 _).set 2 _
    have Kf:Keep [w.heap.size] w8 (((w9.setCell ⟨w.heap.size,0,none⟩ (.slice (some ⟨r,0,none⟩) bs.length L.length)).setCell ⟨w.heap.size,1,none⟩ (.slice (some ⟨m,0,none⟩) tl tl)).setCell ⟨w.heap.size,2,none⟩ (.slice ao i dc)):=
     (((((Keep.refl [] w8).drew.trans H9.out.1 (by simp)).nil).set (by simp) _ _ _).set (by simp) _ _ _).set (by simp) _ _ _
    generalize((w9.setCell ⟨w.heap.size,0,none⟩ (.slice (some ⟨r,0,none⟩) bs.length L.length)).setCell ⟨w.heap.size,1,none⟩ (.slice (some ⟨m,0,none⟩) tl tl)).setCell ⟨w.heap.size,2,none⟩ (.slice ao i dc)=wz at hfin Kf ⊢;obtain⟨z0,z1,z2⟩:=hfin.c3 0 1 2 rfl rfl rfl;have HF:=qq2 hfin Kf;clear hfin Kf r0 r1 r2 g0 g1 g2 c49 c48;go_wp2;have hrow:[]++(([hb]++leBytes sz i++tabB sz ((offsL 0 (K.map (·.size))).take i)++leBytes sz co)++((List.replicate (qn-m1) 0).drop sz++(((K.take i).map bytesN).flatten++List.replicate (tot-co) 0)))=metaB so K tot:=by
     obtain⟨hkt,hot⟩:=Hk.out;obtain⟨e1,e2,e3,e4⟩:=Hp.out;rw[hkt]at e4;rw[hkt,hot,List.drop_replicate,show qn-m1-sz=0 by rw[Hq.out.1,e1,Nat.succ_mul];omega,e4,(HC.out.2.2.2:hb=_),Hm.out.2,Hm.out.1];unfold metaB;rw[<-Hn.out,tabB_append];simp[tabB,List.append_assoc]
    have hl:(metaB so K tot).length=tl:=by
     unfold metaB;rw[<-Hn.out,<-Hm.out.1,<-Hm.out.2];simp only[List.length_cons,List.length_append,length_leBytes,length_tabB,length_offsL,List.length_map,length_bytesK,List.length_replicate,List.length_nil,Nat.zero_add];rw[<-Hn.out,<-Hq.out.1];have:=Hq.out.2;omega
    refine bodyPost_ret (v:=.tuple #[.agg #[.slice (some ⟨r,0,none⟩) bs.length L.length,.slice (some ⟨m,0,none⟩) tl tl,.slice ao i dc],.nilIface]) ?_ rfl ⟨so,r,m,tl,L,ao,i,dc,by rw[hl],?_,by omega,?_,?_,HZ.out.2.2.2.2.1,HZ.out.2.2.2.2.2⟩
    ·rw[results_cell_tmp rfl];go_simp
    ·exact HZ.out.2.1.trans HF.out.2 (by simp)
    ·rw[<-hrow];exact HZ.out.1.keep HF.out.2 (by simp;omega)
    ·exact(HZ.out.2.2.2.1.keep HZ.out.2.1 (by simp)).keep HF.out.2 (by have:=H.out.2.2.2.2.2.1 _ HZ.out.2.2.2.2.2;simp;omega)
end Go.Proofs.YtocgdgmfnockiaaGreatDoor
