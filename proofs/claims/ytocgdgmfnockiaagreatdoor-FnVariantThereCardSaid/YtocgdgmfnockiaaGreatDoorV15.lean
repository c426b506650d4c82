/- Variants: Reset. Variants: copied; a Value's bytes. Variants: impl.VariantBuild. -/
import Derived.Test.YtocgdgmfnockiaaGreatDoorV14
import Derived.Deep.RegionHeld3
set_option linter.unusedVariables false
set_option linter.unusedSimpArgs false
set_option maxRecDepth 100000
set_option maxHeartbeats 8000000
namespace Go.Proofs.YtocgdgmfnockiaaGreatDoor
open Go.RowKit
theorem DictAt.row {w:World} {wr own mB kB:List Nat} {mv dv:Value} {K:List ByteArray} (h:DictAt w wr own mB kB mv dv K):
  (kB=[]/\dv=.slice none 0 0/\K=[])\/∃gk c cs,kB=[gk]/\dv=.slice (some ⟨gk,0,none⟩) K.length c/\Blk w gk cs/\cs.length=c/\K.length<=c:=by
 rcases h with⟨rfl,rfl,rfl,rfl,rfl⟩|⟨m,D,vs,_,_,_,_,hO,hl,_,_⟩
 ·exact .inl ⟨rfl,rfl,rfl⟩
 ·rcases hO with⟨rfl,rfl,rfl⟩|⟨g,c,cs,rfl,rfl,h1,h2,h3,h4⟩
  ·exact .inl ⟨rfl,rfl,List.eq_nil_of_length_eq_zero (by rw[<-hl];rfl)⟩
  ·exact .inr ⟨g,c,cs,rfl,by rw[hl],h1,by simpa using h2,by rw[<-hl];exact h4⟩
theorem resetB (b tot:Nat) (own:List Nat) (K:List ByteArray) (bs:List Nat) (w:World) (h:Bld w b own K bs tot) (hK:K.length<=1000):
  Calls Tryz.prog 19 #[.pointer (some ⟨b,0,none⟩)] w fun e w'=>e=.returned (.tuple #[])/\∃own',Bld w' b own' [] [] tot/\Own2 w w' own own':=by
 obtain⟨wr,g,mB,kB,mv,dv,hBA,hD,h5,h6,h7,hw,hlt⟩:=h;have hrow:=hD.row;obtain⟨n,hn⟩:∃n,n=K.length:=⟨_,rfl⟩;obtain⟨ao,dc,rfl,hdc⟩:∃ao dc,dv=.slice ao n dc/\n<=dc:=by
  rcases hrow with⟨_,rfl,rfl⟩|⟨gk,c,cs,_,rfl,_,_,hle⟩
  ·exact⟨none,0,by rw[hn];rfl,by rw[hn];simp⟩
  ·exact⟨_,c,by rw[hn],by omega⟩
 have H:=qq7 hBA hrow h5 h6 hw hlt hn;have hn1:n<=1000:=by omega
 have hmm:=@run_makeMap Tryz.prog;clear hBA hD h5 h6 h7 hw hlt hrow hn
 go_enter Tryz.func19,Tryz.ntmps19
 go_wp2_with fail
 refine(resetC b g _ bs _ H.out.1).mono ?_;rintro e w1 ⟨rfl,⟨v1,lr1,q1,q2,q3⟩,k1⟩;have f3:=q1.frozen 3;have f4:=q1.frozen 4;have c3:w1.cell? ⟨b,3,none⟩=some mv:=q1.cell rfl;have HQ:=qq4 q1 q2 q3 k1;clear q2 q3 k1;have c4:w1.cell? ⟨b,4,none⟩=some (.slice ao n dc):=q1.cell rfl;have hbl1:b<w1.heap.size:=q1.lt;clear q1;go_wp2_with fail
 have hb2:Blk ((w1.setCell ⟨b,3,none⟩ (.map (some w1.heap.size))).alloc (.map #[] 0)) b (v1::.int .i64 0::.int .i8 lr1::[.map (some w1.heap.size),.slice ao n dc,.int .i64 (tot:Int),.bool false]):=(HQ.out.1.set 3 _).alloc _;have K2:Keep [b] w1 ((w1.setCell ⟨b,3,none⟩ (.map (some w1.heap.size))).alloc (.map #[] 0)):=((Keep.refl _ w1).set (by simp) _ _ _).alloc _;have hmp:((w1.setCell ⟨b,3,none⟩ (.map (some w1.heap.size))).alloc (.map #[] 0)).ownsMap Tryz.prog 9 (plainElem Tryz.prog 70) w1.heap.size 0 (.map []:DataW Unit):=by
  have:=World.ownsMap_made (H:=Unit) (w1.setCell ⟨b,3,none⟩ (.map (some w1.heap.size))) Tryz.prog 9 (plainElem Tryz.prog 70);simpa using this
 generalize(w1.setCell ⟨b,3,none⟩ (.map (some w1.heap.size))).alloc (.map #[] 0)=w2 at hb2 K2 hmp ⊢;have hls:w1.heap.size<w2.heap.size:=by obtain⟨es,clock,hh,_⟩:=hmp;exact(Array.getElem?_eq_some_iff.1 hh).1
 generalize hm:w1.heap.size=m at hb2 hmp hls;have hgk:kB=[]/\n=0/\ao=none/\dc=0\/∃gk cs,kB=[gk]/\ao=some ⟨gk,0,none⟩/\Blk w2 gk cs/\cs.length=dc:=by
  rcases H.out.2.1 with⟨h1,h2,h3⟩|⟨gk,c,cs,h1,h2,h3,h4,_⟩
  ·injection h2 with e1 e2 e3
   exact .inl ⟨h1,by rw[H.out.2.2.2.2.2.2,h3];rfl,e1,e3⟩
  ·injection h2 with e1 e2 e3
   have hwr:=H.out.2.2.1;have hnd:=H.out.2.2.2.1;rw[hwr,h1]at hnd;have hbg:gk≠b:=by intro e;subst e;simp at hnd
   exact .inr ⟨gk,cs,h1,e1,(h3.keep HQ.out.2.2.2 (by simpa using hbg)).keep K2 (by simpa using hbg),by omega⟩
 have hs1:w.heap.size<=m:=by rw[<-hm];exact HQ.out.2.2.2.size
 have hbk:b ∉ kB:=fun hh=>by
  have hwr:=H.out.2.2.1;have hnd:=H.out.2.2.2.1;rw[hwr]at hnd;simp[hh]at hnd
 have HL:=qq5 hb2 K2 hmp hgk hbk;clear hb2 K2 hmp hgk c3 c4 f3 f4 hm
 go_loopw [16] (fun iv wr=>∃k:Nat,k<=n/\iv=.int .i64 (k:Int)/\Hid (Keep kB w2 wr/\(kB=[]/\n=0/\ao=none/\dc=0\/∃gk cs,kB=[gk]/\ao=some ⟨gk,0,none⟩/\Blk wr gk cs/\cs.length=dc))) (fun i _=>n-(intOf i).toNat)
 case atStart=>exact⟨0,Nat.zero_le _,rfl,Lib.hid ⟨Keep.refl _ _,HL.out.2.2.2.1⟩⟩
 case round=>
  obtain⟨k,hk,rfl,HR⟩:=hrel;have c4:wr.cell? ⟨b,4,none⟩=some (.slice ao n dc):=(HL.out.1.keep HR.out.1 HL.out.2.2.2.2).cell rfl;by_cases hlt:k<n
  ·have hlti:(k:Int)<(n:Int):=by omega
   obtain⟨gk,cs,e1,rfl,hb,hl⟩:∃gk cs,kB=[gk]/\ao=some ⟨gk,0,none⟩/\Blk wr gk cs/\cs.length=dc:=by
    rcases HR.out.2 with⟨_,h,_⟩|h
    ·omega
    ·exact h
   obtain⟨u,hu⟩:∃u,cs[k]?=some u:=⟨_,List.getElem?_eq_getElem (by omega)⟩;have d0:=hb.cell hu;have f0:=hb.frozen k;have HB:=qq3 hb hl e1;clear hb hl hu;go_wp2_with fail
   go_roundw
   case rel=>
    obtain⟨hb,hl,e1⟩:=HB.out;exact⟨k+1,hlt,by simp,Lib.hid ⟨HR.out.1.set (by rw[e1];simp) _ _ _,.inr ⟨gk,_,e1,rfl,hb.set k _,by simpa using hl⟩⟩⟩
   case measure=>simp[intOf];omega
  ·have hlti:¬(k:Int)<(n:Int):=by omega
   have f4:wr.frozen? ⟨b,4,none⟩=false:=(HL.out.1.keep HR.out.1 HL.out.2.2.2.2).frozen 4;go_wp2;go_end0;obtain⟨hBA,hrow,h5,h6,hw,hlt,hn⟩:=H.out;obtain⟨q1,q2,q3,k1⟩:=HQ.out;obtain⟨hb2,K2,hmp,-,hbk⟩:=HL.out;obtain⟨kr,hkk⟩:=HR.out;rw[h5]at h6;simp only[List.nodup_cons,List.nodup_append,List.mem_append,not_or]at h6;obtain⟨⟨a1,a2,a3⟩,a4,⟨a5,a6,a7⟩,a8⟩:=h6;have hgo:∀x ∈ g,x ∈ own:=fun x hx=>hw x (by rw[h5];simp[hx]);have hko:∀x ∈ kB,x ∈ own:=fun x hx=>hw x (by rw[h5];simp[hx]);have hbo:b ∈ own:=hw b (by rw[h5];simp);have hgk:∀x ∈ g,x ∉ kB:=fun x hx hh=>a8 x hx x (.inr hh) rfl;have hmo:m ∉ own:=fun hh=>by have:=hlt m hh;omega
   have hbr:=(hb2.keep kr hbk).set 4 (.slice ao 0 dc);have hgb:∀x ∈ g,x ∉ [b]:=fun x hx=>by simp;intro e;exact q3 (e▸hx)
   have hq:=(((q2.keep K2 hgb).keep kr hgk).keep ((Keep.refl [b] wr).set (b:=b) (by simp) 4 none (.slice ao 0 dc)) hgb);have hmk:m ∉ kB:=fun hh=>hmo (hko m hh);have hmr:=ownsMap_keep (ownsMap_keep hmp kr hmk) ((Keep.refl [b] wr).set (b:=b) (by simp) 4 none (.slice ao 0 dc)) (by simp;intro e;exact hmo (e▸hbo));have KK:Keep own w (wr.setCell ⟨b,4,none⟩ (.slice ao 0 dc)):=(((k1.trans K2 (fun x hx=>.inl hx)).weaken (S':=own) (fun x hx=>by simp at hx;subst hx;exact .inl hbo)).trans kr (fun x hx=>.inl (hko x hx))).set (.inl hbo) _ _ _;refine⟨rfl,m::own,⟨b::(g++([m]++kB)),g,[m],kB,.map (some m),.slice ao 0 dc,⟨v1,lr1,hbr,hq,q3⟩,.inr ⟨m,.map [],[],rfl,rfl,hmr,DictIs.nil,?_,rfl,trivial,by simp⟩,rfl,?_,by simp,?_,?_⟩,KK,fun x hx=>?_⟩
   ·rcases hkk with⟨e1,_,e2,e3⟩|⟨gk,cs,e1,e2,e3,e4⟩
    ·rw[e2,e3];exact .inl ⟨e1,rfl,rfl⟩
    ·rw[e2];exact .inr ⟨gk,dc,cs,e1,rfl,e3.set_other (by intro e;exact hbk (by rw[e1];simp[e])) _ _ _,by simpa using e4,by simp,by simp⟩
   ·simp only[List.nodup_cons,List.nodup_append,List.mem_append,List.mem_singleton,List.not_mem_nil,not_or,not_false_eq_true,List.nodup_nil,true_and];refine⟨⟨q3,by intro e;exact hmo (e▸hbo),hbk⟩,a4,⟨a6,fun a ha x hx e=>by subst ha e;exact hmk hx⟩,fun a ha x hx e=>?_⟩;subst e;rcases hx with hx|hx
    ·subst hx;exact hmo (hgo _ ha)
    ·exact hgk _ ha hx
   ·intro x hx;rw[List.mem_cons,List.mem_append,List.mem_append,List.mem_singleton]at hx;rw[List.mem_cons];rcases hx with rfl|hx|rfl|hx
    ·exact .inr hbo
    ·exact .inr (hgo x hx)
    ·exact .inl rfl
    ·exact .inr (hko x hx)
   ·intro x hx;rw[List.mem_cons]at hx;have:=KK.size;have:=kr.size;rcases hx with rfl|hx
    ·simp;omega
    ·have:=hlt x hx;omega
   ·rw[List.mem_cons]at hx;rcases hx with rfl|hx
    ·exact .inr hs1
    ·exact .inl hx
def cfB (x:Nat):List Value:=[.int .u8 (x:Int)]
theorem flatMap_cfB (l:List Nat):l.flatMap cfB=rowV .u8 l:=by
 induction l with
 |nil=>rfl
 |cons x l ih=>rw[List.flatMap_cons,ih];rfl
theorem copiedC (a:Addr) (n cap:Nat) (D:List Nat) (w:World) (hl:D.length=n) (hn0:0<n) (hn:n<=100000000) (hD:∀(j x:Nat),D[j]?=some x->w.cell? (a.add j)=some (.int .u8 (x:Int))):
  Calls Tryz.prog 20 #[.slice (some a) n cap] w fun e w'=>∃g c cs,e=.returned (.slice (some ⟨g,0,none⟩) n c)/\Keep [] w w'/\w.heap.size<=g/\Blk w' g cs/\cs.length=c/\cs.take n=rowV .u8 D/\n<=c:=by
 have hb0:Blk (w.alloc (.cells #[] 5)) w.heap.size []:=Blk.new w [] _;have K0:Keep [] w (w.alloc (.cells #[] 5)):=(Keep.refl [] w).alloc _;have hO:OwnC cfB 1 [w.heap.size] (w.alloc (.cells #[] 5)) (.slice (some ⟨w.heap.size,0,none⟩) 0 0) []:=.inr ⟨w.heap.size,0,[],rfl,rfl,hb0,rfl,rfl,Nat.le_refl _⟩;have hsrc:Src Tryz.prog 1 30 (.slice (some a) n cap) D.length (D.flatMap cfB) (w.alloc (.cells #[] 5)):=by
  rw[hl];refine Src.ofSlice _ Tryz.underlying30 a n cap _ (by rw[flatMap_cfB,length_rowV,hl,Nat.mul_one]) (fun j u hj=>?_) (by rw[flatMap_cfB];exact one_rowV _ _);rw[flatMap_cfB]at hj;unfold rowV at hj;rw[List.getElem?_map]at hj;obtain⟨x,hx,rfl⟩:=Option.map_eq_some_iff.1 hj;exact K0.cell_some (hD j x hx) (by simp)
 obtain⟨i0,hi0,hz0,hz1,hz2⟩:=info_parts info_u8;have hlb:(([]:List Nat).length+D.length)*1<=140737488355328:=by rw[hl];simp;omega
 have hl6:([]:List Nat).length+D.length<=1000000000000:=by rw[hl];simp;omega
 have H:=qq2 K0 hl;clear hb0 K0 hl hD
 go_enter Tryz.func20,Tryz.ntmps20
 go_wp2_with(at_builtin;refine wpList_append_ownC (cf:=cfB) (fun _=>rfl) (by decide) rfl _ _ 30 5 rfl i0 1 Tryz.underlying30 hi0 ⟨_,hz0,rfl⟩ hz1 hz2 rfl hO _ D rfl hsrc hlb hl6 ?_;intro v' wc G' hO4 k4 hG4;refine halt ?_)
 have H2:=qq3 hO4 k4 hG4;clear hO4 k4 hG4 hO hsrc hlb hl6 hz0 hz1 hz2;refine Lib.hid ?_;go_wp2;go_ret;obtain⟨hO4,k4,hG4⟩:=H2.out;obtain⟨K0,hl⟩:=H.out;rw[List.nil_append]at hO4;rcases hO4 with⟨_,_,h⟩|⟨g,c,cs,rfl,rfl,h1,h2,h3,h4⟩
 ·rw[h]at hl;simp at hl;omega
 ·refine⟨g,c,cs,by rw[hl];rfl,K0.trans k4 (by simp),?_,h1,by simpa using h2,?_,by omega⟩
  ·have:=K0.size;rcases hG4 g (by simp)with h|h
   ·simp at h;omega
   ·exact Nat.le_trans this h
  ·rw[<-flatMap_cfB,<-h3,hl,Nat.mul_one]
theorem valMetaC (a0 a1 a2:Option Addr) (l0 c0 l1 c1 l2 c2:Nat) (w:World):Calls Tryz.prog 21 #[.agg #[.slice a0 l0 c0,.slice a1 l1 c1,.slice a2 l2 c2]] w fun e w'=>e=.returned (.agg #[.slice a1 l1 c1,.slice a2 l2 c2])/\Keep [] w w':=by
 go_enter Tryz.func21,Tryz.ntmps21
 go_wp2;refine bodyPost_ret (v:=.agg #[.slice a1 l1 c1,.slice a2 l2 c2]) ?_ rfl ⟨rfl,?_⟩
 ·rw[results_cell1 rfl];go_simp
 ·exact((Keep.refl [] w).alloc _).alloc _
theorem metaBytesC (a1 a2:Option Addr) (l1 c1 l2 c2:Nat) (w:World):Calls Tryz.prog 22 #[.agg #[.slice a1 l1 c1,.slice a2 l2 c2]] w fun e w'=>e=.returned (.slice a1 l1 c1)/\Keep [] w w':=by
 go_enter Tryz.func22,Tryz.ntmps22
 go_wp2;go_ret;exact⟨rfl,(Keep.refl [] w).alloc _⟩
theorem valBytesC (a0 a1 a2:Option Addr) (l0 c0 l1 c1 l2 c2:Nat) (w:World):Calls Tryz.prog 23 #[.agg #[.slice a0 l0 c0,.slice a1 l1 c1,.slice a2 l2 c2]] w fun e w'=>e=.returned (.slice a0 l0 c0)/\Keep [] w w':=by
 go_enter Tryz.func23,Tryz.ntmps23
 go_wp2;go_ret;exact⟨rfl,(Keep.refl [] w).alloc _⟩

theorem only_normal {P:Program} {c:Code} {K:Act->World->Prop} {Q':Exit->Act->World->Prop} {a:Act} {w:World} (h:c.wp P (Exit.then K (fun _ _ _=>False)) a w):c.wp P (Exit.then K Q') a w:=
 Code.wp_mono (fun e a w hq=>by cases e<;>first|exact hq|exact hq.elim) h
theorem setDupC (b:Nat) (cs:List Value) (w:World) (h:Blk w b cs) (hc:cs[6]?=some (.bool false)):Calls Tryz.prog 16 #[.pointer (some ⟨b,0,none⟩),.bool false] w fun e w'=>e=.returned (.tuple #[])/\w'=w.setCell ⟨b,6,none⟩ (.bool false):=by
 have c6:=h.cell hc;have f6:=h.frozen 6
 go_enter Tryz.func16,Tryz.ntmps16
 go_wp2;go_end0;exact⟨rfl,rfl⟩
theorem noBytes_idle (a0 a1 a2:Addr) (w:World):
  CallsD Tryz.prog 15 #[.pointer (some a0),.pointer (some a1),.pointer (some a2)] .returning w fun e u' w'=>e=.returned (.tuple #[])/\u'=.returning/\w'=w:=by
 refine callsD_of_wpS Tryz.func15 rfl fun c₀ cs hu=>?_;apply wpS_seq;apply wpS_region;simp[wpOpsS,go_sem,recoverD,hu,Tryz.ntmps15,Exit.thenS];refine wpS_cond (t:=false) (by simp[Act.eval,Array.replicate]) ?_;simp only[Bool.false_eq_true,if_false];refine wpS_of_wp (wp_skip ?_);cases c₀
 simp_all [bodyPostS,results,Tryz.results15]
theorem primB_ne (kind scale:Int) (num:Nat) (text:ByteArray):primB kind scale num text≠[]:=by
 have h:∀{c:Prop} [Decidable c] {a b:List Nat},a≠[]->b≠[]->(if c then a else b)≠[]:=fun ha hb=>by split<;>assumption
 unfold primB encI encStr encBin
 repeat' refine h ?_ ?_
 all_goals simp
theorem encV_ne:∀(d:Nat) (F:List ByteArray) (x:Vt d),OkV d x->encV d F x≠[]
 |0,_,_,h=>h.elim
 |d+1,F,x,h=>by
  show encN F (encV d F) x≠[]
  unfold encN objHdr arrHdr;split
  ·simp
  ·split
   ·simp
   ·exact primB_ne _ _ _ _
theorem szK_le (K:List ByteArray) (h:∀k ∈ K,k.size<=200):szK K<=200*K.length:=by
 induction K with
 |nil=>simp[szK]
 |cons k K ih=>
  have h1:=h k (by simp);have h2:=ih (fun x hx=>h x (by simp[hx]));simp[szK]at h2 ⊢;omega
theorem length_metaB (so:Bool) (K:List ByteArray) (tot:Nat):(metaB so K tot).length<=1+4+(K.length+1)*4+szK K+(tot-szK K):=by
 have h1:=sizeW_le (max tot K.length);have h2:(K.length+1)*sizeW (max tot K.length)<=(K.length+1)*4:=Nat.mul_le_mul_left _ h1;unfold metaB;simp only[List.length_cons,List.length_append,length_leBytes,length_tabB,length_offsL,List.length_map,length_bytesK,List.length_replicate,List.length_nil,Nat.zero_add];omega
theorem addK_keys {K:List ByteArray} {k:ByteArray} (hK:∀x ∈ K,x.size<=200) (hk:k.size<=200):∀x ∈ addK K k,x.size<=200:=by
 unfold addK;split
 ·exact hK
 ·intro x hx;rw[List.mem_append,List.mem_singleton]at hx;rcases hx with hx|rfl
  ·exact hK x hx
  ·exact hk
theorem addKV_keys {α:Type} {f:List ByteArray->α->List ByteArray}:∀(ks:List ByteArray) (cs:List α) (K:List ByteArray),(∀c ∈ cs,∀K,(∀x ∈ K,x.size<=200)->∀x ∈ f K c,x.size<=200)->(∀k ∈ ks,k.size<=200)->(∀x ∈ K,x.size<=200)->∀x ∈ addKV f K ks cs,x.size<=200
 |[],_,K,_,_,h=>by simpa[addKV]using h
 |_::_,[],K,_,_,h=>by simpa[addKV]using h
 |k::ks,c::cs,K,hf,hk,h=>by
  rw[addKV];exact addKV_keys ks cs _ (fun y hy=>hf y (by simp[hy])) (fun x hx=>hk x (by simp[hx])) (hf c (by simp) _ (addK_keys h (hk k (by simp))))
theorem foldl_keys {α:Type} {f:List ByteArray->α->List ByteArray}:∀(cs:List α) (K:List ByteArray),(∀c ∈ cs,∀K,(∀x ∈ K,x.size<=200)->∀x ∈ f K c,x.size<=200)->(∀x ∈ K,x.size<=200)->∀x ∈ cs.foldl f K,x.size<=200
 |[],K,_,h=>by simpa using h
 |c::cs,K,hf,h=>by
  rw[List.foldl_cons];exact foldl_keys cs _ (fun y hy=>hf y (by simp[hy])) (hf c (by simp) _ h)
theorem addV_keys:∀(d:Nat) (x:Vt d),OkV d x->∀K,(∀k ∈ K,k.size<=200)->∀k ∈ addV d K x,k.size<=200
 |0,_,h,_,_=>h.elim
 |d+1,x,h,K,hK=>by
  have hx:OkN (OkV d) x:=h;have hkids:∀c ∈ Node.kids x,∀K,(∀k ∈ K,k.size<=200)->∀k ∈ addV d K c,k.size<=200:=fun c hc K hK=>addV_keys d c (hx.kids c hc) K hK;show ∀k ∈ addN (addV d) K x,k.size<=200
  unfold addN;split
  ·exact addKV_keys _ _ K hkids hx.keyLe hK
  ·split
   ·exact foldl_keys _ K hkids hK
   ·exact hK

def Copied (w w':World) (g n c:Nat) (D:List Nat):Prop:=n=D.length/\w.heap.size<=g/\n<=c/\∃cs,Blk w' g cs/\cs.length=c/\cs.take n=rowV .u8 D
theorem variantBuildC (d:Nat) (x:Vt d) (v:Value) (again:Bool) (w:World) (hv:VtAt d w v x) (hok:OkV d x) (hwt:wtV d x<=20000) (hK:(addV d [] x).length<=49):
  Calls Tryz.prog 7 #[v,.bool again,.bool false] w fun e w'=>∃(g1 n1 c1 g2 n2 c2:Nat) (so:Bool) (tot:Nat),e=.returned (.tuple #[.slice (some ⟨g1,0,none⟩) n1 c1,.slice (some ⟨g2,0,none⟩) n2 c2,.bool true])/\Keep [] w w'/\
   szK (addV d [] x)<=tot/\tot<=2*szK (addV d [] x)/\Copied w w' g1 n1 c1 (metaB so (addV d [] x) tot)/\Copied w w' g2 n2 c2 (encV d (addV d [] x) x):=by
 obtain⟨vk,vs,vn,vt,va1,va2,vl1,vc1,vl2,vc2,hvv⟩:∃(k s:Int) (n:Nat) (t:ByteArray) (a1 a2:Option Addr) (l1 c1 l2 c2:Nat),v=.agg #[.int .i64 k,.int .u64 (n:Int),.int .i64 s,.string t,.slice a1 l1 c1,.slice a2 l2 c2]:=by
  cases d with
  |zero=>exact hv.elim
  |succ d=>
   obtain⟨kv,cv,he,⟨a1,c1,rfl,_⟩,⟨a2,c2,rfl,_⟩⟩:=hv;exact⟨_,_,_,_,_,_,_,_,_,_,he⟩
 subst hvv;have H:=qq2 hv hok;clear hv hok
 go_enter_defers Tryz.func7,Tryz.ntmps7
 go_wp2_with fail
 obtain⟨a,ha⟩:∃a,a=w.heap.size:=⟨_,rfl⟩;obtain⟨w4,hw4⟩:∃w4,w4=(((w.alloc (.cells #[.int .i64 vk,.int .u64 (vn:Int),.int .i64 vs,.string vt,.slice va1 vl1 vc1,.slice va2 vl2 vc2] 26)).alloc (.cells #[.slice none 0 0] 30)).alloc (.cells #[.slice none 0 0] 30)).alloc (.cells #[.bool false] 4):=⟨_,rfl⟩;have K4:Keep [] w w4:=by rw[hw4];exact((((Keep.refl [] w).alloc _).alloc _).alloc _).alloc _
 have hs4:w4.heap.size=a+4:=by rw[hw4,ha];simp
 have hx4:Blk w4 a [.int .i64 vk,.int .u64 (vn:Int),.int .i64 vs,.string vt,.slice va1 vl1 vc1,.slice va2 vl2 vc2]:=by rw[hw4];exact(((Blk.of_new (cs:=[.int .i64 vk,.int .u64 (vn:Int),.int .i64 vs,.string vt,.slice va1 vl1 vc1,.slice va2 vl2 vc2]) ha).alloc _).alloc _).alloc _
 have hp4:Blk w4 (a+1) [.slice none 0 0]:=by rw[hw4];exact((Blk.of_new (cs:=[.slice none 0 0]) (by simp[ha])).alloc _).alloc _
 have hq4:Blk w4 (a+2) [.slice none 0 0]:=by rw[hw4];exact(Blk.of_new (cs:=[.slice none 0 0]) (by simp[ha])).alloc _
 have hr4:Blk w4 (a+3) [.bool false]:=by rw[hw4];exact Blk.of_new (cs:=[.bool false]) (by simp[ha])
 rw[<-hw4];rw[<-ha,show a+1+1=a+2 from rfl,show a+2+1=a+3 from rfl,show a+3+1=a+4 from rfl];obtain⟨b,hb⟩:∃b,b=a+4:=⟨_,rfl⟩;rw[<-hb]at hs4 ⊢;obtain⟨w5,hw5⟩:∃w5,w5=w4.alloc (.cells #[.slice none 0 0,.int .i64 0,.int .i8 0,.map none,.slice none 0 0,.int .i64 0,.bool false] 48):=⟨_,rfl⟩;have hb5:Blk w5 b [.slice none 0 0,.int .i64 0,.int .i8 0,.map none,.slice none 0 0,.int .i64 0,.bool false]:=by rw[hw5];exact Blk.of_new (cs:=[.slice none 0 0,.int .i64 0,.int .i8 0,.map none,.slice none 0 0,.int .i64 0,.bool false]) hs4.symm
 have K5:Keep [] w4 w5:=by rw[hw5];exact(Keep.refl [] w4).alloc _
 rw[<-hw5];clear hw4 hw5;refine(setDupC b _ w5 hb5 rfl).mono ?_;rintro e w6 ⟨rfl,hw6⟩;have hb6:Blk w6 b [.slice none 0 0,.int .i64 0,.int .i8 0,.map none,.slice none 0 0,.int .i64 0,.bool false]:=by rw[hw6];exact hb5.set 6 (.bool false)
 have K6:Keep [] w4 w6:=by rw[hw6];exact K5.set (.inr (by omega)) _ _ _
 have hB6:Bld w6 b [b] [] [] 0:=⟨[b],[],[],[],.map none,.slice none 0 0,⟨.slice none 0 0,0,hb6,.inl ⟨rfl,rfl,rfl⟩,by simp⟩,.inl ⟨rfl,rfl,rfl,rfl,rfl⟩,rfl,by simp,by simp,by simp,by simp;exact hb6.lt⟩;obtain⟨F,hF⟩:∃F,F=addV d [] x:=⟨_,rfl⟩;obtain⟨E,hE⟩:∃E,E=encV d F x:=⟨_,rfl⟩;have hA:∀(wx:World) (own:List Nat) (tot:Nat),Keep [] w4 wx->Bld wx b own [] [] tot->(∀o ∈ own,w4.heap.size<=o)->tot<=200000000->
   Calls Tryz.prog 17 #[.pointer (some ⟨b,0,none⟩),.agg #[.int .i64 vk,.int .u64 (vn:Int),.int .i64 vs,.string vt,.slice va1 vl1 vc1,.slice va2 vl2 vc2]] wx fun e w'=>e=.returned .nilIface/\∃own' tot',Bld w' b own' F E tot'/\Own2 wx w' own own'/\tot'=tot+szK F:=fun wx own tot kk hB ho ht=>by
  refine(appendV d x _ w4 wx b tot own [] F [] (H.out.1.keep d K4) H.out.2 kk hB ho (by simp;omega) (by simp;omega) (by omega) (by rw[hF];exact List.prefix_refl _) (by rw[hF];exact hK)).mono ?_;rintro e w' ⟨rfl,own',tot',h1,h2,h3⟩;rw[<-hF,List.nil_append,<-hE]at h1;rw[<-hF]at h3;exact⟨rfl,own',tot',h1,h2,by simpa[szK]using h3⟩
 have hszF:szK F<=9800:=by
  have:=(addV_bounds d x H.out.2 []).2;have hk:∀k ∈ F,k.size<=200:=by rw[hF];exact addV_keys d x H.out.2 [] (by simp)
  have:szK F<=200*F.length:=szK_le F hk;rw[<-hF]at hK;omega
 have hBd:∀(wx:World) (own:List Nat) (tot:Nat),Keep [] w4 wx->Bld wx b own F E tot->szK F<=tot->tot<=1000000->Calls Tryz.prog 18 #[.pointer (some ⟨b,0,none⟩)] wx fun e w'=>∃(so:Bool) (r m mc:Nat) (L:List Nat) (ka:Option Addr) (kn kc:Nat),e=.returned (.tuple #[.agg #[.slice (some ⟨r,0,none⟩) E.length L.length,.slice (some ⟨m,0,none⟩) (metaB so F tot).length mc,.slice ka kn kc],.nilIface])/\
   Keep [] wx w'/\wx.heap.size<=m/\Blk w' m (rowV .u8 (metaB so F tot))/\Blk w' r (rowV .u8 L)/\L.take E.length=E/\r ∈ own:=fun wx own tot kk hB h1 h2=>
  buildC b tot own F E wx hB (by rw[hF];omega) h2 h1 (by rw[hE];exact encV_ne d F x H.out.2)
 have HE:=qq4 hF hE K4 ha;have H4:=qq6 hx4 hp4 hq4 hr4 hs4 hb;have HAB:=qq2 hA hBd;have H6:=qq2 K6 hB6;clear hF hE K4 ha hx4 hp4 hq4 hr4 hs4 hb hA hBd K6 hB6 hb6 hw6 K5 hb5
 go_upto_if 17 with(fail)
 go_cut []from 18 to 27 (fun wx=>∃own tot,tot<=szK F/\Hid (Keep [] w4 wx/\Bld wx b own [] [] tot/\∀o ∈ own,w4.heap.size<=o))
 case first=>
  cases again with
  |false=>
   go_wp2_with fail
   go_meet
   exact⟨[b],0,Nat.zero_le _,Lib.hid ⟨H6.out.1,H6.out.2,by simp;have:=H4.out.2.2.2.2.1;omega⟩⟩
  |true=>
   have c0:w6.cell? ⟨a,0,none⟩=some (.int .i64 vk):=(H4.out.1.keep H6.out.1 (by simp)).cell rfl;have c1:w6.cell? ⟨a,1,none⟩=some (.int .u64 (vn:Int)):=(H4.out.1.keep H6.out.1 (by simp)).cell rfl;have c2:w6.cell? ⟨a,2,none⟩=some (.int .i64 vs):=(H4.out.1.keep H6.out.1 (by simp)).cell rfl;have c3:w6.cell? ⟨a,3,none⟩=some (.string vt):=(H4.out.1.keep H6.out.1 (by simp)).cell rfl;have c4:w6.cell? ⟨a,4,none⟩=some (.slice va1 vl1 vc1):=(H4.out.1.keep H6.out.1 (by simp)).cell rfl;have c5:w6.cell? ⟨a,5,none⟩=some (.slice va2 vl2 vc2):=(H4.out.1.keep H6.out.1 (by simp)).cell rfl;have hA:=HAB.out.1 w6 [b] 0 H6.out.1 H6.out.2 (by simp;have:=H4.out.2.2.2.2.1;omega) (by omega);go_wp2_with fail
   refine hA.mono ?_;rintro e w7 ⟨rfl,o7,t7,hB7,hO7,ht7⟩;have ho6:∀o ∈ [b],w4.heap.size<=o:=by simp;have:=H4.out.2.2.2.2.1;omega
   have K7:=hO7.keep0 H6.out.1 ho6;have hBd:=HAB.out.2 w7 o7 t7 K7.1 hB7 (by omega) (by omega);have H7:=qq3 hB7 K7 ht7;clear hB7 hO7 K7 ht7 c0 c1 c2 c3 c4 c5 hA;go_wp2_with fail
   refine hBd.mono ?_;rintro e w8 ⟨so,r,m,mc,L,ka,kn,kc,rfl,k8,-⟩;have H8:=qq k8;clear k8 hBd;go_wp2_with fail
   refine(resetB b t7 o7 F E _ (H7.out.1.keep (H8.out.alloc _) (by simp)) (by have:=HE.out.1;rw[this];omega)).mono ?_;rintro e w9 ⟨rfl,o9,hB9,hO9⟩;have H9:=qq2 hB9 hO9;clear hB9 hO9;go_wp2_with fail
   go_meet
   obtain⟨hB9,hO9⟩:=H9.out;obtain⟨hB7,K7,ht7⟩:=H7.out;have K9:=hO9.keep0 (K7.1.trans (H8.out.alloc _) (by simp)) K7.2;exact⟨o9,t7,by omega,Lib.hid ⟨K9.1,hB9,K9.2⟩⟩
 case rest=>
  obtain⟨own,tot,htot,HR⟩:=hcut;have c0:wc.cell? ⟨a,0,none⟩=some (.int .i64 vk):=(H4.out.1.keep HR.out.1 (by simp)).cell rfl;have c1:wc.cell? ⟨a,1,none⟩=some (.int .u64 (vn:Int)):=(H4.out.1.keep HR.out.1 (by simp)).cell rfl;have c2:wc.cell? ⟨a,2,none⟩=some (.int .i64 vs):=(H4.out.1.keep HR.out.1 (by simp)).cell rfl;have c3:wc.cell? ⟨a,3,none⟩=some (.string vt):=(H4.out.1.keep HR.out.1 (by simp)).cell rfl;have c4:wc.cell? ⟨a,4,none⟩=some (.slice va1 vl1 vc1):=(H4.out.1.keep HR.out.1 (by simp)).cell rfl;have c5:wc.cell? ⟨a,5,none⟩=some (.slice va2 vl2 vc2):=(H4.out.1.keep HR.out.1 (by simp)).cell rfl;have hA:=HAB.out.1 wc own tot HR.out.1 HR.out.2.1 HR.out.2.2 (by omega);go_wp2_with fail
  refine hA.mono ?_;rintro e w7 ⟨rfl,o7,t7,hB7,hO7,ht7⟩;have K7:=hO7.keep0 HR.out.1 HR.out.2.2;have hBd:=HAB.out.2 w7 o7 t7 K7.1 hB7 (by omega) (by omega);have H7:=qq3 hB7 K7 ht7;clear hB7 hO7 K7 ht7 c0 c1 c2 c3 c4 c5 hA;go_wp2_with fail
  refine hBd.mono ?_;rintro e w8 ⟨so,r,m,mc,L,ka,kn,kc,rfl,k8,hm8,hb8,hr8,htk,hro⟩;have K8:Keep [] w4 w8:=H7.out.2.1.1.trans k8 (by simp);have hv9:Blk (w8.alloc (.cells #[.slice (some ⟨r,0,none⟩) E.length L.length,.slice (some ⟨m,0,none⟩) (metaB so F t7).length mc,.slice ka kn kc] 57)) w8.heap.size [.slice (some ⟨r,0,none⟩) E.length L.length,.slice (some ⟨m,0,none⟩) (metaB so F t7).length mc,.slice ka kn kc]:=Blk.new w8 _ _;have hb9:=hb8.alloc (.cells #[.slice (some ⟨r,0,none⟩) E.length L.length,.slice (some ⟨m,0,none⟩) (metaB so F t7).length mc,.slice ka kn kc] 57);have hr9:=hr8.alloc (.cells #[.slice (some ⟨r,0,none⟩) E.length L.length,.slice (some ⟨m,0,none⟩) (metaB so F t7).length mc,.slice ka kn kc] 57);have K9:Keep [] w4 (w8.alloc (.cells #[.slice (some ⟨r,0,none⟩) E.length L.length,.slice (some ⟨m,0,none⟩) (metaB so F t7).length mc,.slice ka kn kc] 57)):=K8.alloc _;have hn9:w4.heap.size<=w8.heap.size:=K8.size;obtain⟨n1,hn1⟩:∃n1,n1=(metaB so F t7).length:=⟨_,rfl⟩;obtain⟨n2,hn2⟩:∃n2,n2=E.length:=⟨_,rfl⟩;rw[<-hn1,<-hn2]at hv9 hb9 hr9 K9;rw[<-hn2]at htk;have HN:=qq3 hn1 hn2 htk;rw[<-hn1,<-hn2];clear hb8 hr8 k8 hBd hro hm8 K8 hn1 hn2 htk;go_wp2_with fail
  generalize w8.alloc (.cells #[.slice (some ⟨r,0,none⟩) n2 L.length,.slice (some ⟨m,0,none⟩) n1 mc,.slice ka kn kc] 57)=w9 at hv9 hb9 hr9 K9 ⊢;generalize w8.heap.size=vb at hv9 hn9 ⊢;obtain⟨z0,z1,z2⟩:=hv9.c3 0 1 2 rfl rfl rfl;have hD1:∀(j y:Nat),(metaB so F t7)[j]?=some y->w9.cell? ((⟨m,0,none⟩:Addr).add j)=some (.int .u8 (y:Int)):=fun j y hj=>by
   rw[add_at,Nat.zero_add];exact hb9.cell (rowV_get hj)
  have hD2:∀(j y:Nat),E[j]?=some y->w9.cell? ((⟨r,0,none⟩:Addr).add j)=some (.int .u8 (y:Int)):=fun j y hj=>by
   rw[add_at,Nat.zero_add];refine hr9.cell (rowV_get ?_);have:=HN.out.2.2;rw[<-this,List.getElem?_take]at hj;split at hj
   ·exact hj
   ·cases hj
  have hn1p:0<n1:=by rw[HN.out.1];unfold metaB;simp
  have hn2p:0<n2:=by rw[HN.out.2.1,HE.out.2.1];exact List.length_pos_iff.2 (encV_ne d F x H.out.2)
  have hn1l:n1<=100000000:=by
   have:=length_metaB so F t7;have h1:F.length<=49:=by rw[HE.out.1];exact hK
   have h2:=H7.out.2.2;rw[HN.out.1];omega
  have hn2l:n2<=100000000:=by rw[HN.out.2.1,HE.out.2.1];have:=length_encV d F x H.out.2;omega
  have HD:=qq4 hD1 hD2 hv9 K9;clear hD1 hD2 hb9 hr9 hv9 K9;have hav:∀j,j<4->vb≠a+j:=fun j hj=>by have:=H4.out.2.2.2.2.1;have:=H4.out.2.2.2.2.2;omega
  have ha1:¬a+1=vb:=fun e=>hav 1 (by omega) e.symm;have ha2:¬a+2=vb:=fun e=>hav 2 (by omega) e.symm;have ha3:¬a+3=vb:=fun e=>hav 3 (by omega) e.symm;clear hav
  go_region_held3 (fun w'=>w'.cell? ⟨vb,0,none⟩=some (.slice (some ⟨r,0,none⟩) n2 L.length)/\w'.cell? ⟨vb,1,none⟩=some (.slice (some ⟨m,0,none⟩) n1 mc)/\w'.cell? ⟨vb,2,none⟩=some (.slice ka kn kc)) (go_keep) (first
   |(go_at_call 21;refine(valMetaC _ _ _ _ _ _ _ _ _ _).mono ?_;rintro e wA ⟨rfl,kA⟩;have y0:=kA.cell_some (p:=⟨vb,0,none⟩) z0 (by simp);have y1:=kA.cell_some (p:=⟨vb,1,none⟩) z1 (by simp);have y2:=kA.cell_some (p:=⟨vb,2,none⟩) z2 (by simp);have HkA:=qq ((Keep.refl [] w9).drew.trans kA (by simp));clear kA)
   |(go_at_call 22;refine(metaBytesC _ _ _ _ _ _ _).mono ?_;rintro e wB ⟨rfl,kB⟩;have x0:=kB.cell_some (p:=⟨vb,0,none⟩) y0 (by simp);have x1:=kB.cell_some (p:=⟨vb,1,none⟩) y1 (by simp);have x2:=kB.cell_some (p:=⟨vb,2,none⟩) y2 (by simp);have HkB:=qq (HkA.out.trans kB (by simp));clear kB)
   |(go_at_call_of 20 (Value.slice (some ⟨m,0,none⟩) n1 mc);refine(copiedC ⟨m,0,none⟩ n1 mc (metaB so F t7) _ HN.out.1.symm hn1p hn1l (fun j y hj=>HkB.out.cell_some (HD.out.1 j y hj) (by simp))).mono ?_;rintro e wC ⟨g1,c1,cs1,rfl,kC,hC⟩;have v0:=kC.cell_some (p:=⟨vb,0,none⟩) x0 (by simp);have v1:=kC.cell_some (p:=⟨vb,1,none⟩) x1 (by simp);have v2:=kC.cell_some (p:=⟨vb,2,none⟩) x2 (by simp);have HkC:=qq2 (HkB.out.trans kC (by simp)) hC;clear kC hC)
   |(go_at_call 23;refine(valBytesC _ _ _ _ _ _ _ _ _ _).mono ?_;rintro e wE ⟨rfl,kE⟩;have u0:=kE.cell_some (p:=⟨vb,0,none⟩) v0 (by simp);have u1:=kE.cell_some (p:=⟨vb,1,none⟩) v1 (by simp);have u2:=kE.cell_some (p:=⟨vb,2,none⟩) v2 (by simp);have HkE:=qq kE;clear kE)
   |(go_at_call_of 20 (Value.slice (some ⟨r,0,none⟩) n2 L.length);refine(copiedC ⟨r,0,none⟩ n2 L.length E _ HN.out.2.1.symm hn2p hn2l (fun j y hj=>(HkC.out.1.trans HkE.out (by simp)).cell_some (HD.out.2.1 j y hj) (by simp))).mono ?_;rintro e wG ⟨g2,c2,cs2,rfl,kG,hG⟩;have s0:=kG.cell_some (p:=⟨vb,0,none⟩) u0 (by simp);have s1:=kG.cell_some (p:=⟨vb,1,none⟩) u1 (by simp);have s2:=kG.cell_some (p:=⟨vb,2,none⟩) u2 (by simp);have KG:Keep [] w4 wG:=HD.out.2.2.2.trans ((HkC.out.1.trans HkE.out (by simp)).trans kG (by simp)) (by simp);have hpG:=H4.out.2.1.keep KG (by simp);have hqG:=H4.out.2.2.1.keep KG (by simp);have hrG:=H4.out.2.2.2.1.keep KG (by simp);have p0:=hpG.cell (i:=0) rfl;have p1:=hpG.frozen 0;have q0:=hqG.cell (i:=0) rfl;have q1:=hqG.frozen 0;have r0:=hrG.cell (i:=0) rfl;have r1:=hrG.frozen 0;have HkG:=qq6 kG hG hpG hqG hrG KG;clear kG hG hpG hqG hrG KG))
  go_wp2;refine leaves_cons (f:=15) (args:=#[.pointer (some ⟨a+1,0,none⟩),.pointer (some ⟨a+2,0,none⟩),.pointer (some ⟨a+3,0,none⟩)]) (by simp) (by simp[go_sem]) ?_;refine(noBytes_idle ⟨a+1,0,none⟩ ⟨a+2,0,none⟩ ⟨a+3,0,none⟩ _).mono ?_;rintro e u' w'' ⟨rfl,rfl,rfl⟩;obtain⟨kG,⟨hg2,hbG2,hl2,ht2,hn2c⟩,hpG,hqG,hrG,KG⟩:=HkG.out;obtain⟨kC,hg1,hbC,hl1,ht1,hn1c⟩:=HkC.out;obtain⟨hx4,hp4,hq4,hr4,hs4,hb4⟩:=H4.out;obtain⟨hF,hE,K4,ha⟩:=HE.out;have s9:=HD.out.2.2.2.size;have sB:=HkB.out.size;have sC:=kC.size;have sE:=HkE.out.size;have hs9:w9.drew.heap.size=w9.heap.size:=rfl;have hg1a:a+4<=g1:=by omega
  have hg2a:a+4<=g2:=by omega
  have hb1:=(hbC.keep HkE.out (by simp)).keep kG (by simp);have hb1z:=((hb1.set_other (c:=a+1) (by omega) 0 none (.slice (some ⟨g1,0,none⟩) n1 c1)).set_other (c:=a+2) (by omega) 0 none (.slice (some ⟨g2,0,none⟩) n2 c2)).set_other (c:=a+3) (by omega) 0 none (.bool true);have hb2z:=((hbG2.set_other (c:=a+1) (by omega) 0 none (.slice (some ⟨g1,0,none⟩) n1 c1)).set_other (c:=a+2) (by omega) 0 none (.slice (some ⟨g2,0,none⟩) n2 c2)).set_other (c:=a+3) (by omega) 0 none (.bool true);have hpz:=((hpG.set 0 (.slice (some ⟨g1,0,none⟩) n1 c1)).set_other (c:=a+2) (by omega) 0 none (.slice (some ⟨g2,0,none⟩) n2 c2)).set_other (c:=a+3) (by omega) 0 none (.bool true);have hqz:=((hqG.set_other (c:=a+1) (by omega) 0 none (.slice (some ⟨g1,0,none⟩) n1 c1)).set 0 (.slice (some ⟨g2,0,none⟩) n2 c2)).set_other (c:=a+3) (by omega) 0 none (.bool true);have hrz:=((hrG.set_other (c:=a+1) (by omega) 0 none (.slice (some ⟨g1,0,none⟩) n1 c1)).set_other (c:=a+2) (by omega) 0 none (.slice (some ⟨g2,0,none⟩) n2 c2)).set 0 (.bool true);have Kz:Keep [] w (((wG.setCell ⟨a+1,0,none⟩ (.slice (some ⟨g1,0,none⟩) n1 c1)).setCell ⟨a+2,0,none⟩ (.slice (some ⟨g2,0,none⟩) n2 c2)).setCell ⟨a+3,0,none⟩ (.bool true)):=
   (((K4.trans KG (by simp)).set (.inr (by omega)) _ _ _).set (.inr (by omega)) _ _ _).set (.inr (by omega)) _ _ _
  have cp:=hpz.cell (i:=0) rfl;have cq:=hqz.cell (i:=0) rfl;have cr:=hrz.cell (i:=0) rfl;have h7:=H7.out.2.2;have hsw:w.heap.size=a:=ha.symm;refine⟨.tuple #[.slice (some ⟨g1,0,none⟩) n1 c1,.slice (some ⟨g2,0,none⟩) n2 c2,.bool true],?_,g1,n1,c1,g2,n2,c2,so,t7,rfl,Kz,by rw[<-hF];omega,by rw[<-hF];omega,?_,?_⟩
  ·clear hb1z hb2z hpz hqz hrz Kz hpG hqG hrG hb1 hbG2 hbC;generalize((wG.setCell ⟨a+1,0,none⟩ (.slice (some ⟨g1,0,none⟩) n1 c1)).setCell ⟨a+2,0,none⟩ (.slice (some ⟨g2,0,none⟩) n2 c2)).setCell ⟨a+3,0,none⟩ (.bool true)=wz at cp cq cr ⊢;simp[results,Tryz.results7,go_sem,cp,cq,cr]
  ·rw[<-hF];exact⟨HN.out.1,by omega,hn1c,cs1,hb1z,hl1,ht1⟩
  ·rw[<-hF,<-hE];exact⟨HN.out.2.1,by omega,hn2c,cs2,hb2z,hl2,ht2⟩
end Go.Proofs.YtocgdgmfnockiaaGreatDoor
