/- laws.FnVariantThere: for every input the law returns true and each argument reads behind the call as it did. The row, lifted. -/
import Derived.Test.YtocgdgmfnockiaaGreatDoorV49
import Derived.Test.YtocgdgmfnockiaaGreatDoorTie
import Derived.Test.YtocgdgmfnockiaaGreatDoorCards
import Derived.ProofKit
import Derived.LaidMore
import Derived.OpenShut
import Derived.OpenVars
import Derived.Stop.Joined
import Derived.MakeChecks
import Derived.SevenTiedAt
import Derived.Deep.Slices
import Derived.Deep.Fields
import Derived.ChangeSame
import Derived.Carry
import Derived.Lib.LaidIn
import Derived.Lib.LaidU8T
import Derived.Lay
set_option linter.unusedVariables false
set_option linter.unusedSimpArgs false
set_option maxRecDepth 100000
set_option maxHeartbeats 8000000
namespace Go.Proofs.YtocgdgmfnockiaaGreatDoor
open Go.ChangeShapes Go.WideShapes Go.ChangeAt Go.WideElems Go.RowKit
theorem own:ownKnob Tryz.prog.godebug=none:=by kernel_rfl
theorem laidOut:laidOutB Tryz.prog=true:=by kernel_rfl
theorem cellsVar:Tryz.prog.cellsOf 26=6:=by kernel_rfl
theorem cellsTxt:Tryz.prog.cellsOf 9=1:=by kernel_rfl
theorem door_met (os:Os) (args:Array Value):laidMetH Tryz.prog Rows.fnVariantThereRow.laid ((World.laidAll Tryz.prog os Rows.fnVariantThereRow.laid).forCall (fun _ _=>0) ⟨#[],args,[]⟩).memory:=by
 rw[MakeChecks.laidMetH_plain _ _ _ (by kernel_rfl)];exact laidMet_laidAll _ (by kernel_rfl) (by kernel_rfl)

theorem tabs_of_laid {W:World} (h:laidMetH Tryz.prog Rows.fnVariantThereRow.laid W):Tabs W:=by
 rw[MakeChecks.laidMetH_plain _ _ _ (by kernel_rfl)]at h;exact utf8Tabs_of_readsT (Go.Proofs.U8Types.of196 laysValid) ⟨by kernel_rfl,by kernel_rfl,by kernel_rfl,by kernel_rfl,by kernel_rfl,by kernel_rfl,by kernel_rfl⟩ (Lib.laidMet.reads h (.tail _ (.tail _ (.head _)))) (Lib.laidMet.reads h (.head _))
section
open Go.Deep
variable {H:Type} {enc:TypeId×Value->H} {P:Program} {w:World} {base:Nat} {spare:Nat->Bool} {held:Bool}
theorem six_fields {t:TypeId} {f0 f1 f2 f3 f4 f5:Field} {fuel:Nat} {cs:List Value} {x:DataW H×List MemPlace} (hs:P.underlying t=some (.struct #[f0,f1,f2,f3,f4,f5])) (hone:oneCellFields P #[f0,f1,f2,f3,f4,f5]=true) (hC:P.cellsOf t=6)
  (h:DataW.trod enc P w base spare held fuel t cs=some x):
  ∃(v0 v1 v2 v3 v4 v5:Value) (y0 y1 y2 y3 y4 y5:DataW H×List MemPlace) (n:Nat),fuel=n+1/\cs=[v0,v1,v2,v3,v4,v5]/\
   DataW.trod enc P w base spare held n f0.type [v0]=some y0/\DataW.trod enc P w base spare held n f1.type [v1]=some y1/\DataW.trod enc P w base spare held n f2.type [v2]=some y2/\DataW.trod enc P w base spare held n f3.type [v3]=some y3/\DataW.trod enc P w base spare held n f4.type [v4]=some y4/\DataW.trod enc P w base spare held n f5.type [v5]=some y5:=by
 obtain⟨xs,n,hn,hx,hcl,hlen,hg⟩:=DataW.trod_struct hs h;obtain⟨o0,k0⟩:=hone_of hone 0 f0 rfl;obtain⟨o1,k1⟩:=hone_of hone 1 f1 rfl;obtain⟨o2,k2⟩:=hone_of hone 2 f2 rfl;obtain⟨o3,k3⟩:=hone_of hone 3 f3 rfl;obtain⟨o4,k4⟩:=hone_of hone 4 f4 rfl;obtain⟨o5,k5⟩:=hone_of hone 5 f5 rfl
 match cs,hcl.trans hC,xs,hlen with
 |[c0,c1,c2,c3,c4,c5],_,[y0,y1,y2,y3,y4,y5],_=>
  exact⟨c0,c1,c2,c3,c4,c5,y0,y1,y2,y3,y4,y5,n,hn,rfl,by simpa[o0,k0]using hg 0 f0 rfl,by simpa[o1,k1]using hg 1 f1 rfl,by simpa[o2,k2]using hg 2 f2 rfl,by simpa[o3,k3]using hg 3 f3 rfl,by simpa[o4,k4]using hg 4 f4 rfl,by simpa[o5,k5]using hg 5 f5 rfl⟩
end
section
variable {H:Type} {enc:TypeId×Value->H} {W:World}
theorem cellAt_add (a:Addr) (j:Nat):cellAt a j=a.add j:=by
 cases j with
 |zero=>simp[cellAt,Addr.add]
 |succ j=>simp[cellAt,Addr.add]

theorem openTexts {v:Value} {fuel:Nat} {x:DataW H×List MemPlace} (hf:DataW.trod enc Tryz.prog W 0 (fun _=>true) true fuel 23 [v]=some x):
  ∃l:List ByteArray,TextsAt W v l/\l.length<=maxLen/\∀s ∈ l,s.size<=maxLen:=by
 rcases DataW.trod_slice Tryz.underlying23 hf with⟨hcs,-⟩|⟨a,len,cap,elems,rest,n,-,hcs,-,-,hl,hm,hel,hat,-,-⟩
 ·simp at hcs;subst hcs;exact⟨[],⟨none,0,rfl,Nat.le_refl _,fun i s h=>by simp at h⟩,by simp,by simp⟩
 ·simp at hcs;subst hcs;have key:∀i:Fin len,∃s:ByteArray,s.size<=maxLen/\W.cell? (a.add i.1)=some (.string s):=fun⟨i,hi⟩=>by
   have h1:=hat i hi;rw[cellsTxt,List.getElem?_eq_getElem (by omega)]at h1;obtain⟨cs',hc,ht⟩:=Option.bind_eq_some_iff.1 h1;obtain⟨s,rfl,-,hs⟩:=DataW.trod_string Tryz.underlying9 ht;obtain⟨-,-,hcell⟩:=World.cells?_some hc;refine⟨s,hs,?_⟩;have h2:=hcell 0 (by omega);rw[<-cellAt_add,Nat.mul_one]at h2;simpa[cellAt]using h2
  obtain⟨f,hf2⟩:=Classical.axiomOfChoice key;refine⟨List.ofFn f,⟨some a,cap,by simp,by simpa using hl,fun i s hs=>?_⟩,by simp;omega,fun s hs=>?_⟩
  ·rw[List.getElem?_ofFn]at hs;split at hs
   ·rename_i hi;cases hs
    exact⟨a,rfl,(hf2 ⟨i,hi⟩).2⟩
   ·cases hs
  ·rw[List.mem_ofFn]at hs;obtain⟨i,rfl⟩:=hs;exact(hf2 i).1

theorem openKids (D:Nat) (IH:∀(fuel:Nat) (cs:List Value) (x:DataW H×List MemPlace),fuel<=D->DataW.trod enc Tryz.prog W 0 (fun _=>true) true fuel 26 cs=some x->
   ∃v0 v1 v2 v3 v4 v5,cs=[v0,v1,v2,v3,v4,v5]/\∃X:Vt D,VtAt D W (.agg #[v0,v1,v2,v3,v4,v5]) X/\ArgV D X)
  {v:Value} {fuel:Nat} {x:DataW H×List MemPlace} (hD:fuel<=D) (hf:DataW.trod enc Tryz.prog W 0 (fun _=>true) true fuel 24 [v]=some x):
  ∃l:List (Vt D),KidsAt (VtAt D W) W v l/\l.length<=maxLen/\∀y ∈ l,ArgV D y:=by
 rcases DataW.trod_slice Tryz.underlying24 hf with⟨hcs,-⟩|⟨a,len,cap,elems,rest,n,hn,hcs,-,-,hl,hm,hel,hat,-,-⟩
 ·simp at hcs;subst hcs;exact⟨[],⟨none,0,rfl,Nat.le_refl _,fun i s h=>by simp at h⟩,by simp,by simp⟩
 ·simp at hcs;subst hcs;have key:∀i:Fin len,∃y:Vt D,ArgV D y/\∃(u0 u1 u2 u3 u4 u5:Value),W.cell? (cellAt (a.add (i.1*6)) 0)=some u0/\W.cell? (cellAt (a.add (i.1*6)) 1)=some u1/\W.cell? (cellAt (a.add (i.1*6)) 2)=some u2/\W.cell? (cellAt (a.add (i.1*6)) 3)=some u3/\W.cell? (cellAt (a.add (i.1*6)) 4)=some u4/\W.cell? (cellAt (a.add (i.1*6)) 5)=some u5/\VtAt D W (.agg #[u0,u1,u2,u3,u4,u5]) y:=fun⟨i,hi⟩=>by
   have h1:=hat i hi;rw[cellsVar,List.getElem?_eq_getElem (by omega)]at h1;obtain⟨cs',hc,ht⟩:=Option.bind_eq_some_iff.1 h1;obtain⟨v0,v1,v2,v3,v4,v5,rfl,X,hX,hA⟩:=IH n cs' _ (by omega) ht;obtain⟨-,-,hcell⟩:=World.cells?_some hc;have hce:∀j,j<6->W.cell? (cellAt (a.add (i*6)) j)=[v0,v1,v2,v3,v4,v5][j]?:=fun j hj=>by rw[cellAt_add];exact hcell j hj
   exact⟨X,hA,v0,v1,v2,v3,v4,v5,hce 0 (by omega),hce 1 (by omega),hce 2 (by omega),hce 3 (by omega),hce 4 (by omega),hce 5 (by omega),hX⟩
  obtain⟨f,hf2⟩:=Classical.axiomOfChoice key;refine⟨List.ofFn f,⟨some a,cap,by simp,by simpa using hl,fun i y hy=>?_⟩,by simp;omega,fun y hy=>?_⟩
  ·rw[List.getElem?_ofFn]at hy;split at hy
   ·rename_i hi;cases hy
    obtain⟨-,u0,u1,u2,u3,u4,u5,h⟩:=hf2 ⟨i,hi⟩;exact⟨a,u0,u1,u2,u3,u4,u5,rfl,h⟩
   ·cases hy
  ·rw[List.mem_ofFn]at hy;obtain⟨i,rfl⟩:=hy;exact(hf2 i).1

theorem openV:∀(D fuel:Nat) (cs:List Value) (x:DataW H×List MemPlace),fuel<=D->DataW.trod enc Tryz.prog W 0 (fun _=>true) true fuel 26 cs=some x->
  ∃v0 v1 v2 v3 v4 v5,cs=[v0,v1,v2,v3,v4,v5]/\∃X:Vt D,VtAt D W (.agg #[v0,v1,v2,v3,v4,v5]) X/\ArgV D X
 |0,fuel,cs,x,hD,h=>by
  obtain⟨xs,n,hn,-⟩:=DataW.trod_struct Tryz.underlying26 h;omega
 |D+1,fuel,cs,x,hD,h=>by
  obtain⟨v0,v1,v2,v3,v4,v5,y0,y1,y2,y3,y4,y5,n,hn,rfl,t0,t1,t2,t3,t4,t5⟩:=six_fields Tryz.underlying26 (by kernel_rfl) cellsVar h;obtain⟨k,e0,-,w0⟩:=DataW.trod_int Tryz.underlying3 t0;obtain⟨m,e1,-,w1⟩:=DataW.trod_int Tryz.underlying22 t1;obtain⟨sc,e2,-,w2⟩:=DataW.trod_int Tryz.underlying3 t2;obtain⟨s,e3,-,hs⟩:=DataW.trod_string Tryz.underlying9 t3;obtain⟨ks,hT,hTl,hTs⟩:=openTexts t4;obtain⟨cs,hK,hKl,hKa⟩:=openKids D (openV D) (by omega) t5;simp at e0 e1 e2 e3;subst e0 e1 e2 e3;simp only[Lit.wf,Bool.and_eq_true,decide_eq_true_eq]at w0 w1 w2;have c1:IntKind.i64.min=-9223372036854775808:=by rfl
  have c2:IntKind.i64.max=9223372036854775807:=by rfl
  have c3:IntKind.u64.min=0:=by rfl
  have c4:IntKind.u64.max=18446744073709551615:=by rfl
  rw[c1,c2]at w0 w2;rw[c3,c4]at w1;have hm:((m.toNat:Nat):Int)=m:=by omega
  refine⟨_,_,_,_,_,_,rfl,(⟨k,m.toNat,sc,s,ks,cs⟩:Node (Vt D)),⟨v4,v5,by rw[hm],hT,hK⟩,(⟨by show m.toNat<_;omega,w0,w2,hs,hTl,hKl,hTs,hKa⟩:ArgN (ArgV D) _)⟩
end
theorem lifted (os:Os) (started:os.Started) (H:Type) (enc:TypeId×Value->H):
  ReturnsInHanded {} Tryz.checked os 3 .any (fun w args=>(Rows.fnVariantThereSpec.pre enc Tryz.prog Tryz.f3 [] false w args/\laidMetH Tryz.prog Rows.fnVariantThereRow.laid w)/\sizedMet enc Tryz.prog Tryz.f3 (OpenSpec.ofChange Rows.fnVariantThereSpec) false w args)
   (Rows.fnVariantThereSpec.post enc Tryz.prog Tryz.f3 false true false false):=by
 refine returnsInHanded_of_change_and (C:=Tryz.checked) (X:=fun w _=>laidMetH Tryz.prog Rows.fnVariantThereRow.laid w) (fun _ _ _ hh h=>h.of_heap hh) own started (by kernel_rfl) Tryz.func3
  (ChangeSpec.witness_shaped (enc:=enc) (C:=Tryz.checked) (os:=os) (X:=fun w _=>laidMetH Tryz.prog Rows.fnVariantThereRow.laid w) false (World.laidAll Tryz.prog os Rows.fnVariantThereRow.laid) #[.agg #[.int .i64 0,.int .u64 0,.int .i64 0,.string ⟨#[]⟩,.slice none 0 0,.slice none 0 0],.bool false,.int .i64 0] 8 (World.laidAll_os _ _ _) (World.shaped_of_ZipB (by kernel_rfl) (by kernel_rfl)) (by kernel_rfl) (by kernel_rfl) (by kernel_rfl) (door_met os _)) ?_
 intro W base args ds gs before hval0 hW _ _ hL _;have hval:∀(j:Nat) t v,Tryz.f3.params[j]?=some t->args[j]?=some v->Value.okWide Tryz.prog W .any base t v:=hval0;have hW':=hW;obtain⟨p,q,hA0,hV,rfl,hfz,hnd⟩:=hW;have hA:DataW.TrodAll enc Tryz.prog W 0 (fun _=>true) true Tryz.f3.params.toList args.toList ds p:=hA0;rw[Tryz.params3]at hA hval;obtain⟨v0,v1,v2,d0,d1,d2,p0,p1,p2,rfl,rfl,rfl,h0,h1,h2⟩:=trodAll_three hA;obtain⟨cs0,rfl,hsz⟩:=okWide_struct Tryz.underlying26 (hval 0 26 v0 rfl rfl);obtain⟨n,rfl,rfl,rfl,hn⟩:=open_int Tryz.underlying3 (hval 2 3 v2 rfl rfl) h2;obtain⟨b,rfl,rfl,rfl⟩:=open_bool Tryz.underlying4 (hval 1 4 v1 rfl rfl) h1;obtain⟨D,hD⟩:=id h0;obtain⟨u0,u1,u2,u3,u4,u5,hcs,X,hX,hAr⟩:=openV D D _ _ (Nat.le_refl _) hD;obtain rfl:cs0=#[u0,u1,u2,u3,u4,u5]:=by
  apply Array.ext';simpa[Value.cells]using hcs
 have hlt:∀x ∈ p0++[]++[]++q,x.block<W.heap.size:=fun x hx=>by simpa using hW'.lt x hx
 refine(variantThereC D X _ b n W hX hAr (tabs_of_laid hL)).mono fun e W' ⟨he,hk⟩=>?_;subst he;have hB:=hk.below;have e0:=Below.trod laidOut (by kernel_rfl) (of_decide_eq_true (by kernel_rfl)) h0 hB (fun x hx=>hlt x (by simp[hx]));have ev:=Below.trodVars laidOut hB (by kernel_rfl) hV;obtain⟨rfl,-⟩:=trodVars_none hV;exact⟨_,rfl,_,_,_,[],p0++([]++[]),q,hW',trodAll_mk1 (shut_bool Tryz.underlying4 _),trodAll_mk3 e0 (shut_bool Tryz.underlying4 _) (shut_int Tryz.underlying3 hn),ev,hB.frame _,fun h=>by cases h⟩
end Go.Proofs.YtocgdgmfnockiaaGreatDoor
