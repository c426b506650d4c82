/- Variants read: finishValidationFrame. Loops by what follows a round: the least relation that a round may hand on. No program here. Variants read: the state of the validation's loop (printed by gen_vl.py). Variants read: a frame is laid upon the validation's stack. No walk here. Variants read: a round of the validation's loop that is done with a value (printed by gen_vl.py). Variants read: a round of the validation's loop that is done with a value (printed by gen_vl.py). -/
import Derived.Test.YtocgdgmfnockiaaGreatDoorV18
import Derived.Test.YtocgdgmfnockiaaGreatDoorV09
import Derived.Test.YtocgdgmfnockiaaGreatDoorV24
import Derived.Test.YtocgdgmfnockiaaGreatDoorV19
set_option linter.unusedVariables false
set_option linter.unusedSimpArgs false
set_option maxRecDepth 100000
set_option maxHeartbeats 8000000
namespace Go.Proofs.YtocgdgmfnockiaaGreatDoor
open Go.Shelf Go.RowKit Go.Lib Go.Sort

structure VR where
 s:Nat
 e:Nat
 f:Nat
deriving Inhabited
def cfR (x:VR):List Value:=[.int .u64 (x.s:Int),.int .u64 (x.e:Int),.int .i64 (x.f:Int)]
theorem cfR_len (x:VR):(cfR x).length=3:=rfl
def cmpR (x y:VR):Int:=if x.s<y.s then -1 else if y.s<x.s then 1 else 0
theorem byStartC (x y:VR) (W:World):Calls Tryz.prog 187 #[.agg (cfR x).toArray,.agg (cfR y).toArray] W fun e w'=>e=.returned (.int .i64 (cmpR x y))/\∃q os',w'=grow (W.drewN q) os':=by
 unfold cfR;obtain⟨c,hc⟩:∃c,c=cmpR x y:=⟨_,rfl⟩;rw[<-hc];unfold cmpR at hc;by_cases h1:x.s<y.s
 ·rw[if_pos h1]at hc;have h1i:(x.s:Int)<(y.s:Int):=by omega
  subst hc
  go_enter Tryz.func187,Tryz.ntmps187
  go_wp2;go_ret;exact⟨rfl,0,_,by rw[alloc_eq_grow,alloc_eq_grow,grow_grow];rfl⟩
 ·rw[if_neg h1]at hc;have h1i:¬(x.s:Int)<(y.s:Int):=by omega
  by_cases h2:y.s<x.s
  ·rw[if_pos h2]at hc;have h2i:(y.s:Int)<(x.s:Int):=by omega
   subst hc
   go_enter Tryz.func187,Tryz.ntmps187
   go_wp2;go_ret;exact⟨rfl,0,_,by rw[alloc_eq_grow,alloc_eq_grow,grow_grow];rfl⟩
  ·rw[if_neg h2]at hc;have h2i:¬(y.s:Int)<(x.s:Int):=by omega
   subst hc
   go_enter Tryz.func187,Tryz.ntmps187
   go_wp2;go_ret;exact⟨rfl,0,_,by rw[alloc_eq_grow,alloc_eq_grow,grow_grow];rfl⟩
theorem ltOf_cmpR (x y:VR):ltOf cmpR x y=decide (x.s<y.s):=by
 unfold ltOf cmpR;by_cases h1:x.s<y.s
 ·simp[h1]
 ·by_cases h2:y.s<x.s<;>simp[h1,h2]
theorem swoR:SWO (ltOf cmpR) where
 irrefl x:=by rw[ltOf_cmpR];simp
 trans x y z h1 h2:=by rw[ltOf_cmpR,decide_eq_true_eq]at*;omega
 ntrans x y z h1 h2:=by rw[ltOf_cmpR,decide_eq_false_iff_not]at*;omega

theorem holds_at {α:Type} [Inhabited α] {cf:α->List Value} {sz:Nat} (hcf:∀x,(cf x).length=sz) (hsz:0<sz) {w:World} {g off:Nat} {A R:List Value} {l:List α} (hb:Blk w g (A++(l.flatMap cf++R))) (hA:off=A.length):HoldsK cf sz w g off l.toArray:=by
 intro j hj;rw[size_flatK,List.size_toArray]at hj;refine⟨?_,hb.frozen _⟩;refine hb.cell ?_;have h1:j / sz<l.length:=by rw[Nat.div_lt_iff_lt_mul hsz];exact hj
 have h2:j%sz<sz:=Nat.mod_lt _ hsz;have e:j=j / sz*sz+j%sz:=by rw[Nat.mul_comm];exact(Nat.div_add_mod j sz).symm
 have h3:=flatMap_get hcf l (j / sz) (l[j / sz]) (j%sz) (List.getElem?_eq_getElem h1) h2;rw[<-e]at h3;rw[hA,List.getElem?_append_right (by omega),Nat.add_sub_cancel_left,List.getElem?_append_left (by rw[flatMap_length hcf];exact hj),h3,get_flatK _ _ _ _ (by rw[List.size_toArray];exact hj),List.getElem!_toArray,getElem!_pos l _ h1,getElem!_pos _ _ (by rw[hcf];exact h2),List.getElem?_eq_getElem];rfl

theorem sortRangesC (g off c:Nat) (l:List VR) (A R:List Value) (w:World) (hb:Blk w g (A++(l.flatMap cfR++R))) (hA:off=A.length) (hs:l.Pairwise (fun x y=>x.s<y.s)) (hl:l.length<=1000000):
  Calls Tryz.prog 186 #[.slice (some ⟨g,off,none⟩) l.length c,.func (.func 187) #[] #[]] w fun e w'=>e=.returned (.tuple #[])/\Keep [] w w':=by
 have eg:∀args w,(callFunc 187 args).run Tryz.prog w=.ok (.enter 187 args) w:=enters_of Tryz.func187 (by kernel_rfl) rfl;have hH:=holds_at cfR_len (by omega) hb hA;have:=AnyQ.slices_SortFunc SortVR 3 Tryz.isAgg267 Tryz.sizeOf267 cfR cfR_len (fun x v hv=>by simp[cfR]at hv;rcases hv with rfl|rfl|rfl<;>rfl) _ swoR 187 #[] g off c l.toArray w eg (fun _ _ _ _ x y=>byStartC x y _) hH hb.lt (by simp;omega)
 refine this.mono ?_;rintro e w' ⟨rfl,d',n,os,hp,hso,rfl⟩;have hd:=sorted_same swoR l.toArray d' (by simpa[ltOf_cmpR]using hs) hp hso;subst hd;refine⟨rfl,?_⟩;unfold sortWorldK;have e:putRowK cfR 3 (Sort.ahead w n) g off l.toArray=Sort.ahead w n:=putRow_self id _ g off _ hH;rw[e];exact Keep.grow (by constructor<;>first|rfl|(intros;rfl)|exact Nat.le_refl _) os
theorem finishFlatC (sb p k:Nat) (rv:Value) (w:World) (c12:w.cell? ⟨sb,p+12,none⟩=some (.int .u8 (k:Int))) (hk:k≠2) (hk4:k<4):Calls Tryz.prog 180 #[.pointer (some ⟨sb,p,none⟩),rv] w fun e w'=>e=.returned .nilIface/\w'=w:=by
 have hki:¬(k:Int)=2:=by omega
 clear hk
 go_enter Tryz.func180,Tryz.ntmps180
 go_wp2;go_ret;exact⟨rfl,rfl⟩
theorem finRangesC (sb p dz rb off n rc:Nat) (l:List VR) (A R:List Value) (a:Nat->Nat) (w:World) (c12:w.cell? ⟨sb,p+12,none⟩=some (.int .u8 2)) (c2:w.cell? ⟨sb,p+2,none⟩=some (.int .u32 (dz:Int))) (hb:Blk w rb (A++(l.flatMap cfR++R))) (hA:off=A.length) (hn:n=l.length) (hl:n<=1000000) (hdz:dz<=1000000000)
  (ha0:a 0=0) (haz:a n=dz) (ham:∀i,i<n->a i<a (i+1)) (hr:∀i r,l[i]?=some r->r.s=a i/\r.e=a (i+1)):
  Calls Tryz.prog 180 #[.pointer (some ⟨sb,p,none⟩),.slice (some ⟨rb,off,none⟩) n rc] w fun e w'=>e=.returned .nilIface/\Keep [] w w':=by
 have hmono:∀i j,i<j->j<n->a i<a j:=fun i j hij hj=>by
  induction j with
  |zero=>omega
  |succ j ih=>
   have:=ham j (by omega);rcases Nat.lt_or_ge i j with h|h
   ·have:=ih h (by omega);omega
   ·have:i=j:=by omega
    subst this;omega
 have hs:l.Pairwise (fun x y=>x.s<y.s):=by
  rw[List.pairwise_iff_getElem];intro i j hi hj hij;have h1:=hr i _ (List.getElem?_eq_getElem hi);have h2:=hr j _ (List.getElem?_eq_getElem hj);rw[h1.1,h2.1];exact hmono i j hij (by omega)
 have hS:=fun wx (kk:Keep [] w wx)=>sortRangesC rb off rc l A R wx (hb.keep kk (by simp)) hA hs (by omega);rw[<-hn]at hS;have hcell:∀(wx:World) (kk:Keep [] w wx) (i:Nat) (r:VR),l[i]?=some r->wx.cell? ⟨rb,off+i*3,none⟩=some (.int .u64 (a i:Int))/\wx.cell? ⟨rb,off+i*3+1,none⟩=some (.int .u64 (a (i+1):Int))/\wx.cell? ⟨rb,off+i*3+2,none⟩=some (.int .i64 (r.f:Int)):=fun wx kk i r hi=>by
  have hb':=hb.keep kk (by simp);have key:∀j u,j<3->(cfR r)[j]?=some u->wx.cell? ⟨rb,off+i*3+j,none⟩=some u:=fun j u hj hu=>by
   refine hb'.cell ?_;have h3:=flatMap_get cfR_len l i r j hi hj;rw[hA,Nat.add_assoc,List.getElem?_append_right (by omega),Nat.add_sub_cancel_left,List.getElem?_append_left (by
    have:=(List.getElem?_eq_some_iff.1 hi).1;rw[flatMap_length cfR_len];omega),h3]
   exact hu
  obtain⟨e1,e2⟩:=hr i r hi;rw[<-e1,<-e2];exact⟨key 0 _ (by omega) rfl,key 1 _ (by omega) rfl,key 2 _ (by omega) rfl⟩
 have H:=qq6 hS hcell hn ha0 haz ham;clear hS hcell hn ha0 haz ham hs hmono hr hb hA
 go_enter Tryz.func180,Tryz.ntmps180
 go_wp2_with fail
 refine(H.out.1 _ (Keep.refl _ _)).mono ?_;rintro e w1 ⟨rfl,k1⟩
 replace c12:=k1.cell_some c12 (by simp)
 replace c2:=k1.cell_some c2 (by simp)
 go_wp2_with fail
 go_loopw [5,18] (fun nx iv wr=>∃i:Nat,i<=n/\iv=.int .i64 (i:Int)/\nx=.int .u64 (a i:Int)/\Keep [] w1 wr) (fun _ iv _=>n-(intOf iv).toNat)
 case atStart=>exact⟨0,by omega,rfl,by rw[H.out.2.2.2.1];rfl,Keep.refl _ _⟩
 case round=>
  obtain⟨i,hi,rfl,rfl,kr⟩:=hrel;by_cases hin:i<n
  ·have hini:(i:Int)<(n:Int):=by omega
   obtain⟨r,hri⟩:∃x,l[i]?=some x:=⟨_,List.getElem?_eq_getElem (by rw[<-H.out.2.2.1];omega)⟩;obtain⟨e0,e1,e2⟩:=H.out.2.1 wr (k1.trans kr (by simp)) i r hri;have hlt:¬(a i:Int)<(a i:Int):=by omega
   have Hr:=qq hri;clear hri;go_wp2_with fail
   go_wp2;go_roundw
   case rel=>exact⟨i+1,by omega,by simp,rfl,kr.alloc _⟩
   case measure=>simp[intOf];omega
  ·have hie:i=n:=by omega
   subst hie
   replace c2:=kr.cell_some c2 (by simp)
   have hdz:=H.out.2.2.2.2.1;rw[hdz];go_wp2;go_ret;exact⟨rfl,k1.trans kr (by simp)⟩

def LoopOK (P:Program) (c:Code) (Q:Exit->Act->World->Prop) (a:Act) (w:World):Prop:=∀I:Act->World->Prop,(∀a w,c.wp P (Exit.then I Q) a w->I a w)->I a w
theorem LoopOK.step {P:Program} {c:Code} {Q:Exit->Act->World->Prop} {a:Act} {w:World} (h:c.wp P (Exit.then (LoopOK P c Q) Q) a w):LoopOK P c Q a w:=fun I hI=>
 hI a w (Code.wp_mono (fun e a w hq=>by cases e<;>first|exact hq|exact hq I hI) h)
theorem LoopOK.loop {P:Program} {c:Code} {Q:Exit->Act->World->Prop} {a:Act} {w:World} (h:LoopOK P c Q a w):(Code.loop c).wp P Q a w:=by
 intro b k cs;have key:=h (fun a w=>∀b k cs,∃e a' w',Q e a' w'/\Arrives P (lone (b.at a (.code c::.inLoop c::k)) cs w) b k cs e a' w') (by
  intro a w hc b k cs;obtain⟨e,a₁,w₁,hq,harr⟩:=hc b (.inLoop c::k) cs;cases e with
  |normal=>
   obtain⟨e₂,a₂,w₂,hq₂,harr₂⟩:=hq b k cs;exact⟨e₂,a₂,w₂,hq₂,.of_steps (Steps.trans harr (.one step_inLoop)) harr₂⟩
  |exit id=>exact⟨_,a₁,w₁,hq,.pass (x:=.inLoop c) rfl (fun _ _=>.inl (by simp)) harr⟩
  |goto l=>exact⟨_,a₁,w₁,hq,.pass (x:=.inLoop c) rfl (fun _ _=>.inl (by simp)) harr⟩
  |ret=>exact⟨_,a₁,w₁,hq,.pass (x:=.inLoop c) rfl (fun _ _=>.inl (by simp)) harr⟩
  |panic ch=>exact⟨_,a₁,w₁,hq,.pass (x:=.inLoop c) rfl (fun _ _=>.inl (by simp)) harr⟩
  |outgrown=>exact⟨_,a₁,w₁,hq,.pass (x:=.inLoop c) rfl (fun _ _=>.inl (by simp)) harr⟩) b k cs
 obtain⟨e,a',w',hq,harr⟩:=key;exact⟨e,a',w',hq,.of_steps (.one step_loop) harr⟩
def firstLoop:Code->Option Code
 | .loop c=>some c
 | .seq a b=>match firstLoop a with
  |some c=>some c
  |none=>firstLoop b
 | .block _ c=>firstLoop c
 | .scope c=>firstLoop c
 | .cond _ a b=>match firstLoop a with
  |some c=>some c
  |none=>firstLoop b
 |_=>none

noncomputable def vbody:Code:=((Tryz.f168.body.bind firstLoop).getD .skip)

def LS (K:Act->World->Prop) (mv v bx stk rng rt rsz has:Value) (w:World):Prop:=∀u6 u7 u8 u9 u15 u16 u17 u18 u19 u20 u21 u22 u23 u24 u25 u26 u27 u28 u29 u30 u31 u32 u33 u34 u35 u36 u37 u38 u39 u40 u41 u42 u43 u44 u45 u46 u47 u48 u49 u50 u51 u52 u53 u54 u55 u56 u57 u58 u59 u60 u61 u62 u63 u64 u65 u66 u67 u68 u69 u70 u71 u72 u73 u74 u75 u76 u77 u78 u79 u80 u81 u82 u83 u84 u85 u86 u87 u88 u89 u90 u91 u92 u93 u94 u95 u96 u97 u98 u99 u100 u101 u102 u103 u104 u105 u106 u107 u108 u109 u110 u111 u112 u113 u114 u115 u116 u117 u118 u119 u120 u121 u122 u123 u124 u125 u126 u127 u128 u129 u130 u131 u132 u133 u134 u135 u136 u137 u138 u139 u140 u141 u142 u143 u144 u145 u146 u147 u148 u149 u150 u151 u152 u153 u154 u155 u156 u157 u158 u159 u160 u161 u162 u163 u164 u165 u166 u167 u168 u169 u170 u171 u172 u173 u174 u175 u176 u177 u178 u179 u180 u181 u182 u183 u184 u185 u186 u187 u188 u189 u190 u191 u192 u193 u194 u195 u196 u197 u198 u199 u200 u201 u202 u203 u204 u205 u206 u207 u208 u209 u210 u211 u212 u213 u214 u215 u216 u217 u218 u219 u220 u221 u222 u223 u224 u225 u226 u227 u228 u229 u230 u231 u232 u233 u234 u235 u236 u237 u238 u239 u240 u241 u242 u243 u244 u245 u246 u247 u248 u249 u250 u251 u252 u253 u254 u255 u256 u257 u258 u259 u260 u261 u262 u263 u264 u265 u266 u267 u268 u269 u270 u271 u272 u273 u274 u275 u276 u277 u278 u279 u280 u281 u282 u283 u284 u285 u286 u287 u288 u289 u290 u291 u292 u293 u294 u295 u296 u297 u298 u299 u300 u301 u302 u303 u304 u305:Value,K ⟨#[mv,v,stk,rng,rt,bx,u6,u7,u8,u9,.int .i64 0,.nilIface,rsz,.nilIface,has,u15,u16,u17,u18,u19,u20,u21,u22,u23,u24,u25,u26,u27,u28,u29,u30,u31,u32,u33,u34,u35,u36,u37,u38,u39,u40,u41,u42,u43,u44,u45,u46,u47,u48,u49,u50,u51,u52,u53,u54,u55,u56,u57,u58,u59,u60,u61,u62,u63,u64,u65,u66,u67,u68,u69,u70,u71,u72,u73,u74,u75,u76,u77,u78,u79,u80,u81,u82,u83,u84,u85,u86,u87,u88,u89,u90,u91,u92,u93,u94,u95,u96,u97,u98,u99,u100,u101,u102,u103,u104,u105,u106,u107,u108,u109,u110,u111,u112,u113,u114,u115,u116,u117,u118,u119,u120,u121,u122,u123,u124,u125,u126,u127,u128,u129,u130,u131,u132,u133,u134,u135,u136,u137,u138,u139,u140,u141,u142,u143,u144,u145,u146,u147,u148,u149,u150,u151,u152,u153,u154,u155,u156,u157,u158,u159,u160,u161,u162,u163,u164,u165,u166,u167,u168,u169,u170,u171,u172,u173,u174,u175,u176,u177,u178,u179,u180,u181,u182,u183,u184,u185,u186,u187,u188,u189,u190,u191,u192,u193,u194,u195,u196,u197,u198,u199,u200,u201,u202,u203,u204,u205,u206,u207,u208,u209,u210,u211,u212,u213,u214,u215,u216,u217,u218,u219,u220,u221,u222,u223,u224,u225,u226,u227,u228,u229,u230,u231,u232,u233,u234,u235,u236,u237,u238,u239,u240,u241,u242,u243,u244,u245,u246,u247,u248,u249,u250,u251,u252,u253,u254,u255,u256,u257,u258,u259,u260,u261,u262,u263,u264,u265,u266,u267,u268,u269,u270,u271,u272,u273,u274,u275,u276,u277,u278,u279,u280,u281,u282,u283,u284,u285,u286,u287,u288,u289,u290,u291,u292,u293,u294,u295,u296,u297,u298,u299,u300,u301,u302,u303,u304,u305],[]⟩ w

def VDone (K:Act->World->Prop) (Q0:Exit->Act->World->Prop) (mv v bx rng rt:Value) (sb j sz:Nat) (w:World):Prop:=
 (0<j->LS K mv v bx (.slice (some ⟨sb,0,none⟩) j 32) rng rt (.int .i64 (sz:Int)) (.bool true) w)/\(j=0->∀a:Act,a.tmps.getD 10 undef=.int .i64 (sz:Int)->a.tmps.getD 11 undef=.nilIface->a.defers=[]->Q0 .ret a w)

theorem wpList_append_in {P:Program} {w:World} {ops:Array Oper} {rest:List Oper} {o:Oper} {a:Act} {Q:Exit->Act->World->Prop} (hgd:o.guard=none) (s x:Operand) (t e:TypeId)
  (ho:o.op=.call {callee:=.builtin .append,args:=#[s,x],argTypes:=#[t,t]}) (i:TypeInfo) (sz:Nat) (ht:P.underlying t=some (.slice e)) (hi:P.info? e=some i) (hsize:i.size=sz) (g l c n:Nat) (cur news:List Value) (hs:a.eval s=.slice (some ⟨g,0,none⟩) l c) (hb:Blk w g cur) (xv:Value)
  (hx:a.eval x=xv) (hsrc:Src P sz t xv n news w) (hfit:l+n<=c) (hnl:news.length=n*sz) (hroom:l*sz+n*sz<=cur.length)
  (hK:wpList P ops Q rest (a.put o.dst (.slice (some ⟨g,0,none⟩) (l+n) c)) (w.setCells g (l*sz) news)):wpList P ops Q (o::rest) a w:=by
 refine wpList_plain hgd fun K hK'=>?_;have hrun:=run_append_room_src (P:=P) w t t o.type e i ht hi g 0 l c xv n news (by rw[hsize];exact hsrc) hfit
  (fun j hj=>by rw[hsize,hb.cell (i:=0+l*sz+j) (v:=cur[0+l*sz+j]'(by omega)) (by simp)];rfl)
  (fun j hj=>hb.frozen _)
 rw[hsize,Nat.zero_add]at hrun;unfold Oper.wp;simp[execOp,ho,resolve,invoke,builtin,hs,hx,hrun,Result.andThen];exact hK' _ _ hK
def VF.fresh (b o n c:Nat):VF:=⟨b,o,n,c,0,0,0,0,0,0,0,0,0,0,0,0,false⟩
theorem length_vf (f:VF):f.cells.length=14:=rfl
theorem vf_one (f:VF):∀u ∈ f.cells,u.oneCell'=true:=by
 intro u hu;simp only[VF.cells,List.mem_cons,List.not_mem_nil,or_false]at hu;rcases hu with rfl|rfl|rfl|rfl|rfl|rfl|rfl|rfl|rfl|rfl|rfl|rfl|rfl|rfl<;>rfl
theorem info_vf:(Tryz.prog.info? 263).map (·.size)=some 14:=by kernel_rfl
theorem info_vf':∃i,Tryz.prog.info? 263=some i/\i.size=14:=by
 have h:=info_vf;cases hi:Tryz.prog.info? 263 with
 |none=>rw[hi]at h;cases h
 |some i=>rw[hi]at h;exact⟨i,rfl,Option.some.inj h⟩

theorem FrAt.push {w:World} {sb j k:Nat} {f:VF} {L R:List Value} (h:FrAt w sb (j*14) f L R) (hk:k=j+1) (hR:14<=R.length) (f2:VF):FrAt (w.setCells sb (k*14) f2.cells) sb (k*14) f2 (L++f.cells) (R.drop 14):=by
 obtain⟨hp,hb⟩:=h;have hl:(L++f.cells).length=k*14:=by rw[List.length_append,<-hp,length_vf];omega
 refine⟨hl.symm,?_⟩;have:=hb.setCells (o:=k*14) (vs:=f2.cells) (by rw[length_vf,List.length_append,List.length_append,<-hp,length_vf];omega);have e:splice (L++(f.cells++R)) (k*14) f2.cells=(L++f.cells)++(f2.cells++R.drop 14):=by
  unfold splice;have e0:L++(f.cells++R)=(L++f.cells)++R:=(List.append_assoc _ _ _).symm;rw[e0,List.take_left' hl,length_vf,<-List.drop_drop,List.drop_left' hl,List.append_assoc]
 rw[e]at this;exact this

theorem FrAt.below {w:World} {sb j k:Nat} {f fc:VF} {L Rc:List Value} (h:FrAt w sb (k*14) fc (L++f.cells) Rc) (hk:k=j+1) (hL:j*14=L.length):FrAt w sb (j*14) f L (fc.cells++Rc):=by
 refine⟨hL,?_⟩;have:=h.2;rw[List.append_assoc]at this;exact this
theorem finFreshArr (sb j k:Nat) (f:VF) (L R:List Value) (ma ko:Option Addr) (mn mc kn kc bxb:Nat) (v rng rt rsz:Value) (w:World) (K:Act->World->Prop) (Q0:Exit->Act->World->Prop) (u6 u7 u8 u9 u15 u16 u17 u18 u19 u20 u21 u22 u23 u24 u25 u26 u27 u28 u29 u30 u31 u32 u33 u34 u35 u36 u37 u38 u39 u40 u41 u42 u43 u44 u45 u46 u47 u48 u49 u50 u51 u52 u53 u54 u55 u56 u57 u58 u59 u60 u61 u62 u63 u64 u65 u66 u67 u68 u69 u70 u71 u72 u73 u74 u75 u76 u77 u78 u79 u80 u81 u82 u83 u84 u85 u86 u87 u88 u89 u90 u91 u92 u93 u94 u95 u96 u97 u98 u99 u100 u101 u102 u103 u104 u105 u106 u107 u108 u109 u110 u111 u112 u113 u114 u115 u116 u117 u118 u119 u120 u121 u122 u123 u124 u125 u126 u127 u128 u129 u130 u131 u132 u133 u134 u135 u136 u137 u138 u139 u140 u141 u142 u143 u144 u145 u146 u147 u148 u149 u150 u151 u152 u153 u154 u155 u156 u157 u158 u159 u160 u161 u162 u163 u164 u165 u166 u167 u168 u169 u170 u171 u172 u173 u174 u175 u176 u177 u178 u179 u180 u181 u182 u183 u184 u185 u186 u187 u188 u189 u190 u191 u192 u193 u194 u195 u196 u197 u198 u199 u200 u201 u202 u203 u204 u205 u206 u207 u208 u209 u210 u211 u212 u213 u214 u215 u216 u217 u218 u219 u220 u221 u222 u223 u224 u225 u226 u227 u228 u229 u230 u231 u232 u233 u234 u235 u236 u237 u238 u239 u240 u241 u242 u243 u244 u245 u246 u247 u248 u249 u250 u251 u252 u253 u254 u255 u256 u257 u258 u259 u260 u261 u262 u263 u264 u265 u266 u267 u268 u269 u270 u271 u272 u273 u274 u275 u276 u277 u278 u279 u280 u281 u282 u283 u284 u285 u286 u287 u288 u289 u290 u291 u292 u293 u294 u295 u296 u297 u298 u299 u300 u301 u302 u303 u304 u305:Value)
  (hF:FrAt w sb (j*14) f L R) (hkj:(k:Int)-1=(j:Int)) (hjk:j<k) (hk32:k<32) (hbx:Blk w bxb [.slice ma mn mc,.slice ko kn kc]) (hbs:bxb≠sb)
  (f1 f':VF) (rtn:Nat) (hinit:f.init=false) (hprep:∀wx,Keep [sb] w wx->FrAt wx sb (j*14) {f with init:=true} L R->Calls Tryz.prog 176 #[.agg #[.slice ma mn mc,.slice ko kn kc],.pointer (some ⟨sb,j*14,none⟩)] wx fun e w'=>e=.returned .nilIface/\Keep [sb] wx w'/\FrAt w' sb (j*14) f1 L R) (hkd:f1.kind=3) (hf':f'=f1) (hrt:rt=.int .i64 (rtn:Int)) (hrt9:rtn<=1000000)
  (rb rl rc rs i n sz:Nat) (sa:Addr) (hnx:f'.next=i) (hnum:f'.num=n) (hin:¬i<n) (hn9:n<=1000000) (hi9:i<=1000000) (hrng:rng=.slice (some ⟨rb,0,none⟩) rl rc) (hrs:f'.rstart=rs) (hrs1:rs<=rtn) (hrs2:rtn<=rl) (hrs3:rl<=rc) (hsa:(rc=rs->sa=⟨rb,0,none⟩)/\(rc≠rs->sa=⟨rb,rs*3,none⟩)) (hsz:f'.size=sz) (hsz9:sz<=1000000000)
  (hfin:∀(wx:World) (cp:Nat),Keep [sb] w wx->FrAt wx sb (j*14) f' L R->Calls Tryz.prog 180 #[.pointer (some ⟨sb,j*14,none⟩),.slice (some sa) (rtn-rs) cp] wx fun e w'=>e=.returned .nilIface/\Keep [] wx w')
  (hdone:∀w',Keep [sb] w w'->FrAt w' sb (j*14) f' L R->VDone K Q0 (.agg #[.slice ma mn mc,.slice ko kn kc]) v (.pointer (some ⟨bxb,0,none⟩)) rng rt sb j sz w'):
  Code.wp Tryz.prog vbody (Exit.then K Q0) ⟨#[.agg #[.slice ma mn mc,.slice ko kn kc],v,.slice (some ⟨sb,0,none⟩) k 32,rng,rt,.pointer (some ⟨bxb,0,none⟩),u6,u7,u8,u9,.int .i64 0,.nilIface,rsz,.nilIface,.bool false,u15,u16,u17,u18,u19,u20,u21,u22,u23,u24,u25,u26,u27,u28,u29,u30,u31,u32,u33,u34,u35,u36,u37,u38,u39,u40,u41,u42,u43,u44,u45,u46,u47,u48,u49,u50,u51,u52,u53,u54,u55,u56,u57,u58,u59,u60,u61,u62,u63,u64,u65,u66,u67,u68,u69,u70,u71,u72,u73,u74,u75,u76,u77,u78,u79,u80,u81,u82,u83,u84,u85,u86,u87,u88,u89,u90,u91,u92,u93,u94,u95,u96,u97,u98,u99,u100,u101,u102,u103,u104,u105,u106,u107,u108,u109,u110,u111,u112,u113,u114,u115,u116,u117,u118,u119,u120,u121,u122,u123,u124,u125,u126,u127,u128,u129,u130,u131,u132,u133,u134,u135,u136,u137,u138,u139,u140,u141,u142,u143,u144,u145,u146,u147,u148,u149,u150,u151,u152,u153,u154,u155,u156,u157,u158,u159,u160,u161,u162,u163,u164,u165,u166,u167,u168,u169,u170,u171,u172,u173,u174,u175,u176,u177,u178,u179,u180,u181,u182,u183,u184,u185,u186,u187,u188,u189,u190,u191,u192,u193,u194,u195,u196,u197,u198,u199,u200,u201,u202,u203,u204,u205,u206,u207,u208,u209,u210,u211,u212,u213,u214,u215,u216,u217,u218,u219,u220,u221,u222,u223,u224,u225,u226,u227,u228,u229,u230,u231,u232,u233,u234,u235,u236,u237,u238,u239,u240,u241,u242,u243,u244,u245,u246,u247,u248,u249,u250,u251,u252,u253,u254,u255,u256,u257,u258,u259,u260,u261,u262,u263,u264,u265,u266,u267,u268,u269,u270,u271,u272,u273,u274,u275,u276,u277,u278,u279,u280,u281,u282,u283,u284,u285,u286,u287,u288,u289,u290,u291,u292,u293,u294,u295,u296,u297,u298,u299,u300,u301,u302,u303,u304,u305],[]⟩ w:=by
 conv=>arg 2;whnf
 subst hrng;subst hrt;have c13:=hF.cell (j:=13) rfl;rw[hinit]at c13;have hz:=hF.frozen;have hki:(0:Int)<(k:Int):=by omega
 have HP:=qq hprep;clear hprep
 go_upto_region 29 with(fail)
 have hF1:FrAt (w.setCell ⟨sb,j*14+13,none⟩ (.bool true)) sb (j*14) {f with init:=true} L R:=hF.set 13 _ (by omega) rfl;have k1:Keep [sb] w (w.setCell ⟨sb,j*14+13,none⟩ (.bool true)):=(Keep.refl _ _).set (.inl (by simp)) _ _ _;generalize w.setCell ⟨sb,j*14+13,none⟩ (.bool true)=w1 at hF1 k1 ⊢;have hbx1:=hbx.keep k1 (by simpa using hbs);obtain⟨b0,b1⟩:=hbx1.c2 0 1 rfl rfl;clear c13 hz;go_wp2_with fail
 refine(HP.out w1 k1 hF1).mono ?_;rintro e w2 ⟨rfl,k2,hF2⟩;have K2:Keep [sb] w w2:=k1.trans k2 (by simp);clear k1 k2 hF1 hbx1 b0 b1 hF HP w1;have c12:=hF2.cell (j:=12) rfl;rw[hkd]at c12
 go_upto_region 38 with(fail)
 obtain⟨w3,hw3⟩:∃w3,w3=w2:=⟨_,rfl⟩;have hF3:FrAt w3 sb (j*14) f' L R:=by rw[hw3,hf'];exact hF2
 have K3:Keep [sb] w w3:=by rw[hw3];exact K2
 rw[<-hw3];have hkd':f'.kind=3:=by rw[hf'];exact hkd
 clear c12 hF2 K2 hw3 hkd hf';have HN:=qq2 hfin hdone;clear hfin hdone hbx hbs;have c12:=hF3.cell (j:=12) rfl;rw[hkd']at c12;have c5:=hF3.cell (j:=5) rfl;rw[hnum]at c5;have c6:=hF3.cell (j:=6) rfl;rw[hnx]at c6;have c10:=hF3.cell (j:=10) rfl;rw[hrs]at c10;have hini:¬(i:Int)<(n:Int):=by omega
 have HF3:=qq2 hF3 K3;clear hF3 K3;go_wp2_with fail
 go_quiet (fail)
 by_cases hrc:rc=rs
 ·have hsaE:=hsa.1 hrc;subst hsaE;subst hrc;go_wp2_with fail
  refine(HN.out.1 _ _ (HF3.out.2.drewN nq) ⟨HF3.out.1.1,HF3.out.1.2.drewN nq⟩).mono ?_;rintro e w5 ⟨rfl,k5⟩;have hF5:FrAt w5 sb (j*14) f' L R:=FrAt.keep (w:=w3.drewN nq) ⟨HF3.out.1.1,HF3.out.1.2.drewN nq⟩ k5 (by simp);have K5:Keep [sb] w w5:=(HF3.out.2.drewN nq).trans k5 (by simp);clear k5 c12 c5 c6 c10;have c1:=hF5.cell (j:=1) rfl;rw[hsz]at c1;have c12:=hF5.cell (j:=12) rfl;rw[hkd']at c12;have c10:=hF5.cell (j:=10) rfl;rw[hrs]at c10;have HF5:=qq2 hF5 K5;have HD:=qq HN.out.2;clear hF5 K5 HN HF3;by_cases hj0:j=0
  ·have hjb:((j:Int)==0)=true:=by simp[hj0]
   have Hj:=qq hj0;clear hj0;go_wp2;exact(HD.out _ (HF5.out.2) (HF5.out.1)).2 Hj.out _ rfl rfl rfl
  ·have hjb:((j:Int)==0)=false:=by simp[hj0]
   have hji:¬(j:Int)=0:=by omega
   have Hj:=qq hj0;clear hj0;go_wp2;exact(HD.out _ (HF5.out.2) (HF5.out.1)).1 (by have:=Hj.out;omega) ..
 ·have hsaE:=hsa.2 hrc;subst hsaE;go_wp2_with fail
  refine(HN.out.1 _ _ (HF3.out.2.drewN nq) ⟨HF3.out.1.1,HF3.out.1.2.drewN nq⟩).mono ?_;rintro e w5 ⟨rfl,k5⟩;have hF5:FrAt w5 sb (j*14) f' L R:=FrAt.keep (w:=w3.drewN nq) ⟨HF3.out.1.1,HF3.out.1.2.drewN nq⟩ k5 (by simp);have K5:Keep [sb] w w5:=(HF3.out.2.drewN nq).trans k5 (by simp);clear k5 c12 c5 c6 c10;have c1:=hF5.cell (j:=1) rfl;rw[hsz]at c1;have c12:=hF5.cell (j:=12) rfl;rw[hkd']at c12;have c10:=hF5.cell (j:=10) rfl;rw[hrs]at c10;have HF5:=qq2 hF5 K5;have HD:=qq HN.out.2;clear hF5 K5 HN HF3;by_cases hj0:j=0
  ·have hjb:((j:Int)==0)=true:=by simp[hj0]
   have Hj:=qq hj0;clear hj0;go_wp2;exact(HD.out _ (HF5.out.2) (HF5.out.1)).2 Hj.out _ rfl rfl rfl
  ·have hjb:((j:Int)==0)=false:=by simp[hj0]
   have hji:¬(j:Int)=0:=by omega
   have Hj:=qq hj0;clear hj0;go_wp2;exact(HD.out _ (HF5.out.2) (HF5.out.1)).1 (by have:=Hj.out;omega) ..
theorem finFreshArr_ls (sb j k:Nat) (f:VF) (L R:List Value) (ma ko:Option Addr) (mn mc kn kc bxb:Nat) (v rng rt rsz:Value) (w:World) (Q0:Exit->Act->World->Prop)
  (hF:FrAt w sb (j*14) f L R) (hkj:(k:Int)-1=(j:Int)) (hjk:j<k) (hk32:k<32) (hbx:Blk w bxb [.slice ma mn mc,.slice ko kn kc]) (hbs:bxb≠sb)
  (f1 f':VF) (rtn:Nat) (hinit:f.init=false) (hprep:∀wx,Keep [sb] w wx->FrAt wx sb (j*14) {f with init:=true} L R->Calls Tryz.prog 176 #[.agg #[.slice ma mn mc,.slice ko kn kc],.pointer (some ⟨sb,j*14,none⟩)] wx fun e w'=>e=.returned .nilIface/\Keep [sb] wx w'/\FrAt w' sb (j*14) f1 L R) (hkd:f1.kind=3) (hf':f'=f1) (hrt:rt=.int .i64 (rtn:Int)) (hrt9:rtn<=1000000)
  (rb rl rc rs i n sz:Nat) (sa:Addr) (hnx:f'.next=i) (hnum:f'.num=n) (hin:¬i<n) (hn9:n<=1000000) (hi9:i<=1000000) (hrng:rng=.slice (some ⟨rb,0,none⟩) rl rc) (hrs:f'.rstart=rs) (hrs1:rs<=rtn) (hrs2:rtn<=rl) (hrs3:rl<=rc) (hsa:(rc=rs->sa=⟨rb,0,none⟩)/\(rc≠rs->sa=⟨rb,rs*3,none⟩)) (hsz:f'.size=sz) (hsz9:sz<=1000000000)
  (hfin:∀(wx:World) (cp:Nat),Keep [sb] w wx->FrAt wx sb (j*14) f' L R->Calls Tryz.prog 180 #[.pointer (some ⟨sb,j*14,none⟩),.slice (some sa) (rtn-rs) cp] wx fun e w'=>e=.returned .nilIface/\Keep [] wx w')
  (hdone:∀w',Keep [sb] w w'->FrAt w' sb (j*14) f' L R->VDone (LoopOK Tryz.prog vbody Q0) Q0 (.agg #[.slice ma mn mc,.slice ko kn kc]) v (.pointer (some ⟨bxb,0,none⟩)) rng rt sb j sz w'):
  LS (LoopOK Tryz.prog vbody Q0) (.agg #[.slice ma mn mc,.slice ko kn kc]) v (.pointer (some ⟨bxb,0,none⟩)) (.slice (some ⟨sb,0,none⟩) k 32) rng rt rsz (.bool false) w:=by
 intro u6 u7 u8 u9 u15 u16 u17 u18 u19 u20 u21 u22 u23 u24 u25 u26 u27 u28 u29 u30 u31 u32 u33 u34 u35 u36 u37 u38 u39 u40 u41 u42 u43 u44 u45 u46 u47 u48 u49 u50 u51 u52 u53 u54 u55 u56 u57 u58 u59 u60 u61 u62 u63 u64 u65 u66 u67 u68 u69 u70 u71 u72 u73 u74 u75 u76 u77 u78 u79 u80 u81 u82 u83 u84 u85 u86 u87 u88 u89 u90 u91 u92 u93 u94 u95 u96 u97 u98 u99 u100 u101 u102 u103 u104 u105 u106 u107 u108 u109 u110 u111 u112 u113 u114 u115 u116 u117 u118 u119 u120 u121 u122 u123 u124 u125 u126 u127 u128 u129 u130 u131 u132 u133 u134 u135 u136 u137 u138 u139 u140 u141 u142 u143 u144 u145 u146 u147 u148 u149 u150 u151 u152 u153 u154 u155 u156 u157 u158 u159 u160 u161 u162 u163 u164 u165 u166 u167 u168 u169 u170 u171 u172 u173 u174 u175 u176 u177 u178 u179 u180 u181 u182 u183 u184 u185 u186 u187 u188 u189 u190 u191 u192 u193 u194 u195 u196 u197 u198 u199 u200 u201 u202 u203 u204 u205 u206 u207 u208 u209 u210 u211 u212 u213 u214 u215 u216 u217 u218 u219 u220 u221 u222 u223 u224 u225 u226 u227 u228 u229 u230 u231 u232 u233 u234 u235 u236 u237 u238 u239 u240 u241 u242 u243 u244 u245 u246 u247 u248 u249 u250 u251 u252 u253 u254 u255 u256 u257 u258 u259 u260 u261 u262 u263 u264 u265 u266 u267 u268 u269 u270 u271 u272 u273 u274 u275 u276 u277 u278 u279 u280 u281 u282 u283 u284 u285 u286 u287 u288 u289 u290 u291 u292 u293 u294 u295 u296 u297 u298 u299 u300 u301 u302 u303 u304 u305;exact LoopOK.step (finFreshArr sb j k f L R ma ko mn mc kn kc bxb v rng rt rsz w _ Q0 u6 u7 u8 u9 u15 u16 u17 u18 u19 u20 u21 u22 u23 u24 u25 u26 u27 u28 u29 u30 u31 u32 u33 u34 u35 u36 u37 u38 u39 u40 u41 u42 u43 u44 u45 u46 u47 u48 u49 u50 u51 u52 u53 u54 u55 u56 u57 u58 u59 u60 u61 u62 u63 u64 u65 u66 u67 u68 u69 u70 u71 u72 u73 u74 u75 u76 u77 u78 u79 u80 u81 u82 u83 u84 u85 u86 u87 u88 u89 u90 u91 u92 u93 u94 u95 u96 u97 u98 u99 u100 u101 u102 u103 u104 u105 u106 u107 u108 u109 u110 u111 u112 u113 u114 u115 u116 u117 u118 u119 u120 u121 u122 u123 u124 u125 u126 u127 u128 u129 u130 u131 u132 u133 u134 u135 u136 u137 u138 u139 u140 u141 u142 u143 u144 u145 u146 u147 u148 u149 u150 u151 u152 u153 u154 u155 u156 u157 u158 u159 u160 u161 u162 u163 u164 u165 u166 u167 u168 u169 u170 u171 u172 u173 u174 u175 u176 u177 u178 u179 u180 u181 u182 u183 u184 u185 u186 u187 u188 u189 u190 u191 u192 u193 u194 u195 u196 u197 u198 u199 u200 u201 u202 u203 u204 u205 u206 u207 u208 u209 u210 u211 u212 u213 u214 u215 u216 u217 u218 u219 u220 u221 u222 u223 u224 u225 u226 u227 u228 u229 u230 u231 u232 u233 u234 u235 u236 u237 u238 u239 u240 u241 u242 u243 u244 u245 u246 u247 u248 u249 u250 u251 u252 u253 u254 u255 u256 u257 u258 u259 u260 u261 u262 u263 u264 u265 u266 u267 u268 u269 u270 u271 u272 u273 u274 u275 u276 u277 u278 u279 u280 u281 u282 u283 u284 u285 u286 u287 u288 u289 u290 u291 u292 u293 u294 u295 u296 u297 u298 u299 u300 u301 u302 u303 u304 u305 hF hkj hjk hk32 hbx hbs f1 f' rtn hinit hprep hkd hf' hrt hrt9 rb rl rc rs i n sz sa hnx hnum hin hn9 hi9 hrng hrs hrs1 hrs2 hrs3 hsa hsz hsz9 hfin hdone)
theorem finOldArr (sb j k:Nat) (f:VF) (L R:List Value) (ma ko:Option Addr) (mn mc kn kc bxb:Nat) (v rng rt rsz:Value) (w:World) (K:Act->World->Prop) (Q0:Exit->Act->World->Prop) (u6 u7 u8 u9 u15 u16 u17 u18 u19 u20 u21 u22 u23 u24 u25 u26 u27 u28 u29 u30 u31 u32 u33 u34 u35 u36 u37 u38 u39 u40 u41 u42 u43 u44 u45 u46 u47 u48 u49 u50 u51 u52 u53 u54 u55 u56 u57 u58 u59 u60 u61 u62 u63 u64 u65 u66 u67 u68 u69 u70 u71 u72 u73 u74 u75 u76 u77 u78 u79 u80 u81 u82 u83 u84 u85 u86 u87 u88 u89 u90 u91 u92 u93 u94 u95 u96 u97 u98 u99 u100 u101 u102 u103 u104 u105 u106 u107 u108 u109 u110 u111 u112 u113 u114 u115 u116 u117 u118 u119 u120 u121 u122 u123 u124 u125 u126 u127 u128 u129 u130 u131 u132 u133 u134 u135 u136 u137 u138 u139 u140 u141 u142 u143 u144 u145 u146 u147 u148 u149 u150 u151 u152 u153 u154 u155 u156 u157 u158 u159 u160 u161 u162 u163 u164 u165 u166 u167 u168 u169 u170 u171 u172 u173 u174 u175 u176 u177 u178 u179 u180 u181 u182 u183 u184 u185 u186 u187 u188 u189 u190 u191 u192 u193 u194 u195 u196 u197 u198 u199 u200 u201 u202 u203 u204 u205 u206 u207 u208 u209 u210 u211 u212 u213 u214 u215 u216 u217 u218 u219 u220 u221 u222 u223 u224 u225 u226 u227 u228 u229 u230 u231 u232 u233 u234 u235 u236 u237 u238 u239 u240 u241 u242 u243 u244 u245 u246 u247 u248 u249 u250 u251 u252 u253 u254 u255 u256 u257 u258 u259 u260 u261 u262 u263 u264 u265 u266 u267 u268 u269 u270 u271 u272 u273 u274 u275 u276 u277 u278 u279 u280 u281 u282 u283 u284 u285 u286 u287 u288 u289 u290 u291 u292 u293 u294 u295 u296 u297 u298 u299 u300 u301 u302 u303 u304 u305:Value)
  (hF:FrAt w sb (j*14) f L R) (hkj:(k:Int)-1=(j:Int)) (hjk:j<k) (hk32:k<32) (hbx:Blk w bxb [.slice ma mn mc,.slice ko kn kc]) (hbs:bxb≠sb)
  (f':VF) (hinit:f.init=true) (hkd:f.kind=3) (hf':f'=f) (rtn:Nat) (hrt:rt=.int .i64 (rtn:Int)) (hrt9:rtn<=1000000)
  (rb rl rc rs i n sz:Nat) (sa:Addr) (hnx:f'.next=i) (hnum:f'.num=n) (hin:¬i<n) (hn9:n<=1000000) (hi9:i<=1000000) (hrng:rng=.slice (some ⟨rb,0,none⟩) rl rc) (hrs:f'.rstart=rs) (hrs1:rs<=rtn) (hrs2:rtn<=rl) (hrs3:rl<=rc) (hsa:(rc=rs->sa=⟨rb,0,none⟩)/\(rc≠rs->sa=⟨rb,rs*3,none⟩)) (hsz:f'.size=sz) (hsz9:sz<=1000000000)
  (hfin:∀(wx:World) (cp:Nat),Keep [sb] w wx->FrAt wx sb (j*14) f' L R->Calls Tryz.prog 180 #[.pointer (some ⟨sb,j*14,none⟩),.slice (some sa) (rtn-rs) cp] wx fun e w'=>e=.returned .nilIface/\Keep [] wx w')
  (hdone:∀w',Keep [sb] w w'->FrAt w' sb (j*14) f' L R->VDone K Q0 (.agg #[.slice ma mn mc,.slice ko kn kc]) v (.pointer (some ⟨bxb,0,none⟩)) rng rt sb j sz w'):
  Code.wp Tryz.prog vbody (Exit.then K Q0) ⟨#[.agg #[.slice ma mn mc,.slice ko kn kc],v,.slice (some ⟨sb,0,none⟩) k 32,rng,rt,.pointer (some ⟨bxb,0,none⟩),u6,u7,u8,u9,.int .i64 0,.nilIface,rsz,.nilIface,.bool false,u15,u16,u17,u18,u19,u20,u21,u22,u23,u24,u25,u26,u27,u28,u29,u30,u31,u32,u33,u34,u35,u36,u37,u38,u39,u40,u41,u42,u43,u44,u45,u46,u47,u48,u49,u50,u51,u52,u53,u54,u55,u56,u57,u58,u59,u60,u61,u62,u63,u64,u65,u66,u67,u68,u69,u70,u71,u72,u73,u74,u75,u76,u77,u78,u79,u80,u81,u82,u83,u84,u85,u86,u87,u88,u89,u90,u91,u92,u93,u94,u95,u96,u97,u98,u99,u100,u101,u102,u103,u104,u105,u106,u107,u108,u109,u110,u111,u112,u113,u114,u115,u116,u117,u118,u119,u120,u121,u122,u123,u124,u125,u126,u127,u128,u129,u130,u131,u132,u133,u134,u135,u136,u137,u138,u139,u140,u141,u142,u143,u144,u145,u146,u147,u148,u149,u150,u151,u152,u153,u154,u155,u156,u157,u158,u159,u160,u161,u162,u163,u164,u165,u166,u167,u168,u169,u170,u171,u172,u173,u174,u175,u176,u177,u178,u179,u180,u181,u182,u183,u184,u185,u186,u187,u188,u189,u190,u191,u192,u193,u194,u195,u196,u197,u198,u199,u200,u201,u202,u203,u204,u205,u206,u207,u208,u209,u210,u211,u212,u213,u214,u215,u216,u217,u218,u219,u220,u221,u222,u223,u224,u225,u226,u227,u228,u229,u230,u231,u232,u233,u234,u235,u236,u237,u238,u239,u240,u241,u242,u243,u244,u245,u246,u247,u248,u249,u250,u251,u252,u253,u254,u255,u256,u257,u258,u259,u260,u261,u262,u263,u264,u265,u266,u267,u268,u269,u270,u271,u272,u273,u274,u275,u276,u277,u278,u279,u280,u281,u282,u283,u284,u285,u286,u287,u288,u289,u290,u291,u292,u293,u294,u295,u296,u297,u298,u299,u300,u301,u302,u303,u304,u305],[]⟩ w:=by
 conv=>arg 2;whnf
 subst hrng;subst hrt;have hki:(0:Int)<(k:Int):=by omega
 have c13:=hF.cell (j:=13) rfl;rw[hinit]at c13
 go_upto_region 38 with(fail)
 obtain⟨w3,hw3⟩:∃w3,w3=w:=⟨_,rfl⟩;have hF3:FrAt w3 sb (j*14) f' L R:=by rw[hw3,hf'];exact hF
 have K3:Keep [sb] w w3:=by rw[hw3];exact Keep.refl _ _
 rw[<-hw3];have hkd':f'.kind=3:=by rw[hf'];exact hkd
 clear c13 hF hw3 hkd hf';have HN:=qq2 hfin hdone;clear hfin hdone hbx hbs;have c12:=hF3.cell (j:=12) rfl;rw[hkd']at c12;have c5:=hF3.cell (j:=5) rfl;rw[hnum]at c5;have c6:=hF3.cell (j:=6) rfl;rw[hnx]at c6;have c10:=hF3.cell (j:=10) rfl;rw[hrs]at c10;have hini:¬(i:Int)<(n:Int):=by omega
 have HF3:=qq2 hF3 K3;clear hF3 K3;go_wp2_with fail
 go_quiet (fail)
 by_cases hrc:rc=rs
 ·have hsaE:=hsa.1 hrc;subst hsaE;subst hrc;go_wp2_with fail
  refine(HN.out.1 _ _ (HF3.out.2.drewN nq) ⟨HF3.out.1.1,HF3.out.1.2.drewN nq⟩).mono ?_;rintro e w5 ⟨rfl,k5⟩;have hF5:FrAt w5 sb (j*14) f' L R:=FrAt.keep (w:=w3.drewN nq) ⟨HF3.out.1.1,HF3.out.1.2.drewN nq⟩ k5 (by simp);have K5:Keep [sb] w w5:=(HF3.out.2.drewN nq).trans k5 (by simp);clear k5 c12 c5 c6 c10;have c1:=hF5.cell (j:=1) rfl;rw[hsz]at c1;have c12:=hF5.cell (j:=12) rfl;rw[hkd']at c12;have c10:=hF5.cell (j:=10) rfl;rw[hrs]at c10;have HF5:=qq2 hF5 K5;have HD:=qq HN.out.2;clear hF5 K5 HN HF3;by_cases hj0:j=0
  ·have hjb:((j:Int)==0)=true:=by simp[hj0]
   have Hj:=qq hj0;clear hj0;go_wp2;exact(HD.out _ (HF5.out.2) (HF5.out.1)).2 Hj.out _ rfl rfl rfl
  ·have hjb:((j:Int)==0)=false:=by simp[hj0]
   have hji:¬(j:Int)=0:=by omega
   have Hj:=qq hj0;clear hj0;go_wp2;exact(HD.out _ (HF5.out.2) (HF5.out.1)).1 (by have:=Hj.out;omega) ..
 ·have hsaE:=hsa.2 hrc;subst hsaE;go_wp2_with fail
  refine(HN.out.1 _ _ (HF3.out.2.drewN nq) ⟨HF3.out.1.1,HF3.out.1.2.drewN nq⟩).mono ?_;rintro e w5 ⟨rfl,k5⟩;have hF5:FrAt w5 sb (j*14) f' L R:=FrAt.keep (w:=w3.drewN nq) ⟨HF3.out.1.1,HF3.out.1.2.drewN nq⟩ k5 (by simp);have K5:Keep [sb] w w5:=(HF3.out.2.drewN nq).trans k5 (by simp);clear k5 c12 c5 c6 c10;have c1:=hF5.cell (j:=1) rfl;rw[hsz]at c1;have c12:=hF5.cell (j:=12) rfl;rw[hkd']at c12;have c10:=hF5.cell (j:=10) rfl;rw[hrs]at c10;have HF5:=qq2 hF5 K5;have HD:=qq HN.out.2;clear hF5 K5 HN HF3;by_cases hj0:j=0
  ·have hjb:((j:Int)==0)=true:=by simp[hj0]
   have Hj:=qq hj0;clear hj0;go_wp2;exact(HD.out _ (HF5.out.2) (HF5.out.1)).2 Hj.out _ rfl rfl rfl
  ·have hjb:((j:Int)==0)=false:=by simp[hj0]
   have hji:¬(j:Int)=0:=by omega
   have Hj:=qq hj0;clear hj0;go_wp2;exact(HD.out _ (HF5.out.2) (HF5.out.1)).1 (by have:=Hj.out;omega) ..
theorem finOldArr_ls (sb j k:Nat) (f:VF) (L R:List Value) (ma ko:Option Addr) (mn mc kn kc bxb:Nat) (v rng rt rsz:Value) (w:World) (Q0:Exit->Act->World->Prop)
  (hF:FrAt w sb (j*14) f L R) (hkj:(k:Int)-1=(j:Int)) (hjk:j<k) (hk32:k<32) (hbx:Blk w bxb [.slice ma mn mc,.slice ko kn kc]) (hbs:bxb≠sb)
  (f':VF) (hinit:f.init=true) (hkd:f.kind=3) (hf':f'=f) (rtn:Nat) (hrt:rt=.int .i64 (rtn:Int)) (hrt9:rtn<=1000000)
  (rb rl rc rs i n sz:Nat) (sa:Addr) (hnx:f'.next=i) (hnum:f'.num=n) (hin:¬i<n) (hn9:n<=1000000) (hi9:i<=1000000) (hrng:rng=.slice (some ⟨rb,0,none⟩) rl rc) (hrs:f'.rstart=rs) (hrs1:rs<=rtn) (hrs2:rtn<=rl) (hrs3:rl<=rc) (hsa:(rc=rs->sa=⟨rb,0,none⟩)/\(rc≠rs->sa=⟨rb,rs*3,none⟩)) (hsz:f'.size=sz) (hsz9:sz<=1000000000)
  (hfin:∀(wx:World) (cp:Nat),Keep [sb] w wx->FrAt wx sb (j*14) f' L R->Calls Tryz.prog 180 #[.pointer (some ⟨sb,j*14,none⟩),.slice (some sa) (rtn-rs) cp] wx fun e w'=>e=.returned .nilIface/\Keep [] wx w')
  (hdone:∀w',Keep [sb] w w'->FrAt w' sb (j*14) f' L R->VDone (LoopOK Tryz.prog vbody Q0) Q0 (.agg #[.slice ma mn mc,.slice ko kn kc]) v (.pointer (some ⟨bxb,0,none⟩)) rng rt sb j sz w'):
  LS (LoopOK Tryz.prog vbody Q0) (.agg #[.slice ma mn mc,.slice ko kn kc]) v (.pointer (some ⟨bxb,0,none⟩)) (.slice (some ⟨sb,0,none⟩) k 32) rng rt rsz (.bool false) w:=by
 intro u6 u7 u8 u9 u15 u16 u17 u18 u19 u20 u21 u22 u23 u24 u25 u26 u27 u28 u29 u30 u31 u32 u33 u34 u35 u36 u37 u38 u39 u40 u41 u42 u43 u44 u45 u46 u47 u48 u49 u50 u51 u52 u53 u54 u55 u56 u57 u58 u59 u60 u61 u62 u63 u64 u65 u66 u67 u68 u69 u70 u71 u72 u73 u74 u75 u76 u77 u78 u79 u80 u81 u82 u83 u84 u85 u86 u87 u88 u89 u90 u91 u92 u93 u94 u95 u96 u97 u98 u99 u100 u101 u102 u103 u104 u105 u106 u107 u108 u109 u110 u111 u112 u113 u114 u115 u116 u117 u118 u119 u120 u121 u122 u123 u124 u125 u126 u127 u128 u129 u130 u131 u132 u133 u134 u135 u136 u137 u138 u139 u140 u141 u142 u143 u144 u145 u146 u147 u148 u149 u150 u151 u152 u153 u154 u155 u156 u157 u158 u159 u160 u161 u162 u163 u164 u165 u166 u167 u168 u169 u170 u171 u172 u173 u174 u175 u176 u177 u178 u179 u180 u181 u182 u183 u184 u185 u186 u187 u188 u189 u190 u191 u192 u193 u194 u195 u196 u197 u198 u199 u200 u201 u202 u203 u204 u205 u206 u207 u208 u209 u210 u211 u212 u213 u214 u215 u216 u217 u218 u219 u220 u221 u222 u223 u224 u225 u226 u227 u228 u229 u230 u231 u232 u233 u234 u235 u236 u237 u238 u239 u240 u241 u242 u243 u244 u245 u246 u247 u248 u249 u250 u251 u252 u253 u254 u255 u256 u257 u258 u259 u260 u261 u262 u263 u264 u265 u266 u267 u268 u269 u270 u271 u272 u273 u274 u275 u276 u277 u278 u279 u280 u281 u282 u283 u284 u285 u286 u287 u288 u289 u290 u291 u292 u293 u294 u295 u296 u297 u298 u299 u300 u301 u302 u303 u304 u305;exact LoopOK.step (finOldArr sb j k f L R ma ko mn mc kn kc bxb v rng rt rsz w _ Q0 u6 u7 u8 u9 u15 u16 u17 u18 u19 u20 u21 u22 u23 u24 u25 u26 u27 u28 u29 u30 u31 u32 u33 u34 u35 u36 u37 u38 u39 u40 u41 u42 u43 u44 u45 u46 u47 u48 u49 u50 u51 u52 u53 u54 u55 u56 u57 u58 u59 u60 u61 u62 u63 u64 u65 u66 u67 u68 u69 u70 u71 u72 u73 u74 u75 u76 u77 u78 u79 u80 u81 u82 u83 u84 u85 u86 u87 u88 u89 u90 u91 u92 u93 u94 u95 u96 u97 u98 u99 u100 u101 u102 u103 u104 u105 u106 u107 u108 u109 u110 u111 u112 u113 u114 u115 u116 u117 u118 u119 u120 u121 u122 u123 u124 u125 u126 u127 u128 u129 u130 u131 u132 u133 u134 u135 u136 u137 u138 u139 u140 u141 u142 u143 u144 u145 u146 u147 u148 u149 u150 u151 u152 u153 u154 u155 u156 u157 u158 u159 u160 u161 u162 u163 u164 u165 u166 u167 u168 u169 u170 u171 u172 u173 u174 u175 u176 u177 u178 u179 u180 u181 u182 u183 u184 u185 u186 u187 u188 u189 u190 u191 u192 u193 u194 u195 u196 u197 u198 u199 u200 u201 u202 u203 u204 u205 u206 u207 u208 u209 u210 u211 u212 u213 u214 u215 u216 u217 u218 u219 u220 u221 u222 u223 u224 u225 u226 u227 u228 u229 u230 u231 u232 u233 u234 u235 u236 u237 u238 u239 u240 u241 u242 u243 u244 u245 u246 u247 u248 u249 u250 u251 u252 u253 u254 u255 u256 u257 u258 u259 u260 u261 u262 u263 u264 u265 u266 u267 u268 u269 u270 u271 u272 u273 u274 u275 u276 u277 u278 u279 u280 u281 u282 u283 u284 u285 u286 u287 u288 u289 u290 u291 u292 u293 u294 u295 u296 u297 u298 u299 u300 u301 u302 u303 u304 u305 hF hkj hjk hk32 hbx hbs f' hinit hkd hf' rtn hrt hrt9 rb rl rc rs i n sz sa hnx hnum hin hn9 hi9 hrng hrs hrs1 hrs2 hrs3 hsa hsz hsz9 hfin hdone)
end Go.Proofs.YtocgdgmfnockiaaGreatDoor
