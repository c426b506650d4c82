/- Variants, the law's side: variantFits, VariantFits. Variants, the law's side: VariantFits. -/
import Derived.Test.YtocgdgmfnockiaaGreatDoorV21
import Derived.Test.YtocgdgmfnockiaaGreatDoorV23
import Derived.Test.YtocgdgmfnockiaaGreatDoorV34
set_option linter.unusedVariables false
set_option linter.unusedSimpArgs false
set_option maxRecDepth 100000
set_option maxHeartbeats 8000000
namespace Go.Proofs.YtocgdgmfnockiaaGreatDoor
open Go.RowKit

theorem flatAll (kind:Int) (scale:Int) (num:Nat) (text:ByteArray) (a1 a2:Option Addr) (l1 c1 l2 c2:Nat) (w:World) (hk:0<=kind/\kind<=21) (hn:num<18446744073709551616) (hs:text.size<=maxLen) (hT:Tabs w):
  Calls Tryz.prog 28 #[.agg #[.int .i64 kind,.int .u64 (num:Int),.int .i64 scale,.string text,.slice a1 l1 c1,.slice a2 l2 c2],.bool false] w fun e w'=>∃z,e=.returned (.bool z)/\Keep [] w w'/\(z=true->FlatOk kind scale num text):=by
 have hcase:kind=0\/kind=1\/kind=2\/kind=3\/kind=4\/kind=5\/kind=6\/kind=7\/kind=8\/kind=9\/kind=10\/kind=11\/kind=12\/kind=13\/kind=14\/kind=15\/kind=16\/kind=17\/kind=18\/kind=19\/kind=20\/kind=21:=by omega
 rcases hcase with rfl|rfl|rfl|rfl|rfl|rfl|rfl|rfl|rfl|rfl|rfl|rfl|rfl|rfl|rfl|rfl|rfl|rfl|rfl|rfl|rfl|rfl
 ·exact flat0 scale num text a1 a2 l1 c1 l2 c2 w hn hs hT
 ·exact flat1 scale num text a1 a2 l1 c1 l2 c2 w hn hs hT
 ·exact flat2 scale num text a1 a2 l1 c1 l2 c2 w hn hs hT
 ·exact flat3 scale num text a1 a2 l1 c1 l2 c2 w hn hs hT
 ·exact flat4 scale num text a1 a2 l1 c1 l2 c2 w hn hs hT
 ·exact flat5 scale num text a1 a2 l1 c1 l2 c2 w hn hs hT
 ·exact flat6 scale num text a1 a2 l1 c1 l2 c2 w hn hs hT
 ·exact flat7 scale num text a1 a2 l1 c1 l2 c2 w hn hs hT
 ·exact flat8 scale num text a1 a2 l1 c1 l2 c2 w hn hs hT
 ·exact flat9 scale num text a1 a2 l1 c1 l2 c2 w hn hs hT
 ·exact flat10 scale num text a1 a2 l1 c1 l2 c2 w hn hs hT
 ·exact flat11 scale num text a1 a2 l1 c1 l2 c2 w hn hs hT
 ·exact flat12 scale num text a1 a2 l1 c1 l2 c2 w hn hs hT
 ·exact flat13 scale num text a1 a2 l1 c1 l2 c2 w hn hs hT
 ·exact flat14 scale num text a1 a2 l1 c1 l2 c2 w hn hs hT
 ·exact flat15 scale num text a1 a2 l1 c1 l2 c2 w hn hs hT
 ·exact flat16 scale num text a1 a2 l1 c1 l2 c2 w hn hs hT
 ·exact flat17 scale num text a1 a2 l1 c1 l2 c2 w hn hs hT
 ·exact flat18 scale num text a1 a2 l1 c1 l2 c2 w hn hs hT
 ·exact flat19 scale num text a1 a2 l1 c1 l2 c2 w hn hs hT
 ·exact flat20 scale num text a1 a2 l1 c1 l2 c2 w hn hs hT
 ·exact flat21 scale num text a1 a2 l1 c1 l2 c2 w hn hs hT
def FitPost (T:Prop) (w:World) (e:Ending) (w':World):Prop:=∃z,e=.returned (.bool z)/\Keep [] w w'/\(z=true->T)

def FitOk (d:Nat):Prop:=∀(x:Vt d) (v:Value) (l:Nat) (w:World),VtAt d w v x->ArgV d x->Tabs w->l<=100->Calls Tryz.prog 13 #[v,.bool false,.int .i64 (l:Int)] w fun e w'=>FitPost (OkV d x/\DepV l d x) w e w'
theorem mkOk {d n m:Nat} {kind scale:Int} {num:Nat} {text:ByteArray} {ks:List ByteArray} {c:List (Vt d)} (hkd:0<=kind/\kind<=21) (hn:n=ks.length) (hm:m=c.length) (hnum:num<18446744073709551616) (hm5:m<=500) (ht:text.size<=4096) (h1:kind=0->n=m) (h2:n=0\/kind=0) (h3:m=0\/kind<=1)
  (hkeys:∀x ∈ ks,x.size<=200) (hsort:ks.Pairwise (fun a b=>ltK a b=true)) (hflat:FlatOk kind scale num text) (hkids:∀y ∈ c,OkV d y):OkN (OkV d) (⟨kind,num,scale,text,ks,c⟩:Node (Vt d)) where
 kind0:=hkd
 num:=hnum
 kidsLe:=by show c.length<=500;omega
 textLe:=ht
 keys0:=fun h=>by
  rcases h2 with h2|h2
  ·exact absurd (List.eq_nil_of_length_eq_zero (show ks.length=0 by omega)) h
  ·exact h2
 kids0:=fun h=>by
  rcases h3 with h3|h3
  ·exact absurd (List.eq_nil_of_length_eq_zero (show c.length=0 by omega)) h
  ·exact h3
 keysKids:=fun h=>by have:=h1 h;show ks.length=c.length;omega
 keyLe:=hkeys
 sorted:=hsort
 flat:=hflat
 kids:=hkids

theorem sort_snoc {ks:List ByteArray} {p:Nat} {q k:ByteArray} (h:(ks.take (p+1)).Pairwise (fun a b=>ltK a b=true)) (hq:ks[p]?=some q) (hk:ks[p+1]?=some k) (hlt:ltK q k=true):(ks.take (p+1+1)).Pairwise (fun a b=>ltK a b=true):=by
 rw[take_snoc hk,List.pairwise_append];refine⟨h,by simp,fun a ha b hb=>?_⟩;rw[List.mem_singleton]at hb;subst hb;rw[take_snoc hq,List.mem_append]at ha;rw[take_snoc hq,List.pairwise_append]at h;rcases ha with ha|ha
 ·exact ltK_trans (h.2.2 a ha q (by simp)) hlt
 ·rw[List.mem_singleton]at ha;subst ha;exact hlt
theorem fitN (d:Nat) (IH:FitOk d) (x:Vt (d+1)) (v:Value) (l:Nat) (w:World) (hv:VtAt (d+1) w v x) (ha:ArgV (d+1) x) (hT:Tabs w) (hl:l<=100):
  Calls Tryz.prog 13 #[v,.bool false,.int .i64 (l:Int)] w fun e w'=>FitPost (OkV (d+1) x/\DepV l (d+1) x) w e w':=by
 have ha2:ArgN (ArgV d) x:=ha;obtain⟨kind,num,scale,text,ks,c⟩:=x;obtain⟨kv0,cv,rfl,hTx,hC⟩:=hv;have hC0:KidsAt (VtAt d w) w cv c:=hC;have hT0:TextsAt w kv0 ks:=hTx;obtain⟨ta,tcap,hte,htc,htell⟩:=hT0;subst hte;obtain⟨ka,kcap,rfl,hkc,-⟩:=hC;simp only at hkc ha2 ⊢;obtain⟨n,hn⟩:∃n,n=ks.length:=⟨_,rfl⟩;obtain⟨m,hm⟩:∃m,m=c.length:=⟨_,rfl⟩;have hC1:KidsAt (VtAt d w) w (.slice ka m kcap) c:=by rw[hm];exact hC0
 rw[<-hn]at htc ⊢;rw[<-hm]at hkc ⊢;obtain⟨Tg,hTg⟩:∃Tg:Prop,Tg=(OkV (d+1) (show Vt (d+1)from⟨kind,num,scale,text,ks,c⟩)/\DepV l (d+1) (show Vt (d+1)from⟨kind,num,scale,text,ks,c⟩)):=⟨_,rfl⟩;show Calls Tryz.prog _ _ _ fun e w'=>FitPost (OkV (d+1) (show Vt (d+1)from⟨kind,num,scale,text,ks,c⟩)/\DepV l (d+1) (show Vt (d+1)from⟨kind,num,scale,text,ks,c⟩)) w e w'
 rw[<-hTg];have hTg2:∀l',l=l'+1->OkN (OkV d) (⟨kind,num,scale,text,ks,c⟩:Node (Vt d))->(∀y ∈ c,DepV l' d y)->Tg:=fun l' e h1 h2=>by
  subst e;rw[hTg];exact⟨h1,h2⟩
 have hw1:Keep [] w (w.alloc (.cells #[.int .i64 kind,.int .u64 (num:Int),.int .i64 scale,.string text,.slice ta n tcap,.slice ka m kcap] 26)):=(Keep.refl [] w).alloc _;have hx1:Blk (w.alloc (.cells #[.int .i64 kind,.int .u64 (num:Int),.int .i64 scale,.string text,.slice ta n tcap,.slice ka m kcap] 26)) w.heap.size [.int .i64 kind,.int .u64 (num:Int),.int .i64 scale,.string text,.slice ta n tcap,.slice ka m kcap]:=Blk.new w _ _;have H:=qq7 htell hC1 ha2 hn hm hTg2 hT;have HX:=qq hx1;have HK:=qq hw1;clear hTx htell hC0 hC1 ha ha2 hn hm hTg2 hTg hw1 hx1 hT;rcases Nat.eq_zero_or_pos l with rfl|hlp
 ·go_enter Tryz.func13,Tryz.ntmps13
  go_wp2;go_ret;unfold FitPost;exact⟨false,rfl,HK.out,by simp⟩
 obtain⟨l',rfl⟩:∃l',l=l'+1:=⟨l-1,by omega⟩;clear hlp;rcases Classical.em (kind<0)with h1|h1
 ·go_enter Tryz.func13,Tryz.ntmps13
  go_wp2;go_ret;unfold FitPost;exact⟨false,rfl,HK.out,by simp⟩
 rcases Classical.em (22<=kind)with h2|h2
 ·go_enter Tryz.func13,Tryz.ntmps13
  go_wp2;go_ret;unfold FitPost;exact⟨false,rfl,HK.out,by simp⟩
 rcases Classical.em ((500:Int)<(m:Int))with h3|h3
 ·go_enter Tryz.func13,Tryz.ntmps13
  go_wp2;go_ret;unfold FitPost;exact⟨false,rfl,HK.out,by simp⟩
 rcases Classical.em ((4096:Int)<(text.size:Int))with h4|h4
 ·go_enter Tryz.func13,Tryz.ntmps13
  go_wp2;go_ret;unfold FitPost;exact⟨false,rfl,HK.out,by simp⟩
 have hkind:0<=kind/\kind<=21:=by omega
 have hm5:m<=500:=by omega
 have ht4:text.size<=4096:=by omega
 have Hkd:=qq3 hkind hm5 ht4;clear hkind hm5 ht4;have key:(kind=0/\n=m)\/(kind=0/\¬n=m)\/(¬kind=0/\0<(n:Int))\/(kind=1/\n=0)\/(¬kind=0/\1<kind/\n=0/\0<(m:Int))\/(¬kind=0/\1<kind/\n=0/\m=0):=by omega
 rcases key with⟨g1,g2⟩|⟨g1,g2⟩|⟨g1,g2⟩|⟨g1,g2⟩|⟨g1,g2,g3,g4⟩|⟨g1,g2,g3,g4⟩
 ·have g2':((n:Int) != (m:Int))=false:=by subst g2;simp
  have Hnm:=qq (show n<=500/\(kind=0->n=m)/\(n=0\/kind=0)/\(m=0\/kind<=1)by have:=Hkd.out;omega);have b1:(kind != 0)=false:=by simp;omega
  have b2:(kind==0)=true:=by simp;omega
  have b3:¬1<kind:=by omega
  clear g1 g2
  go_enter Tryz.func13,Tryz.ntmps13
  go_wp2_with fail
  generalize w.alloc _=w1 at HX HK ⊢;have c4:=HX.out.cell (i:=4) rfl
  go_loopw [72] (fun i wr=>∃j:Nat,j<=n/\i=.int .i64 (j:Int)/\Hid (Keep [] w wr/\Blk wr w.heap.size [.int .i64 kind,.int .u64 (num:Int),.int .i64 scale,.string text,.slice ta n tcap,.slice ka m kcap]/\(∀x ∈ ks.take j,x.size<=200)/\(ks.take j).Pairwise (fun a b=>ltK a b=true))) (fun i _=>n-(intOf i).toNat)
  case atStart=>exact⟨0,Nat.zero_le _,rfl,Lib.hid ⟨HK.out,HX.out,by simp,by simp⟩⟩
  case round=>
   obtain⟨j,hj,rfl,HR⟩:=hrel;clear c4;by_cases hj2:j<n
   ·have hlti:(j:Int)<(n:Int):=by omega
    have hn5:=Hnm.out.1;obtain⟨k,hk⟩:∃k,ks[j]?=some k:=⟨_,List.getElem?_eq_getElem (by rw[<-H.out.2.2.2.1];exact hj2)⟩;obtain⟨a,rfl,hck⟩:=H.out.1 j k hk;have hcr:=HR.out.1.cell_some hck (by simp);have hW:=wellC k wr (H.out.2.2.1.keys k (List.mem_of_getElem? hk)) (H.out.2.2.2.2.2.2.keep HR.out.1);have Hk:=qq hk;clear hk hck;go_wp2_with fail
    refine hW.mono ?_;rintro e w5 ⟨z,rfl,k5⟩;have c4:=(HR.out.2.1.keep k5 (by simp)).cell (i:=4) rfl;have HKK:=qq (HR.out.1.trans k5 (by simp));have H5:=qq k5;clear k5 hW hcr;cases z with
    |false=>
     go_wp2;go_ret;unfold FitPost;exact⟨false,rfl,HKK.out,by simp⟩
    |true=>
     by_cases h20:(200:Int)<(k.size:Int)
     ·go_wp2;go_ret;unfold FitPost;exact⟨false,rfl,HKK.out,by simp⟩
     ·have Hnew:=qq (show ∀x ∈ ks.take (j+1),x.size<=200 from fun x hx=>by
       rw[take_snoc Hk.out,List.mem_append]at hx;rcases hx with hx|hx
       ·exact HR.out.2.2.1 x hx
       ·rw[List.mem_singleton]at hx;subst hx;omega)
      cases j with
      |zero=>
       go_wp2;go_roundw
       case rel=>exact⟨1,hj2,by go_num,Lib.hid ⟨HKK.out,HR.out.2.1.keep H5.out (by simp),Hnew.out,by rw[take_snoc Hk.out];simp⟩⟩
       case measure=>simp[intOf];omega
      |succ p=>
       obtain⟨q,hq⟩:∃q,ks[p]?=some q:=⟨_,List.getElem?_eq_getElem (by rw[<-H.out.2.2.2.1];omega)⟩;obtain⟨a',e,hcq⟩:=H.out.1 p q hq;obtain rfl:a=a':=Option.some.inj e;have hcq':=HKK.out.cell_some hcq (by simp);have hpn:(p:Int)<(n:Int):=by omega
       have Hq:=qq hq;clear hq hcq e;cases hlt:ltK q k with
       |false=>
        have hbl:Op.bytesLess q.toList k.toList=false:=hlt;clear hlt;go_wp2;go_ret;unfold FitPost;exact⟨false,rfl,HKK.out,by simp⟩
       |true=>
        have hbl:Op.bytesLess q.toList k.toList=true:=hlt;have Hlt:=qq hlt;clear hlt;go_wp2;go_roundw
        case rel=>exact⟨p+1+1,hj2,by go_num,Lib.hid ⟨HKK.out,HR.out.2.1.keep H5.out (by simp),Hnew.out,sort_snoc HR.out.2.2.2 Hq.out Hk.out Hlt.out⟩⟩
        case measure=>simp[intOf];omega
   ·have hjn:j=n:=by omega
    subst hjn;have hkt:ks.take j=ks:=List.take_of_length_le (by rw[H.out.2.2.2.1];exact Nat.le_refl _);rw[hkt]at HR;have hnlt:¬(j:Int)<(j:Int):=by omega
    have c5:=HR.out.2.1.cell (i:=5) rfl;clear hkt;have HK2:=qq HR.out.2.2;go_wp2_with fail
    go_loopw [103] (fun i wr=>∃i2:Nat,i2<=m/\i=.int .i64 (i2:Int)/\Hid (Keep [] w wr/\Blk wr w.heap.size [.int .i64 kind,.int .u64 (num:Int),.int .i64 scale,.string text,.slice ta j tcap,.slice ka m kcap]/\∀y ∈ c.take i2,OkV d y/\DepV l' d y)) (fun i _=>m-(intOf i).toNat)
    case atStart=>exact⟨0,Nat.zero_le _,rfl,Lib.hid ⟨HR.out.1,HR.out.2.1,by simp⟩⟩
    case round=>
     obtain⟨i,hi,rfl,HR2⟩:=hrel;clear c5;have hm5:=Hkd.out.2.1;by_cases hi2:i<m
     ·have hlti:(i:Int)<(m:Int):=by omega
      obtain⟨y,hy⟩:∃y,c[i]?=some y:=⟨_,List.getElem?_eq_getElem (by rw[<-H.out.2.2.2.2.1];exact hi2)⟩;obtain⟨a,cap2,yk,ys,yn,yt,ya1,ya2,yl1,yc1,yl2,yc2,he,hcap2,hP,d0,d1,d2,d3,d4,d5⟩:=H.out.2.1.kid hy (fun u hu=>hu.sixAt);injection he with e1 e2 e3
      subst e1;clear e2 e3 hcap2;have Kr:=HR2.out.1;have e0:=Kr.cell_some d0 (by simp);have e1:=Kr.cell_some d1 (by simp);have e2:=Kr.cell_some d2 (by simp);have e3:=Kr.cell_some d3 (by simp);have e4:=Kr.cell_some d4 (by simp);have e5:=Kr.cell_some d5 (by simp);have Ka:Keep [] wr (wr.alloc (.cells #[.int .i64 yk,.int .u64 (yn:Int),.int .i64 ys,.string yt,.slice ya1 yl1 yc1,.slice ya2 yl2 yc2] 26)):=(Keep.refl [] wr).alloc _;have hI:=IH y (.agg #[.int .i64 yk,.int .u64 (yn:Int),.int .i64 ys,.string yt,.slice ya1 yl1 yc1,.slice ya2 yl2 yc2]) l' _ (hP.keep d (Kr.trans Ka (by simp))) (H.out.2.2.1.kids y (List.mem_of_getElem? hy)) (H.out.2.2.2.2.2.2.keep (Kr.trans Ka (by simp))) (by omega);have Hy:=qq2 hy Ka;clear d0 d1 d2 d3 d4 d5 hP Kr Ka hy;go_wp2_with fail
      refine hI.mono ?_;rintro e w5 hpost;obtain⟨z,rfl,k5,hz5⟩:=hpost;have H5:=qq3 ((HR2.out.1.trans Hy.out.2 (by simp)).trans k5 (by simp)) ((HR2.out.2.1.keep Hy.out.2 (by simp)).keep k5 (by simp)) hz5;have HKK:=qq H5.out.1;clear k5 hz5 hI e0 e1 e2 e3 e4 e5;cases z with
      |false=>
       go_wp2;go_ret;unfold FitPost;exact⟨false,rfl,HKK.out,by simp⟩
      |true=>
       go_wp2;go_roundw
       case rel=>
        refine⟨i+1,hi2,by go_num,Lib.hid ⟨H5.out.1,H5.out.2.1,fun q hq=>?_⟩⟩;rw[take_snoc Hy.out.1,List.mem_append]at hq;rcases hq with hq|hq
        ·exact HR2.out.2.2 q hq
        ·rw[List.mem_singleton]at hq;subst hq;exact H5.out.2.2 (by simp)
       case measure=>simp[intOf];omega
     ·have him:i=m:=by omega
      subst him;have hct:c.take i=c:=List.take_of_length_le (by rw[H.out.2.2.2.2.1];exact Nat.le_refl _);rw[hct]at HR2;have hnl2:¬(i:Int)<(i:Int):=by omega
      clear hct;have hF:=flatAll kind scale num text ta ka j tcap i kcap _ Hkd.out.1 H.out.2.2.1.num H.out.2.2.1.text (H.out.2.2.2.2.2.2.keep HR2.out.1);obtain⟨x0,x1,x2,x3,x4,x5⟩:=HR2.out.2.1.c6 0 1 2 3 4 5 rfl rfl rfl rfl rfl rfl;go_wp2_with fail
      refine hF.mono ?_;rintro e w9 ⟨z,rfl,k9,hz9⟩;have H9:=qq2 k9 hz9;clear k9 hz9 hF x0 x1 x2 x3 x4 x5;go_wp2;go_ret;unfold FitPost;refine⟨z,rfl,HR2.out.1.trans H9.out.1 (by simp),fun hz=>?_⟩;exact H.out.2.2.2.2.2.1 l' rfl (mkOk Hkd.out.1 H.out.2.2.2.1 H.out.2.2.2.2.1 H.out.2.2.1.num Hkd.out.2.1 Hkd.out.2.2 (by first|exact Hnm.out.2.1|simp) (by first|exact Hnm.out.2.2.1|simp) (by first|exact Hnm.out.2.2.2|simp) HK2.out.1 HK2.out.2 (H9.out.2 hz) (fun y hy=>(HR2.out.2.2 y hy).1)) (fun y hy=>(HR2.out.2.2 y hy).2)
 ·have g2':((n:Int) != (m:Int))=true:=by rw[bne_iff_ne];omega
  have b1:(kind != 0)=false:=by simp;omega
  have b2:(kind==0)=true:=by simp;omega
  have b3:¬1<kind:=by omega
  clear g1 g2
  go_enter Tryz.func13,Tryz.ntmps13
  go_wp2;go_ret;unfold FitPost;exact⟨false,rfl,HK.out,by simp⟩
 ·have b1:(kind != 0)=true:=by simp;omega
  clear g1
  go_enter Tryz.func13,Tryz.ntmps13
  go_wp2;go_ret;unfold FitPost;exact⟨false,rfl,HK.out,by simp⟩
 ·subst g2;have Hnm:=qq (show 0<=500/\(kind=0->0=m)/\(0=0\/kind=0)/\(m=0\/kind<=1)by have:=Hkd.out;omega);have b1:(kind != 0)=true:=by simp;omega
  have b2:(kind==0)=false:=by simp;omega
  have b3:¬1<kind:=by omega
  clear g1
  go_enter Tryz.func13,Tryz.ntmps13
  go_wp2_with fail
  generalize w.alloc _=w1 at HX HK ⊢;have c4:=HX.out.cell (i:=4) rfl
  go_loopw [72] (fun i wr=>i=.int .i64 0/\w1=wr) (fun i _=>0)
  case atStart=>exact⟨rfl,rfl⟩
  case round=>
   obtain⟨rfl,rfl⟩:=hrel;clear c4;have hks:ks=[]:=List.eq_nil_of_length_eq_zero H.out.2.2.2.1.symm;have HR:=qq (show Keep [] w w1/\Blk w1 w.heap.size [.int .i64 kind,.int .u64 (num:Int),.int .i64 scale,.string text,.slice ta 0 tcap,.slice ka m kcap]/\(∀x ∈ ks,x.size<=200)/\ks.Pairwise (fun a b=>ltK a b=true)from⟨HK.out,HX.out,by rw[hks];simp,by rw[hks];simp⟩);have c5:=HR.out.2.1.cell (i:=5) rfl;clear hks;have HK2:=qq HR.out.2.2;go_wp2_with fail
   go_loopw [103] (fun i wr=>∃i2:Nat,i2<=m/\i=.int .i64 (i2:Int)/\Hid (Keep [] w wr/\Blk wr w.heap.size [.int .i64 kind,.int .u64 (num:Int),.int .i64 scale,.string text,.slice ta 0 tcap,.slice ka m kcap]/\∀y ∈ c.take i2,OkV d y/\DepV l' d y)) (fun i _=>m-(intOf i).toNat)
   case atStart=>exact⟨0,Nat.zero_le _,rfl,Lib.hid ⟨HR.out.1,HR.out.2.1,by simp⟩⟩
   case round=>
    obtain⟨i,hi,rfl,HR2⟩:=hrel;clear c5;have hm5:=Hkd.out.2.1;by_cases hi2:i<m
    ·have hlti:(i:Int)<(m:Int):=by omega
     obtain⟨y,hy⟩:∃y,c[i]?=some y:=⟨_,List.getElem?_eq_getElem (by rw[<-H.out.2.2.2.2.1];exact hi2)⟩;obtain⟨a,cap2,yk,ys,yn,yt,ya1,ya2,yl1,yc1,yl2,yc2,he,hcap2,hP,d0,d1,d2,d3,d4,d5⟩:=H.out.2.1.kid hy (fun u hu=>hu.sixAt);injection he with e1 e2 e3
     subst e1;clear e2 e3 hcap2;have Kr:=HR2.out.1;have e0:=Kr.cell_some d0 (by simp);have e1:=Kr.cell_some d1 (by simp);have e2:=Kr.cell_some d2 (by simp);have e3:=Kr.cell_some d3 (by simp);have e4:=Kr.cell_some d4 (by simp);have e5:=Kr.cell_some d5 (by simp);have Ka:Keep [] wr (wr.alloc (.cells #[.int .i64 yk,.int .u64 (yn:Int),.int .i64 ys,.string yt,.slice ya1 yl1 yc1,.slice ya2 yl2 yc2] 26)):=(Keep.refl [] wr).alloc _;have hI:=IH y (.agg #[.int .i64 yk,.int .u64 (yn:Int),.int .i64 ys,.string yt,.slice ya1 yl1 yc1,.slice ya2 yl2 yc2]) l' _ (hP.keep d (Kr.trans Ka (by simp))) (H.out.2.2.1.kids y (List.mem_of_getElem? hy)) (H.out.2.2.2.2.2.2.keep (Kr.trans Ka (by simp))) (by omega);have Hy:=qq2 hy Ka;clear d0 d1 d2 d3 d4 d5 hP Kr Ka hy;go_wp2_with fail
     refine hI.mono ?_;rintro e w5 hpost;obtain⟨z,rfl,k5,hz5⟩:=hpost;have H5:=qq3 ((HR2.out.1.trans Hy.out.2 (by simp)).trans k5 (by simp)) ((HR2.out.2.1.keep Hy.out.2 (by simp)).keep k5 (by simp)) hz5;have HKK:=qq H5.out.1;clear k5 hz5 hI e0 e1 e2 e3 e4 e5;cases z with
     |false=>
      go_wp2;go_ret;unfold FitPost;exact⟨false,rfl,HKK.out,by simp⟩
     |true=>
      go_wp2;go_roundw
      case rel=>
       refine⟨i+1,hi2,by go_num,Lib.hid ⟨H5.out.1,H5.out.2.1,fun q hq=>?_⟩⟩;rw[take_snoc Hy.out.1,List.mem_append]at hq;rcases hq with hq|hq
       ·exact HR2.out.2.2 q hq
       ·rw[List.mem_singleton]at hq;subst hq;exact H5.out.2.2 (by simp)
      case measure=>simp[intOf];omega
    ·have him:i=m:=by omega
     subst him;have hct:c.take i=c:=List.take_of_length_le (by rw[H.out.2.2.2.2.1];exact Nat.le_refl _);rw[hct]at HR2;have hnl2:¬(i:Int)<(i:Int):=by omega
     clear hct;have hF:=flatAll kind scale num text ta ka 0 tcap i kcap _ Hkd.out.1 H.out.2.2.1.num H.out.2.2.1.text (H.out.2.2.2.2.2.2.keep HR2.out.1);obtain⟨x0,x1,x2,x3,x4,x5⟩:=HR2.out.2.1.c6 0 1 2 3 4 5 rfl rfl rfl rfl rfl rfl;go_wp2_with fail
     refine hF.mono ?_;rintro e w9 ⟨z,rfl,k9,hz9⟩;have H9:=qq2 k9 hz9;clear k9 hz9 hF x0 x1 x2 x3 x4 x5;go_wp2;go_ret;unfold FitPost;refine⟨z,rfl,HR2.out.1.trans H9.out.1 (by simp),fun hz=>?_⟩;exact H.out.2.2.2.2.2.1 l' rfl (mkOk Hkd.out.1 H.out.2.2.2.1 H.out.2.2.2.2.1 H.out.2.2.1.num Hkd.out.2.1 Hkd.out.2.2 (by first|exact Hnm.out.2.1|simp) (by first|exact Hnm.out.2.2.1|simp) (by first|exact Hnm.out.2.2.2|simp) HK2.out.1 HK2.out.2 (H9.out.2 hz) (fun y hy=>(HR2.out.2.2 y hy).1)) (fun y hy=>(HR2.out.2.2 y hy).2)
 ·subst g3;have b1:(kind != 0)=true:=by simp;omega
  clear g1
  go_enter Tryz.func13,Tryz.ntmps13
  go_wp2;go_ret;unfold FitPost;exact⟨false,rfl,HK.out,by simp⟩
 ·subst g3;subst g4;have Hnm:=qq (show 0<=500/\(kind=0->0=0)/\(0=0\/kind=0)/\(0=0\/kind<=1)by have:=Hkd.out;omega);have b1:(kind != 0)=true:=by simp;omega
  have b2:(kind==0)=false:=by simp;omega
  clear g1
  go_enter Tryz.func13,Tryz.ntmps13
  go_wp2_with fail
  generalize w.alloc _=w1 at HX HK ⊢;have c4:=HX.out.cell (i:=4) rfl
  go_loopw [72] (fun i wr=>i=.int .i64 0/\w1=wr) (fun i _=>0)
  case atStart=>exact⟨rfl,rfl⟩
  case round=>
   obtain⟨rfl,rfl⟩:=hrel;clear c4;have hks:ks=[]:=List.eq_nil_of_length_eq_zero H.out.2.2.2.1.symm;have HR:=qq (show Keep [] w w1/\Blk w1 w.heap.size [.int .i64 kind,.int .u64 (num:Int),.int .i64 scale,.string text,.slice ta 0 tcap,.slice ka 0 kcap]/\(∀x ∈ ks,x.size<=200)/\ks.Pairwise (fun a b=>ltK a b=true)from⟨HK.out,HX.out,by rw[hks];simp,by rw[hks];simp⟩);have c5:=HR.out.2.1.cell (i:=5) rfl;clear hks;have HK2:=qq HR.out.2.2;go_wp2_with fail
   go_loopw [103] (fun i wr=>i=.int .i64 0/\w1=wr) (fun i _=>0)
   case atStart=>exact⟨rfl,rfl⟩
   case round=>
    obtain⟨rfl,rfl⟩:=hrel;clear c5;have hc:c=[]:=List.eq_nil_of_length_eq_zero H.out.2.2.2.2.1.symm;have HC:=qq (show ∀y ∈ c,OkV d y/\DepV l' d y by rw[hc];simp);clear hc;have hF:=flatAll kind scale num text ta ka 0 tcap 0 kcap _ Hkd.out.1 H.out.2.2.1.num H.out.2.2.1.text (H.out.2.2.2.2.2.2.keep HR.out.1);obtain⟨x0,x1,x2,x3,x4,x5⟩:=HR.out.2.1.c6 0 1 2 3 4 5 rfl rfl rfl rfl rfl rfl;go_wp2_with fail
    refine hF.mono ?_;rintro e w9 ⟨z,rfl,k9,hz9⟩;have H9:=qq2 k9 hz9;clear k9 hz9 hF x0 x1 x2 x3 x4 x5;go_wp2;go_ret;unfold FitPost;refine⟨z,rfl,HR.out.1.trans H9.out.1 (by simp),fun hz=>?_⟩;exact H.out.2.2.2.2.2.1 l' rfl (mkOk Hkd.out.1 H.out.2.2.2.1 H.out.2.2.2.2.1 H.out.2.2.1.num Hkd.out.2.1 Hkd.out.2.2 (by first|exact Hnm.out.2.1|simp) (by first|exact Hnm.out.2.2.1|simp) (by first|exact Hnm.out.2.2.2|simp) HK2.out.1 HK2.out.2 (H9.out.2 hz) (fun y hy=>(HC.out y hy).1)) (fun y hy=>(HC.out y hy).2)
theorem fitV:∀d,FitOk d
 |0=>fun x v l w h _ _ _=>h.elim
 |d+1=>fun x v l w h1 h2 h3 h4=>fitN d (fitV d) x v l w h1 h2 h3 h4

theorem variantFitsC (d:Nat) (x:Vt d) (v:Value) (l:Nat) (w:World) (hv:VtAt d w v x) (ha:ArgV d x) (hT:Tabs w) (hl:l<=100):Calls Tryz.prog 5 #[v,.bool false,.int .i64 (l:Int)] w fun e w'=>FitPost (OkV d x/\DepV l d x/\wtV d x<=20000) w e w':=by
 obtain⟨vk,vs,vn,vt,va1,va2,vl1,vc1,vl2,vc2,rfl⟩:=hv.sixAt;obtain⟨w2,hw2⟩:∃w2,w2=(w.alloc (.cells #[.int .i64 vk,.int .u64 (vn:Int),.int .i64 vs,.string vt,.slice va1 vl1 vc1,.slice va2 vl2 vc2] 26)).alloc (.cells #[.int .i64 20000] 3):=⟨_,rfl⟩;have k2:Keep [] w w2:=by rw[hw2];exact((Keep.refl [] w).alloc _).alloc _
 have hb2:Blk w2 w.heap.size [.int .i64 vk,.int .u64 (vn:Int),.int .i64 vs,.string vt,.slice va1 vl1 vc1,.slice va2 vl2 vc2]:=by rw[hw2];exact(Blk.new w _ _).alloc _
 have hl2:Blk w2 (w.heap.size+1) [.int .i64 20000]:=by rw[hw2];exact Blk.of_new (cs:=[.int .i64 20000]) (by simp)
 have hF:=fewV d x _ (w.heap.size+1) 20000 w w2 hv ha k2 (by omega) hl2;have H:=qq6 hF k2 hb2 hv ha hT;have Hw2:=qq hw2;clear hF k2 hb2 hl2 hw2 hv ha hT
 go_enter Tryz.func5,Tryz.ntmps5
 go_wp2_with fail
 rw[<-Hw2.out];refine H.out.1.mono ?_;rintro e w3 hp;obtain⟨z,M',rfl,k3,-,hz⟩:=hp;have hb3:=H.out.2.2.1.keep k3 (by simp);have K3:Keep [] w w3:=H.out.2.1.trans k3 (by simp);obtain⟨b0,b1,b2,b3,b4,b5⟩:=hb3.c6 0 1 2 3 4 5 rfl rfl rfl rfl rfl rfl;have hG:=fitV d x _ l w3 (H.out.2.2.2.1.keep d K3) H.out.2.2.2.2.1 (H.out.2.2.2.2.2.keep K3) hl;have H3:=qq3 K3 hz hG;clear k3 hz hb3 K3 hG;cases z with
 |false=>
  go_wp2;go_ret;unfold FitPost;exact⟨false,rfl,H3.out.1,by simp⟩
 |true=>
  go_wp2_with fail
  refine H3.out.2.2.mono ?_;rintro e w4 hp;obtain⟨z2,rfl,k4,hz2⟩:=hp;have H4:=qq2 k4 hz2;clear k4 hz2;go_wp2;go_ret;unfold FitPost;refine⟨z2,rfl,H3.out.1.trans H4.out.1 (by simp),fun h=>?_⟩;have h1:=H4.out.2 h;have h2:=(H3.out.2.1 (h1.1.sm d x) (by omega) (by omega)).1.1 (by simp);exact⟨h1.1,h1.2,by omega⟩
theorem fitInt4 (num:Nat) (ta ka:Option Addr) (tcap kcap:Nat) (w:World) (hn:num<18446744073709551616):Calls Tryz.prog 13 #[.agg #[.int .i64 4,.int .u64 (num:Int),.int .i64 0,.string ⟨#[]⟩,.slice ta 0 tcap,.slice ka 0 kcap],.bool false,.int .i64 1] w fun e w'=>∃z,e=.returned (.bool z)/\Keep [] w w'/\(z=true↔Narrow num 8):=by
 have hx1:Blk (w.alloc (.cells #[.int .i64 4,.int .u64 (num:Int),.int .i64 0,.string ⟨#[]⟩,.slice ta 0 tcap,.slice ka 0 kcap] 26)) w.heap.size [.int .i64 4,.int .u64 (num:Int),.int .i64 0,.string ⟨#[]⟩,.slice ta 0 tcap,.slice ka 0 kcap]:=Blk.new w _ _;have HX:=qq hx1;have HK:=qq (show Keep [] w (w.alloc (.cells #[.int .i64 4,.int .u64 (num:Int),.int .i64 0,.string ⟨#[]⟩,.slice ta 0 tcap,.slice ka 0 kcap] 26))from(Keep.refl [] w).alloc _);clear hx1
 go_enter Tryz.func13,Tryz.ntmps13
 go_wp2_with fail
 generalize w.alloc _=w1 at HX HK ⊢;have c4:=HX.out.cell (i:=4) rfl
 go_loopw [72] (fun i wr=>i=.int .i64 0/\w1=wr) (fun i _=>0)
 case atStart=>exact⟨rfl,rfl⟩
 case round=>
  obtain⟨rfl,rfl⟩:=hrel;clear c4;have c5:=HX.out.cell (i:=5) rfl;go_wp2_with fail
  go_loopw [103] (fun i wr=>i=.int .i64 0/\w1=wr) (fun i _=>0)
  case atStart=>exact⟨rfl,rfl⟩
  case round=>
   obtain⟨rfl,rfl⟩:=hrel;clear c5;have hF:=flatI4 num ta ka 0 tcap 0 kcap w1 hn;obtain⟨x0,x1,x2,x3,x4,x5⟩:=HX.out.c6 0 1 2 3 4 5 rfl rfl rfl rfl rfl rfl;go_wp2_with fail
   refine hF.mono ?_;rintro e w9 ⟨z,rfl,k9,hz9⟩;have H9:=qq2 k9 hz9;clear k9 hz9 hF x0 x1 x2 x3 x4 x5;go_wp2;go_ret;exact⟨z,rfl,HK.out.trans H9.out.1 (by simp),H9.out.2⟩
theorem fitInt5 (num:Nat) (ta ka:Option Addr) (tcap kcap:Nat) (w:World) (hn:num<18446744073709551616):Calls Tryz.prog 13 #[.agg #[.int .i64 5,.int .u64 (num:Int),.int .i64 0,.string ⟨#[]⟩,.slice ta 0 tcap,.slice ka 0 kcap],.bool false,.int .i64 1] w fun e w'=>∃z,e=.returned (.bool z)/\Keep [] w w'/\(z=true↔Narrow num 16):=by
 have hx1:Blk (w.alloc (.cells #[.int .i64 5,.int .u64 (num:Int),.int .i64 0,.string ⟨#[]⟩,.slice ta 0 tcap,.slice ka 0 kcap] 26)) w.heap.size [.int .i64 5,.int .u64 (num:Int),.int .i64 0,.string ⟨#[]⟩,.slice ta 0 tcap,.slice ka 0 kcap]:=Blk.new w _ _;have HX:=qq hx1;have HK:=qq (show Keep [] w (w.alloc (.cells #[.int .i64 5,.int .u64 (num:Int),.int .i64 0,.string ⟨#[]⟩,.slice ta 0 tcap,.slice ka 0 kcap] 26))from(Keep.refl [] w).alloc _);clear hx1
 go_enter Tryz.func13,Tryz.ntmps13
 go_wp2_with fail
 generalize w.alloc _=w1 at HX HK ⊢;have c4:=HX.out.cell (i:=4) rfl
 go_loopw [72] (fun i wr=>i=.int .i64 0/\w1=wr) (fun i _=>0)
 case atStart=>exact⟨rfl,rfl⟩
 case round=>
  obtain⟨rfl,rfl⟩:=hrel;clear c4;have c5:=HX.out.cell (i:=5) rfl;go_wp2_with fail
  go_loopw [103] (fun i wr=>i=.int .i64 0/\w1=wr) (fun i _=>0)
  case atStart=>exact⟨rfl,rfl⟩
  case round=>
   obtain⟨rfl,rfl⟩:=hrel;clear c5;have hF:=flatI5 num ta ka 0 tcap 0 kcap w1 hn;obtain⟨x0,x1,x2,x3,x4,x5⟩:=HX.out.c6 0 1 2 3 4 5 rfl rfl rfl rfl rfl rfl;go_wp2_with fail
   refine hF.mono ?_;rintro e w9 ⟨z,rfl,k9,hz9⟩;have H9:=qq2 k9 hz9;clear k9 hz9 hF x0 x1 x2 x3 x4 x5;go_wp2;go_ret;exact⟨z,rfl,HK.out.trans H9.out.1 (by simp),H9.out.2⟩
theorem fitInt6 (num:Nat) (ta ka:Option Addr) (tcap kcap:Nat) (w:World) (hn:num<18446744073709551616):Calls Tryz.prog 13 #[.agg #[.int .i64 6,.int .u64 (num:Int),.int .i64 0,.string ⟨#[]⟩,.slice ta 0 tcap,.slice ka 0 kcap],.bool false,.int .i64 1] w fun e w'=>∃z,e=.returned (.bool z)/\Keep [] w w'/\(z=true↔Narrow num 32):=by
 have hx1:Blk (w.alloc (.cells #[.int .i64 6,.int .u64 (num:Int),.int .i64 0,.string ⟨#[]⟩,.slice ta 0 tcap,.slice ka 0 kcap] 26)) w.heap.size [.int .i64 6,.int .u64 (num:Int),.int .i64 0,.string ⟨#[]⟩,.slice ta 0 tcap,.slice ka 0 kcap]:=Blk.new w _ _;have HX:=qq hx1;have HK:=qq (show Keep [] w (w.alloc (.cells #[.int .i64 6,.int .u64 (num:Int),.int .i64 0,.string ⟨#[]⟩,.slice ta 0 tcap,.slice ka 0 kcap] 26))from(Keep.refl [] w).alloc _);clear hx1
 go_enter Tryz.func13,Tryz.ntmps13
 go_wp2_with fail
 generalize w.alloc _=w1 at HX HK ⊢;have c4:=HX.out.cell (i:=4) rfl
 go_loopw [72] (fun i wr=>i=.int .i64 0/\w1=wr) (fun i _=>0)
 case atStart=>exact⟨rfl,rfl⟩
 case round=>
  obtain⟨rfl,rfl⟩:=hrel;clear c4;have c5:=HX.out.cell (i:=5) rfl;go_wp2_with fail
  go_loopw [103] (fun i wr=>i=.int .i64 0/\w1=wr) (fun i _=>0)
  case atStart=>exact⟨rfl,rfl⟩
  case round=>
   obtain⟨rfl,rfl⟩:=hrel;clear c5;have hF:=flatI6 num ta ka 0 tcap 0 kcap w1 hn;obtain⟨x0,x1,x2,x3,x4,x5⟩:=HX.out.c6 0 1 2 3 4 5 rfl rfl rfl rfl rfl rfl;go_wp2_with fail
   refine hF.mono ?_;rintro e w9 ⟨z,rfl,k9,hz9⟩;have H9:=qq2 k9 hz9;clear k9 hz9 hF x0 x1 x2 x3 x4 x5;go_wp2;go_ret;exact⟨z,rfl,HK.out.trans H9.out.1 (by simp),H9.out.2⟩

theorem fitsNum (k:Int) (b:Nat) (num:Nat) (ta ka:Option Addr) (tcap kcap:Nat) (w:World) (hn:num<18446744073709551616) (hk:4<=k/\k<=6)
  (hF:∀wx,Calls Tryz.prog 13 #[.agg #[.int .i64 k,.int .u64 (num:Int),.int .i64 0,.string ⟨#[]⟩,.slice ta 0 tcap,.slice ka 0 kcap],.bool false,.int .i64 1] wx fun e w'=>∃z,e=.returned (.bool z)/\Keep [] wx w'/\(z=true↔Narrow num b)):
  Calls Tryz.prog 5 #[.agg #[.int .i64 k,.int .u64 (num:Int),.int .i64 0,.string ⟨#[]⟩,.slice ta 0 tcap,.slice ka 0 kcap],.bool false,.int .i64 1] w fun e w'=>∃z,e=.returned (.bool z)/\Keep [] w w'/\(z=true↔Narrow num b):=by
 obtain⟨w2,hw2⟩:∃w2,w2=(w.alloc (.cells #[.int .i64 k,.int .u64 (num:Int),.int .i64 0,.string ⟨#[]⟩,.slice ta 0 tcap,.slice ka 0 kcap] 26)).alloc (.cells #[.int .i64 20000] 3):=⟨_,rfl⟩;have k2:Keep [] w w2:=by rw[hw2];exact((Keep.refl [] w).alloc _).alloc _
 have hb2:Blk w2 w.heap.size [.int .i64 k,.int .u64 (num:Int),.int .i64 0,.string ⟨#[]⟩,.slice ta 0 tcap,.slice ka 0 kcap]:=by rw[hw2];exact(Blk.new w _ _).alloc _
 have hl2:Blk w2 (w.heap.size+1) [.int .i64 20000]:=by rw[hw2];exact Blk.of_new (cs:=[.int .i64 20000]) (by simp)
 have hx:VtAt 1 w (.agg #[.int .i64 k,.int .u64 (num:Int),.int .i64 0,.string ⟨#[]⟩,.slice ta 0 tcap,.slice ka 0 kcap]) (show Vt 1 from(⟨k,num,0,⟨#[]⟩,[],[]⟩:Node (Vt 0))):=
  ⟨_,_,rfl,⟨ta,tcap,rfl,Nat.zero_le _,fun i s h=>by simp at h⟩,⟨ka,kcap,rfl,Nat.zero_le _,fun i s h=>by simp at h⟩⟩
 have hax:ArgV 1 (show Vt 1 from(⟨k,num,0,⟨#[]⟩,[],[]⟩:Node (Vt 0))):=(⟨hn,by simp;omega,by simp,Nat.zero_le _,by simp,by simp,by simp,by simp⟩:ArgN (ArgV 0) ⟨k,num,0,⟨#[]⟩,[],[]⟩);have hsm:SmV 1 (show Vt 1 from(⟨k,num,0,⟨#[]⟩,[],[]⟩:Node (Vt 0))):=(⟨Nat.zero_le _,by simp,by simp,by simp⟩:SmN (SmV 0) ⟨k,num,0,⟨#[]⟩,[],[]⟩);have hwt:wtV 1 (show Vt 1 from(⟨k,num,0,⟨#[]⟩,[],[]⟩:Node (Vt 0)))=1:=by kernel_rfl
 have hE:=fewV 1 _ _ (w.heap.size+1) 20000 w w2 hx hax k2 (by omega) hl2;have H:=qq6 hE k2 hb2 hF hsm hwt;have Hw2:=qq hw2;clear hE k2 hb2 hl2 hw2 hx hax hF hsm hwt
 go_enter Tryz.func5,Tryz.ntmps5
 go_wp2_with fail
 rw[<-Hw2.out];refine H.out.1.mono ?_;rintro e w3 hp;obtain⟨z,M',rfl,k3,-,hz⟩:=hp;have hzt:z=true:=(hz H.out.2.2.2.2.1 (by omega) (by omega)).1.2 (by rw[H.out.2.2.2.2.2];omega);subst hzt;have hb3:=H.out.2.2.1.keep k3 (by simp);have K3:Keep [] w w3:=H.out.2.1.trans k3 (by simp);obtain⟨b0,b1,b2,b3,b4,b5⟩:=hb3.c6 0 1 2 3 4 5 rfl rfl rfl rfl rfl rfl;have H3:=qq K3;clear k3 hz hb3 K3;go_wp2_with fail
 refine(H.out.2.2.2.1 _).mono ?_;rintro e w4 ⟨z2,rfl,k4,hz2⟩;have H4:=qq2 k4 hz2;clear k4 hz2;go_wp2;go_ret;exact⟨z2,rfl,H3.out.trans H4.out.1 (by simp),H4.out.2⟩
end Go.Proofs.YtocgdgmfnockiaaGreatDoor
