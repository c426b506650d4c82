/- Variants read: the validation's loop at an array. Variants read: the validation's loop at an object. Variants read: the validation's loop at whatever variant. -/
import Derived.Test.YtocgdgmfnockiaaGreatDoorV33
import Derived.Test.YtocgdgmfnockiaaGreatDoorV15
set_option linter.unusedVariables false
set_option linter.unusedSimpArgs false
set_option maxRecDepth 100000
set_option maxHeartbeats 8000000
namespace Go.Proofs.YtocgdgmfnockiaaGreatDoor
open Go.RowKit

structure AFr (C:VC) (o n c cl tot sz i:Nat) (fr:VF):Prop where
 v:fr.vb=C.b/\fr.vo=o/\fr.vn=n/\fr.vc=c
 init:fr.init=true
 kind:fr.kind=3
 ds:fr.dstart=aH cl tot
 os:fr.ostart=1+aK cl
 oz:fr.osz=sizeW tot
 num:fr.num=cl
 next:fr.next=i
 size:fr.size=sz
 rs:fr.rstart=0
section
variable {α:Type} {f:α->List Nat} {cs:List α}

theorem arrChild (C:VC) (hC:C.Ok) (d wt:Nat) (hV:∀y ∈ cs,ValidAt C (f y) d wt) {j k o n c i rtn:Nat} {L R:List Value} {T:List VR} {rng rsz:Value} {y:α} {fr:VF} (hk:k=j+1) (hkd:k+(d+1)<=31) (hR:R.length=14*(32-k)) (hB:Byt C.w0 C.b o (arrB f cs)) (hEn:(arrB f cs).length<=n) (hnc:n<=c) (hn:n<=1000000000) (hcl:cs.length<=1000) (htot:totB f cs<=1000000000) (hw:rtn+wt<=100000)
  (hy:cs[i]?=some y) (hfr:AFr C o n c cs.length (totB f cs) (arrB f cs).length i fr) (hLL:j*14=L.length)
  (hnext:∀(w':World) (R':List Value) (rng' rsz':Value),R'.length=R.length->FrAt w' C.sb (j*14) {fr with next:=i+1,pidx:=i,pstart:=0,pexp:=(f y).length} L R'->VS C w' rng' rtn T->LSC C k rng' rtn rsz' false w')
  (w':World) (hF:FrAt w' C.sb (k*14) (VF.fresh C.b (o+(aH cs.length (totB f cs)+offK f cs i)) (f y).length (c-(aH cs.length (totB f cs)+offK f cs i))) (L++({fr with next:=i+1,pidx:=i,pstart:=0,pexp:=(f y).length}:VF).cells) (R.drop 14)) (hS:VS C w' rng rtn T):LSC C (k+1) rng rtn rsz false w':=by
 have hi:=(List.getElem?_eq_some_iff.1 hy).1;have hsc:=offK_succ (f:=f) hy;have hle:=offK_le f cs (i+1);have hdt:(cs.map f).flatten.length=totB f cs:=rfl;rw[hdt]at hle;have hlA:=length_arrB (f:=f) (c:=cs);have hby:=(arrB_parts hB).2.2.2.kid hy;rw[Nat.add_assoc]at hby
 refine hV y (List.mem_of_getElem? hy) k (k+1) _ _ w' rng rsz rtn T _ _ _ rfl (by omega) (by rw[List.length_drop,hR];omega) hF hS hby (Nat.le_refl _) (by omega) (by omega) hw ?_;intro w2 frc R2 rng2 hF2 hR2 hS2;refine DoneC.up (by omega) ?_;have hF3:=hF2.below hk hLL;refine gotArr_ls C.sb j k _ L _ C.ma C.ko C.mn C.mc C.kn C.kc C.bxb C.v rng2 (.int .i64 (rtn:Int)) (.int .i64 ((f y).length:Int)) w2 C.Q0 hF3 (by omega) (by omega) (by omega) hS2.bx hC.bxs (f y).length hfr.kind rfl (by omega) rfl ?_;exact hnext w2 _ rng2 _ (by rw[List.length_append,length_vf,hR2,List.length_drop,hR];omega) hF3 hS2

theorem arrLoop (C:VC) (hC:C.Ok) (d wt:Nat) (hV:∀y ∈ cs,ValidAt C (f y) d wt) (hE:∀y ∈ cs,0<(f y).length) {j k o n c rtn:Nat} {L:List Value} {T:List VR} (hk:k=j+1) (hkd:k+(d+1)<=31) (hB:Byt C.w0 C.b o (arrB f cs)) (hEn:(arrB f cs).length<=n) (hnc:n<=c) (hn:n<=1000000000) (hcl:cs.length<=1000) (htot:totB f cs<=1000000000) (hw:rtn+wt<=100000) (hLL:j*14=L.length) (nR:Nat) (hnR:nR=14*(32-k))
  (hA:∀R:List Value,R.length=nR->After C j (arrB f cs).length L R rtn T):∀(m i:Nat),i+m=cs.length->∀(fr:VF) (R:List Value) (w:World) (rng rsz:Value),AFr C o n c cs.length (totB f cs) (arrB f cs).length i fr->R.length=nR->FrAt w C.sb (j*14) fr L R->VS C w rng rtn T->LSC C k rng rtn rsz false w:=by
 intro m
 induction m with
 |zero=>
  intro i him fr R w rng rsz hfr hRl hF hS;have hci:i=cs.length:=by omega
  obtain⟨rb,rl,rc,RS,cc,hrng,hb,h1,h2,h3,h4,h5,h6,h7,h8,h9⟩:=hS.rg;have hlA:=length_arrB (f:=f) (c:=cs);subst hrng;refine finOldArr_ls C.sb j k fr L R C.ma C.ko C.mn C.mc C.kn C.kc C.bxb C.v _ (.int .i64 (rtn:Int)) rsz w C.Q0 hF (by omega) (by omega) (by omega) hS.bx hC.bxs fr hfr.init hfr.kind rfl rtn rfl (by omega) rb rl rc 0 i cs.length (arrB f cs).length (if rc=0 then⟨rb,0,none⟩else⟨rb,0*3,none⟩) hfr.next hfr.num (by omega) (by omega) (by omega) rfl hfr.rs (by omega)
   (by rw[<-h6]at h5;rw[h5,List.length_take];omega) h4 ⟨fun h=>by rw[if_pos h],fun h=>by rw[if_neg h]⟩ hfr.size (by omega) (fun wx cp kx hFx=>?_) (fun w' k' hF'=>?_)
  ·have c12:=hFx.cell (j:=12) rfl;rw[hfr.kind]at c12;refine(finishFlatC C.sb (j*14) 3 _ wx c12 (by omega) (by omega)).mono ?_;rintro e w' ⟨rfl,rfl⟩;exact⟨rfl,Keep.refl _ _⟩
  ·exact hA R hRl w' _ R _ hF' rfl (hS.keepSb hC k')
 |succ m ih=>
  intro i him fr R w rng rsz hfr hRl hF hS;obtain⟨y,hy⟩:∃y,cs[i]?=some y:=⟨_,List.getElem?_eq_getElem (by omega)⟩;have hy0:=hE y (List.mem_of_getElem? hy);have hle:=offK_le f cs (i+1);have hsc:=offK_succ (f:=f) hy;have hdt:(cs.map f).flatten.length=totB f cs:=rfl;rw[hdt]at hle;refine pushOldArr_ls C.sb j k fr L R C.ma C.ko C.mn C.mc C.kn C.kc C.bxb C.v rng (.int .i64 (rtn:Int)) rsz w C.Q0 hF (by omega) (by omega) (by omega) hS.bx hC.bxs fr hfr.init hfr.kind rfl C.b (o+(aH cs.length (totB f cs)+offK f cs i)) (f y).length (c-(aH cs.length (totB f cs)+offK f cs i)) i cs.length 0 (f y).length hfr.next hfr.num (by omega) (by omega) (by omega) (by omega) (by omega)
   (fun wx kx hFx=>nextArrAll C.sb (j*14) fr L R C.b o n c i y C.w0 hB hC.bs hcl htot hEn hnc hn hfr.v hfr.kind hfr.ds hfr.os hfr.oz hfr.next hy hy0 wx (hS.keepSb hC kx).kw hFx) (fun w' k' hF'=>?_)
  refine arrChild C hC d wt hV hk hkd (by omega) hB hEn hnc hn hcl htot hw hy hfr hLL (fun w2 R2 rng2 rsz2 hR2 hF2 hS2=>?_) w' hF' (hS.keepSb hC k');exact ih (i+1) (by omega) {fr with next:=i+1,pidx:=i,pstart:=0,pexp:=(f y).length} R2 w2 rng2 rsz2 ⟨hfr.v,hfr.init,hfr.kind,hfr.ds,hfr.os,hfr.oz,hfr.num,rfl,hfr.size,hfr.rs⟩ (by omega) hF2 hS2
theorem validArr (C:VC) (hC:C.Ok) (d wt:Nat) (hV:∀y ∈ cs,ValidAt C (f y) d wt) (hE:∀y ∈ cs,0<(f y).length) (hcl:cs.length<=1000) (htot:totB f cs<=1000000000):ValidAt C (arrB f cs) (d+1) wt:=by
 intro j k L R w rng rsz rtn T o n c hk hkd hR hF hS hB hEn hnc hn hw hA;have hLL:=hF.1;have hlA:=length_arrB (f:=f) (c:=cs);have hp:=prepArrAll C.sb (j*14) {VF.fresh C.b o n c with init:=true} L R C.b o n c C.ma C.ko C.mn C.mc C.kn C.kc C.w0 hB hC.bs hcl htot hEn hnc hn (VF.fresh_v _ _ _ _ _);obtain⟨f1,hf1⟩:∃f1:VF,f1={VF.fresh C.b o n c with init:=true,kind:=3,dstart:=aH cs.length (totB f cs),ostart:=1+aK cs.length,osz:=sizeW (totB f cs),num:=cs.length,size:=(arrB f cs).length}:=⟨_,rfl⟩;have hfr:AFr C o n c cs.length (totB f cs) (arrB f cs).length 0 f1:=by rw[hf1];exact⟨⟨rfl,rfl,rfl,rfl⟩,rfl,rfl,rfl,rfl,rfl,rfl,rfl,rfl,rfl⟩
 have hA':∀R':List Value,R'.length=R.length->After C j (arrB f cs).length L R' rtn T:=fun R' hR' w' fr R2 rng' h1 h2 h3=>hA w' fr R2 rng' h1 (by omega) h3;have hp1:∀wx,Keep [C.sb] w wx->FrAt wx C.sb (j*14) {VF.fresh C.b o n c with init:=true} L R->Calls Tryz.prog 176 #[C.mv,.pointer (some ⟨C.sb,j*14,none⟩)] wx fun e w'=>e=.returned .nilIface/\Keep [C.sb] wx w'/\FrAt w' C.sb (j*14) f1 L R:=fun wx kx hFx=>by
  rw[hf1];exact hp wx (hS.keepSb hC kx).kw hFx
 rcases Nat.eq_zero_or_pos cs.length with h0|h0
 ·obtain⟨rb,rl,rc,RS,cc,hrng,hb,h1,h2,h3,h4,h5,h6,h7,h8,h9⟩:=hS.rg;subst hrng;refine finFreshArr_ls C.sb j k (VF.fresh C.b o n c) L R C.ma C.ko C.mn C.mc C.kn C.kc C.bxb C.v _ (.int .i64 (rtn:Int)) rsz w C.Q0 hF (by omega) (by omega) (by omega) hS.bx hC.bxs f1 f1 rtn rfl hp1 hfr.kind rfl rfl (by omega) rb rl rc 0 0 cs.length (arrB f cs).length (if rc=0 then⟨rb,0,none⟩else⟨rb,0*3,none⟩) hfr.next hfr.num (by omega) (by omega) (by omega) rfl hfr.rs (by omega)
   (by rw[<-h6]at h5;rw[h5,List.length_take];omega) h4 ⟨fun h=>by rw[if_pos h],fun h=>by rw[if_neg h]⟩ hfr.size (by omega) (fun wx cp kx hFx=>?_) (fun w' k' hF'=>?_)
  ·have c12:=hFx.cell (j:=12) rfl;rw[hfr.kind]at c12;refine(finishFlatC C.sb (j*14) 3 _ wx c12 (by omega) (by omega)).mono ?_;rintro e w' ⟨rfl,rfl⟩;exact⟨rfl,Keep.refl _ _⟩
  ·exact hA w' _ R _ hF' rfl (hS.keepSb hC k')
 ·obtain⟨y,hy⟩:∃y,cs[0]?=some y:=⟨_,List.getElem?_eq_getElem h0⟩;have hy0:=hE y (List.mem_of_getElem? hy);have hle:=offK_le f cs (0+1);have hsc:=offK_succ (f:=f) hy;have hdt:(cs.map f).flatten.length=totB f cs:=rfl;rw[hdt]at hle;refine pushFreshArr_ls C.sb j k (VF.fresh C.b o n c) L R C.ma C.ko C.mn C.mc C.kn C.kc C.bxb C.v rng (.int .i64 (rtn:Int)) rsz w C.Q0 hF (by omega) (by omega) (by omega) hS.bx hC.bxs f1 f1 rtn rfl hp1 hfr.kind rfl rfl (by omega) C.b (o+(aH cs.length (totB f cs)+offK f cs 0)) (f y).length (c-(aH cs.length (totB f cs)+offK f cs 0)) 0 cs.length 0 (f y).length hfr.next hfr.num (by omega) (by omega) (by omega) (by omega) (by omega)
   (fun wx kx hFx=>nextArrAll C.sb (j*14) f1 L R C.b o n c 0 y C.w0 hB hC.bs hcl htot hEn hnc hn hfr.v hfr.kind hfr.ds hfr.os hfr.oz hfr.next hy hy0 wx (hS.keepSb hC kx).kw hFx) (fun w' k' hF'=>?_)
  refine arrChild C hC d wt hV hk hkd hR hB hEn hnc hn hcl htot hw hy hfr hLL (fun w2 R2 rng2 rsz2 hR2 hF2 hS2=>?_) w' hF' (hS.keepSb hC k');exact arrLoop C hC d wt hV hE hk hkd hB hEn hnc hn hcl htot hw hLL R.length hR hA' (cs.length-1) 1 (by omega) {f1 with next:=0+1,pidx:=0,pstart:=0,pexp:=(f y).length} R2 w2 rng2 rsz2 ⟨hfr.v,hfr.init,hfr.kind,hfr.ds,hfr.os,hfr.oz,hfr.num,rfl,hfr.size,hfr.rs⟩ (by omega) hF2 hS2
end

structure OFr (C:VC) (o n c cl tot sz rs0 i:Nat) (fr:VF):Prop where
 v:fr.vb=C.b/\fr.vo=o/\fr.vn=n/\fr.vc=c
 init:fr.init=true
 kind:fr.kind=2
 ds:fr.dstart=oH cl tot
 os:fr.ostart=2+cl
 oz:fr.osz=sizeW tot
 num:fr.num=cl
 dz:fr.dsize=tot
 next:fr.next=i
 size:fr.size=sz
 rs:fr.rstart=rs0

theorem RngAt.first {w0 w:World} {sb bxb rtn r0:Nat} {rng:Value} {T V:List VR} (h:RngAt w0 sb bxb w rng rtn (T++V)) (h0:r0=T.length):RngAt w0 sb bxb w rng r0 T:=by
 obtain⟨rb,rl,rc,RS,cc,h1,h2,h3,h4,h5,h6,h7,h8,h9⟩:=h;refine⟨rb,rl,rc,RS,cc,h1,h2,h3,h4,h5,h6,h0,?_,h9⟩;have:(RS.take rtn).take r0=T:=by rw[h8,h0,List.take_left' rfl]
 rw[List.take_take,Nat.min_eq_left (by rw[h7,List.length_append];omega)]at this;exact this

theorem RngAt.last {w0 w:World} {sb bxb rtn r0:Nat} {rng:Value} {T V:List VR} (h:RngAt w0 sb bxb w rng rtn (T++V)) (h0:r0=T.length):∃(rb rl rc:Nat) (A R:List Value),rng=.slice (some ⟨rb,0,none⟩) rl rc/\Blk w rb (A++(V.flatMap cfR++R))/\r0*3=A.length/\rtn<=rl/\rl<=rc/\rtn=r0+V.length/\rb≠sb:=by
 obtain⟨rb,rl,rc,RS,cc,h1,h2,h3,h4,h5,h6,h7,h8,h9,h10,h11⟩:=h;rw[List.length_append,<-h0]at h7;have hle:rtn<=rl:=by
  have:=congrArg List.length h8;rw[List.length_take,List.length_append,<-h0,h4]at this;omega
 have hm:rtn*3<=rl*3:=Nat.mul_le_mul_right _ hle;have hm2:rl*3<=rc*3:=Nat.mul_le_mul_right _ h6;have e:(cc.drop (r0*3)).take (V.length*3)=V.flatMap cfR:=by
  have e1:(cc.drop (r0*3)).take (V.length*3)=((cc.take (rl*3)).drop (r0*3)).take (V.length*3):=by
   rw[List.drop_take,List.take_take,Nat.min_eq_left (by omega)]
  rw[e1,h5,flatMap_drop3,flatMap_take3];congr 1
  have:(RS.take rtn).drop r0=V:=by rw[h8,h0,List.drop_left' rfl]
  rw[List.drop_take,show rtn-r0=V.length by omega]at this;exact this
 refine⟨rb,rl,rc,cc.take (r0*3),cc.drop (r0*3+V.length*3),h1,?_,by rw[List.length_take,Nat.min_eq_left (by omega)],hle,h6,h7,h10.1⟩;have e2:cc=cc.take (r0*3)++(V.flatMap cfR++cc.drop (r0*3+V.length*3)):=by
  rw[<-e,<-List.drop_drop,List.take_append_drop,List.take_append_drop]
 rw[<-e2];exact h2
section
variable {α:Type} (f:α->List Nat) (cs:List α)

def vrL:List VR:=(List.range cs.length).map fun i=>⟨offK f cs i,offK f cs (i+1),i⟩
variable {f cs}
theorem length_vrL:(vrL f cs).length=cs.length:=by simp[vrL]
theorem vrL_get {i:Nat} (h:i<cs.length):(vrL f cs)[i]?=some ⟨offK f cs i,offK f cs (i+1),i⟩:=by simp[vrL,h]
theorem vrL_inv {i:Nat} {r:VR} (h:(vrL f cs)[i]?=some r):r.s=offK f cs i/\r.e=offK f cs (i+1):=by
 have hi:=(List.getElem?_eq_some_iff.1 h).1;rw[length_vrL]at hi;rw[vrL_get hi]at h;cases h
 exact⟨rfl,rfl⟩

theorem finObjAll (C:VC) {j rs0:Nat} {L R:List Value} {T:List VR} {rng:Value} {fr:VF} {w:World} {rb rl rc:Nat} (hE:∀y ∈ cs,0<(f y).length) (hcl:cs.length<=1000) (htot:totB f cs<=1000000000) (hk:fr.kind=2) (hdz:fr.dsize=totB f cs) (h0:rs0=T.length) (hrg:RngAt C.w0 C.sb C.bxb w rng (rs0+cs.length) (T++vrL f cs)) (hrng:rng=.slice (some ⟨rb,0,none⟩) rl rc)
  (wx:World) (cp:Nat) (kx:Keep [C.sb] w wx) (hFx:FrAt wx C.sb (j*14) fr L R):Calls Tryz.prog 180 #[.pointer (some ⟨C.sb,j*14,none⟩),.slice (some (if rc=rs0 then⟨rb,0,none⟩else⟨rb,rs0*3,none⟩)) (rs0+cs.length-rs0) cp] wx fun e w'=>e=.returned .nilIface/\Keep [] wx w':=by
 obtain⟨rb',rl',rc',A,R2,h1,h2,h3,h4,h5,h6,h7⟩:=hrg.last h0;rw[hrng]at h1;cases h1
 have c12:=hFx.cell (j:=12) rfl;rw[hk]at c12;have c2:=hFx.cell (j:=2) rfl;rw[hdz]at c2;rw[Nat.add_sub_cancel_left];have hmono:∀i,i<cs.length->offK f cs i<offK f cs (i+1):=fun i hi=>by
  have hy:cs[i]?=some cs[i]:=List.getElem?_eq_getElem hi;rw[offK_succ hy];have:=hE _ (List.getElem_mem hi);omega
 have hb:=h2.keep kx (by simpa using h7);by_cases hrc:rc=rs0
 ·rw[if_pos hrc];have hn0:cs.length=0:=by omega
  have hb':Blk wx rb ([]++(([]:List VR).flatMap cfR++(A++((vrL f cs).flatMap cfR++R2)))):=hb;rw[hn0];exact finRangesC C.sb (j*14) (totB f cs) rb 0 0 cp [] [] _ (offK f cs) wx c12 c2 hb' rfl rfl (by omega) htot (offK_zero f cs) (by rw[<-hn0];exact offK_tot) (by omega) (by intro i r hr;simp at hr)
 ·rw[if_neg hrc];exact finRangesC C.sb (j*14) (totB f cs) rb (rs0*3) cs.length cp (vrL f cs) A R2 (offK f cs) wx c12 c2 hb h3 length_vrL.symm (by omega) htot (offK_zero f cs) offK_tot hmono (fun i r hr=>vrL_inv hr)

theorem objChild (C:VC) (hC:C.Ok) (ids:List Nat) (hil:ids.length=cs.length) (d wt:Nat) (hV:∀y ∈ cs,ValidAt C (f y) d wt) {j k o n c i rs0:Nat} {L R:List Value} {T:List VR} {rng rsz:Value} {y:α} {fr:VF} (hk:k=j+1) (hkd:k+(d+1)<=31) (hR:R.length=14*(32-k)) (hB:Byt C.w0 C.b o (objB f cs ids)) (hEn:(objB f cs ids).length<=n) (hnc:n<=c) (hn:n<=1000000000) (hcl:cs.length<=255) (htot:totB f cs<=1000000000) (hw:rs0+cs.length+wt<=100000)
  (hy:cs[i]?=some y) (hfr:OFr C o n c cs.length (totB f cs) (objB f cs ids).length rs0 i fr) (hLL:j*14=L.length)
  (hnext:∀(w':World) (R':List Value) (rng' rsz':Value),R'.length=R.length->FrAt w' C.sb (j*14) {fr with next:=i+1,pidx:=i,pstart:=offK f cs i,pexp:=0} L R'->VS C w' rng' (rs0+(i+1)) (T++(vrL f cs).take (i+1))->LSC C k rng' (rs0+(i+1)) rsz' false w')
  (w':World) (hF:FrAt w' C.sb (k*14) (VF.fresh C.b (o+(oH cs.length (totB f cs)+offK f cs i)) (n-(oH cs.length (totB f cs)+offK f cs i)) (c-(oH cs.length (totB f cs)+offK f cs i))) (L++({fr with next:=i+1,pidx:=i,pstart:=offK f cs i,pexp:=0}:VF).cells) (R.drop 14)) (hS:VS C w' rng (rs0+i) (T++(vrL f cs).take i)):LSC C (k+1) rng (rs0+i) rsz false w':=by
 have hi:=(List.getElem?_eq_some_iff.1 hy).1;have hsc:=offK_succ (f:=f) hy;have hle:=offK_le f cs (i+1);have hdt:(cs.map f).flatten.length=totB f cs:=rfl;rw[hdt]at hle;have hlA:=length_objB (f:=f) (c:=cs) hil;have hby:=(objB_parts hil hB).2.2.2.2.kid hy;rw[Nat.add_assoc]at hby
 refine hV y (List.mem_of_getElem? hy) k (k+1) _ _ w' rng rsz (rs0+i) _ _ _ _ rfl (by omega) (by rw[List.length_drop,hR];omega) hF hS hby (by omega) (by omega) (by omega) (by omega) ?_;intro w2 frc R2 rng2 hF2 hR2 hS2;refine DoneC.up (by omega) ?_;have hF3:=hF2.below hk hLL;obtain⟨rb,rl,rc,RS,cc,hrng,hb,h1,h2,h3,h4,h5,h6,h7,h8,h9⟩:=hS2.rg;have hcont:∀(w3:World) (rng3:Value),Keep [rb] w2 w3->RngAt C.w0 C.sb C.bxb w3 rng3 (rs0+i+1) (T++(vrL f cs).take i++[⟨offK f cs i,offK f cs i+(f y).length,i⟩])->LS C.K C.mv C.v C.bx (.slice (some ⟨C.sb,0,none⟩) k 32) rng3 (.int .i64 ((rs0+i+1:Nat):Int)) (.int .i64 ((f y).length:Int)) (.bool false) w3:=fun w3 rng3 k3 hr3=>by
  have e:T++(vrL f cs).take i++[⟨offK f cs i,offK f cs i+(f y).length,i⟩]=T++(vrL f cs).take (i+1):=by
   rw[take_snoc (vrL_get hi),List.append_assoc,hsc]
  rw[e]at hr3;refine hnext w3 _ rng3 _ (by rw[List.length_append,length_vf,hR2,List.length_drop,hR];omega) (hF3.keep k3 (by simpa using fun e=>h8.1 e.symm)) ⟨hS2.kw.trans k3 (by intro x hx;simp at hx;subst hx;exact .inr h7),hS2.bx.keep k3 (by simpa using fun e=>h8.2 e.symm),hr3⟩
 subst hrng;by_cases hlt:rs0+i<rl
 ·exact gotObjStore_ls C.sb j k _ L _ C.ma C.ko C.mn C.mc C.kn C.kc C.bxb C.v _ (.int .i64 ((rs0+i:Nat):Int)) (.int .i64 ((f y).length:Int)) w2 C.Q0 hF3 (by omega) (by omega) (by omega) hS2.bx hC.bxs C.w0 (f y).length (offK f cs i) i (totB f cs) rb rl rc (rs0+i) RS _ cc hfr.kind rfl rfl hfr.dz (by omega) htot (by omega) rfl rfl (by omega) h9 rfl hb h1 h2 h3 h4 h5 h6 h7 h8 hcont hlt
 ·exact gotObjAppend_ls C.sb j k _ L _ C.ma C.ko C.mn C.mc C.kn C.kc C.bxb C.v _ (.int .i64 ((rs0+i:Nat):Int)) (.int .i64 ((f y).length:Int)) w2 C.Q0 hF3 (by omega) (by omega) (by omega) hS2.bx hC.bxs C.w0 (f y).length (offK f cs i) i (totB f cs) rb rl rc (rs0+i) RS _ cc hfr.kind rfl rfl hfr.dz (by omega) htot (by omega) rfl rfl (by omega) h9 rfl hb h1 h2 h3 h4 h5 h6 h7 h8 hcont hlt hS2.kw.size hC.Q0p
theorem objLoop (C:VC) (hC:C.Ok) (ids:List Nat) (hil:ids.length=cs.length) (d wt:Nat) (hV:∀y ∈ cs,ValidAt C (f y) d wt) (hE:∀y ∈ cs,0<(f y).length) {j k o n c rs0:Nat} {L:List Value} {T:List VR} (hk:k=j+1) (hkd:k+(d+1)<=31) (hB:Byt C.w0 C.b o (objB f cs ids)) (hEn:(objB f cs ids).length<=n) (hnc:n<=c) (hn:n<=1000000000) (hcl:cs.length<=255) (htot:totB f cs<=1000000000) (hw:rs0+cs.length+wt<=100000) (hLL:j*14=L.length) (h0:rs0=T.length) (nR:Nat) (hnR:nR=14*(32-k))
  (hA:∀R:List Value,R.length=nR->After C j (objB f cs ids).length L R rs0 T):∀(m i:Nat),i+m=cs.length->∀(fr:VF) (R:List Value) (w:World) (rng rsz:Value),OFr C o n c cs.length (totB f cs) (objB f cs ids).length rs0 i fr->R.length=nR->FrAt w C.sb (j*14) fr L R->VS C w rng (rs0+i) (T++(vrL f cs).take i)->LSC C k rng (rs0+i) rsz false w:=by
 intro m
 induction m with
 |zero=>
  intro i him fr R w rng rsz hfr hRl hF hS;have hci:i=cs.length:=by omega
  have hlA:=length_objB (f:=f) (c:=cs) hil;rw[hci,List.take_of_length_le (by rw[length_vrL];exact Nat.le_refl _)]at hS;rw[hci]at hfr ⊢;have hrg:=hS.rg;obtain⟨rb,rl,rc,A,R2,hrng,-,-,h4,h5,-,-⟩:=hS.rg.last h0;refine finOldObj_ls C.sb j k fr L R C.ma C.ko C.mn C.mc C.kn C.kc C.bxb C.v rng (.int .i64 ((rs0+cs.length:Nat):Int)) rsz w C.Q0 hF (by omega) (by omega) (by omega) hS.bx hC.bxs fr hfr.init hfr.kind rfl (rs0+cs.length) rfl (by omega) rb rl rc rs0 cs.length cs.length (objB f cs ids).length (if rc=rs0 then⟨rb,0,none⟩else⟨rb,rs0*3,none⟩) hfr.next hfr.num (by omega) (by omega) (by omega) hrng hfr.rs (by omega)
   h4 h5 ⟨fun h=>by rw[if_pos h],fun h=>by rw[if_neg h]⟩ hfr.size (by omega) (fun wx cp kx hFx=>finObjAll C hE (by omega) htot hfr.kind hfr.dz h0 hrg hrng wx cp kx hFx) (fun w' k' hF'=>?_)
  have hS':=hS.keepSb hC k';exact hA R hRl w' _ R _ hF' rfl ⟨hS'.kw,hS'.bx,hS'.rg.first h0⟩
 |succ m ih=>
  intro i him fr R w rng rsz hfr hRl hF hS;obtain⟨y,hy⟩:∃y,cs[i]?=some y:=⟨_,List.getElem?_eq_getElem (by omega)⟩;have hy0:=hE y (List.mem_of_getElem? hy);have hle:=offK_le f cs (i+1);have hsc:=offK_succ (f:=f) hy;have hdt:(cs.map f).flatten.length=totB f cs:=rfl;rw[hdt]at hle;refine pushOldObj_ls C.sb j k fr L R C.ma C.ko C.mn C.mc C.kn C.kc C.bxb C.v rng (.int .i64 ((rs0+i:Nat):Int)) rsz w C.Q0 hF (by omega) (by omega) (by omega) hS.bx hC.bxs fr hfr.init hfr.kind rfl C.b (o+(oH cs.length (totB f cs)+offK f cs i)) (n-(oH cs.length (totB f cs)+offK f cs i)) (c-(oH cs.length (totB f cs)+offK f cs i)) i cs.length (offK f cs i) 0 hfr.next hfr.num (by omega) (by omega) (by omega) (by omega) (by omega)
   (fun wx kx hFx=>nextObjAll ids hil C.sb (j*14) fr L R C.b o n c i y C.w0 hB hC.bs hcl htot hEn hnc hn hfr.v hfr.kind hfr.ds hfr.os hfr.oz hfr.dz hfr.next hy hy0 wx (hS.keepSb hC kx).kw hFx) (fun w' k' hF'=>?_)
  refine objChild C hC ids hil d wt hV hk hkd (by omega) hB hEn hnc hn hcl htot hw hy hfr hLL (fun w2 R2 rng2 rsz2 hR2 hF2 hS2=>?_) w' hF' (hS.keepSb hC k');exact ih (i+1) (by omega) {fr with next:=i+1,pidx:=i,pstart:=offK f cs i,pexp:=0} R2 w2 rng2 rsz2 ⟨hfr.v,hfr.init,hfr.kind,hfr.ds,hfr.os,hfr.oz,hfr.num,hfr.dz,rfl,hfr.size,hfr.rs⟩ (by omega) hF2 hS2
theorem validObj (C:VC) (hC:C.Ok) (ids:List Nat) (ks:List ByteArray) (hil:ids.length=cs.length) (hkl:ks.length=cs.length) (hid:∀(i x:Nat) (k:ByteArray),ids[i]?=some x->ks[i]?=some k->C.F[x]?=some k) (hsort:ks.Pairwise fun a b=>ltK a b=true) (d wt:Nat) (hV:∀y ∈ cs,ValidAt C (f y) d wt) (hE:∀y ∈ cs,0<(f y).length) (hcl:cs.length<=255) (htot:totB f cs<=1000000000):ValidAt C (objB f cs ids) (d+1) (cs.length+wt):=by
 intro j k L R w rng rsz rtn T o n c hk hkd hR hF hS hB hEn hnc hn hw hA;have hLL:=hF.1;have hlA:=length_objB (f:=f) (c:=cs) hil;have hp:=prepObjAll ids ks C.F hil hkl hC.F255 hid hsort C.sb (j*14) {VF.fresh C.b o n c with init:=true} L R C.b o n c C.ma C.ko C.mn C.mc C.kn C.kc C.w0 hC.keys hB hC.bs hC.sb0 hcl htot hEn hnc hn (VF.fresh_v _ _ _ _ _);obtain⟨f1,hf1⟩:∃f1:VF,f1={VF.fresh C.b o n c with init:=true,kind:=2,dstart:=oH cs.length (totB f cs),ostart:=2+cs.length,osz:=sizeW (totB f cs),num:=cs.length,dsize:=totB f cs,size:=(objB f cs ids).length}:=⟨_,rfl⟩;have hfr:OFr C o n c cs.length (totB f cs) (objB f cs ids).length rtn 0 {f1 with rstart:=rtn}:=by rw[hf1];exact⟨⟨rfl,rfl,rfl,rfl⟩,rfl,rfl,rfl,rfl,rfl,rfl,rfl,rfl,rfl,rfl⟩
 have hk1:f1.kind=2:=by rw[hf1]
 obtain⟨f2,hf2⟩:∃f2:VF,f2={f1 with rstart:=rtn}:=⟨_,rfl⟩;rw[<-hf2]at hfr;have h0:rtn=T.length:=by obtain⟨rb,rl,rc,RS,cc,hrng,hb,h1,h2,h3,h4,h5,h6⟩:=hS.rg;exact h5
 have hA':∀R':List Value,R'.length=R.length->After C j (objB f cs ids).length L R' rtn T:=fun R' hR' w' fr R2 rng' h1 h2 h3=>hA w' fr R2 rng' h1 (by omega) h3;have hp1:∀wx,Keep [C.sb] w wx->FrAt wx C.sb (j*14) {VF.fresh C.b o n c with init:=true} L R->Calls Tryz.prog 176 #[C.mv,.pointer (some ⟨C.sb,j*14,none⟩)] wx fun e w'=>e=.returned .nilIface/\Keep [C.sb] wx w'/\FrAt w' C.sb (j*14) f1 L R:=fun wx kx hFx=>by
  rw[hf1];exact hp wx (hS.keepSb hC kx).kw hFx
 rcases Nat.eq_zero_or_pos cs.length with hc0|hc0
 ·have hrg:=hS.rg;have hv0:vrL f cs=[]:=List.eq_nil_of_length_eq_zero (by rw[length_vrL,hc0]);have hrg':RngAt C.w0 C.sb C.bxb w rng (rtn+cs.length) (T++vrL f cs):=by rw[hv0,hc0,List.append_nil];exact hrg
  obtain⟨rb,rl,rc,A,R2,hrng,-,-,h4,h5,-,-⟩:=hrg'.last h0;rw[hc0,Nat.add_zero]at h4;refine finFreshObj_ls C.sb j k (VF.fresh C.b o n c) L R C.ma C.ko C.mn C.mc C.kn C.kc C.bxb C.v rng (.int .i64 (rtn:Int)) rsz w C.Q0 hF (by omega) (by omega) (by omega) hS.bx hC.bxs f1 f2 rtn rfl hp1 hk1 hf2 rfl (by omega) rb rl rc rtn 0 cs.length (objB f cs ids).length (if rc=rtn then⟨rb,0,none⟩else⟨rb,rtn*3,none⟩) hfr.next hfr.num (by omega) (by omega) (by omega) hrng hfr.rs (by omega)
   h4 h5 ⟨fun h=>by rw[if_pos h],fun h=>by rw[if_neg h]⟩ hfr.size (by omega) (fun wx cp kx hFx=>?_) (fun w' k' hF'=>?_)
  ·have:=finObjAll C hE (by omega) htot hfr.kind hfr.dz h0 hrg' hrng wx cp kx hFx;rw[hc0,Nat.add_zero]at this;exact this
  ·exact hA w' _ R _ hF' rfl (hS.keepSb hC k')
 ·obtain⟨y,hy⟩:∃y,cs[0]?=some y:=⟨_,List.getElem?_eq_getElem hc0⟩;have hy0:=hE y (List.mem_of_getElem? hy);have hle:=offK_le f cs (0+1);have hsc:=offK_succ (f:=f) hy;have hdt:(cs.map f).flatten.length=totB f cs:=rfl;rw[hdt]at hle;refine pushFreshObj_ls C.sb j k (VF.fresh C.b o n c) L R C.ma C.ko C.mn C.mc C.kn C.kc C.bxb C.v rng (.int .i64 (rtn:Int)) rsz w C.Q0 hF (by omega) (by omega) (by omega) hS.bx hC.bxs f1 f2 rtn rfl hp1 hk1 hf2 rfl (by omega) C.b (o+(oH cs.length (totB f cs)+offK f cs 0)) (n-(oH cs.length (totB f cs)+offK f cs 0)) (c-(oH cs.length (totB f cs)+offK f cs 0)) 0 cs.length (offK f cs 0) 0 hfr.next hfr.num (by omega) (by omega) (by omega) (by omega) (by omega)
   (fun wx kx hFx=>nextObjAll ids hil C.sb (j*14) f2 L R C.b o n c 0 y C.w0 hB hC.bs hcl htot hEn hnc hn hfr.v hfr.kind hfr.ds hfr.os hfr.oz hfr.dz hfr.next hy hy0 wx (hS.keepSb hC kx).kw hFx) (fun w' k' hF'=>?_)
  refine objChild C hC ids hil d wt hV hk hkd hR hB hEn hnc hn hcl htot (rs0:=rtn) (by omega) hy hfr hLL (fun w2 R2 rng2 rsz2 hR2 hF2 hS2=>?_) w' hF' (by simpa using hS.keepSb hC k');exact objLoop C hC ids hil d wt hV hE hk hkd hB hEn hnc hn hcl htot (by omega) hLL h0 R.length hR hA' (cs.length-1) 1 (by omega) {f2 with next:=0+1,pidx:=0,pstart:=offK f cs 0,pexp:=0} R2 w2 rng2 rsz2 ⟨hfr.v,hfr.init,hfr.kind,hfr.ds,hfr.os,hfr.oz,hfr.num,hfr.dz,rfl,hfr.size,hfr.rs⟩ (by omega) hF2 hS2
end
theorem ValidAt.mono {C:VC} {E:List Nat} {d d' wt wt':Nat} (h:ValidAt C E d wt) (hd:d<=d') (hw:wt<=wt'):ValidAt C E d' wt':=
 fun j k L R w rng rsz rtn T o n c hk hkd hR hF hS hB hEn hnc hn hw' hA=>h j k L R w rng rsz rtn T o n c hk (by omega) hR hF hS hB hEn hnc hn (by omega) hA

def DepV:(l d:Nat)->Vt d->Prop
 |_,0,_=>False
 |0,_+1,_=>False
 |l+1,d+1,x=>let x:Node (Vt d):=x;∀y ∈ x.kids,DepV l d y
theorem wtN_ge {α:Type} (f:α->Nat) (x:Node α):x.keys.length+(x.kids.map f).sum+1<=wtN f x:=by
 have hK:x.keys.length<=(x.keys.map fun k=>1+k.size / 16).sum:=by
  induction x.keys with
  |nil=>simp
  |cons y l ih=>simp;omega
 unfold wtN;omega
theorem le_sum {α:Type} (f:α->Nat):∀(l:List α) (y:α),y ∈ l->f y<=(l.map f).sum
 |x::l,y,h=>by
  rw[List.mem_cons]at h;rw[List.map_cons,List.sum_cons];rcases h with rfl|h
  ·omega
  ·have:=le_sum f l y h;omega
theorem keys_le {ks F:List ByteArray} (hs:ks.Pairwise (fun a b=>ltK a b=true)) (hF:∀k ∈ ks,k ∈ F):ks.length<=F.length:=nodup_le _ _ (pairwise_nodup hs) hF
theorem ids_get {ks F:List ByteArray} (hF:∀k ∈ ks,k ∈ F) (i x:Nat) (k:ByteArray) (h1:(ks.map (idxK F))[i]?=some x) (h2:ks[i]?=some k):F[x]?=some k:=by
 rw[List.getElem?_map,h2]at h1;cases h1
 exact idxK_get (hF k (List.mem_of_getElem? h2))
theorem validV (C:VC) (hC:C.Ok):∀(l d:Nat) (x:Vt d),DepV l d x->OkV d x->(∀q ∈ keysV d x,q ∈ C.F)->wtV d x<=20000->ValidAt C (encV d C.F x) l (wtV d x)
 |_,0,x,h,_,_,_=>by cases x
 |0,_+1,x,h,_,_,_=>h.elim
 |l+1,d+1,x,h,hok,hF,hwt=>by
  have hx:OkN (OkV d) x:=hok;have hkids:∀y ∈ Node.kids x,DepV l d y:=h;have hle:=length_encV (d+1) C.F x hok;have hge:=wtN_ge (wtV d) x;have hwN:wtV (d+1) x=wtN (wtV d) x:=rfl;have hIH:∀y ∈ Node.kids x,ValidAt C (encV d C.F y) l ((Node.kids x).map (wtV d)).sum:=fun y hy=>by
   have h1:=le_sum (wtV d) _ y hy;exact(validV C hC l d y (hkids y hy) (hx.kids y hy) (fun q hq=>hF q (by
    show q ∈ keysN (keysV d) x
    unfold keysN;rw[List.mem_append,List.mem_flatMap];exact .inr ⟨y,hy,hq⟩)) (by omega)).mono (Nat.le_refl _) h1
  have hpos:∀y ∈ Node.kids x,0<(encV d C.F y).length:=fun y hy=>List.length_pos_iff.2 (encV_ne d C.F y (hx.kids y hy));have hkF:∀k ∈ Node.keys x,k ∈ C.F:=fun k hk=>hF k (by
   show k ∈ keysN (keysV d) x
   unfold keysN;rw[List.mem_append];exact .inl hk)
  by_cases h0:Node.kind x=0
  ·have e:encV (d+1) C.F x=objB (encV d C.F) (Node.kids x) ((Node.keys x).map (idxK C.F)):=by
    show encN C.F (encV d C.F) x=_
    unfold encN;rw[if_pos h0];rfl
   have hkk:=hx.keysKids h0;have hkl:=keys_le hx.sorted hkF;rw[e]at hle ⊢;have hlA:=length_objB (f:=encV d C.F) (c:=Node.kids x) (ids:=(Node.keys x).map (idxK C.F)) (by rw[List.length_map];exact hkk);exact(validObj C hC _ (Node.keys x) (by rw[List.length_map];exact hkk) hkk (ids_get hkF) hx.sorted l _ hIH hpos (by have:=hC.F255;omega) (by omega)).mono (Nat.le_refl _) (by omega)
  ·by_cases h1:Node.kind x=1
   ·have e:encV (d+1) C.F x=arrB (encV d C.F) (Node.kids x):=by
     show encN C.F (encV d C.F) x=_
     unfold encN;rw[if_neg h0,if_pos h1];rfl
    rw[e]at hle ⊢;have hlA:=length_arrB (f:=encV d C.F) (c:=Node.kids x);exact(validArr C hC l _ hIH hpos (by have:=hx.kidsLe;omega) (by omega)).mono (Nat.le_refl _) (by omega)
   ·have e:encV (d+1) C.F x=primB (Node.kind x) (Node.scale x) (Node.num x) (Node.text x):=by
     show encN C.F (encV d C.F) x=_
     unfold encN;rw[if_neg h0,if_neg h1]
    rw[e];have hk0:=hx.kind0;exact validFlat C hC _ (flat_primB hx.flat (by omega) hx.textLe) (l+1) _
end Go.Proofs.YtocgdgmfnockiaaGreatDoor
