/- Variants read: what holds no others, by its first byte. Variants read: arrays and objects by their headers. -/
import Derived.Test.YtocgdgmfnockiaaGreatDoorV24
import Derived.Test.YtocgdgmfnockiaaGreatDoorV16
import Derived.Test.YtocgdgmfnockiaaGreatDoorV20
import Derived.Test.YtocgdgmfnockiaaGreatDoorV19
set_option linter.unusedVariables false
set_option linter.unusedSimpArgs false
set_option maxRecDepth 100000
set_option maxHeartbeats 8000000
namespace Go.Proofs.YtocgdgmfnockiaaGreatDoor
open Go.RowKit

def Flat (E:List Nat):Prop:=
 (∃t rest,E=(4*t)::rest/\t<=20/\t≠15/\t≠16/\E.length=psize t)\/(∃t m rest,E=(4*t)::(leBytes 4 m++rest)/\(t=15\/t=16)/\m<=4096/\E.length=5+m)\/(∃m rest,E=(1+4*m)::rest/\m<64/\E.length=1+m)
theorem Flat.of {t:Nat} {rest:List Nat} (ht:t<=20) (h15:t≠15) (h16:t≠16) (hl:rest.length+1=psize t):Flat ((4*t)::rest):=.inl ⟨t,rest,rfl,ht,h15,h16,by rw[List.length_cons];exact hl⟩
theorem flat_encI (n:Nat):Flat (encI n):=by
 unfold encI;split
 ·exact Flat.of (t:=3) (by omega) (by omega) (by omega) (by simp[psize])
 ·split
  ·exact Flat.of (t:=4) (by omega) (by omega) (by omega) (by simp[psize])
  ·split
   ·exact Flat.of (t:=5) (by omega) (by omega) (by omega) (by simp[psize])
   ·exact Flat.of (t:=6) (by omega) (by omega) (by omega) (by simp[psize])
theorem flat_encStr (s:ByteArray) (hs:s.size<=4096):Flat (encStr s):=by
 unfold encStr;split
 ·exact .inr (.inr ⟨s.size,_,rfl,by omega,by simp;omega⟩)
 ·exact .inr (.inl ⟨16,s.size,_,rfl,.inr rfl,hs,by simp;omega⟩)
theorem flat_encBin (s:ByteArray) (hs:s.size<=4096):Flat (encBin (bytesN s)):=by
 unfold encBin;exact .inr (.inl ⟨15,s.size,_,by rw[length_bytesN],.inl rfl,hs,by simp;omega⟩)
theorem flat_primB {kind scale:Int} {num:Nat} {text:ByteArray} (hf:FlatOk kind scale num text) (hk:2<=kind/\kind<=21) (ht:text.size<=4096):Flat (primB kind scale num text):=by
 have h16:=hf.text16;have hcase:kind=2\/kind=3\/kind=4\/kind=5\/kind=6\/kind=7\/kind=8\/kind=9\/kind=10\/kind=11\/kind=12\/kind=13\/kind=14\/kind=15\/kind=16\/kind=17\/kind=18\/kind=19\/kind=20\/kind=21:=by omega
 unfold primB;rcases hcase with rfl|rfl|rfl|rfl|rfl|rfl|rfl|rfl|rfl|rfl|rfl|rfl|rfl|rfl|rfl|rfl|rfl|rfl|rfl|rfl
 ·simp;exact Flat.of (t:=0) (by omega) (by omega) (by omega) (by simp[psize])
 ·simp;split
  ·exact Flat.of (t:=2) (by omega) (by omega) (by omega) (by simp[psize])
  ·exact Flat.of (t:=1) (by omega) (by omega) (by omega) (by simp[psize])
 ·simp;exact flat_encI num
 ·simp;exact flat_encI num
 ·simp;exact flat_encI num
 ·simp;exact flat_encI num
 ·simp;exact flat_encStr text ht
 ·simp;exact Flat.of (t:=7) (by omega) (by omega) (by omega) (by simp[psize])
 ·simp;exact Flat.of (t:=8) (by omega) (by omega) (by omega) (by simp[psize])
 ·simp;exact Flat.of (t:=9) (by omega) (by omega) (by omega) (by simp[psize])
 ·simp;exact Flat.of (t:=10) (by omega) (by omega) (by omega) (by simp[psize,h16 (.inl rfl)])
 ·simp;exact Flat.of (t:=11) (by omega) (by omega) (by omega) (by simp[psize])
 ·simp;exact Flat.of (t:=12) (by omega) (by omega) (by omega) (by simp[psize])
 ·simp;exact Flat.of (t:=13) (by omega) (by omega) (by omega) (by simp[psize])
 ·simp;exact Flat.of (t:=14) (by omega) (by omega) (by omega) (by simp[psize])
 ·simp;exact flat_encBin text ht
 ·simp;exact Flat.of (t:=17) (by omega) (by omega) (by omega) (by simp[psize])
 ·simp;exact Flat.of (t:=18) (by omega) (by omega) (by omega) (by simp[psize])
 ·simp;exact Flat.of (t:=19) (by omega) (by omega) (by omega) (by simp[psize])
 ·simp;exact Flat.of (t:=20) (by omega) (by omega) (by omega) (by simp[psize,h16 (.inr rfl)])
theorem psize_le (t:Nat):psize t<=18:=by
 have h:∀{c:Prop} [Decidable c] {a b:Nat},a<=18->b<=18->(if c then a else b)<=18:=fun ha hb=>by split<;>assumption
 unfold psize
 repeat' refine h ?_ ?_
 all_goals decide

theorem prepFlatAll (E:List Nat) (hE:Flat E) (sb p:Nat) (f:VF) (L R:List Value) (b o ln cap:Nat) (ma ko:Option Addr) (mn mc kn kc:Nat) (w0:World) (hB:Byt w0 b o E) (hbs:b≠sb) (hln:E.length<=ln) (hcap:ln<=cap) (hnm:ln<=1000000000) (hv:f.vb=b/\f.vo=o/\f.vn=ln/\f.vc=cap):
  ∃kd,kd<2/\∀wx,Keep [] w0 wx->FrAt wx sb p f L R->Calls Tryz.prog 176 #[.agg #[.slice ma mn mc,.slice ko kn kc],.pointer (some ⟨sb,p,none⟩)] wx fun e w'=>e=.returned .nilIface/\Keep [sb] wx w'/\FrAt w' sb p {f with kind:=kd,size:=E.length} L R:=by
 have hsw:∀{wx:World} {D:List Nat} {o:Nat},Byt wx b o D->∀{w':World},Keep [sb] wx w'->Byt w' b o D:=fun h _ k=>h.keep k (by simpa using hbs);rcases hE with⟨t,rest,rfl,ht,h15,h16,hl⟩|⟨t,m,rest,rfl,ht,hm,hl⟩|⟨m,rest,rfl,hm,hl⟩
 ·refine⟨0,by omega,fun wx kx hF=>?_⟩;have hBx:=hB.keep kx (by simp);rw[hl];have hp:=psize_pos t;have hps:=psize_le t;rw[hl]at hln;exact prepFlatC sb p f L R b o ln cap (4*t) (psize t) ma ko mn mc kn kc wx hF hv hbs hBx.head (by omega) (by omega) (by omega) hnm (by omega) (fun wy ky=>(validPrimC b o ln cap (4*t) t wy (hsw hBx ky).head (by omega) ht h15 h16 hln hnm).mono (by rintro e w' ⟨rfl,rfl⟩;exact⟨rfl,Keep.refl _ _⟩))
 ·refine⟨0,by omega,fun wx kx hF=>?_⟩;have hBx:=hB.keep kx (by simp);rw[hl]at hln ⊢;exact prepFlatC sb p f L R b o ln cap (4*t) (5+m) ma ko mn mc kn kc wx hF hv hbs hBx.head (by omega) (by omega) (by omega) hnm (by omega) (fun wy ky=>validLongC b o ln cap (4*t) t m wy (hsw hBx ky).head (by omega) ht (hsw hBx ky).tail.left (by omega) hln hnm hcap)
 ·refine⟨1,by omega,fun wx kx hF=>?_⟩;have hBx:=hB.keep kx (by simp);rw[hl]at hln ⊢;exact prepShortC sb p f L R b o ln cap (1+4*m) m ma ko mn mc kn kc wx hF hv hbs hBx.head rfl hm (by omega) hln hnm

theorem sizeFlat (E:List Nat) (hE:Flat E) (b o ln cap:Nat) (w:World) (hB:Byt w b o E) (hln:E.length<=ln) (hcap:ln<=cap) (hnm:ln<=1000000000):
  Calls Tryz.prog 82 #[.slice (some ⟨b,o,none⟩) ln cap] w fun e w'=>e=.returned (.int .i64 (E.length:Int))/\Keep [] w w':=by
 rcases hE with⟨t,rest,rfl,ht,h15,h16,hl⟩|⟨t,m,rest,rfl,ht,hm,hl⟩|⟨m,rest,rfl,hm,hl⟩
 ·have hp:=psize_pos t;rw[hl]at hln ⊢;exact sizePrimC b o ln cap (4*t) t w hB.head rfl ht h15 h16 (by omega) hnm
 ·rw[hl]at hln ⊢;exact sizeLongC b o ln cap (4*t) t m w hB.head rfl ht hB.tail.left (by omega) (by omega) hnm hcap
 ·rw[hl]at hln ⊢;exact sizeShortC b o ln cap (1+4*m) m w hB.head rfl hm (by omega) hnm
def aK (n:Nat):Nat:=if 255<n then 4 else 1

def aH (n tot:Nat):Nat:=1+aK n+(n+1)*sizeW tot

def oH (n tot:Nat):Nat:=2+n+(n+1)*sizeW tot
theorem aK_pos (n:Nat):1<=aK n:=by unfold aK;split<;>omega
theorem aK_le (n:Nat):aK n<=4:=by unfold aK;split<;>omega
section
variable {α:Type} (f:α->List Nat) (c:List α)
def totB:Nat:=(c.map f).flatten.length

def tabL:List Nat:=offsL 0 ((c.map f).map List.length)++[totB f c]
def arrB:List Nat:=arrHdr (offsL 0 ((c.map f).map List.length)) (totB f c)++(c.map f).flatten
def objB (ids:List Nat):List Nat:=objHdr ids (offsL 0 ((c.map f).map List.length)) (totB f c)++(c.map f).flatten
variable {f c}
theorem tabL_get {i:Nat} (hi:i<=c.length):(tabL f c)[i]?=some (offK f c i):=offs_get f c i hi
theorem length_tabL:(tabL f c).length=c.length+1:=by simp[tabL,length_offsL]
theorem tabL_inv {i x:Nat} (h:(tabL f c)[i]?=some x):i<=c.length/\x=offK f c i:=by
 have hi:=(List.getElem?_eq_some_iff.1 h).1;rw[length_tabL]at hi;have:=tabL_get (f:=f) (c:=c) (i:=i) (by omega);rw[h]at this;exact⟨by omega,Option.some.inj this⟩
theorem tabL_le:∀x ∈ tabL f c,x<=totB f c:=by
 intro x hx;obtain⟨i,hi,rfl⟩:=List.getElem_of_mem hx;have:=(tabL_inv (List.getElem?_eq_getElem hi)).2;rw[this];exact offK_le f c i
theorem offK_tot:offK f c c.length=totB f c:=offK_all f c
theorem length_arrB:(arrB f c).length=aH c.length (totB f c)+totB f c:=by
 unfold arrB;rw[List.length_append,length_arrHdr,length_offsL];simp only[List.length_map];unfold aH aK totB;omega
theorem length_objB {ids:List Nat} (h:ids.length=c.length):(objB f c ids).length=oH c.length (totB f c)+totB f c:=by
 unfold objB;rw[List.length_append,length_objHdr,length_offsL];simp only[List.length_map];unfold oH totB;omega
theorem arrB_eq:arrB f c=(3+4*(sizeW (totB f c)-1)+if 255<c.length then 16 else 0)::(leBytes (aK c.length) c.length++(tabB (sizeW (totB f c)) (tabL f c)++(c.map f).flatten)):=by
 unfold arrB arrHdr tabL aK;rw[length_offsL];simp[List.append_assoc]
theorem objB_eq (ids:List Nat):objB f c ids=(2+4*(sizeW (totB f c)-1))::(leBytes 1 ids.length++(tabB 1 ids++(tabB (sizeW (totB f c)) (tabL f c)++(c.map f).flatten))):=by
 unfold objB objHdr tabL;simp[List.append_assoc]

theorem arrB_parts {w:World} {b o:Nat} (h:Byt w b o (arrB f c)):w.cell? ⟨b,o,none⟩=some (.int .u8 ((3+4*(sizeW (totB f c)-1)+(if 255<c.length then 16 else 0):Nat):Int))/\Byt w b (o+1) (leBytes (aK c.length) c.length)/\
  Byt w b (o+(1+aK c.length)) (tabB (sizeW (totB f c)) (tabL f c))/\Byt w b (o+aH c.length (totB f c)) ((c.map f).flatten):=by
 rw[arrB_eq]at h;have h1:=h.tail.right;rw[length_leBytes]at h1;have h2:=h1.right;rw[length_tabB,length_tabL]at h2;refine⟨h.head,h.tail.left,?_,?_⟩
 ·have:=h1.left;rw[Nat.add_assoc]at this;exact this
 ·rw[show o+1+aK c.length+(c.length+1)*sizeW (totB f c)=o+aH c.length (totB f c)by unfold aH;omega]at h2;exact h2
theorem objB_parts {ids:List Nat} (hi:ids.length=c.length) {w:World} {b o:Nat} (h:Byt w b o (objB f c ids)):w.cell? ⟨b,o,none⟩=some (.int .u8 ((2+4*(sizeW (totB f c)-1):Nat):Int))/\Byt w b (o+1) (leBytes 1 c.length)/\Byt w b (o+2) (tabB 1 ids)/\
  Byt w b (o+(2+c.length)) (tabB (sizeW (totB f c)) (tabL f c))/\Byt w b (o+oH c.length (totB f c)) ((c.map f).flatten):=by
 rw[objB_eq]at h;have h1:=h.tail.right;rw[length_leBytes]at h1;have h2:=h1.right;rw[length_tabB,Nat.mul_one,hi]at h2;have h3:=h2.right;rw[length_tabB,length_tabL]at h3;refine⟨h.head,?_,h1.left,?_,?_⟩
 ·have:=h.tail.left;rw[hi]at this;exact this
 ·have:=h2.left;rw[show o+1+1+c.length=o+(2+c.length)by omega]at this;exact this
 ·rw[show o+1+1+c.length+(c.length+1)*sizeW (totB f c)=o+oH c.length (totB f c)by unfold oH;omega]at h3;exact h3
theorem sizeW_s (n:Nat):∃s,sizeW n=s+1/\s<=3:=⟨sizeW n-1,by have:=sizeW_pos n;omega,by have:=sizeW_le n;omega⟩

theorem prepArrAll (sb p:Nat) (fr:VF) (L R:List Value) (b o ln cap:Nat) (ma ko:Option Addr) (mn mc kn kc:Nat) (w0:World) (hB:Byt w0 b o (arrB f c)) (hbs:b≠sb) (hn:c.length<=1000) (htot:totB f c<=1000000000) (hln:(arrB f c).length<=ln) (hcap:ln<=cap) (hnm:ln<=1000000000) (hv:fr.vb=b/\fr.vo=o/\fr.vn=ln/\fr.vc=cap)
  (wx:World) (kx:Keep [] w0 wx) (hF:FrAt wx sb p fr L R):Calls Tryz.prog 176 #[.agg #[.slice ma mn mc,.slice ko kn kc],.pointer (some ⟨sb,p,none⟩)] wx fun e w'=>e=.returned .nilIface/\Keep [sb] wx w'/\
   FrAt w' sb p {fr with kind:=3,dstart:=aH c.length (totB f c),ostart:=1+aK c.length,osz:=sizeW (totB f c),num:=c.length,size:=(arrB f c).length} L R:=by
 have hsw:∀{wx:World} {D:List Nat} {o:Nat},Byt wx b o D->∀{w':World},Keep [sb] wx w'->Byt w' b o D:=fun h _ k=>h.keep k (by simpa using hbs);have hBx:=hB.keep kx (by simp);obtain⟨s,hs,hs3⟩:=sizeW_s (totB f c);have hp:=arrB_parts hBx;rw[hs,Nat.add_sub_cancel]at hp;rw[length_arrB]at hln ⊢;have hE:aH c.length (totB f c)=1+aK c.length+(c.length+1)*(s+1):=by unfold aH;rw[hs]
 rw[hE]at hln ⊢;rw[hs];refine prepNestArr sb p fr _ L R b o ln cap _ ma ko mn mc kn kc wx hF hv hbs hp.1 (by split<;>omega) (by split<;>omega) (by omega) hnm (fun wy ky hFy=>?_);have hpy:=arrB_parts (hsw hBx ky);rw[hs,Nat.add_sub_cancel]at hpy;exact prepArrC sb p {fr with kind:=3} L R b o ln cap _ s c.length (aK c.length) (totB f c) (tabL f c) wy hFy hv hbs hpy.1 rfl rfl hs3 hpy.2.1 hpy.2.2.1 hn length_tabL (by rw[tabL_get (Nat.zero_le _),offK_zero]) (fun i x y hx hy=>by
  rw[(tabL_inv hx).2,(tabL_inv hy).2];exact offK_mono f c (Nat.le_succ i)) tabL_le (by rw[tabL_get (Nat.le_refl _),offK_tot]) (by rw[<-hs];exact sizeW_fits _ (by omega)) htot hln hnm hcap

theorem prepObjAll (ids:List Nat) (ks F:List ByteArray) (hi:ids.length=c.length) (hkl:ks.length=c.length) (hF255:F.length<=255) (hid:∀(i x:Nat) (k:ByteArray),ids[i]?=some x->ks[i]?=some k->F[x]?=some k) (hsort:ks.Pairwise fun a b=>ltK a b=true)
  (sb p:Nat) (fr:VF) (L R:List Value) (b o ln cap:Nat) (ma ko:Option Addr) (mn mc kn kc:Nat) (w0:World) (hK:KeysAt w0 (.slice ko kn kc) F) (hB:Byt w0 b o (objB f c ids)) (hbs:b≠sb) (hsb0:w0.heap.size<=sb) (hn:c.length<=255) (htot:totB f c<=1000000000) (hln:(objB f c ids).length<=ln) (hcap:ln<=cap) (hnm:ln<=1000000000) (hv:fr.vb=b/\fr.vo=o/\fr.vn=ln/\fr.vc=cap)
  (wx:World) (kx:Keep [] w0 wx) (hF:FrAt wx sb p fr L R):Calls Tryz.prog 176 #[.agg #[.slice ma mn mc,.slice ko kn kc],.pointer (some ⟨sb,p,none⟩)] wx fun e w'=>e=.returned .nilIface/\Keep [sb] wx w'/\
   FrAt w' sb p {fr with kind:=2,dstart:=oH c.length (totB f c),ostart:=2+c.length,osz:=sizeW (totB f c),num:=c.length,dsize:=totB f c,size:=(objB f c ids).length} L R:=by
 have hsw:∀{wx:World} {D:List Nat} {o:Nat},Byt wx b o D->∀{w':World},Keep [sb] wx w'->Byt w' b o D:=fun h _ k=>h.keep k (by simpa using hbs);have hBx:=hB.keep kx (by simp);obtain⟨s,hs,hs3⟩:=sizeW_s (totB f c);have hp:=objB_parts hi hBx;rw[hs,Nat.add_sub_cancel]at hp;rw[length_objB hi]at hln ⊢;have hE:oH c.length (totB f c)=2+c.length+(c.length+1)*(s+1):=by unfold oH;rw[hs]
 rw[hE]at hln ⊢;rw[hs];refine prepNestObj sb p fr _ L R b o ln cap _ ma ko mn mc kn kc wx hF hv hbs hp.1 (by omega) (by omega) (by omega) hnm (fun wy ky hFy=>?_);have hpy:=objB_parts hi (hsw hBx ky);rw[hs,Nat.add_sub_cancel]at hpy;have hKy:=hK.keep (kx.trans ky (by intro x hx;simp at hx;subst hx;exact .inr hsb0));exact prepObjC sb p {fr with kind:=2} L R b o ln cap _ s c.length (totB f c) ids (tabL f c) ks F ma mn mc _ wy hFy hv hbs hpy.1 rfl hs3 hpy.2.1 hpy.2.2.1 hpy.2.2.2.1 hn hi length_tabL hkl tabL_le (by rw[tabL_get (Nat.le_refl _),offK_tot]) (by rw[<-hs];exact sizeW_fits _ (by omega)) htot hln hnm hcap hKy hF255 hid hsort

theorem sizeArrAll (b o ln cap:Nat) (w:World) (hB:Byt w b o (arrB f c)) (hn:c.length<=1000) (htot:totB f c<=1000000000) (hln:(arrB f c).length<=ln) (hcap:ln<=cap) (hnm:ln<=1000000000):
  Calls Tryz.prog 82 #[.slice (some ⟨b,o,none⟩) ln cap] w fun e w'=>e=.returned (.int .i64 ((arrB f c).length:Int))/\Keep [] w w':=by
 obtain⟨s,hs,hs3⟩:=sizeW_s (totB f c);have hp:=arrB_parts hB;rw[hs,Nat.add_sub_cancel]at hp;rw[length_arrB]at hln ⊢;have ht:=hp.2.2.1.tab (tabL_get (Nat.le_refl _));rw[offK_tot,Nat.add_assoc]at ht;have hE:aH c.length (totB f c)=1+aK c.length+c.length*(s+1)+(s+1):=by unfold aH;rw[hs,Nat.succ_mul];omega
 rw[hE]at hln ⊢;exact sizeArrC b o ln cap _ s c.length (aK c.length) (totB f c) _ w hp.1 rfl rfl hs3 hp.2.1 rfl ht (by omega) (by rw[<-hs];exact sizeW_fits _ (by omega)) htot (by omega) hnm hcap
theorem sizeObjAll (ids:List Nat) (hi:ids.length=c.length) (b o ln cap:Nat) (w:World) (hB:Byt w b o (objB f c ids)) (hn:c.length<=255) (htot:totB f c<=1000000000) (hln:(objB f c ids).length<=ln) (hcap:ln<=cap) (hnm:ln<=1000000000):
  Calls Tryz.prog 82 #[.slice (some ⟨b,o,none⟩) ln cap] w fun e w'=>e=.returned (.int .i64 ((objB f c ids).length:Int))/\Keep [] w w':=by
 obtain⟨s,hs,hs3⟩:=sizeW_s (totB f c);have hp:=objB_parts hi hB;rw[hs,Nat.add_sub_cancel]at hp;rw[length_objB hi]at hln ⊢;have ht:=hp.2.2.2.1.tab (tabL_get (Nat.le_refl _));rw[offK_tot,Nat.add_assoc]at ht;have hE:oH c.length (totB f c)=2+c.length+c.length*(s+1)+(s+1):=by unfold oH;rw[hs,Nat.succ_mul];omega
 rw[hE]at hln ⊢;exact sizeObjC b o ln cap _ s c.length (totB f c) _ w hp.1 rfl hs3 hp.2.1 rfl ht hn (by rw[<-hs];exact sizeW_fits _ (by omega)) htot (by omega) hnm hcap
end
end Go.Proofs.YtocgdgmfnockiaaGreatDoor
