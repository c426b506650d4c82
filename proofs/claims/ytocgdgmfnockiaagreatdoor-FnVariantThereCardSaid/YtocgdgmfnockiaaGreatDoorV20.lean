/- Variants read: bytes in memory, tables of offsets, in plain words. No walk here. Variants, the law's side, in plain words: the keys that are counted. No walk here. Variants, the law's side: in, signed, narrow. Variants read: numbers with a sign out of bytes. No walk here. -/
import Derived.Test.YtocgdgmfnockiaaGreatDoorV15
import Derived.Test.YtocgdgmfnockiaaGreatDoorV19
set_option linter.unusedVariables false
set_option linter.unusedSimpArgs false
set_option maxRecDepth 100000
set_option maxHeartbeats 8000000
namespace Go.Proofs.YtocgdgmfnockiaaGreatDoor
open Go.RowKit
theorem Byt.of_copied {w w':World} {g n c:Nat} {cs:List Value} {D:List Nat} (hb:Blk w g cs) (ht:cs.take n=rowV .u8 D):Byt w g 0 D:=fun j x hj=>by
 rw[Nat.zero_add];refine hb.cell ?_;have h1:(cs.take n)[j]?=some (.int .u8 (x:Int)):=by rw[ht];exact rowV_get hj
 rw[List.getElem?_take]at h1;split at h1
 ·exact h1
 ·cases h1

def offK {α:Type} (f:α->List Nat) (c:List α) (i:Nat):Nat:=((c.take i).map f).flatten.length
theorem sum_lengths {α:Type} (f:α->List Nat) (c:List α):((c.map f).map List.length).sum=(c.map f).flatten.length:=by
 induction c with
 |nil=>rfl
 |cons y c ih=>simp at ih ⊢<;>omega

theorem offs_get {α:Type} (f:α->List Nat) (c:List α) (i:Nat) (hi:i<=c.length):(offsL 0 ((c.map f).map List.length)++[(c.map f).flatten.length])[i]?=some (offK f c i):=by
 rcases Nat.lt_or_ge i c.length with h|h
 ·rw[List.getElem?_append_left (by rw[length_offsL];simpa using h),offsL_get _ _ _ (by simpa using h),Nat.zero_add];unfold offK;rw[<-sum_lengths,List.map_take,List.map_take]
 ·have e:i=c.length:=by omega
  rw[List.getElem?_append_right (by rw[length_offsL];simpa using h),length_offsL];simp only[List.length_map];rw[e,Nat.sub_self];unfold offK;rw[List.take_length];rfl
theorem offK_zero {α:Type} (f:α->List Nat) (c:List α):offK f c 0=0:=by simp[offK]
theorem offK_all {α:Type} (f:α->List Nat) (c:List α):offK f c c.length=(c.map f).flatten.length:=by unfold offK;rw[List.take_length]
theorem offK_succ {α:Type} {f:α->List Nat} {c:List α} {i:Nat} {y:α} (h:c[i]?=some y):offK f c (i+1)=offK f c i+(f y).length:=by
 unfold offK;rw[take_snoc h];simp
theorem offK_mono {α:Type} (f:α->List Nat) (c:List α) {i j:Nat} (h:i<=j):offK f c i<=offK f c j:=by
 unfold offK;have e:c.take j=c.take i++(c.take j).drop i:=by
  conv=>lhs;rw[<-List.take_append_drop i (c.take j)]
  rw[List.take_take,Nat.min_eq_left h]
 rw[e];simp
theorem offK_le {α:Type} (f:α->List Nat) (c:List α) (i:Nat):offK f c i<=(c.map f).flatten.length:=by
 rcases Nat.lt_or_ge i c.length with h|h
 ·rw[<-offK_all];exact offK_mono f c (by omega)
 ·unfold offK;rw[List.take_of_length_le h];exact Nat.le_refl _
theorem Byt.kid {α:Type} {f:α->List Nat} {c:List α} {w:World} {b o i:Nat} {y:α} (h:Byt w b o ((c.map f).flatten)) (hy:c[i]?=some y):Byt w b (o+offK f c i) (f y):=by
 have e:(c.map f).flatten=((c.take i).map f).flatten++(f y++((c.drop (i+1)).map f).flatten):=by
  have h1:c=c.take i++(y::c.drop (i+1)):=by
   have hi:=(List.getElem?_eq_some_iff.1 hy).1;have e2:c[i]=y:=by rw[List.getElem?_eq_getElem hi]at hy;exact Option.some.inj hy
   rw[<-e2,<-List.drop_eq_getElem_cons hi,List.take_append_drop]
  conv=>lhs;rw[h1]
  simp
 rw[e]at h;exact h.right.left

def lwI (n:Nat):Int:=if -128<=sgn n/\sgn n<=127 then 4 else if -32768<=sgn n/\sgn n<=32767 then 5 else if -2147483648<=sgn n/\sgn n<=2147483647 then 6 else 7
def lwN {α:Type} (f:α->α) (x:Node α):Node α:={x with kind:=if 4<=x.kind/\x.kind<=7 then lwI x.num else x.kind,kids:=x.kids.map f}

def lwV:(d:Nat)->Vt d->Vt d
 |0,x=>x
 |d+1,x=>lwN (lwV d) x
theorem metaB_bounds (so:Bool) (K:List ByteArray) (tot:Nat):3<=(metaB so K tot).length:=by
 unfold metaB;have:=sizeW_pos (max tot K.length);have:1*1<=(K.length+1)*sizeW (max tot K.length):=Nat.mul_le_mul (by omega) this;simp only[List.length_cons,List.length_append,length_leBytes,length_tabB,length_offsL,List.length_map,List.length_nil,Nat.zero_add];omega
def colN {α:Type} (f:List ByteArray->α->List ByteArray) (K:List ByteArray) (x:Node α):List ByteArray:=x.kids.foldl f (x.keys.foldl addK K)

def colV:(d:Nat)->List ByteArray->Vt d->List ByteArray
 |0,K,_=>K
 |d+1,K,x=>colN (colV d) K x
def keysN {α:Type} (f:α->List ByteArray) (x:Node α):List ByteArray:=x.keys++x.kids.flatMap f

def keysV:(d:Nat)->Vt d->List ByteArray
 |0,_=>[]
 |d+1,x=>keysN (keysV d) x
theorem mem_addK_iff {K:List ByteArray} {k x:ByteArray}:x ∈ addK K k↔x ∈ K\/x=k:=by
 unfold addK;cases h:hasK K k with
 |true=>
  simp only[if_true];constructor
  ·exact fun h=>.inl h
  ·rintro(h'|rfl)
   ·exact h'
   ·exact hasK_iff.1 h
 |false=>simp
theorem mem_foldl_addK:∀(ks K:List ByteArray) (x:ByteArray),x ∈ ks.foldl addK K↔x ∈ K\/x ∈ ks
 |[],K,x=>by simp
 |k::ks,K,x=>by
  rw[List.foldl_cons,mem_foldl_addK ks,mem_addK_iff,List.mem_cons,or_assoc]
theorem mem_foldl_of {α:Type} {f:List ByteArray->α->List ByteArray} {g:α->List ByteArray} {x:ByteArray}:∀(cs:List α) (K:List ByteArray),(∀c ∈ cs,∀K,x ∈ f K c↔x ∈ K\/x ∈ g c)->(x ∈ cs.foldl f K↔x ∈ K\/x ∈ cs.flatMap g)
 |[],K,_=>by simp
 |c::cs,K,h=>by
  rw[List.foldl_cons,mem_foldl_of cs _ (fun y hy=>h y (by simp[hy])),h c (by simp),List.flatMap_cons,List.mem_append,or_assoc]
theorem mem_colV:∀(d:Nat) (K:List ByteArray) (x:Vt d) (k:ByteArray),k ∈ colV d K x↔k ∈ K\/k ∈ keysV d x
 |0,K,x,k=>by simp[colV,keysV]
 |d+1,K,x,k=>by
  have y:Node (Vt d):=x;show k ∈ colN (colV d) K x↔k ∈ K\/k ∈ keysN (keysV d) x
  unfold colN keysN;rw[mem_foldl_of _ _ (fun c _ K=>mem_colV d K c k),mem_foldl_addK,List.mem_append,or_assoc]
theorem mem_addKV_of {α:Type} {f:List ByteArray->α->List ByteArray} {g:α->List ByteArray} {x:ByteArray}:∀(ks:List ByteArray) (cs:List α) (K:List ByteArray),(∀c ∈ cs,∀K,x ∈ f K c->x ∈ K\/x ∈ g c)->x ∈ addKV f K ks cs->x ∈ K\/x ∈ ks\/x ∈ cs.flatMap g
 |[],_,K,_,h=>by simp[addKV]at h;exact .inl h
 |_::_,[],K,_,h=>by simp[addKV]at h;exact .inl h
 |k::ks,c::cs,K,hf,h=>by
  rw[addKV]at h;rcases mem_addKV_of ks cs _ (fun y hy=>hf y (by simp[hy])) h with h|h|h
  ·rcases hf c (by simp) _ h with h|h
   ·rcases mem_addK_iff.1 h with h|rfl
    ·exact .inl h
    ·exact .inr (.inl (by simp))
   ·exact .inr (.inr (by simp[h]))
  ·exact .inr (.inl (by simp[h]))
  ·refine .inr (.inr ?_);rw[List.flatMap_cons,List.mem_append];exact .inr h
theorem mem_addV:∀(d:Nat) (K:List ByteArray) (x:Vt d) (k:ByteArray),k ∈ addV d K x->k ∈ K\/k ∈ keysV d x
 |0,K,x,k,h=>.inl h
 |d+1,K,x,k,h=>by
  have h1:k ∈ addN (addV d) K x:=h;show k ∈ K\/k ∈ keysN (keysV d) x
  unfold addN at h1;unfold keysN;rw[List.mem_append];split at h1
  ·exact mem_addKV_of _ _ K (fun c _ K=>mem_addV d K c k) h1
  ·split at h1
   ·have:∀(cs:List (Vt d)) (K:List ByteArray),k ∈ cs.foldl (addV d) K->k ∈ K\/k ∈ cs.flatMap (keysV d):=by
     intro cs
     induction cs with
     |nil=>intro K h;exact .inl h
     |cons c cs ih=>
      intro K h;rw[List.foldl_cons]at h;rw[List.flatMap_cons,List.mem_append];rcases ih _ h with h|h
      ·rcases mem_addV d K c k h with h|h
       ·exact .inl h
       ·exact .inr (.inl h)
      ·exact .inr (.inr h)
    rcases this _ _ h1 with h|h
    ·exact .inl h
    ·exact .inr (.inr h)
   ·exact .inl h1
theorem nodup_addK {K:List ByteArray} {k:ByteArray} (h:K.Nodup):(addK K k).Nodup:=by
 unfold addK;cases hk:hasK K k with
 |true=>simpa using h
 |false=>
  have hn:=hasK_false.1 hk;simp only[Bool.false_eq_true,if_false];rw[List.nodup_append];exact⟨h,by simp,by intro a ha b hb;simp at hb;subst hb;exact fun e=>hn (e▸ha)⟩
theorem nodup_addKV {α:Type} {f:List ByteArray->α->List ByteArray}:∀(ks:List ByteArray) (cs:List α) (K:List ByteArray),(∀c ∈ cs,∀K,K.Nodup->(f K c).Nodup)->K.Nodup->(addKV f K ks cs).Nodup
 |[],_,K,_,h=>by simpa[addKV]using h
 |_::_,[],K,_,h=>by simpa[addKV]using h
 |k::ks,c::cs,K,hf,h=>by
  rw[addKV];exact nodup_addKV ks cs _ (fun y hy=>hf y (by simp[hy])) (hf c (by simp) _ (nodup_addK h))
theorem nodup_foldl {α:Type} {f:List ByteArray->α->List ByteArray}:∀(cs:List α) (K:List ByteArray),(∀c ∈ cs,∀K,K.Nodup->(f K c).Nodup)->K.Nodup->(cs.foldl f K).Nodup
 |[],K,_,h=>h
 |c::cs,K,hf,h=>by
  rw[List.foldl_cons];exact nodup_foldl cs _ (fun y hy=>hf y (by simp[hy])) (hf c (by simp) _ h)
theorem nodup_addV:∀(d:Nat) (K:List ByteArray) (x:Vt d),K.Nodup->(addV d K x).Nodup
 |0,K,x,h=>h
 |d+1,K,x,h=>by
  show(addN (addV d) K x).Nodup
  unfold addN;split
  ·exact nodup_addKV _ _ K (fun c _ K hK=>nodup_addV d K c hK) h
  ·split
   ·exact nodup_foldl _ K (fun c _ K hK=>nodup_addV d K c hK) h
   ·exact h

theorem addV_le_colV (d:Nat) (x:Vt d):(addV d [] x).length<=(colV d [] x).length:=by
 refine(nodup_addV d [] x List.nodup_nil).length_le_of_subset ?_;intro k hk;exact(mem_colV d [] x k).2 ((mem_addV d [] x k hk).imp id id)
theorem inC (k:Int) (l:List Int) (b n:Nat) (z:Bool) (w:World) (hz:decide (k ∈ l)=z) (h:Blk w b (l.map fun x=>.int .i64 x)) (hn:l.length=n) (hn9:n<=100):Calls Tryz.prog 73 #[.int .i64 k,.slice (some ⟨b,0,none⟩) n n] w fun e w'=>e=.returned (.bool z)/\w=w':=by
 have H:=qq2 h hn;have Hz:=qq hz;clear hz;clear h hn
 go_enter Tryz.func73,Tryz.ntmps73
 go_wp2_with fail
 go_loopw [9] (fun i wr=>∃j:Nat,j<=n/\i=.int .i64 (j:Int)/\w=wr/\Hid (∀x ∈ l.take j,x≠k)) (fun i _=>n-(intOf i).toNat)
 case atStart=>exact⟨0,Nat.zero_le _,rfl,rfl,qq (by simp)⟩
 case round=>
  obtain⟨j,hj,rfl,rfl,HR⟩:=hrel;by_cases hj2:j<n
  ·have hlti:(j:Int)<(n:Int):=by omega
   obtain⟨x,hx⟩:∃x,l[j]?=some x:=⟨_,List.getElem?_eq_getElem (by rw[H.out.2];exact hj2)⟩;have hcx:w.cell? ⟨b,j,none⟩=some (.int .i64 x):=H.out.1.cell (by simp[hx]);have Hx:=qq hx;clear hx;by_cases hxs:x=k
   ·subst hxs;have Hf:=qq (List.mem_of_getElem? Hx.out);go_wp2;go_ret;exact⟨by rw[<-Hz.out,decide_eq_true Hf.out];rfl,rfl⟩
   ·have hsx:¬k=x:=fun e=>hxs e.symm;go_wp2;go_roundw
    case rel=>
     refine⟨j+1,hj2,by go_num,trivial,qq (fun y hy=>?_)⟩;rw[take_snoc Hx.out,List.mem_append]at hy;rcases hy with hy|hy
     ·exact HR.out y hy
     ·rw[List.mem_singleton]at hy;subst hy;exact hxs
    case measure=>simp[intOf];omega
  ·have hjn:j=n:=by omega
   subst hjn;have Hf:=qq (fun hm=>HR.out k (by rw[<-H.out.2,List.take_length];exact hm) rfl:¬k ∈ l);go_wp2;go_ret;exact⟨by rw[<-Hz.out,decide_eq_false Hf.out];rfl,rfl⟩
theorem nar8 {n:Nat} (hn:n<18446744073709551616):IntKind.u64.wrap (wrap64 (IntKind.u64.wrap ((n:Int)*72057594037927936)) / 72057594037927936)=(n:Int)↔Narrow n 8:=by
 unfold Narrow sgn;rw[<-IntWalk.i64_left,IntKind.wrap_u64,IntKind.wrap_i64,IntKind.wrap_u64];have e:(2:Int)^(8-1)=128:=by decide
 rw[e];split<;>omega
theorem signed8C (n:Nat) (w:World) (z:Int) (hz:wrap64 (IntKind.u64.wrap ((n:Int)*72057594037927936)) / 72057594037927936=z):Calls Tryz.prog 132 #[.int .u64 (n:Int),.int .i64 8] w fun e w'=>e=.returned (.int .i64 z)/\w=w':=by
 have Hz:=qq hz;clear hz
 go_enter Tryz.func132,Tryz.ntmps132
 go_wp2;go_ret;exact⟨by rw[<-Hz.out];rfl,rfl⟩
theorem narrow8C (n:Nat) (w:World) (hn:n<18446744073709551616):Calls Tryz.prog 74 #[.int .u64 (n:Int),.int .i64 8] w fun e w'=>∃z,e=.returned (.bool z)/\w=w'/\(z=true↔Narrow n 8):=by
 have hi:=nar8 hn;obtain⟨z,hz⟩:∃z,wrap64 (IntKind.u64.wrap ((n:Int)*72057594037927936)) / 72057594037927936=z:=⟨_,rfl⟩;rw[hz]at hi;have HS:=qq (fun wx=>signed8C n wx z hz);have Hi:=qq hi;clear hi hz
 go_enter Tryz.func74,Tryz.ntmps74
 go_wp2_with fail
 refine(HS.out _).mono ?_;rintro e w2 ⟨rfl,rfl⟩;go_wp2;go_ret;exact⟨IntKind.u64.wrap z==(n:Int),rfl,rfl,by rw[beq_iff_eq];exact Hi.out⟩
theorem nar16 {n:Nat} (hn:n<18446744073709551616):IntKind.u64.wrap (wrap64 (IntKind.u64.wrap ((n:Int)*281474976710656)) / 281474976710656)=(n:Int)↔Narrow n 16:=by
 unfold Narrow sgn;rw[<-IntWalk.i64_left,IntKind.wrap_u64,IntKind.wrap_i64,IntKind.wrap_u64];have e:(2:Int)^(16-1)=32768:=by decide
 rw[e];split<;>omega
theorem signed16C (n:Nat) (w:World) (z:Int) (hz:wrap64 (IntKind.u64.wrap ((n:Int)*281474976710656)) / 281474976710656=z):Calls Tryz.prog 132 #[.int .u64 (n:Int),.int .i64 16] w fun e w'=>e=.returned (.int .i64 z)/\w=w':=by
 have Hz:=qq hz;clear hz
 go_enter Tryz.func132,Tryz.ntmps132
 go_wp2;go_ret;exact⟨by rw[<-Hz.out];rfl,rfl⟩
theorem narrow16C (n:Nat) (w:World) (hn:n<18446744073709551616):Calls Tryz.prog 74 #[.int .u64 (n:Int),.int .i64 16] w fun e w'=>∃z,e=.returned (.bool z)/\w=w'/\(z=true↔Narrow n 16):=by
 have hi:=nar16 hn;obtain⟨z,hz⟩:∃z,wrap64 (IntKind.u64.wrap ((n:Int)*281474976710656)) / 281474976710656=z:=⟨_,rfl⟩;rw[hz]at hi;have HS:=qq (fun wx=>signed16C n wx z hz);have Hi:=qq hi;clear hi hz
 go_enter Tryz.func74,Tryz.ntmps74
 go_wp2_with fail
 refine(HS.out _).mono ?_;rintro e w2 ⟨rfl,rfl⟩;go_wp2;go_ret;exact⟨IntKind.u64.wrap z==(n:Int),rfl,rfl,by rw[beq_iff_eq];exact Hi.out⟩
theorem nar32 {n:Nat} (hn:n<18446744073709551616):IntKind.u64.wrap (wrap64 (IntKind.u64.wrap ((n:Int)*4294967296)) / 4294967296)=(n:Int)↔Narrow n 32:=by
 unfold Narrow sgn;rw[<-IntWalk.i64_left,IntKind.wrap_u64,IntKind.wrap_i64,IntKind.wrap_u64];have e:(2:Int)^(32-1)=2147483648:=by decide
 rw[e];split<;>omega
theorem signed32C (n:Nat) (w:World) (z:Int) (hz:wrap64 (IntKind.u64.wrap ((n:Int)*4294967296)) / 4294967296=z):Calls Tryz.prog 132 #[.int .u64 (n:Int),.int .i64 32] w fun e w'=>e=.returned (.int .i64 z)/\w=w':=by
 have Hz:=qq hz;clear hz
 go_enter Tryz.func132,Tryz.ntmps132
 go_wp2;go_ret;exact⟨by rw[<-Hz.out];rfl,rfl⟩
theorem narrow32C (n:Nat) (w:World) (hn:n<18446744073709551616):Calls Tryz.prog 74 #[.int .u64 (n:Int),.int .i64 32] w fun e w'=>∃z,e=.returned (.bool z)/\w=w'/\(z=true↔Narrow n 32):=by
 have hi:=nar32 hn;obtain⟨z,hz⟩:∃z,wrap64 (IntKind.u64.wrap ((n:Int)*4294967296)) / 4294967296=z:=⟨_,rfl⟩;rw[hz]at hi;have HS:=qq (fun wx=>signed32C n wx z hz);have Hi:=qq hi;clear hi hz
 go_enter Tryz.func74,Tryz.ntmps74
 go_wp2_with fail
 refine(HS.out _).mono ?_;rintro e w2 ⟨rfl,rfl⟩;go_wp2;go_ret;exact⟨IntKind.u64.wrap z==(n:Int),rfl,rfl,by rw[beq_iff_eq];exact Hi.out⟩
theorem nar64 {n:Nat} (hn:n<18446744073709551616):IntKind.u64.wrap (wrap64 (IntKind.u64.wrap (n:Int)))=(n:Int)↔Narrow n 64:=by
 unfold Narrow sgn;rw[<-IntWalk.i64_left,IntKind.wrap_u64,IntKind.wrap_i64,IntKind.wrap_u64];have e:(2:Int)^(64-1)=9223372036854775808:=by decide
 rw[e];split<;>omega
theorem signed64C (n:Nat) (w:World) (z:Int) (hz:wrap64 (IntKind.u64.wrap (n:Int))=z):Calls Tryz.prog 132 #[.int .u64 (n:Int),.int .i64 64] w fun e w'=>e=.returned (.int .i64 z)/\w=w':=by
 have Hz:=qq hz;clear hz
 go_enter Tryz.func132,Tryz.ntmps132
 go_wp2;go_ret;exact⟨by rw[<-Hz.out];rfl,rfl⟩
theorem narrow64C (n:Nat) (w:World) (hn:n<18446744073709551616):Calls Tryz.prog 74 #[.int .u64 (n:Int),.int .i64 64] w fun e w'=>∃z,e=.returned (.bool z)/\w=w'/\(z=true↔Narrow n 64):=by
 have hi:=nar64 hn;obtain⟨z,hz⟩:∃z,wrap64 (IntKind.u64.wrap (n:Int))=z:=⟨_,rfl⟩;rw[hz]at hi;have HS:=qq (fun wx=>signed64C n wx z hz);have Hi:=qq hi;clear hi hz
 go_enter Tryz.func74,Tryz.ntmps74
 go_wp2_with fail
 refine(HS.out _).mono ?_;rintro e w2 ⟨rfl,rfl⟩;go_wp2;go_ret;exact⟨IntKind.u64.wrap z==(n:Int),rfl,rfl,by rw[beq_iff_eq];exact Hi.out⟩
theorem wrap_i8' (n:Int):IntKind.i8.wrap n=(n+128)%256-128:=by simp[IntKind.wrap,IntKind.bits,IntKind.signed];omega
theorem wrap_i16' (n:Int):IntKind.i16.wrap n=(n+32768)%65536-32768:=by simp[IntKind.wrap,IntKind.bits,IntKind.signed];omega
theorem leVal_leBytes_mod:∀(k n:Nat),leVal (leBytes k n)=n%256^k
 |0,n=>by simp[leBytes,leVal,Nat.mod_one]
 |k+1,n=>by
  rw[leBytes,leVal,leVal_leBytes_mod k (n / 256),Nat.pow_succ,Nat.mul_comm (256^k) 256,Nat.mod_mul]
theorem sgn_u64 (n:Nat) (h:n<18446744073709551616):IntKind.u64.wrap (sgn n)=(n:Int):=by
 rw[IntKind.wrap_u64];unfold sgn;split<;>omega
theorem sgn_i64 (n:Nat) (h:n<18446744073709551616):IntKind.i64.wrap (n:Int)=sgn n:=by
 rw[IntKind.wrap_i64];unfold sgn;split<;>omega
theorem sgn_i8 (n:Nat) (h:n<18446744073709551616) (h1:-128<=sgn n/\sgn n<=127):IntKind.i8.wrap ((n%256:Nat):Int)=sgn n:=by
 rw[wrap_i8'];unfold sgn at*;split at h1<;>omega
theorem sgn_i16 (n:Nat) (h:n<18446744073709551616) (h1:-32768<=sgn n/\sgn n<=32767):IntKind.i16.wrap ((n%65536:Nat):Int)=sgn n:=by
 rw[wrap_i16'];unfold sgn at*;split at h1<;>omega
theorem sgn_i32 (n:Nat) (h:n<18446744073709551616) (h1:-2147483648<=sgn n/\sgn n<=2147483647):IntKind.i32.wrap ((n%4294967296:Nat):Int)=sgn n:=by
 rw[IntKind.wrap_i32];unfold sgn at*;split at h1<;>omega
theorem narrow32 {n:Nat} (h:Narrow n 32):-2147483648<=sgn n/\sgn n<=2147483647:=by
 unfold Narrow at h;have e:(2:Int)^(32-1)=2147483648:=by decide
 rw[e]at h;omega
end Go.Proofs.YtocgdgmfnockiaaGreatDoor
