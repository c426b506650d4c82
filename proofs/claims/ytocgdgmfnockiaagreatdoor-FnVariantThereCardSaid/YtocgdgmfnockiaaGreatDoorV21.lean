/- Variants, the law's side: flatFits. -/
import Derived.Test.YtocgdgmfnockiaaGreatDoorV20
import Derived.Shelf.Unicode.ValidAny
set_option linter.unusedVariables false
set_option linter.unusedSimpArgs false
set_option maxRecDepth 100000
set_option maxHeartbeats 8000000
namespace Go.Proofs.YtocgdgmfnockiaaGreatDoor
open Go.RowKit Go.Shelf Go.Lib
def laysValid_ren:Go.Shelf.Ren:=⟨fun|196=>72|259=>131|n=>n,fun|9=>9|4=>4|3=>3|5=>5|12=>12|119=>210|0=>0|46=>107|139=>213|138=>212|53=>22|n=>n,fun|3=>2|4=>3|n=>n⟩
theorem laysValid:Go.Proofs.Lays.n196 Tryz.prog laysValid_ren:={
 mixed:=by kernel_rfl
 f196:=Tryz.func72.trans (congrArg some (by kernel_rfl))
 f259:=Tryz.func131.trans (congrArg some (by kernel_rfl))
 t0:=Tryz.underlying0
 a0:=Tryz.isAgg0
 z0:=Tryz.sizeOf0
 v0:=Tryz.zeroValue0
 t3:=Tryz.underlying3
 a3:=Tryz.isAgg3
 z3:=Tryz.sizeOf3
 v3:=Tryz.zeroValue3
 t4:=Tryz.underlying4
 a4:=Tryz.isAgg4
 z4:=Tryz.sizeOf4
 v4:=Tryz.zeroValue4
 t5:=Tryz.underlying5
 a5:=Tryz.isAgg5
 z5:=Tryz.sizeOf5
 v5:=Tryz.zeroValue5
 t9:=Tryz.underlying9
 a9:=Tryz.isAgg9
 z9:=Tryz.sizeOf9
 v9:=Tryz.zeroValue9
 t12:=Tryz.underlying12
 a12:=Tryz.isAgg12
 z12:=Tryz.sizeOf12
 v12:=Tryz.zeroValue12
 t46:=Tryz.underlying107
 a46:=Tryz.isAgg107
 z46:=Tryz.sizeOf107
 v46:=Tryz.zeroValue107
 t53:=Tryz.underlying22
 a53:=Tryz.isAgg22
 z53:=Tryz.sizeOf22
 v53:=Tryz.zeroValue22
 t119:=Tryz.underlying210
 a119:=Tryz.isAgg210
 z119:=Tryz.sizeOf210
 t138:=Tryz.underlying212
 a138:=Tryz.isAgg212
 z138:=Tryz.sizeOf212
 v138:=Tryz.zeroValue212
 t139:=Tryz.underlying213
 a139:=Tryz.isAgg213
 z139:=Tryz.sizeOf213
 v139:=Tryz.zeroValue213
 g3:=by kernel_rfl
 g4:=by kernel_rfl}
theorem emptyNe {x:ByteArray} (h:¬x=⟨#[]⟩):¬x.toList=[]:=fun e=>h (ba_ext (by rw[e,ByteArray.toList_eq]))

def Tabs (w:World):Prop:=Lib.Utf8Tabs (laysValid_ren.g 3) (laysValid_ren.g 4) w
theorem Tabs.keep {w w':World} (h:Tabs w) (k:Keep [] w w'):Tabs w':=Utf8Tabs_below h k.below
theorem wellC (s:ByteArray) (w:World) (hs:s.size<=maxLen) (hT:Tabs w):Calls Tryz.prog 27 #[.string s] w fun e w'=>∃z,e=.returned (.bool z)/\Keep [] w w':=by
 have hV:Calls Tryz.prog 72 #[.string s] w _:=Any.utf8_ValidString laysValid s w (by unfold maxLen at hs;omega) hT;generalize Lib.validD s.data.toList=z at hV;have H:=qq hV;clear hV
 go_enter Tryz.func27,Tryz.ntmps27
 go_wp2_with fail
 refine H.out.mono ?_;rintro e w2 ⟨rfl,k2⟩;go_wp2;go_ret;exact⟨z,rfl,Keep.of_below k2⟩
theorem flat0 (scale:Int) (num:Nat) (text:ByteArray) (a1 a2:Option Addr) (l1 c1 l2 c2:Nat) (w:World) (hn:num<18446744073709551616) (hs:text.size<=maxLen) (hT:Tabs w):
  Calls Tryz.prog 28 #[.agg #[.int .i64 0,.int .u64 (num:Int),.int .i64 scale,.string text,.slice a1 l1 c1,.slice a2 l2 c2],.bool false] w fun e w'=>∃z,e=.returned (.bool z)/\Keep [] w w'/\(z=true->FlatOk 0 scale num text):=by
 have HT:=qq hT;clear hT;rcases Classical.em (text=⟨#[]⟩)with ht|ht
 case inr=>
  have ht':=emptyNe ht
  go_enter Tryz.func28,Tryz.ntmps28
  go_wp2_with fail
  refine(inC 0 [8,17,12,21] _ 4 false _ (by decide) (Blk.of_new (cs:=[.int .i64 8,.int .i64 17,.int .i64 12,.int .i64 21]) (by simp)) rfl (by omega)).mono ?_;rintro e w2 ⟨rfl,rfl⟩;go_wp2_with fail
  refine(inC 0 [10,11,12] _ 3 false _ (by decide) (Blk.of_new (cs:=[.int .i64 10,.int .i64 11,.int .i64 12]) (by simp)) rfl (by omega)).mono ?_;rintro e w3 ⟨rfl,rfl⟩;go_wp2;go_ret;exact⟨_,rfl,(((Keep.refl [] w).alloc _).alloc _).alloc _,fun hz1=>by first|(simp at hz1;done)|(simp at hz1;omega)⟩
 subst ht;rcases Classical.em (scale=0)with hc|hc
 case inr=>
  go_enter Tryz.func28,Tryz.ntmps28
  go_wp2_with fail
  refine(inC 0 [8,17,12,21] _ 4 false _ (by decide) (Blk.of_new (cs:=[.int .i64 8,.int .i64 17,.int .i64 12,.int .i64 21]) (by simp)) rfl (by omega)).mono ?_;rintro e w2 ⟨rfl,rfl⟩;go_wp2_with fail
  refine(inC 0 [10,11,12] _ 3 false _ (by decide) (Blk.of_new (cs:=[.int .i64 10,.int .i64 11,.int .i64 12]) (by simp)) rfl (by omega)).mono ?_;rintro e w3 ⟨rfl,rfl⟩;go_wp2;go_ret;exact⟨_,rfl,(((Keep.refl [] w).alloc _).alloc _).alloc _,fun hz1=>by first|(simp at hz1;done)|(simp at hz1;omega)⟩
 subst hc;rcases Classical.em (num=0)with hz|hz
 case inr=>
  have hzi:¬(num:Int)=0:=by omega
  go_enter Tryz.func28,Tryz.ntmps28
  go_wp2_with fail
  refine(inC 0 [8,17,12,21] _ 4 false _ (by decide) (Blk.of_new (cs:=[.int .i64 8,.int .i64 17,.int .i64 12,.int .i64 21]) (by simp)) rfl (by omega)).mono ?_;rintro e w2 ⟨rfl,rfl⟩;go_wp2_with fail
  refine(inC 0 [10,11,12] _ 3 false _ (by decide) (Blk.of_new (cs:=[.int .i64 10,.int .i64 11,.int .i64 12]) (by simp)) rfl (by omega)).mono ?_;rintro e w3 ⟨rfl,rfl⟩;go_wp2;go_ret;exact⟨_,rfl,(((Keep.refl [] w).alloc _).alloc _).alloc _,fun hz1=>by first|(simp at hz1;done)|(simp at hz1;omega)⟩
 subst hz
 go_enter Tryz.func28,Tryz.ntmps28
 go_wp2_with fail
 refine(inC 0 [8,17,12,21] _ 4 false _ (by decide) (Blk.of_new (cs:=[.int .i64 8,.int .i64 17,.int .i64 12,.int .i64 21]) (by simp)) rfl (by omega)).mono ?_;rintro e w2 ⟨rfl,rfl⟩;go_wp2_with fail
 refine(inC 0 [10,11,12] _ 3 false _ (by decide) (Blk.of_new (cs:=[.int .i64 10,.int .i64 11,.int .i64 12]) (by simp)) rfl (by omega)).mono ?_;rintro e w3 ⟨rfl,rfl⟩;go_wp2;go_ret;refine⟨_,rfl,(((Keep.refl [] w).alloc _).alloc _).alloc _,fun hz1=>?_⟩;constructor<;>intros<;>first|assumption|omega|rfl|(simp;done)
theorem flat1 (scale:Int) (num:Nat) (text:ByteArray) (a1 a2:Option Addr) (l1 c1 l2 c2:Nat) (w:World) (hn:num<18446744073709551616) (hs:text.size<=maxLen) (hT:Tabs w):
  Calls Tryz.prog 28 #[.agg #[.int .i64 1,.int .u64 (num:Int),.int .i64 scale,.string text,.slice a1 l1 c1,.slice a2 l2 c2],.bool false] w fun e w'=>∃z,e=.returned (.bool z)/\Keep [] w w'/\(z=true->FlatOk 1 scale num text):=by
 have HT:=qq hT;clear hT;rcases Classical.em (text=⟨#[]⟩)with ht|ht
 case inr=>
  have ht':=emptyNe ht
  go_enter Tryz.func28,Tryz.ntmps28
  go_wp2_with fail
  refine(inC 1 [8,17,12,21] _ 4 false _ (by decide) (Blk.of_new (cs:=[.int .i64 8,.int .i64 17,.int .i64 12,.int .i64 21]) (by simp)) rfl (by omega)).mono ?_;rintro e w2 ⟨rfl,rfl⟩;go_wp2_with fail
  refine(inC 1 [10,11,12] _ 3 false _ (by decide) (Blk.of_new (cs:=[.int .i64 10,.int .i64 11,.int .i64 12]) (by simp)) rfl (by omega)).mono ?_;rintro e w3 ⟨rfl,rfl⟩;go_wp2;go_ret;exact⟨_,rfl,(((Keep.refl [] w).alloc _).alloc _).alloc _,fun hz1=>by first|(simp at hz1;done)|(simp at hz1;omega)⟩
 subst ht;rcases Classical.em (scale=0)with hc|hc
 case inr=>
  go_enter Tryz.func28,Tryz.ntmps28
  go_wp2_with fail
  refine(inC 1 [8,17,12,21] _ 4 false _ (by decide) (Blk.of_new (cs:=[.int .i64 8,.int .i64 17,.int .i64 12,.int .i64 21]) (by simp)) rfl (by omega)).mono ?_;rintro e w2 ⟨rfl,rfl⟩;go_wp2_with fail
  refine(inC 1 [10,11,12] _ 3 false _ (by decide) (Blk.of_new (cs:=[.int .i64 10,.int .i64 11,.int .i64 12]) (by simp)) rfl (by omega)).mono ?_;rintro e w3 ⟨rfl,rfl⟩;go_wp2;go_ret;exact⟨_,rfl,(((Keep.refl [] w).alloc _).alloc _).alloc _,fun hz1=>by first|(simp at hz1;done)|(simp at hz1;omega)⟩
 subst hc;rcases Classical.em (num=0)with hz|hz
 case inr=>
  have hzi:¬(num:Int)=0:=by omega
  go_enter Tryz.func28,Tryz.ntmps28
  go_wp2_with fail
  refine(inC 1 [8,17,12,21] _ 4 false _ (by decide) (Blk.of_new (cs:=[.int .i64 8,.int .i64 17,.int .i64 12,.int .i64 21]) (by simp)) rfl (by omega)).mono ?_;rintro e w2 ⟨rfl,rfl⟩;go_wp2_with fail
  refine(inC 1 [10,11,12] _ 3 false _ (by decide) (Blk.of_new (cs:=[.int .i64 10,.int .i64 11,.int .i64 12]) (by simp)) rfl (by omega)).mono ?_;rintro e w3 ⟨rfl,rfl⟩;go_wp2;go_ret;exact⟨_,rfl,(((Keep.refl [] w).alloc _).alloc _).alloc _,fun hz1=>by first|(simp at hz1;done)|(simp at hz1;omega)⟩
 subst hz
 go_enter Tryz.func28,Tryz.ntmps28
 go_wp2_with fail
 refine(inC 1 [8,17,12,21] _ 4 false _ (by decide) (Blk.of_new (cs:=[.int .i64 8,.int .i64 17,.int .i64 12,.int .i64 21]) (by simp)) rfl (by omega)).mono ?_;rintro e w2 ⟨rfl,rfl⟩;go_wp2_with fail
 refine(inC 1 [10,11,12] _ 3 false _ (by decide) (Blk.of_new (cs:=[.int .i64 10,.int .i64 11,.int .i64 12]) (by simp)) rfl (by omega)).mono ?_;rintro e w3 ⟨rfl,rfl⟩;go_wp2;go_ret;refine⟨_,rfl,(((Keep.refl [] w).alloc _).alloc _).alloc _,fun hz1=>?_⟩;constructor<;>intros<;>first|assumption|omega|rfl|(simp;done)
theorem flat2 (scale:Int) (num:Nat) (text:ByteArray) (a1 a2:Option Addr) (l1 c1 l2 c2:Nat) (w:World) (hn:num<18446744073709551616) (hs:text.size<=maxLen) (hT:Tabs w):
  Calls Tryz.prog 28 #[.agg #[.int .i64 2,.int .u64 (num:Int),.int .i64 scale,.string text,.slice a1 l1 c1,.slice a2 l2 c2],.bool false] w fun e w'=>∃z,e=.returned (.bool z)/\Keep [] w w'/\(z=true->FlatOk 2 scale num text):=by
 have HT:=qq hT;clear hT;rcases Classical.em (text=⟨#[]⟩)with ht|ht
 case inr=>
  have ht':=emptyNe ht
  go_enter Tryz.func28,Tryz.ntmps28
  go_wp2_with fail
  refine(inC 2 [8,17,12,21] _ 4 false _ (by decide) (Blk.of_new (cs:=[.int .i64 8,.int .i64 17,.int .i64 12,.int .i64 21]) (by simp)) rfl (by omega)).mono ?_;rintro e w2 ⟨rfl,rfl⟩;go_wp2_with fail
  refine(inC 2 [10,11,12] _ 3 false _ (by decide) (Blk.of_new (cs:=[.int .i64 10,.int .i64 11,.int .i64 12]) (by simp)) rfl (by omega)).mono ?_;rintro e w3 ⟨rfl,rfl⟩;go_wp2;go_ret;exact⟨_,rfl,(((Keep.refl [] w).alloc _).alloc _).alloc _,fun hz1=>by first|(simp at hz1;done)|(simp at hz1;omega)⟩
 subst ht;rcases Classical.em (scale=0)with hc|hc
 case inr=>
  go_enter Tryz.func28,Tryz.ntmps28
  go_wp2_with fail
  refine(inC 2 [8,17,12,21] _ 4 false _ (by decide) (Blk.of_new (cs:=[.int .i64 8,.int .i64 17,.int .i64 12,.int .i64 21]) (by simp)) rfl (by omega)).mono ?_;rintro e w2 ⟨rfl,rfl⟩;go_wp2_with fail
  refine(inC 2 [10,11,12] _ 3 false _ (by decide) (Blk.of_new (cs:=[.int .i64 10,.int .i64 11,.int .i64 12]) (by simp)) rfl (by omega)).mono ?_;rintro e w3 ⟨rfl,rfl⟩;go_wp2;go_ret;exact⟨_,rfl,(((Keep.refl [] w).alloc _).alloc _).alloc _,fun hz1=>by first|(simp at hz1;done)|(simp at hz1;omega)⟩
 subst hc;rcases Classical.em (num=0)with hz|hz
 case inr=>
  have hzi:¬(num:Int)=0:=by omega
  go_enter Tryz.func28,Tryz.ntmps28
  go_wp2_with fail
  refine(inC 2 [8,17,12,21] _ 4 false _ (by decide) (Blk.of_new (cs:=[.int .i64 8,.int .i64 17,.int .i64 12,.int .i64 21]) (by simp)) rfl (by omega)).mono ?_;rintro e w2 ⟨rfl,rfl⟩;go_wp2_with fail
  refine(inC 2 [10,11,12] _ 3 false _ (by decide) (Blk.of_new (cs:=[.int .i64 10,.int .i64 11,.int .i64 12]) (by simp)) rfl (by omega)).mono ?_;rintro e w3 ⟨rfl,rfl⟩;go_wp2;go_ret;exact⟨_,rfl,(((Keep.refl [] w).alloc _).alloc _).alloc _,fun hz1=>by first|(simp at hz1;done)|(simp at hz1;omega)⟩
 subst hz
 go_enter Tryz.func28,Tryz.ntmps28
 go_wp2_with fail
 refine(inC 2 [8,17,12,21] _ 4 false _ (by decide) (Blk.of_new (cs:=[.int .i64 8,.int .i64 17,.int .i64 12,.int .i64 21]) (by simp)) rfl (by omega)).mono ?_;rintro e w2 ⟨rfl,rfl⟩;go_wp2_with fail
 refine(inC 2 [10,11,12] _ 3 false _ (by decide) (Blk.of_new (cs:=[.int .i64 10,.int .i64 11,.int .i64 12]) (by simp)) rfl (by omega)).mono ?_;rintro e w3 ⟨rfl,rfl⟩;go_wp2;go_ret;refine⟨_,rfl,(((Keep.refl [] w).alloc _).alloc _).alloc _,fun hz1=>?_⟩;constructor<;>intros<;>first|assumption|omega|rfl|(simp;done)
theorem flat3 (scale:Int) (num:Nat) (text:ByteArray) (a1 a2:Option Addr) (l1 c1 l2 c2:Nat) (w:World) (hn:num<18446744073709551616) (hs:text.size<=maxLen) (hT:Tabs w):
  Calls Tryz.prog 28 #[.agg #[.int .i64 3,.int .u64 (num:Int),.int .i64 scale,.string text,.slice a1 l1 c1,.slice a2 l2 c2],.bool false] w fun e w'=>∃z,e=.returned (.bool z)/\Keep [] w w'/\(z=true->FlatOk 3 scale num text):=by
 have HT:=qq hT;clear hT;rcases Classical.em (text=⟨#[]⟩)with ht|ht
 case inr=>
  have ht':=emptyNe ht
  go_enter Tryz.func28,Tryz.ntmps28
  go_wp2_with fail
  refine(inC 3 [8,17,12,21] _ 4 false _ (by decide) (Blk.of_new (cs:=[.int .i64 8,.int .i64 17,.int .i64 12,.int .i64 21]) (by simp)) rfl (by omega)).mono ?_;rintro e w2 ⟨rfl,rfl⟩;go_wp2_with fail
  refine(inC 3 [10,11,12] _ 3 false _ (by decide) (Blk.of_new (cs:=[.int .i64 10,.int .i64 11,.int .i64 12]) (by simp)) rfl (by omega)).mono ?_;rintro e w3 ⟨rfl,rfl⟩;go_wp2;go_ret;exact⟨_,rfl,(((Keep.refl [] w).alloc _).alloc _).alloc _,fun hz1=>by first|(simp at hz1;done)|(simp at hz1;omega)⟩
 subst ht;rcases Classical.em (scale=0)with hc|hc
 case inr=>
  go_enter Tryz.func28,Tryz.ntmps28
  go_wp2_with fail
  refine(inC 3 [8,17,12,21] _ 4 false _ (by decide) (Blk.of_new (cs:=[.int .i64 8,.int .i64 17,.int .i64 12,.int .i64 21]) (by simp)) rfl (by omega)).mono ?_;rintro e w2 ⟨rfl,rfl⟩;go_wp2_with fail
  refine(inC 3 [10,11,12] _ 3 false _ (by decide) (Blk.of_new (cs:=[.int .i64 10,.int .i64 11,.int .i64 12]) (by simp)) rfl (by omega)).mono ?_;rintro e w3 ⟨rfl,rfl⟩;go_wp2;go_ret;exact⟨_,rfl,(((Keep.refl [] w).alloc _).alloc _).alloc _,fun hz1=>by first|(simp at hz1;done)|(simp at hz1;omega)⟩
 subst hc;rcases Classical.em (num<=1)with hz|hz
 case inr=>
  have hzi:¬(num:Int)<=1:=by omega
  go_enter Tryz.func28,Tryz.ntmps28
  go_wp2_with fail
  refine(inC 3 [8,17,12,21] _ 4 false _ (by decide) (Blk.of_new (cs:=[.int .i64 8,.int .i64 17,.int .i64 12,.int .i64 21]) (by simp)) rfl (by omega)).mono ?_;rintro e w2 ⟨rfl,rfl⟩;go_wp2_with fail
  refine(inC 3 [10,11,12] _ 3 false _ (by decide) (Blk.of_new (cs:=[.int .i64 10,.int .i64 11,.int .i64 12]) (by simp)) rfl (by omega)).mono ?_;rintro e w3 ⟨rfl,rfl⟩;go_wp2;go_ret;exact⟨_,rfl,(((Keep.refl [] w).alloc _).alloc _).alloc _,fun hz1=>by first|(simp at hz1;done)|(simp at hz1;omega)⟩
 have hzi:(num:Int)<=1:=by omega
 go_enter Tryz.func28,Tryz.ntmps28
 go_wp2_with fail
 refine(inC 3 [8,17,12,21] _ 4 false _ (by decide) (Blk.of_new (cs:=[.int .i64 8,.int .i64 17,.int .i64 12,.int .i64 21]) (by simp)) rfl (by omega)).mono ?_;rintro e w2 ⟨rfl,rfl⟩;go_wp2_with fail
 refine(inC 3 [10,11,12] _ 3 false _ (by decide) (Blk.of_new (cs:=[.int .i64 10,.int .i64 11,.int .i64 12]) (by simp)) rfl (by omega)).mono ?_;rintro e w3 ⟨rfl,rfl⟩;go_wp2;go_ret;refine⟨_,rfl,(((Keep.refl [] w).alloc _).alloc _).alloc _,fun hz1=>?_⟩;constructor<;>intros<;>first|assumption|omega|rfl|(simp;done)
theorem flatI4 (num:Nat) (a1 a2:Option Addr) (l1 c1 l2 c2:Nat) (w:World) (hn:num<18446744073709551616):
  Calls Tryz.prog 28 #[.agg #[.int .i64 4,.int .u64 (num:Int),.int .i64 0,.string ⟨#[]⟩,.slice a1 l1 c1,.slice a2 l2 c2],.bool false] w fun e w'=>∃z,e=.returned (.bool z)/\Keep [] w w'/\(z=true↔Narrow num 8):=by
 go_enter Tryz.func28,Tryz.ntmps28
 go_wp2_with fail
 refine(inC 4 [8,17,12,21] _ 4 false _ (by decide) (Blk.of_new (cs:=[.int .i64 8,.int .i64 17,.int .i64 12,.int .i64 21]) (by simp)) rfl (by omega)).mono ?_;rintro e w2 ⟨rfl,rfl⟩;go_wp2_with fail
 refine(inC 4 [10,11,12] _ 3 false _ (by decide) (Blk.of_new (cs:=[.int .i64 10,.int .i64 11,.int .i64 12]) (by simp)) rfl (by omega)).mono ?_;rintro e w3 ⟨rfl,rfl⟩;go_wp2_with fail
 refine(narrow8C num _ hn).mono ?_;rintro e w4 ⟨z,rfl,rfl,hz⟩;have Hz:=qq hz;clear hz;cases z
 ·go_wp2;go_ret;exact⟨false,rfl,(((Keep.refl [] w).alloc _).alloc _).alloc _,by simpa using Hz.out⟩
 ·go_wp2;go_ret;exact⟨true,rfl,(((Keep.refl [] w).alloc _).alloc _).alloc _,by simpa using Hz.out⟩
theorem flat4 (scale:Int) (num:Nat) (text:ByteArray) (a1 a2:Option Addr) (l1 c1 l2 c2:Nat) (w:World) (hn:num<18446744073709551616) (hs:text.size<=maxLen) (hT:Tabs w):
  Calls Tryz.prog 28 #[.agg #[.int .i64 4,.int .u64 (num:Int),.int .i64 scale,.string text,.slice a1 l1 c1,.slice a2 l2 c2],.bool false] w fun e w'=>∃z,e=.returned (.bool z)/\Keep [] w w'/\(z=true->FlatOk 4 scale num text):=by
 rcases Classical.em (text=⟨#[]⟩)with ht|ht
 case inr=>
  have ht':=emptyNe ht
  go_enter Tryz.func28,Tryz.ntmps28
  go_wp2_with fail
  refine(inC 4 [8,17,12,21] _ 4 false _ (by decide) (Blk.of_new (cs:=[.int .i64 8,.int .i64 17,.int .i64 12,.int .i64 21]) (by simp)) rfl (by omega)).mono ?_;rintro e w2 ⟨rfl,rfl⟩;go_wp2_with fail
  refine(inC 4 [10,11,12] _ 3 false _ (by decide) (Blk.of_new (cs:=[.int .i64 10,.int .i64 11,.int .i64 12]) (by simp)) rfl (by omega)).mono ?_;rintro e w3 ⟨rfl,rfl⟩;go_wp2;go_ret;exact⟨_,rfl,(((Keep.refl [] w).alloc _).alloc _).alloc _,fun hz1=>by first|(simp at hz1;done)|(simp at hz1;omega)⟩
 subst ht;rcases Classical.em (scale=0)with hc|hc
 case inr=>
  go_enter Tryz.func28,Tryz.ntmps28
  go_wp2_with fail
  refine(inC 4 [8,17,12,21] _ 4 false _ (by decide) (Blk.of_new (cs:=[.int .i64 8,.int .i64 17,.int .i64 12,.int .i64 21]) (by simp)) rfl (by omega)).mono ?_;rintro e w2 ⟨rfl,rfl⟩;go_wp2_with fail
  refine(inC 4 [10,11,12] _ 3 false _ (by decide) (Blk.of_new (cs:=[.int .i64 10,.int .i64 11,.int .i64 12]) (by simp)) rfl (by omega)).mono ?_;rintro e w3 ⟨rfl,rfl⟩;go_wp2;go_ret;exact⟨_,rfl,(((Keep.refl [] w).alloc _).alloc _).alloc _,fun hz1=>by first|(simp at hz1;done)|(simp at hz1;omega)⟩
 subst hc;refine(flatI4 num a1 a2 l1 c1 l2 c2 w hn).mono ?_;rintro e w4 ⟨z,rfl,k4,hz⟩;refine⟨z,rfl,k4,fun hz1=>?_⟩;have hN:=hz.1 hz1;constructor<;>intros<;>first|assumption|omega|rfl|(simp;done)
theorem flatI5 (num:Nat) (a1 a2:Option Addr) (l1 c1 l2 c2:Nat) (w:World) (hn:num<18446744073709551616):
  Calls Tryz.prog 28 #[.agg #[.int .i64 5,.int .u64 (num:Int),.int .i64 0,.string ⟨#[]⟩,.slice a1 l1 c1,.slice a2 l2 c2],.bool false] w fun e w'=>∃z,e=.returned (.bool z)/\Keep [] w w'/\(z=true↔Narrow num 16):=by
 go_enter Tryz.func28,Tryz.ntmps28
 go_wp2_with fail
 refine(inC 5 [8,17,12,21] _ 4 false _ (by decide) (Blk.of_new (cs:=[.int .i64 8,.int .i64 17,.int .i64 12,.int .i64 21]) (by simp)) rfl (by omega)).mono ?_;rintro e w2 ⟨rfl,rfl⟩;go_wp2_with fail
 refine(inC 5 [10,11,12] _ 3 false _ (by decide) (Blk.of_new (cs:=[.int .i64 10,.int .i64 11,.int .i64 12]) (by simp)) rfl (by omega)).mono ?_;rintro e w3 ⟨rfl,rfl⟩;go_wp2_with fail
 refine(narrow16C num _ hn).mono ?_;rintro e w4 ⟨z,rfl,rfl,hz⟩;have Hz:=qq hz;clear hz;cases z
 ·go_wp2;go_ret;exact⟨false,rfl,(((Keep.refl [] w).alloc _).alloc _).alloc _,by simpa using Hz.out⟩
 ·go_wp2;go_ret;exact⟨true,rfl,(((Keep.refl [] w).alloc _).alloc _).alloc _,by simpa using Hz.out⟩
theorem flat5 (scale:Int) (num:Nat) (text:ByteArray) (a1 a2:Option Addr) (l1 c1 l2 c2:Nat) (w:World) (hn:num<18446744073709551616) (hs:text.size<=maxLen) (hT:Tabs w):
  Calls Tryz.prog 28 #[.agg #[.int .i64 5,.int .u64 (num:Int),.int .i64 scale,.string text,.slice a1 l1 c1,.slice a2 l2 c2],.bool false] w fun e w'=>∃z,e=.returned (.bool z)/\Keep [] w w'/\(z=true->FlatOk 5 scale num text):=by
 rcases Classical.em (text=⟨#[]⟩)with ht|ht
 case inr=>
  have ht':=emptyNe ht
  go_enter Tryz.func28,Tryz.ntmps28
  go_wp2_with fail
  refine(inC 5 [8,17,12,21] _ 4 false _ (by decide) (Blk.of_new (cs:=[.int .i64 8,.int .i64 17,.int .i64 12,.int .i64 21]) (by simp)) rfl (by omega)).mono ?_;rintro e w2 ⟨rfl,rfl⟩;go_wp2_with fail
  refine(inC 5 [10,11,12] _ 3 false _ (by decide) (Blk.of_new (cs:=[.int .i64 10,.int .i64 11,.int .i64 12]) (by simp)) rfl (by omega)).mono ?_;rintro e w3 ⟨rfl,rfl⟩;go_wp2;go_ret;exact⟨_,rfl,(((Keep.refl [] w).alloc _).alloc _).alloc _,fun hz1=>by first|(simp at hz1;done)|(simp at hz1;omega)⟩
 subst ht;rcases Classical.em (scale=0)with hc|hc
 case inr=>
  go_enter Tryz.func28,Tryz.ntmps28
  go_wp2_with fail
  refine(inC 5 [8,17,12,21] _ 4 false _ (by decide) (Blk.of_new (cs:=[.int .i64 8,.int .i64 17,.int .i64 12,.int .i64 21]) (by simp)) rfl (by omega)).mono ?_;rintro e w2 ⟨rfl,rfl⟩;go_wp2_with fail
  refine(inC 5 [10,11,12] _ 3 false _ (by decide) (Blk.of_new (cs:=[.int .i64 10,.int .i64 11,.int .i64 12]) (by simp)) rfl (by omega)).mono ?_;rintro e w3 ⟨rfl,rfl⟩;go_wp2;go_ret;exact⟨_,rfl,(((Keep.refl [] w).alloc _).alloc _).alloc _,fun hz1=>by first|(simp at hz1;done)|(simp at hz1;omega)⟩
 subst hc;refine(flatI5 num a1 a2 l1 c1 l2 c2 w hn).mono ?_;rintro e w4 ⟨z,rfl,k4,hz⟩;refine⟨z,rfl,k4,fun hz1=>?_⟩;have hN:=hz.1 hz1;constructor<;>intros<;>first|assumption|omega|rfl|(simp;done)
theorem flatI6 (num:Nat) (a1 a2:Option Addr) (l1 c1 l2 c2:Nat) (w:World) (hn:num<18446744073709551616):
  Calls Tryz.prog 28 #[.agg #[.int .i64 6,.int .u64 (num:Int),.int .i64 0,.string ⟨#[]⟩,.slice a1 l1 c1,.slice a2 l2 c2],.bool false] w fun e w'=>∃z,e=.returned (.bool z)/\Keep [] w w'/\(z=true↔Narrow num 32):=by
 go_enter Tryz.func28,Tryz.ntmps28
 go_wp2_with fail
 refine(inC 6 [8,17,12,21] _ 4 false _ (by decide) (Blk.of_new (cs:=[.int .i64 8,.int .i64 17,.int .i64 12,.int .i64 21]) (by simp)) rfl (by omega)).mono ?_;rintro e w2 ⟨rfl,rfl⟩;go_wp2_with fail
 refine(inC 6 [10,11,12] _ 3 false _ (by decide) (Blk.of_new (cs:=[.int .i64 10,.int .i64 11,.int .i64 12]) (by simp)) rfl (by omega)).mono ?_;rintro e w3 ⟨rfl,rfl⟩;go_wp2_with fail
 refine(narrow32C num _ hn).mono ?_;rintro e w4 ⟨z,rfl,rfl,hz⟩;have Hz:=qq hz;clear hz;cases z
 ·go_wp2;go_ret;exact⟨false,rfl,(((Keep.refl [] w).alloc _).alloc _).alloc _,by simpa using Hz.out⟩
 ·go_wp2;go_ret;exact⟨true,rfl,(((Keep.refl [] w).alloc _).alloc _).alloc _,by simpa using Hz.out⟩
theorem flat6 (scale:Int) (num:Nat) (text:ByteArray) (a1 a2:Option Addr) (l1 c1 l2 c2:Nat) (w:World) (hn:num<18446744073709551616) (hs:text.size<=maxLen) (hT:Tabs w):
  Calls Tryz.prog 28 #[.agg #[.int .i64 6,.int .u64 (num:Int),.int .i64 scale,.string text,.slice a1 l1 c1,.slice a2 l2 c2],.bool false] w fun e w'=>∃z,e=.returned (.bool z)/\Keep [] w w'/\(z=true->FlatOk 6 scale num text):=by
 rcases Classical.em (text=⟨#[]⟩)with ht|ht
 case inr=>
  have ht':=emptyNe ht
  go_enter Tryz.func28,Tryz.ntmps28
  go_wp2_with fail
  refine(inC 6 [8,17,12,21] _ 4 false _ (by decide) (Blk.of_new (cs:=[.int .i64 8,.int .i64 17,.int .i64 12,.int .i64 21]) (by simp)) rfl (by omega)).mono ?_;rintro e w2 ⟨rfl,rfl⟩;go_wp2_with fail
  refine(inC 6 [10,11,12] _ 3 false _ (by decide) (Blk.of_new (cs:=[.int .i64 10,.int .i64 11,.int .i64 12]) (by simp)) rfl (by omega)).mono ?_;rintro e w3 ⟨rfl,rfl⟩;go_wp2;go_ret;exact⟨_,rfl,(((Keep.refl [] w).alloc _).alloc _).alloc _,fun hz1=>by first|(simp at hz1;done)|(simp at hz1;omega)⟩
 subst ht;rcases Classical.em (scale=0)with hc|hc
 case inr=>
  go_enter Tryz.func28,Tryz.ntmps28
  go_wp2_with fail
  refine(inC 6 [8,17,12,21] _ 4 false _ (by decide) (Blk.of_new (cs:=[.int .i64 8,.int .i64 17,.int .i64 12,.int .i64 21]) (by simp)) rfl (by omega)).mono ?_;rintro e w2 ⟨rfl,rfl⟩;go_wp2_with fail
  refine(inC 6 [10,11,12] _ 3 false _ (by decide) (Blk.of_new (cs:=[.int .i64 10,.int .i64 11,.int .i64 12]) (by simp)) rfl (by omega)).mono ?_;rintro e w3 ⟨rfl,rfl⟩;go_wp2;go_ret;exact⟨_,rfl,(((Keep.refl [] w).alloc _).alloc _).alloc _,fun hz1=>by first|(simp at hz1;done)|(simp at hz1;omega)⟩
 subst hc;refine(flatI6 num a1 a2 l1 c1 l2 c2 w hn).mono ?_;rintro e w4 ⟨z,rfl,k4,hz⟩;refine⟨z,rfl,k4,fun hz1=>?_⟩;have hN:=hz.1 hz1;constructor<;>intros<;>first|assumption|omega|rfl|(simp;done)
theorem flatI7 (num:Nat) (a1 a2:Option Addr) (l1 c1 l2 c2:Nat) (w:World) (hn:num<18446744073709551616):
  Calls Tryz.prog 28 #[.agg #[.int .i64 7,.int .u64 (num:Int),.int .i64 0,.string ⟨#[]⟩,.slice a1 l1 c1,.slice a2 l2 c2],.bool false] w fun e w'=>∃z,e=.returned (.bool z)/\Keep [] w w'/\(z=true↔Narrow num 64):=by
 go_enter Tryz.func28,Tryz.ntmps28
 go_wp2_with fail
 refine(inC 7 [8,17,12,21] _ 4 false _ (by decide) (Blk.of_new (cs:=[.int .i64 8,.int .i64 17,.int .i64 12,.int .i64 21]) (by simp)) rfl (by omega)).mono ?_;rintro e w2 ⟨rfl,rfl⟩;go_wp2_with fail
 refine(inC 7 [10,11,12] _ 3 false _ (by decide) (Blk.of_new (cs:=[.int .i64 10,.int .i64 11,.int .i64 12]) (by simp)) rfl (by omega)).mono ?_;rintro e w3 ⟨rfl,rfl⟩;go_wp2_with fail
 refine(narrow64C num _ hn).mono ?_;rintro e w4 ⟨z,rfl,rfl,hz⟩;have Hz:=qq hz;clear hz;cases z
 ·go_wp2;go_ret;exact⟨false,rfl,(((Keep.refl [] w).alloc _).alloc _).alloc _,by simpa using Hz.out⟩
 ·go_wp2;go_ret;exact⟨true,rfl,(((Keep.refl [] w).alloc _).alloc _).alloc _,by simpa using Hz.out⟩
theorem flat7 (scale:Int) (num:Nat) (text:ByteArray) (a1 a2:Option Addr) (l1 c1 l2 c2:Nat) (w:World) (hn:num<18446744073709551616) (hs:text.size<=maxLen) (hT:Tabs w):
  Calls Tryz.prog 28 #[.agg #[.int .i64 7,.int .u64 (num:Int),.int .i64 scale,.string text,.slice a1 l1 c1,.slice a2 l2 c2],.bool false] w fun e w'=>∃z,e=.returned (.bool z)/\Keep [] w w'/\(z=true->FlatOk 7 scale num text):=by
 rcases Classical.em (text=⟨#[]⟩)with ht|ht
 case inr=>
  have ht':=emptyNe ht
  go_enter Tryz.func28,Tryz.ntmps28
  go_wp2_with fail
  refine(inC 7 [8,17,12,21] _ 4 false _ (by decide) (Blk.of_new (cs:=[.int .i64 8,.int .i64 17,.int .i64 12,.int .i64 21]) (by simp)) rfl (by omega)).mono ?_;rintro e w2 ⟨rfl,rfl⟩;go_wp2_with fail
  refine(inC 7 [10,11,12] _ 3 false _ (by decide) (Blk.of_new (cs:=[.int .i64 10,.int .i64 11,.int .i64 12]) (by simp)) rfl (by omega)).mono ?_;rintro e w3 ⟨rfl,rfl⟩;go_wp2;go_ret;exact⟨_,rfl,(((Keep.refl [] w).alloc _).alloc _).alloc _,fun hz1=>by first|(simp at hz1;done)|(simp at hz1;omega)⟩
 subst ht;rcases Classical.em (scale=0)with hc|hc
 case inr=>
  go_enter Tryz.func28,Tryz.ntmps28
  go_wp2_with fail
  refine(inC 7 [8,17,12,21] _ 4 false _ (by decide) (Blk.of_new (cs:=[.int .i64 8,.int .i64 17,.int .i64 12,.int .i64 21]) (by simp)) rfl (by omega)).mono ?_;rintro e w2 ⟨rfl,rfl⟩;go_wp2_with fail
  refine(inC 7 [10,11,12] _ 3 false _ (by decide) (Blk.of_new (cs:=[.int .i64 10,.int .i64 11,.int .i64 12]) (by simp)) rfl (by omega)).mono ?_;rintro e w3 ⟨rfl,rfl⟩;go_wp2;go_ret;exact⟨_,rfl,(((Keep.refl [] w).alloc _).alloc _).alloc _,fun hz1=>by first|(simp at hz1;done)|(simp at hz1;omega)⟩
 subst hc;refine(flatI7 num a1 a2 l1 c1 l2 c2 w hn).mono ?_;rintro e w4 ⟨z,rfl,k4,hz⟩;refine⟨z,rfl,k4,fun hz1=>?_⟩;have hN:=hz.1 hz1;constructor<;>intros<;>first|assumption|omega|rfl|(simp;done)
theorem flat8 (scale:Int) (num:Nat) (text:ByteArray) (a1 a2:Option Addr) (l1 c1 l2 c2:Nat) (w:World) (hn:num<18446744073709551616) (hs:text.size<=maxLen) (hT:Tabs w):
  Calls Tryz.prog 28 #[.agg #[.int .i64 8,.int .u64 (num:Int),.int .i64 scale,.string text,.slice a1 l1 c1,.slice a2 l2 c2],.bool false] w fun e w'=>∃z,e=.returned (.bool z)/\Keep [] w w'/\(z=true->FlatOk 8 scale num text):=by
 have HT:=qq hT;clear hT;rcases Classical.em (scale=0)with hc|hc
 case inr=>
  go_enter Tryz.func28,Tryz.ntmps28
  go_wp2_with fail
  refine(inC 8 [8,17,12,21] _ 4 true _ (by decide) (Blk.of_new (cs:=[.int .i64 8,.int .i64 17,.int .i64 12,.int .i64 21]) (by simp)) rfl (by omega)).mono ?_;rintro e w2 ⟨rfl,rfl⟩;go_wp2_with fail
  refine(inC 8 [10,11,12] _ 3 false _ (by decide) (Blk.of_new (cs:=[.int .i64 10,.int .i64 11,.int .i64 12]) (by simp)) rfl (by omega)).mono ?_;rintro e w3 ⟨rfl,rfl⟩;go_wp2;go_ret;exact⟨_,rfl,(((Keep.refl [] w).alloc _).alloc _).alloc _,fun hz1=>by first|(simp at hz1;done)|(simp at hz1;omega)⟩
 subst hc;rcases Classical.em (num=0)with hz|hz
 case inr=>
  have hzi:¬(num:Int)=0:=by omega
  go_enter Tryz.func28,Tryz.ntmps28
  go_wp2_with fail
  refine(inC 8 [8,17,12,21] _ 4 true _ (by decide) (Blk.of_new (cs:=[.int .i64 8,.int .i64 17,.int .i64 12,.int .i64 21]) (by simp)) rfl (by omega)).mono ?_;rintro e w2 ⟨rfl,rfl⟩;go_wp2_with fail
  refine(inC 8 [10,11,12] _ 3 false _ (by decide) (Blk.of_new (cs:=[.int .i64 10,.int .i64 11,.int .i64 12]) (by simp)) rfl (by omega)).mono ?_;rintro e w3 ⟨rfl,rfl⟩;go_wp2;go_ret;exact⟨_,rfl,(((Keep.refl [] w).alloc _).alloc _).alloc _,fun hz1=>by first|(simp at hz1;done)|(simp at hz1;omega)⟩
 subst hz
 go_enter Tryz.func28,Tryz.ntmps28
 go_wp2_with fail
 refine(inC 8 [8,17,12,21] _ 4 true _ (by decide) (Blk.of_new (cs:=[.int .i64 8,.int .i64 17,.int .i64 12,.int .i64 21]) (by simp)) rfl (by omega)).mono ?_;rintro e w2 ⟨rfl,rfl⟩;go_wp2_with fail
 refine(inC 8 [10,11,12] _ 3 false _ (by decide) (Blk.of_new (cs:=[.int .i64 10,.int .i64 11,.int .i64 12]) (by simp)) rfl (by omega)).mono ?_;rintro e w3 ⟨rfl,rfl⟩;go_wp2_with fail
 refine(wellC text _ hs (HT.out.keep ((((Keep.refl [] w).alloc _).alloc _).alloc _))).mono ?_;rintro e w4 ⟨z,rfl,k4⟩;go_wp2;go_ret;refine⟨z,rfl,((((Keep.refl [] w).alloc _).alloc _).alloc _).trans k4 (by simp),fun hz1=>?_⟩;constructor<;>intros<;>first|assumption|omega|rfl|(simp;done)
theorem flat9 (scale:Int) (num:Nat) (text:ByteArray) (a1 a2:Option Addr) (l1 c1 l2 c2:Nat) (w:World) (hn:num<18446744073709551616) (hs:text.size<=maxLen) (hT:Tabs w):
  Calls Tryz.prog 28 #[.agg #[.int .i64 9,.int .u64 (num:Int),.int .i64 scale,.string text,.slice a1 l1 c1,.slice a2 l2 c2],.bool false] w fun e w'=>∃z,e=.returned (.bool z)/\Keep [] w w'/\(z=true->FlatOk 9 scale num text):=by
 have HT:=qq hT;clear hT;rcases Classical.em (text=⟨#[]⟩)with ht|ht
 case inr=>
  have ht':=emptyNe ht
  go_enter Tryz.func28,Tryz.ntmps28
  go_wp2_with fail
  refine(inC 9 [8,17,12,21] _ 4 false _ (by decide) (Blk.of_new (cs:=[.int .i64 8,.int .i64 17,.int .i64 12,.int .i64 21]) (by simp)) rfl (by omega)).mono ?_;rintro e w2 ⟨rfl,rfl⟩;go_wp2_with fail
  refine(inC 9 [10,11,12] _ 3 false _ (by decide) (Blk.of_new (cs:=[.int .i64 10,.int .i64 11,.int .i64 12]) (by simp)) rfl (by omega)).mono ?_;rintro e w3 ⟨rfl,rfl⟩;go_wp2;go_ret;exact⟨_,rfl,(((Keep.refl [] w).alloc _).alloc _).alloc _,fun hz1=>by first|(simp at hz1;done)|(simp at hz1;omega)⟩
 subst ht;rcases Classical.em (scale=0)with hc|hc
 case inr=>
  go_enter Tryz.func28,Tryz.ntmps28
  go_wp2_with fail
  refine(inC 9 [8,17,12,21] _ 4 false _ (by decide) (Blk.of_new (cs:=[.int .i64 8,.int .i64 17,.int .i64 12,.int .i64 21]) (by simp)) rfl (by omega)).mono ?_;rintro e w2 ⟨rfl,rfl⟩;go_wp2_with fail
  refine(inC 9 [10,11,12] _ 3 false _ (by decide) (Blk.of_new (cs:=[.int .i64 10,.int .i64 11,.int .i64 12]) (by simp)) rfl (by omega)).mono ?_;rintro e w3 ⟨rfl,rfl⟩;go_wp2;go_ret;exact⟨_,rfl,(((Keep.refl [] w).alloc _).alloc _).alloc _,fun hz1=>by first|(simp at hz1;done)|(simp at hz1;omega)⟩
 subst hc
 go_enter Tryz.func28,Tryz.ntmps28
 go_wp2_with fail
 refine(inC 9 [8,17,12,21] _ 4 false _ (by decide) (Blk.of_new (cs:=[.int .i64 8,.int .i64 17,.int .i64 12,.int .i64 21]) (by simp)) rfl (by omega)).mono ?_;rintro e w2 ⟨rfl,rfl⟩;go_wp2_with fail
 refine(inC 9 [10,11,12] _ 3 false _ (by decide) (Blk.of_new (cs:=[.int .i64 10,.int .i64 11,.int .i64 12]) (by simp)) rfl (by omega)).mono ?_;rintro e w3 ⟨rfl,rfl⟩;go_wp2;go_ret;refine⟨_,rfl,(((Keep.refl [] w).alloc _).alloc _).alloc _,fun hz1=>?_⟩;constructor<;>intros<;>first|assumption|omega|rfl|(simp;done)
theorem flat10 (scale:Int) (num:Nat) (text:ByteArray) (a1 a2:Option Addr) (l1 c1 l2 c2:Nat) (w:World) (hn:num<18446744073709551616) (hs:text.size<=maxLen) (hT:Tabs w):
  Calls Tryz.prog 28 #[.agg #[.int .i64 10,.int .u64 (num:Int),.int .i64 scale,.string text,.slice a1 l1 c1,.slice a2 l2 c2],.bool false] w fun e w'=>∃z,e=.returned (.bool z)/\Keep [] w w'/\(z=true->FlatOk 10 scale num text):=by
 have HT:=qq hT;clear hT;rcases Classical.em (text=⟨#[]⟩)with ht|ht
 case inr=>
  have ht':=emptyNe ht
  go_enter Tryz.func28,Tryz.ntmps28
  go_wp2_with fail
  refine(inC 10 [8,17,12,21] _ 4 false _ (by decide) (Blk.of_new (cs:=[.int .i64 8,.int .i64 17,.int .i64 12,.int .i64 21]) (by simp)) rfl (by omega)).mono ?_;rintro e w2 ⟨rfl,rfl⟩;go_wp2_with fail
  refine(inC 10 [10,11,12] _ 3 true _ (by decide) (Blk.of_new (cs:=[.int .i64 10,.int .i64 11,.int .i64 12]) (by simp)) rfl (by omega)).mono ?_;rintro e w3 ⟨rfl,rfl⟩;go_wp2;go_ret;exact⟨_,rfl,(((Keep.refl [] w).alloc _).alloc _).alloc _,fun hz1=>by first|(simp at hz1;done)|(simp at hz1;omega)⟩
 subst ht;rcases Classical.em (scale<0)with hc|hc
 case inl=>
  have hc0:¬scale=0:=by omega
  go_enter Tryz.func28,Tryz.ntmps28
  go_wp2_with fail
  refine(inC 10 [8,17,12,21] _ 4 false _ (by decide) (Blk.of_new (cs:=[.int .i64 8,.int .i64 17,.int .i64 12,.int .i64 21]) (by simp)) rfl (by omega)).mono ?_;rintro e w2 ⟨rfl,rfl⟩;go_wp2_with fail
  refine(inC 10 [10,11,12] _ 3 true _ (by decide) (Blk.of_new (cs:=[.int .i64 10,.int .i64 11,.int .i64 12]) (by simp)) rfl (by omega)).mono ?_;rintro e w3 ⟨rfl,rfl⟩;go_wp2;go_ret;exact⟨_,rfl,(((Keep.refl [] w).alloc _).alloc _).alloc _,fun hz1=>by first|(simp at hz1;done)|(simp at hz1;omega)⟩
 rcases Classical.em (38<scale)with hd|hd
 case inl=>
  have hc0:¬scale=0:=by omega
  go_enter Tryz.func28,Tryz.ntmps28
  go_wp2_with fail
  refine(inC 10 [8,17,12,21] _ 4 false _ (by decide) (Blk.of_new (cs:=[.int .i64 8,.int .i64 17,.int .i64 12,.int .i64 21]) (by simp)) rfl (by omega)).mono ?_;rintro e w2 ⟨rfl,rfl⟩;go_wp2_with fail
  refine(inC 10 [10,11,12] _ 3 true _ (by decide) (Blk.of_new (cs:=[.int .i64 10,.int .i64 11,.int .i64 12]) (by simp)) rfl (by omega)).mono ?_;rintro e w3 ⟨rfl,rfl⟩;go_wp2;go_ret;exact⟨_,rfl,(((Keep.refl [] w).alloc _).alloc _).alloc _,fun hz1=>by first|(simp at hz1;done)|(simp at hz1;omega)⟩
 go_enter Tryz.func28,Tryz.ntmps28
 go_wp2_with fail
 refine(inC 10 [8,17,12,21] _ 4 false _ (by decide) (Blk.of_new (cs:=[.int .i64 8,.int .i64 17,.int .i64 12,.int .i64 21]) (by simp)) rfl (by omega)).mono ?_;rintro e w2 ⟨rfl,rfl⟩;go_wp2_with fail
 refine(inC 10 [10,11,12] _ 3 true _ (by decide) (Blk.of_new (cs:=[.int .i64 10,.int .i64 11,.int .i64 12]) (by simp)) rfl (by omega)).mono ?_;rintro e w3 ⟨rfl,rfl⟩;go_wp2_with fail
 refine(narrow32C num _ hn).mono ?_;rintro e w4 ⟨z,rfl,rfl,hz⟩;have Hz:=qq hz;clear hz;cases z
 ·go_wp2;go_ret;exact⟨false,rfl,(((Keep.refl [] w).alloc _).alloc _).alloc _,by simp⟩
 have hN:=Hz.out.1 (by simp);have HN:=qq hN;clear hN;rcases Classical.em (scale<=9)with hz|hz
 case inr=>
  go_wp2;go_ret;exact⟨_,rfl,(((Keep.refl [] w).alloc _).alloc _).alloc _,fun hz1=>by first|(simp at hz1;done)|(simp at hz1;omega)⟩
 go_wp2;go_ret;have hN:=HN.out;refine⟨_,rfl,(((Keep.refl [] w).alloc _).alloc _).alloc _,fun hz1=>?_⟩;constructor<;>intros<;>first|assumption|omega|rfl|(simp;done)
theorem flat11 (scale:Int) (num:Nat) (text:ByteArray) (a1 a2:Option Addr) (l1 c1 l2 c2:Nat) (w:World) (hn:num<18446744073709551616) (hs:text.size<=maxLen) (hT:Tabs w):
  Calls Tryz.prog 28 #[.agg #[.int .i64 11,.int .u64 (num:Int),.int .i64 scale,.string text,.slice a1 l1 c1,.slice a2 l2 c2],.bool false] w fun e w'=>∃z,e=.returned (.bool z)/\Keep [] w w'/\(z=true->FlatOk 11 scale num text):=by
 have HT:=qq hT;clear hT;rcases Classical.em (text=⟨#[]⟩)with ht|ht
 case inr=>
  have ht':=emptyNe ht
  go_enter Tryz.func28,Tryz.ntmps28
  go_wp2_with fail
  refine(inC 11 [8,17,12,21] _ 4 false _ (by decide) (Blk.of_new (cs:=[.int .i64 8,.int .i64 17,.int .i64 12,.int .i64 21]) (by simp)) rfl (by omega)).mono ?_;rintro e w2 ⟨rfl,rfl⟩;go_wp2_with fail
  refine(inC 11 [10,11,12] _ 3 true _ (by decide) (Blk.of_new (cs:=[.int .i64 10,.int .i64 11,.int .i64 12]) (by simp)) rfl (by omega)).mono ?_;rintro e w3 ⟨rfl,rfl⟩;go_wp2;go_ret;exact⟨_,rfl,(((Keep.refl [] w).alloc _).alloc _).alloc _,fun hz1=>by first|(simp at hz1;done)|(simp at hz1;omega)⟩
 subst ht;rcases Classical.em (scale<0)with hc|hc
 case inl=>
  have hc0:¬scale=0:=by omega
  go_enter Tryz.func28,Tryz.ntmps28
  go_wp2_with fail
  refine(inC 11 [8,17,12,21] _ 4 false _ (by decide) (Blk.of_new (cs:=[.int .i64 8,.int .i64 17,.int .i64 12,.int .i64 21]) (by simp)) rfl (by omega)).mono ?_;rintro e w2 ⟨rfl,rfl⟩;go_wp2_with fail
  refine(inC 11 [10,11,12] _ 3 true _ (by decide) (Blk.of_new (cs:=[.int .i64 10,.int .i64 11,.int .i64 12]) (by simp)) rfl (by omega)).mono ?_;rintro e w3 ⟨rfl,rfl⟩;go_wp2;go_ret;exact⟨_,rfl,(((Keep.refl [] w).alloc _).alloc _).alloc _,fun hz1=>by first|(simp at hz1;done)|(simp at hz1;omega)⟩
 rcases Classical.em (38<scale)with hd|hd
 case inl=>
  have hc0:¬scale=0:=by omega
  go_enter Tryz.func28,Tryz.ntmps28
  go_wp2_with fail
  refine(inC 11 [8,17,12,21] _ 4 false _ (by decide) (Blk.of_new (cs:=[.int .i64 8,.int .i64 17,.int .i64 12,.int .i64 21]) (by simp)) rfl (by omega)).mono ?_;rintro e w2 ⟨rfl,rfl⟩;go_wp2_with fail
  refine(inC 11 [10,11,12] _ 3 true _ (by decide) (Blk.of_new (cs:=[.int .i64 10,.int .i64 11,.int .i64 12]) (by simp)) rfl (by omega)).mono ?_;rintro e w3 ⟨rfl,rfl⟩;go_wp2;go_ret;exact⟨_,rfl,(((Keep.refl [] w).alloc _).alloc _).alloc _,fun hz1=>by first|(simp at hz1;done)|(simp at hz1;omega)⟩
 rcases Classical.em (scale<=18)with hz|hz
 case inr=>
  go_enter Tryz.func28,Tryz.ntmps28
  go_wp2_with fail
  refine(inC 11 [8,17,12,21] _ 4 false _ (by decide) (Blk.of_new (cs:=[.int .i64 8,.int .i64 17,.int .i64 12,.int .i64 21]) (by simp)) rfl (by omega)).mono ?_;rintro e w2 ⟨rfl,rfl⟩;go_wp2_with fail
  refine(inC 11 [10,11,12] _ 3 true _ (by decide) (Blk.of_new (cs:=[.int .i64 10,.int .i64 11,.int .i64 12]) (by simp)) rfl (by omega)).mono ?_;rintro e w3 ⟨rfl,rfl⟩;go_wp2;go_ret;exact⟨_,rfl,(((Keep.refl [] w).alloc _).alloc _).alloc _,fun hz1=>by first|(simp at hz1;done)|(simp at hz1;omega)⟩
 go_enter Tryz.func28,Tryz.ntmps28
 go_wp2_with fail
 refine(inC 11 [8,17,12,21] _ 4 false _ (by decide) (Blk.of_new (cs:=[.int .i64 8,.int .i64 17,.int .i64 12,.int .i64 21]) (by simp)) rfl (by omega)).mono ?_;rintro e w2 ⟨rfl,rfl⟩;go_wp2_with fail
 refine(inC 11 [10,11,12] _ 3 true _ (by decide) (Blk.of_new (cs:=[.int .i64 10,.int .i64 11,.int .i64 12]) (by simp)) rfl (by omega)).mono ?_;rintro e w3 ⟨rfl,rfl⟩;go_wp2;go_ret;refine⟨_,rfl,(((Keep.refl [] w).alloc _).alloc _).alloc _,fun hz1=>?_⟩;constructor<;>intros<;>first|assumption|omega|rfl|(simp;done)
theorem flat12 (scale:Int) (num:Nat) (text:ByteArray) (a1 a2:Option Addr) (l1 c1 l2 c2:Nat) (w:World) (hn:num<18446744073709551616) (hs:text.size<=maxLen) (hT:Tabs w):
  Calls Tryz.prog 28 #[.agg #[.int .i64 12,.int .u64 (num:Int),.int .i64 scale,.string text,.slice a1 l1 c1,.slice a2 l2 c2],.bool false] w fun e w'=>∃z,e=.returned (.bool z)/\Keep [] w w'/\(z=true->FlatOk 12 scale num text):=by
 have HT:=qq hT;clear hT;rcases Classical.em (scale<0)with hc|hc
 case inl=>
  have hc0:¬scale=0:=by omega
  go_enter Tryz.func28,Tryz.ntmps28
  go_wp2_with fail
  refine(inC 12 [8,17,12,21] _ 4 true _ (by decide) (Blk.of_new (cs:=[.int .i64 8,.int .i64 17,.int .i64 12,.int .i64 21]) (by simp)) rfl (by omega)).mono ?_;rintro e w2 ⟨rfl,rfl⟩;go_wp2_with fail
  refine(inC 12 [10,11,12] _ 3 true _ (by decide) (Blk.of_new (cs:=[.int .i64 10,.int .i64 11,.int .i64 12]) (by simp)) rfl (by omega)).mono ?_;rintro e w3 ⟨rfl,rfl⟩;go_wp2;go_ret;exact⟨_,rfl,(((Keep.refl [] w).alloc _).alloc _).alloc _,fun hz1=>by first|(simp at hz1;done)|(simp at hz1;omega)⟩
 rcases Classical.em (38<scale)with hd|hd
 case inl=>
  have hc0:¬scale=0:=by omega
  go_enter Tryz.func28,Tryz.ntmps28
  go_wp2_with fail
  refine(inC 12 [8,17,12,21] _ 4 true _ (by decide) (Blk.of_new (cs:=[.int .i64 8,.int .i64 17,.int .i64 12,.int .i64 21]) (by simp)) rfl (by omega)).mono ?_;rintro e w2 ⟨rfl,rfl⟩;go_wp2_with fail
  refine(inC 12 [10,11,12] _ 3 true _ (by decide) (Blk.of_new (cs:=[.int .i64 10,.int .i64 11,.int .i64 12]) (by simp)) rfl (by omega)).mono ?_;rintro e w3 ⟨rfl,rfl⟩;go_wp2;go_ret;exact⟨_,rfl,(((Keep.refl [] w).alloc _).alloc _).alloc _,fun hz1=>by first|(simp at hz1;done)|(simp at hz1;omega)⟩
 rcases Classical.em (num=0)with hz|hz
 case inr=>
  have hzi:¬(num:Int)=0:=by omega
  go_enter Tryz.func28,Tryz.ntmps28
  go_wp2_with fail
  refine(inC 12 [8,17,12,21] _ 4 true _ (by decide) (Blk.of_new (cs:=[.int .i64 8,.int .i64 17,.int .i64 12,.int .i64 21]) (by simp)) rfl (by omega)).mono ?_;rintro e w2 ⟨rfl,rfl⟩;go_wp2_with fail
  refine(inC 12 [10,11,12] _ 3 true _ (by decide) (Blk.of_new (cs:=[.int .i64 10,.int .i64 11,.int .i64 12]) (by simp)) rfl (by omega)).mono ?_;rintro e w3 ⟨rfl,rfl⟩;go_wp2;go_ret;exact⟨_,rfl,(((Keep.refl [] w).alloc _).alloc _).alloc _,fun hz1=>by first|(simp at hz1;done)|(simp at hz1;omega)⟩
 subst hz;rcases Classical.em (text.size=16)with hz|hz
 case inr=>
  have hzi:¬(text.size:Int)=16:=by omega
  go_enter Tryz.func28,Tryz.ntmps28
  go_wp2_with fail
  refine(inC 12 [8,17,12,21] _ 4 true _ (by decide) (Blk.of_new (cs:=[.int .i64 8,.int .i64 17,.int .i64 12,.int .i64 21]) (by simp)) rfl (by omega)).mono ?_;rintro e w2 ⟨rfl,rfl⟩;go_wp2_with fail
  refine(inC 12 [10,11,12] _ 3 true _ (by decide) (Blk.of_new (cs:=[.int .i64 10,.int .i64 11,.int .i64 12]) (by simp)) rfl (by omega)).mono ?_;rintro e w3 ⟨rfl,rfl⟩;go_wp2;go_ret;exact⟨_,rfl,(((Keep.refl [] w).alloc _).alloc _).alloc _,fun hz1=>by first|(simp at hz1;done)|(simp at hz1;omega)⟩
 have hzi:(text.size:Int)=16:=by omega
 go_enter Tryz.func28,Tryz.ntmps28
 go_wp2_with fail
 refine(inC 12 [8,17,12,21] _ 4 true _ (by decide) (Blk.of_new (cs:=[.int .i64 8,.int .i64 17,.int .i64 12,.int .i64 21]) (by simp)) rfl (by omega)).mono ?_;rintro e w2 ⟨rfl,rfl⟩;go_wp2_with fail
 refine(inC 12 [10,11,12] _ 3 true _ (by decide) (Blk.of_new (cs:=[.int .i64 10,.int .i64 11,.int .i64 12]) (by simp)) rfl (by omega)).mono ?_;rintro e w3 ⟨rfl,rfl⟩;go_wp2;go_ret;refine⟨_,rfl,(((Keep.refl [] w).alloc _).alloc _).alloc _,fun hz1=>?_⟩;constructor<;>intros<;>first|assumption|omega|rfl|(simp;done)
theorem flat13 (scale:Int) (num:Nat) (text:ByteArray) (a1 a2:Option Addr) (l1 c1 l2 c2:Nat) (w:World) (hn:num<18446744073709551616) (hs:text.size<=maxLen) (hT:Tabs w):
  Calls Tryz.prog 28 #[.agg #[.int .i64 13,.int .u64 (num:Int),.int .i64 scale,.string text,.slice a1 l1 c1,.slice a2 l2 c2],.bool false] w fun e w'=>∃z,e=.returned (.bool z)/\Keep [] w w'/\(z=true->FlatOk 13 scale num text):=by
 have HT:=qq hT;clear hT;rcases Classical.em (text=⟨#[]⟩)with ht|ht
 case inr=>
  have ht':=emptyNe ht
  go_enter Tryz.func28,Tryz.ntmps28
  go_wp2_with fail
  refine(inC 13 [8,17,12,21] _ 4 false _ (by decide) (Blk.of_new (cs:=[.int .i64 8,.int .i64 17,.int .i64 12,.int .i64 21]) (by simp)) rfl (by omega)).mono ?_;rintro e w2 ⟨rfl,rfl⟩;go_wp2_with fail
  refine(inC 13 [10,11,12] _ 3 false _ (by decide) (Blk.of_new (cs:=[.int .i64 10,.int .i64 11,.int .i64 12]) (by simp)) rfl (by omega)).mono ?_;rintro e w3 ⟨rfl,rfl⟩;go_wp2;go_ret;exact⟨_,rfl,(((Keep.refl [] w).alloc _).alloc _).alloc _,fun hz1=>by first|(simp at hz1;done)|(simp at hz1;omega)⟩
 subst ht;rcases Classical.em (scale=0)with hc|hc
 case inr=>
  go_enter Tryz.func28,Tryz.ntmps28
  go_wp2_with fail
  refine(inC 13 [8,17,12,21] _ 4 false _ (by decide) (Blk.of_new (cs:=[.int .i64 8,.int .i64 17,.int .i64 12,.int .i64 21]) (by simp)) rfl (by omega)).mono ?_;rintro e w2 ⟨rfl,rfl⟩;go_wp2_with fail
  refine(inC 13 [10,11,12] _ 3 false _ (by decide) (Blk.of_new (cs:=[.int .i64 10,.int .i64 11,.int .i64 12]) (by simp)) rfl (by omega)).mono ?_;rintro e w3 ⟨rfl,rfl⟩;go_wp2;go_ret;exact⟨_,rfl,(((Keep.refl [] w).alloc _).alloc _).alloc _,fun hz1=>by first|(simp at hz1;done)|(simp at hz1;omega)⟩
 subst hc
 go_enter Tryz.func28,Tryz.ntmps28
 go_wp2_with fail
 refine(inC 13 [8,17,12,21] _ 4 false _ (by decide) (Blk.of_new (cs:=[.int .i64 8,.int .i64 17,.int .i64 12,.int .i64 21]) (by simp)) rfl (by omega)).mono ?_;rintro e w2 ⟨rfl,rfl⟩;go_wp2_with fail
 refine(inC 13 [10,11,12] _ 3 false _ (by decide) (Blk.of_new (cs:=[.int .i64 10,.int .i64 11,.int .i64 12]) (by simp)) rfl (by omega)).mono ?_;rintro e w3 ⟨rfl,rfl⟩;go_wp2_with fail
 refine(narrow32C num _ hn).mono ?_;rintro e w4 ⟨z,rfl,rfl,hz⟩;have Hz:=qq hz;clear hz;cases z
 ·go_wp2;go_ret;exact⟨false,rfl,(((Keep.refl [] w).alloc _).alloc _).alloc _,by simp⟩
 have hN:=Hz.out.1 (by simp);go_wp2;go_ret;refine⟨_,rfl,(((Keep.refl [] w).alloc _).alloc _).alloc _,fun hz1=>?_⟩;constructor<;>intros<;>first|assumption|omega|rfl|(simp;done)
theorem flat14 (scale:Int) (num:Nat) (text:ByteArray) (a1 a2:Option Addr) (l1 c1 l2 c2:Nat) (w:World) (hn:num<18446744073709551616) (hs:text.size<=maxLen) (hT:Tabs w):
  Calls Tryz.prog 28 #[.agg #[.int .i64 14,.int .u64 (num:Int),.int .i64 scale,.string text,.slice a1 l1 c1,.slice a2 l2 c2],.bool false] w fun e w'=>∃z,e=.returned (.bool z)/\Keep [] w w'/\(z=true->FlatOk 14 scale num text):=by
 have HT:=qq hT;clear hT;rcases Classical.em (text=⟨#[]⟩)with ht|ht
 case inr=>
  have ht':=emptyNe ht
  go_enter Tryz.func28,Tryz.ntmps28
  go_wp2_with fail
  refine(inC 14 [8,17,12,21] _ 4 false _ (by decide) (Blk.of_new (cs:=[.int .i64 8,.int .i64 17,.int .i64 12,.int .i64 21]) (by simp)) rfl (by omega)).mono ?_;rintro e w2 ⟨rfl,rfl⟩;go_wp2_with fail
  refine(inC 14 [10,11,12] _ 3 false _ (by decide) (Blk.of_new (cs:=[.int .i64 10,.int .i64 11,.int .i64 12]) (by simp)) rfl (by omega)).mono ?_;rintro e w3 ⟨rfl,rfl⟩;go_wp2;go_ret;exact⟨_,rfl,(((Keep.refl [] w).alloc _).alloc _).alloc _,fun hz1=>by first|(simp at hz1;done)|(simp at hz1;omega)⟩
 subst ht;rcases Classical.em (scale=0)with hc|hc
 case inr=>
  go_enter Tryz.func28,Tryz.ntmps28
  go_wp2_with fail
  refine(inC 14 [8,17,12,21] _ 4 false _ (by decide) (Blk.of_new (cs:=[.int .i64 8,.int .i64 17,.int .i64 12,.int .i64 21]) (by simp)) rfl (by omega)).mono ?_;rintro e w2 ⟨rfl,rfl⟩;go_wp2_with fail
  refine(inC 14 [10,11,12] _ 3 false _ (by decide) (Blk.of_new (cs:=[.int .i64 10,.int .i64 11,.int .i64 12]) (by simp)) rfl (by omega)).mono ?_;rintro e w3 ⟨rfl,rfl⟩;go_wp2;go_ret;exact⟨_,rfl,(((Keep.refl [] w).alloc _).alloc _).alloc _,fun hz1=>by first|(simp at hz1;done)|(simp at hz1;omega)⟩
 subst hc
 go_enter Tryz.func28,Tryz.ntmps28
 go_wp2_with fail
 refine(inC 14 [8,17,12,21] _ 4 false _ (by decide) (Blk.of_new (cs:=[.int .i64 8,.int .i64 17,.int .i64 12,.int .i64 21]) (by simp)) rfl (by omega)).mono ?_;rintro e w2 ⟨rfl,rfl⟩;go_wp2_with fail
 refine(inC 14 [10,11,12] _ 3 false _ (by decide) (Blk.of_new (cs:=[.int .i64 10,.int .i64 11,.int .i64 12]) (by simp)) rfl (by omega)).mono ?_;rintro e w3 ⟨rfl,rfl⟩;go_wp2;go_ret;refine⟨_,rfl,(((Keep.refl [] w).alloc _).alloc _).alloc _,fun hz1=>?_⟩;constructor<;>intros<;>first|assumption|omega|rfl|(simp;done)
theorem flat15 (scale:Int) (num:Nat) (text:ByteArray) (a1 a2:Option Addr) (l1 c1 l2 c2:Nat) (w:World) (hn:num<18446744073709551616) (hs:text.size<=maxLen) (hT:Tabs w):
  Calls Tryz.prog 28 #[.agg #[.int .i64 15,.int .u64 (num:Int),.int .i64 scale,.string text,.slice a1 l1 c1,.slice a2 l2 c2],.bool false] w fun e w'=>∃z,e=.returned (.bool z)/\Keep [] w w'/\(z=true->FlatOk 15 scale num text):=by
 have HT:=qq hT;clear hT;rcases Classical.em (text=⟨#[]⟩)with ht|ht
 case inr=>
  have ht':=emptyNe ht
  go_enter Tryz.func28,Tryz.ntmps28
  go_wp2_with fail
  refine(inC 15 [8,17,12,21] _ 4 false _ (by decide) (Blk.of_new (cs:=[.int .i64 8,.int .i64 17,.int .i64 12,.int .i64 21]) (by simp)) rfl (by omega)).mono ?_;rintro e w2 ⟨rfl,rfl⟩;go_wp2_with fail
  refine(inC 15 [10,11,12] _ 3 false _ (by decide) (Blk.of_new (cs:=[.int .i64 10,.int .i64 11,.int .i64 12]) (by simp)) rfl (by omega)).mono ?_;rintro e w3 ⟨rfl,rfl⟩;go_wp2;go_ret;exact⟨_,rfl,(((Keep.refl [] w).alloc _).alloc _).alloc _,fun hz1=>by first|(simp at hz1;done)|(simp at hz1;omega)⟩
 subst ht;rcases Classical.em (scale=0)with hc|hc
 case inr=>
  go_enter Tryz.func28,Tryz.ntmps28
  go_wp2_with fail
  refine(inC 15 [8,17,12,21] _ 4 false _ (by decide) (Blk.of_new (cs:=[.int .i64 8,.int .i64 17,.int .i64 12,.int .i64 21]) (by simp)) rfl (by omega)).mono ?_;rintro e w2 ⟨rfl,rfl⟩;go_wp2_with fail
  refine(inC 15 [10,11,12] _ 3 false _ (by decide) (Blk.of_new (cs:=[.int .i64 10,.int .i64 11,.int .i64 12]) (by simp)) rfl (by omega)).mono ?_;rintro e w3 ⟨rfl,rfl⟩;go_wp2;go_ret;exact⟨_,rfl,(((Keep.refl [] w).alloc _).alloc _).alloc _,fun hz1=>by first|(simp at hz1;done)|(simp at hz1;omega)⟩
 subst hc
 go_enter Tryz.func28,Tryz.ntmps28
 go_wp2_with fail
 refine(inC 15 [8,17,12,21] _ 4 false _ (by decide) (Blk.of_new (cs:=[.int .i64 8,.int .i64 17,.int .i64 12,.int .i64 21]) (by simp)) rfl (by omega)).mono ?_;rintro e w2 ⟨rfl,rfl⟩;go_wp2_with fail
 refine(inC 15 [10,11,12] _ 3 false _ (by decide) (Blk.of_new (cs:=[.int .i64 10,.int .i64 11,.int .i64 12]) (by simp)) rfl (by omega)).mono ?_;rintro e w3 ⟨rfl,rfl⟩;go_wp2;go_ret;refine⟨_,rfl,(((Keep.refl [] w).alloc _).alloc _).alloc _,fun hz1=>?_⟩;constructor<;>intros<;>first|assumption|omega|rfl|(simp;done)
theorem flat16 (scale:Int) (num:Nat) (text:ByteArray) (a1 a2:Option Addr) (l1 c1 l2 c2:Nat) (w:World) (hn:num<18446744073709551616) (hs:text.size<=maxLen) (hT:Tabs w):
  Calls Tryz.prog 28 #[.agg #[.int .i64 16,.int .u64 (num:Int),.int .i64 scale,.string text,.slice a1 l1 c1,.slice a2 l2 c2],.bool false] w fun e w'=>∃z,e=.returned (.bool z)/\Keep [] w w'/\(z=true->FlatOk 16 scale num text):=by
 have HT:=qq hT;clear hT;rcases Classical.em (text=⟨#[]⟩)with ht|ht
 case inr=>
  have ht':=emptyNe ht
  go_enter Tryz.func28,Tryz.ntmps28
  go_wp2_with fail
  refine(inC 16 [8,17,12,21] _ 4 false _ (by decide) (Blk.of_new (cs:=[.int .i64 8,.int .i64 17,.int .i64 12,.int .i64 21]) (by simp)) rfl (by omega)).mono ?_;rintro e w2 ⟨rfl,rfl⟩;go_wp2_with fail
  refine(inC 16 [10,11,12] _ 3 false _ (by decide) (Blk.of_new (cs:=[.int .i64 10,.int .i64 11,.int .i64 12]) (by simp)) rfl (by omega)).mono ?_;rintro e w3 ⟨rfl,rfl⟩;go_wp2;go_ret;exact⟨_,rfl,(((Keep.refl [] w).alloc _).alloc _).alloc _,fun hz1=>by first|(simp at hz1;done)|(simp at hz1;omega)⟩
 subst ht;rcases Classical.em (scale=0)with hc|hc
 case inr=>
  go_enter Tryz.func28,Tryz.ntmps28
  go_wp2_with fail
  refine(inC 16 [8,17,12,21] _ 4 false _ (by decide) (Blk.of_new (cs:=[.int .i64 8,.int .i64 17,.int .i64 12,.int .i64 21]) (by simp)) rfl (by omega)).mono ?_;rintro e w2 ⟨rfl,rfl⟩;go_wp2_with fail
  refine(inC 16 [10,11,12] _ 3 false _ (by decide) (Blk.of_new (cs:=[.int .i64 10,.int .i64 11,.int .i64 12]) (by simp)) rfl (by omega)).mono ?_;rintro e w3 ⟨rfl,rfl⟩;go_wp2;go_ret;exact⟨_,rfl,(((Keep.refl [] w).alloc _).alloc _).alloc _,fun hz1=>by first|(simp at hz1;done)|(simp at hz1;omega)⟩
 subst hc;rcases Classical.em (num<4294967296)with hz|hz
 case inr=>
  have hzi:¬(num:Int) / 4294967296=0:=by omega
  go_enter Tryz.func28,Tryz.ntmps28
  go_wp2_with fail
  refine(inC 16 [8,17,12,21] _ 4 false _ (by decide) (Blk.of_new (cs:=[.int .i64 8,.int .i64 17,.int .i64 12,.int .i64 21]) (by simp)) rfl (by omega)).mono ?_;rintro e w2 ⟨rfl,rfl⟩;go_wp2_with fail
  refine(inC 16 [10,11,12] _ 3 false _ (by decide) (Blk.of_new (cs:=[.int .i64 10,.int .i64 11,.int .i64 12]) (by simp)) rfl (by omega)).mono ?_;rintro e w3 ⟨rfl,rfl⟩;go_wp2;go_ret;exact⟨_,rfl,(((Keep.refl [] w).alloc _).alloc _).alloc _,fun hz1=>by first|(simp at hz1;done)|(simp at hz1;omega)⟩
 have hzi:(num:Int) / 4294967296=0:=by omega
 go_enter Tryz.func28,Tryz.ntmps28
 go_wp2_with fail
 refine(inC 16 [8,17,12,21] _ 4 false _ (by decide) (Blk.of_new (cs:=[.int .i64 8,.int .i64 17,.int .i64 12,.int .i64 21]) (by simp)) rfl (by omega)).mono ?_;rintro e w2 ⟨rfl,rfl⟩;go_wp2_with fail
 refine(inC 16 [10,11,12] _ 3 false _ (by decide) (Blk.of_new (cs:=[.int .i64 10,.int .i64 11,.int .i64 12]) (by simp)) rfl (by omega)).mono ?_;rintro e w3 ⟨rfl,rfl⟩;go_wp2;go_ret;refine⟨_,rfl,(((Keep.refl [] w).alloc _).alloc _).alloc _,fun hz1=>?_⟩;constructor<;>intros<;>first|assumption|omega|rfl|(simp;done)
theorem flat17 (scale:Int) (num:Nat) (text:ByteArray) (a1 a2:Option Addr) (l1 c1 l2 c2:Nat) (w:World) (hn:num<18446744073709551616) (hs:text.size<=maxLen) (hT:Tabs w):
  Calls Tryz.prog 28 #[.agg #[.int .i64 17,.int .u64 (num:Int),.int .i64 scale,.string text,.slice a1 l1 c1,.slice a2 l2 c2],.bool false] w fun e w'=>∃z,e=.returned (.bool z)/\Keep [] w w'/\(z=true->FlatOk 17 scale num text):=by
 have HT:=qq hT;clear hT;rcases Classical.em (scale=0)with hc|hc
 case inr=>
  go_enter Tryz.func28,Tryz.ntmps28
  go_wp2_with fail
  refine(inC 17 [8,17,12,21] _ 4 true _ (by decide) (Blk.of_new (cs:=[.int .i64 8,.int .i64 17,.int .i64 12,.int .i64 21]) (by simp)) rfl (by omega)).mono ?_;rintro e w2 ⟨rfl,rfl⟩;go_wp2_with fail
  refine(inC 17 [10,11,12] _ 3 false _ (by decide) (Blk.of_new (cs:=[.int .i64 10,.int .i64 11,.int .i64 12]) (by simp)) rfl (by omega)).mono ?_;rintro e w3 ⟨rfl,rfl⟩;go_wp2;go_ret;exact⟨_,rfl,(((Keep.refl [] w).alloc _).alloc _).alloc _,fun hz1=>by first|(simp at hz1;done)|(simp at hz1;omega)⟩
 subst hc;rcases Classical.em (num=0)with hz|hz
 case inr=>
  have hzi:¬(num:Int)=0:=by omega
  go_enter Tryz.func28,Tryz.ntmps28
  go_wp2_with fail
  refine(inC 17 [8,17,12,21] _ 4 true _ (by decide) (Blk.of_new (cs:=[.int .i64 8,.int .i64 17,.int .i64 12,.int .i64 21]) (by simp)) rfl (by omega)).mono ?_;rintro e w2 ⟨rfl,rfl⟩;go_wp2_with fail
  refine(inC 17 [10,11,12] _ 3 false _ (by decide) (Blk.of_new (cs:=[.int .i64 10,.int .i64 11,.int .i64 12]) (by simp)) rfl (by omega)).mono ?_;rintro e w3 ⟨rfl,rfl⟩;go_wp2;go_ret;exact⟨_,rfl,(((Keep.refl [] w).alloc _).alloc _).alloc _,fun hz1=>by first|(simp at hz1;done)|(simp at hz1;omega)⟩
 subst hz
 go_enter Tryz.func28,Tryz.ntmps28
 go_wp2_with fail
 refine(inC 17 [8,17,12,21] _ 4 true _ (by decide) (Blk.of_new (cs:=[.int .i64 8,.int .i64 17,.int .i64 12,.int .i64 21]) (by simp)) rfl (by omega)).mono ?_;rintro e w2 ⟨rfl,rfl⟩;go_wp2_with fail
 refine(inC 17 [10,11,12] _ 3 false _ (by decide) (Blk.of_new (cs:=[.int .i64 10,.int .i64 11,.int .i64 12]) (by simp)) rfl (by omega)).mono ?_;rintro e w3 ⟨rfl,rfl⟩;go_wp2;go_ret;refine⟨_,rfl,(((Keep.refl [] w).alloc _).alloc _).alloc _,fun hz1=>?_⟩;constructor<;>intros<;>first|assumption|omega|rfl|(simp;done)
theorem flat18 (scale:Int) (num:Nat) (text:ByteArray) (a1 a2:Option Addr) (l1 c1 l2 c2:Nat) (w:World) (hn:num<18446744073709551616) (hs:text.size<=maxLen) (hT:Tabs w):
  Calls Tryz.prog 28 #[.agg #[.int .i64 18,.int .u64 (num:Int),.int .i64 scale,.string text,.slice a1 l1 c1,.slice a2 l2 c2],.bool false] w fun e w'=>∃z,e=.returned (.bool z)/\Keep [] w w'/\(z=true->FlatOk 18 scale num text):=by
 have HT:=qq hT;clear hT;rcases Classical.em (text=⟨#[]⟩)with ht|ht
 case inr=>
  have ht':=emptyNe ht
  go_enter Tryz.func28,Tryz.ntmps28
  go_wp2_with fail
  refine(inC 18 [8,17,12,21] _ 4 false _ (by decide) (Blk.of_new (cs:=[.int .i64 8,.int .i64 17,.int .i64 12,.int .i64 21]) (by simp)) rfl (by omega)).mono ?_;rintro e w2 ⟨rfl,rfl⟩;go_wp2_with fail
  refine(inC 18 [10,11,12] _ 3 false _ (by decide) (Blk.of_new (cs:=[.int .i64 10,.int .i64 11,.int .i64 12]) (by simp)) rfl (by omega)).mono ?_;rintro e w3 ⟨rfl,rfl⟩;go_wp2;go_ret;exact⟨_,rfl,(((Keep.refl [] w).alloc _).alloc _).alloc _,fun hz1=>by first|(simp at hz1;done)|(simp at hz1;omega)⟩
 subst ht;rcases Classical.em (scale=0)with hc|hc
 case inr=>
  go_enter Tryz.func28,Tryz.ntmps28
  go_wp2_with fail
  refine(inC 18 [8,17,12,21] _ 4 false _ (by decide) (Blk.of_new (cs:=[.int .i64 8,.int .i64 17,.int .i64 12,.int .i64 21]) (by simp)) rfl (by omega)).mono ?_;rintro e w2 ⟨rfl,rfl⟩;go_wp2_with fail
  refine(inC 18 [10,11,12] _ 3 false _ (by decide) (Blk.of_new (cs:=[.int .i64 10,.int .i64 11,.int .i64 12]) (by simp)) rfl (by omega)).mono ?_;rintro e w3 ⟨rfl,rfl⟩;go_wp2;go_ret;exact⟨_,rfl,(((Keep.refl [] w).alloc _).alloc _).alloc _,fun hz1=>by first|(simp at hz1;done)|(simp at hz1;omega)⟩
 subst hc
 go_enter Tryz.func28,Tryz.ntmps28
 go_wp2_with fail
 refine(inC 18 [8,17,12,21] _ 4 false _ (by decide) (Blk.of_new (cs:=[.int .i64 8,.int .i64 17,.int .i64 12,.int .i64 21]) (by simp)) rfl (by omega)).mono ?_;rintro e w2 ⟨rfl,rfl⟩;go_wp2_with fail
 refine(inC 18 [10,11,12] _ 3 false _ (by decide) (Blk.of_new (cs:=[.int .i64 10,.int .i64 11,.int .i64 12]) (by simp)) rfl (by omega)).mono ?_;rintro e w3 ⟨rfl,rfl⟩;go_wp2;go_ret;refine⟨_,rfl,(((Keep.refl [] w).alloc _).alloc _).alloc _,fun hz1=>?_⟩;constructor<;>intros<;>first|assumption|omega|rfl|(simp;done)
theorem flat19 (scale:Int) (num:Nat) (text:ByteArray) (a1 a2:Option Addr) (l1 c1 l2 c2:Nat) (w:World) (hn:num<18446744073709551616) (hs:text.size<=maxLen) (hT:Tabs w):
  Calls Tryz.prog 28 #[.agg #[.int .i64 19,.int .u64 (num:Int),.int .i64 scale,.string text,.slice a1 l1 c1,.slice a2 l2 c2],.bool false] w fun e w'=>∃z,e=.returned (.bool z)/\Keep [] w w'/\(z=true->FlatOk 19 scale num text):=by
 have HT:=qq hT;clear hT;rcases Classical.em (text=⟨#[]⟩)with ht|ht
 case inr=>
  have ht':=emptyNe ht
  go_enter Tryz.func28,Tryz.ntmps28
  go_wp2_with fail
  refine(inC 19 [8,17,12,21] _ 4 false _ (by decide) (Blk.of_new (cs:=[.int .i64 8,.int .i64 17,.int .i64 12,.int .i64 21]) (by simp)) rfl (by omega)).mono ?_;rintro e w2 ⟨rfl,rfl⟩;go_wp2_with fail
  refine(inC 19 [10,11,12] _ 3 false _ (by decide) (Blk.of_new (cs:=[.int .i64 10,.int .i64 11,.int .i64 12]) (by simp)) rfl (by omega)).mono ?_;rintro e w3 ⟨rfl,rfl⟩;go_wp2;go_ret;exact⟨_,rfl,(((Keep.refl [] w).alloc _).alloc _).alloc _,fun hz1=>by first|(simp at hz1;done)|(simp at hz1;omega)⟩
 subst ht;rcases Classical.em (scale=0)with hc|hc
 case inr=>
  go_enter Tryz.func28,Tryz.ntmps28
  go_wp2_with fail
  refine(inC 19 [8,17,12,21] _ 4 false _ (by decide) (Blk.of_new (cs:=[.int .i64 8,.int .i64 17,.int .i64 12,.int .i64 21]) (by simp)) rfl (by omega)).mono ?_;rintro e w2 ⟨rfl,rfl⟩;go_wp2_with fail
  refine(inC 19 [10,11,12] _ 3 false _ (by decide) (Blk.of_new (cs:=[.int .i64 10,.int .i64 11,.int .i64 12]) (by simp)) rfl (by omega)).mono ?_;rintro e w3 ⟨rfl,rfl⟩;go_wp2;go_ret;exact⟨_,rfl,(((Keep.refl [] w).alloc _).alloc _).alloc _,fun hz1=>by first|(simp at hz1;done)|(simp at hz1;omega)⟩
 subst hc
 go_enter Tryz.func28,Tryz.ntmps28
 go_wp2_with fail
 refine(inC 19 [8,17,12,21] _ 4 false _ (by decide) (Blk.of_new (cs:=[.int .i64 8,.int .i64 17,.int .i64 12,.int .i64 21]) (by simp)) rfl (by omega)).mono ?_;rintro e w2 ⟨rfl,rfl⟩;go_wp2_with fail
 refine(inC 19 [10,11,12] _ 3 false _ (by decide) (Blk.of_new (cs:=[.int .i64 10,.int .i64 11,.int .i64 12]) (by simp)) rfl (by omega)).mono ?_;rintro e w3 ⟨rfl,rfl⟩;go_wp2;go_ret;refine⟨_,rfl,(((Keep.refl [] w).alloc _).alloc _).alloc _,fun hz1=>?_⟩;constructor<;>intros<;>first|assumption|omega|rfl|(simp;done)
theorem flat20 (scale:Int) (num:Nat) (text:ByteArray) (a1 a2:Option Addr) (l1 c1 l2 c2:Nat) (w:World) (hn:num<18446744073709551616) (hs:text.size<=maxLen) (hT:Tabs w):
  Calls Tryz.prog 28 #[.agg #[.int .i64 20,.int .u64 (num:Int),.int .i64 scale,.string text,.slice a1 l1 c1,.slice a2 l2 c2],.bool false] w fun e w'=>∃z,e=.returned (.bool z)/\Keep [] w w'/\(z=true->FlatOk 20 scale num text):=by
 have HT:=qq hT;clear hT;rcases Classical.em (text=⟨#[]⟩)with ht|ht
 case inr=>
  have ht':=emptyNe ht
  go_enter Tryz.func28,Tryz.ntmps28
  go_wp2_with fail
  refine(inC 20 [8,17,12,21] _ 4 false _ (by decide) (Blk.of_new (cs:=[.int .i64 8,.int .i64 17,.int .i64 12,.int .i64 21]) (by simp)) rfl (by omega)).mono ?_;rintro e w2 ⟨rfl,rfl⟩;go_wp2_with fail
  refine(inC 20 [10,11,12] _ 3 false _ (by decide) (Blk.of_new (cs:=[.int .i64 10,.int .i64 11,.int .i64 12]) (by simp)) rfl (by omega)).mono ?_;rintro e w3 ⟨rfl,rfl⟩;go_wp2;go_ret;exact⟨_,rfl,(((Keep.refl [] w).alloc _).alloc _).alloc _,fun hz1=>by first|(simp at hz1;done)|(simp at hz1;omega)⟩
 subst ht;rcases Classical.em (scale=0)with hc|hc
 case inr=>
  go_enter Tryz.func28,Tryz.ntmps28
  go_wp2_with fail
  refine(inC 20 [8,17,12,21] _ 4 false _ (by decide) (Blk.of_new (cs:=[.int .i64 8,.int .i64 17,.int .i64 12,.int .i64 21]) (by simp)) rfl (by omega)).mono ?_;rintro e w2 ⟨rfl,rfl⟩;go_wp2_with fail
  refine(inC 20 [10,11,12] _ 3 false _ (by decide) (Blk.of_new (cs:=[.int .i64 10,.int .i64 11,.int .i64 12]) (by simp)) rfl (by omega)).mono ?_;rintro e w3 ⟨rfl,rfl⟩;go_wp2;go_ret;exact⟨_,rfl,(((Keep.refl [] w).alloc _).alloc _).alloc _,fun hz1=>by first|(simp at hz1;done)|(simp at hz1;omega)⟩
 subst hc
 go_enter Tryz.func28,Tryz.ntmps28
 go_wp2_with fail
 refine(inC 20 [8,17,12,21] _ 4 false _ (by decide) (Blk.of_new (cs:=[.int .i64 8,.int .i64 17,.int .i64 12,.int .i64 21]) (by simp)) rfl (by omega)).mono ?_;rintro e w2 ⟨rfl,rfl⟩;go_wp2_with fail
 refine(inC 20 [10,11,12] _ 3 false _ (by decide) (Blk.of_new (cs:=[.int .i64 10,.int .i64 11,.int .i64 12]) (by simp)) rfl (by omega)).mono ?_;rintro e w3 ⟨rfl,rfl⟩;go_wp2;go_ret;refine⟨_,rfl,(((Keep.refl [] w).alloc _).alloc _).alloc _,fun hz1=>?_⟩;constructor<;>intros<;>first|assumption|omega|rfl|(simp;done)
theorem flat21 (scale:Int) (num:Nat) (text:ByteArray) (a1 a2:Option Addr) (l1 c1 l2 c2:Nat) (w:World) (hn:num<18446744073709551616) (hs:text.size<=maxLen) (hT:Tabs w):
  Calls Tryz.prog 28 #[.agg #[.int .i64 21,.int .u64 (num:Int),.int .i64 scale,.string text,.slice a1 l1 c1,.slice a2 l2 c2],.bool false] w fun e w'=>∃z,e=.returned (.bool z)/\Keep [] w w'/\(z=true->FlatOk 21 scale num text):=by
 have HT:=qq hT;clear hT;rcases Classical.em (scale=0)with hc|hc
 case inr=>
  go_enter Tryz.func28,Tryz.ntmps28
  go_wp2_with fail
  refine(inC 21 [8,17,12,21] _ 4 true _ (by decide) (Blk.of_new (cs:=[.int .i64 8,.int .i64 17,.int .i64 12,.int .i64 21]) (by simp)) rfl (by omega)).mono ?_;rintro e w2 ⟨rfl,rfl⟩;go_wp2_with fail
  refine(inC 21 [10,11,12] _ 3 false _ (by decide) (Blk.of_new (cs:=[.int .i64 10,.int .i64 11,.int .i64 12]) (by simp)) rfl (by omega)).mono ?_;rintro e w3 ⟨rfl,rfl⟩;go_wp2;go_ret;exact⟨_,rfl,(((Keep.refl [] w).alloc _).alloc _).alloc _,fun hz1=>by first|(simp at hz1;done)|(simp at hz1;omega)⟩
 subst hc;rcases Classical.em (num=0)with hz|hz
 case inr=>
  have hzi:¬(num:Int)=0:=by omega
  go_enter Tryz.func28,Tryz.ntmps28
  go_wp2_with fail
  refine(inC 21 [8,17,12,21] _ 4 true _ (by decide) (Blk.of_new (cs:=[.int .i64 8,.int .i64 17,.int .i64 12,.int .i64 21]) (by simp)) rfl (by omega)).mono ?_;rintro e w2 ⟨rfl,rfl⟩;go_wp2_with fail
  refine(inC 21 [10,11,12] _ 3 false _ (by decide) (Blk.of_new (cs:=[.int .i64 10,.int .i64 11,.int .i64 12]) (by simp)) rfl (by omega)).mono ?_;rintro e w3 ⟨rfl,rfl⟩;go_wp2;go_ret;exact⟨_,rfl,(((Keep.refl [] w).alloc _).alloc _).alloc _,fun hz1=>by first|(simp at hz1;done)|(simp at hz1;omega)⟩
 subst hz;rcases Classical.em (text.size=16)with hz|hz
 case inr=>
  have hzi:¬(text.size:Int)=16:=by omega
  go_enter Tryz.func28,Tryz.ntmps28
  go_wp2_with fail
  refine(inC 21 [8,17,12,21] _ 4 true _ (by decide) (Blk.of_new (cs:=[.int .i64 8,.int .i64 17,.int .i64 12,.int .i64 21]) (by simp)) rfl (by omega)).mono ?_;rintro e w2 ⟨rfl,rfl⟩;go_wp2_with fail
  refine(inC 21 [10,11,12] _ 3 false _ (by decide) (Blk.of_new (cs:=[.int .i64 10,.int .i64 11,.int .i64 12]) (by simp)) rfl (by omega)).mono ?_;rintro e w3 ⟨rfl,rfl⟩;go_wp2;go_ret;exact⟨_,rfl,(((Keep.refl [] w).alloc _).alloc _).alloc _,fun hz1=>by first|(simp at hz1;done)|(simp at hz1;omega)⟩
 have hzi:(text.size:Int)=16:=by omega
 go_enter Tryz.func28,Tryz.ntmps28
 go_wp2_with fail
 refine(inC 21 [8,17,12,21] _ 4 true _ (by decide) (Blk.of_new (cs:=[.int .i64 8,.int .i64 17,.int .i64 12,.int .i64 21]) (by simp)) rfl (by omega)).mono ?_;rintro e w2 ⟨rfl,rfl⟩;go_wp2_with fail
 refine(inC 21 [10,11,12] _ 3 false _ (by decide) (Blk.of_new (cs:=[.int .i64 10,.int .i64 11,.int .i64 12]) (by simp)) rfl (by omega)).mono ?_;rintro e w3 ⟨rfl,rfl⟩;go_wp2;go_ret;refine⟨_,rfl,(((Keep.refl [] w).alloc _).alloc _).alloc _,fun hz1=>?_⟩;constructor<;>intros<;>first|assumption|omega|rfl|(simp;done)
end Go.Proofs.YtocgdgmfnockiaaGreatDoor
