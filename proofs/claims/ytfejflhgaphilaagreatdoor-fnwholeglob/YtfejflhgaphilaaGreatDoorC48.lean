/- slices. slices. -/
import Derived.Shelf.Sort.Plain
import Derived.Shelf.Slices.In.SortNone
import Derived.Sort.OwnSorted
import Derived.Test.YtfejflhgaphilaaGreatDoorProg
import Derived.Test.YtfejflhgaphilaaGreatDoorC00
import Derived.Lib.OwnBridge
import Derived.Lib.SlicesCompact
set_option linter.all false
set_option maxRecDepth 100000
set_option maxHeartbeats 64000000
open Go.Proofs.Tryz
namespace Go.Proofs
open Go.Shelf Go.Sort Go.RowKit
def Tryz.GJ:Go.Shelf.Ren:=⟨λ |190=>12|125=>33|258=>32|128=>85|129=>86|302=>76|303=>77|304=>78|305=>79|306=>80|307=>81|308=>82|309=>83|310=>84|333=>125|329=>126|330=>127|334=>128|335=>129|336=>130|344=>164|n=>n,λ |31=>23|9=>9|3=>3|46=>102|0=>0|51=>56|53=>178|4=>4|183=>171|182=>170|131=>159|5=>5|218=>276|222=>50|228=>355|229=>356|n=>n,λ |n=>n⟩
theorem Tryz.L7:Go.Proofs.Lays.n190 prog Tryz.GJ:={
 mixed:=by kernel_rfl
 f125:=func33.trans (congrArg some (by kernel_rfl))
 f128:=func85.trans (congrArg some (by kernel_rfl))
 f129:=func86.trans (congrArg some (by kernel_rfl))
 f190:=func12.trans (congrArg some (by kernel_rfl))
 f258:=func32.trans (congrArg some (by kernel_rfl))
 f302:=func76.trans (congrArg some (by kernel_rfl))
 f303:=func77.trans (congrArg some (by kernel_rfl))
 f304:=func78.trans (congrArg some (by kernel_rfl))
 f305:=func79.trans (congrArg some (by kernel_rfl))
 f306:=func80.trans (congrArg some (by kernel_rfl))
 f307:=func81.trans (congrArg some (by kernel_rfl))
 f308:=func82.trans (congrArg some (by kernel_rfl))
 f309:=func83.trans (congrArg some (by kernel_rfl))
 f310:=func84.trans (congrArg some (by kernel_rfl))
 f329:=func126.trans (congrArg some (by kernel_rfl))
 f330:=func127.trans (congrArg some (by kernel_rfl))
 f333:=func125.trans (congrArg some (by kernel_rfl))
 f334:=func128.trans (congrArg some (by kernel_rfl))
 f335:=func129.trans (congrArg some (by kernel_rfl))
 f336:=func130.trans (congrArg some (by kernel_rfl))
 f344:=func164.trans (congrArg some (by kernel_rfl))
 t0:=underlying0
 a0:=Tryz.isAgg0
 z0:=Tryz.sizeOf0
 v0:=Tryz.zeroValue0
 t3:=underlying3
 a3:=Tryz.isAgg3
 z3:=Tryz.sizeOf3
 v3:=Tryz.zeroValue3
 t4:=underlying4
 a4:=Tryz.isAgg4
 z4:=Tryz.sizeOf4
 v4:=Tryz.zeroValue4
 t5:=underlying5
 a5:=Tryz.isAgg5
 z5:=Tryz.sizeOf5
 v5:=Tryz.zeroValue5
 t9:=underlying9
 a9:=Tryz.isAgg9
 z9:=Tryz.sizeOf9
 v9:=Tryz.zeroValue9
 t31:=underlying23
 a31:=Tryz.isAgg23
 z31:=Tryz.sizeOf23
 v31:=Tryz.zeroValue23
 t46:=underlying102
 a46:=Tryz.isAgg102
 z46:=Tryz.sizeOf102
 v46:=Tryz.zeroValue102
 t51:=underlying56
 a51:=Tryz.isAgg56
 z51:=Tryz.sizeOf56
 v51:=Tryz.zeroValue56
 t53:=underlying178
 a53:=Tryz.isAgg178
 z53:=Tryz.sizeOf178
 v53:=Tryz.zeroValue178
 t131:=underlying159
 a131:=Tryz.isAgg159
 z131:=Tryz.sizeOf159
 v131:=Tryz.zeroValue159
 t182:=underlying170
 a182:=Tryz.isAgg170
 z182:=Tryz.sizeOf170
 v182:=Tryz.zeroValue170
 t183:=underlying171
 a183:=Tryz.isAgg171
 z183:=Tryz.sizeOf171
 v183:=Tryz.zeroValue171
 t218:=underlying276
 a218:=Tryz.isAgg276
 z218:=Tryz.sizeOf276
 v218:=Tryz.zeroValue276
 t222:=underlying50
 a222:=Tryz.isAgg50
 z222:=Tryz.sizeOf50
 v222:=Tryz.zeroValue50
 t228:=underlying355
 a228:=Tryz.isAgg355
 z228:=Tryz.sizeOf355
 v228:=Tryz.zeroValue355
 t229:=underlying356
 a229:=Tryz.isAgg356
 z229:=Tryz.sizeOf356
 v229:=Tryz.zeroValue356}
theorem Tryz.FL (gu off cap:Nat) (ss:List (List UInt8)) (w:World) (hH:Holds encStr w gu off ss.toArray) (xe:gu<w.heap.size) (gJ:ss.length<4611686018427387904):Calls prog 12 #[.slice (some ⟨gu,off,none⟩) ss.length cap] w λe w'=>
 e=.returned (.tuple #[])/\∃n os,w'=grow (putRow encStr (Sort.ahead w n) gu off (ss.mergeSort λx y=>decide (x<=y)).toArray) os:=Any.slices_Sort_string Tryz.L7 gu off cap ss w hH xe gJ
theorem Tryz.wt (p:Option Addr) (cap:Nat) (w:World):Calls prog 12 #[.slice p 0 cap] w λe w'=>e=.returned (.tuple #[])/\w'=w:=Any.slices_Sort_string_none Tryz.L7 p cap w
end Go.Proofs
namespace Go.Proofs.YtfejflhgaphilaaGreatDoor
open Go.RowKit Go.Sort Go.Lib
theorem QR {w:World} {B n c:Nat} {a:Option Addr} {zs:List (List UInt8)} (h:w.ownsRow B 9 1 (.slice a n c) n (zs.map encStr)) (hn:n<=30) (hB:B<=w.heap.size):Calls prog 12 #[.slice a n c] w λe w'=>e=.returned (.tuple #[])/\w'.ownsRow B 9 1 (.slice a n c) n ((zs.mergeSort λx y=>decide (x<=y)).map encStr)/\Below B w w':=by
 have hl:zs.length=n:=by simpa using h.1
 rcases h.2 with⟨h0,_⟩|⟨g,cap,cur,hv,Mq,hb,h1,h2,h3,h4⟩
 ·cases h0;have:zs=[]:=bM hl;subst this;refine(Tryz.wt none 0 w).mono ?_;rintro e w' ⟨rfl,rfl⟩;exact⟨rfl,by simpa using h,ay _ _⟩
 ·cases hv;subst hl;have eR:g<w.heap.size:=by
   rcases aV g w.heap.size with e|e
   ·exact e
   ·rw[aO e]at hb;cases hb
  refine(Tryz.FL g 0 c zs w (holds_of_block hb (by rw[Nat.mul_one]at h4;exact h4)) eR (by omega)).mono ?_;rintro e w' ⟨rfl,nn,os,rfl⟩;exact⟨rfl,ownsRow_sorted (List.length_mergeSort _) Mq hb h1 h2 h3,(ay B w).grown (grownBy_sorted _) hB λj hj=>by cases hj;exact Mq⟩
theorem IQ {w:World} {B n c:Nat} {a:Option Addr} {zs:List (List UInt8)} (h:w.ownsRow B 9 1 (.slice a n c) n (zs.map encStr)) (hn:n<=30) (hB:B<=w.heap.size):Calls prog 14 #[.slice a n c] w λe w'=>e=.returned (.slice a (Lib.compact zs).length c)/\w'.ownsRow B 9 1 (.slice a (Lib.compact zs).length c) (Lib.compact zs).length ((Lib.compact zs).map encStr)/\Below B w w':=by
 have hl:zs.length=n:=by simpa using h.1
 have hle:=Lib.compact_length_le zs;rcases h.2 with⟨h0,_⟩|⟨g,cap,cur,hv,Mq,hb,h1,h2,h3,h4⟩
 ·cases h0;have:zs=[]:=bM hl;subst this;refine(Tryz.slices_Compact_string_empty none 0 w).mono ?_;rintro e w' ⟨rfl,rfl⟩;exact⟨rfl,h,ay _ _⟩
 ·cases hv;subst hl;refine(Tryz.slices_Compact_string g 0 c zs w (holds_of_block hb (by rw[Nat.mul_one]at h4;exact h4)) (by omega) h1).mono ?_;rintro e w' ⟨rfl,q,rfl⟩;have hc:=Lib.ownsRow_putRow (q:=q) (k:=(Lib.compact zs).length) (ys:=Lib.compact zs++List.replicate (zs.length- (Lib.compact zs).length) []) h (by simp;omega) (by omega);rw[cR]at hc;exact⟨rfl,hc,Lib.below_putRow (ay B w) Mq⟩
theorem PS {w:World} {B1 B2 n c1 c2:Nat} {a1 a2:Option Addr} {zs:List (List UInt8)} (h1:w.ownsRow B1 9 1 (.slice a1 n c1) n (zs.map encStr)) (h2:w.ownsRow B2 9 1 (.slice a2 n c2) n (zs.map encStr)) (hn:n<=30):Calls prog 13 #[.slice a1 n c1,.slice a2 n c2] w λe w'=>e=.returned (.bool true)/\Below w.heap.size w w':=by
 have hl:zs.length=n:=by simpa using h1.1
 by_cases xb:n=0
 ·subst xb;refine(Tryz.slices_Equal_string_empty a1 a2 c1 0 c2 w (by omega)).mono ?_;rintro e w' ⟨rfl,rfl⟩;exact⟨rfl,ay _ _⟩
 ·have key:∀{B:Nat} {a:Option Addr} {c:Nat},w.ownsRow B 9 1 (.slice a n c) n (zs.map encStr)->∃g,a=some ⟨g,0,none⟩/\∀j,j<(zs.map λz=>(⟨z.toArray⟩:ByteArray)).length->w.cell? ⟨g,0+j,none⟩=some (.string ((zs.map λz=>(⟨z.toArray⟩:ByteArray)).getD j ByteArray.empty)):=by
   intro B a c h;obtain⟨g,rfl⟩:∃g,a=some ⟨g,0,none⟩:=by
    rcases h.2 with⟨h0,_⟩|⟨g,cap,cur,hv,_⟩
    ·exfalso;cases h0;exact xb rfl
    ·exact⟨g,by cases hv;rfl⟩
   refine⟨g,rfl,λj hj=> ?_⟩;rw[bU]at hj;rw[cm,h.cellAt j (by omega),cq,bI,cq,ah hj];rfl
  obtain⟨g1,rfl,k1⟩:=key h1;obtain⟨g2,rfl,k2⟩:=key h2;refine(Tryz.slices_Equal_string g1 0 n c1 g2 0 n c2 _ _ w (by rw[bU];omega) (by rw[bU];omega) (by omega) (by omega) k1 k2).mono ?_;rintro e w' ⟨rfl,q,rfl⟩;exact⟨by simp,⟨rfl,rfl,rfl,af _,λ_ _=>rfl⟩⟩
end Go.Proofs.YtfejflhgaphilaaGreatDoor
