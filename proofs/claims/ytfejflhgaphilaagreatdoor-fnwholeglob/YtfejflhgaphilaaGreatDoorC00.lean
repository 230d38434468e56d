/- DERIVED: THE SHELF's CONTRACTS AT THIS DUMP, IN PLAIN WORDS (tools/lay-plain. The trees that a pattern compiles into, what they match, and the linear form of the walk: it finds a match just if there is one. -/
import Derived.Shelf.Small.Utf8
import Derived.Shelf.Small.Strs
import Derived.Shelf.Strings.Prefix
import Derived.Shelf.Unicode.Decode
import Derived.Shelf.Unicode.DecodeSlow
import Derived.Shelf.Unicode.DecodeAny
import Derived.Shelf.Unicode.DecodeLast
import Derived.Shelf.Slices.Equal
import Derived.Shelf.Slices.CompactS
import Derived.Shelf.Slices.Cells
import Derived.Test.YtfejflhgaphilaaGreatDoorProg
import Derived.Test.YtfejflhgaphilaaGreatDoorA00
set_option linter.all false
set_option maxRecDepth 100000
set_option maxHeartbeats 64000000
open Go.Proofs.Tryz
namespace Go.Proofs
open Go.Shelf
def Tryz.JW:Go.Shelf.Ren:=⟨λ |99=>251|206=>252|n=>n,λ |9=>9|4=>4|3=>3|n=>n,λ |n=>n⟩
theorem Tryz.YS:Go.Proofs.Lays.n99 prog Tryz.JW:={
 mixed:=by kernel_rfl
 f99:=func251.trans (congrArg some (by kernel_rfl))
 f206:=func252.trans (congrArg some (by kernel_rfl))
 t3:=underlying3
 a3:=Tryz.isAgg3
 z3:=Tryz.sizeOf3
 v3:=Tryz.zeroValue3
 t4:=underlying4
 a4:=Tryz.isAgg4
 z4:=Tryz.sizeOf4
 v4:=Tryz.zeroValue4
 t9:=underlying9
 a9:=Tryz.isAgg9
 z9:=Tryz.sizeOf9
 v9:=Tryz.zeroValue9}
open Go.RowKit Go.Lib in
theorem Tryz.strings_HasPrefix (s p:ByteArray) (w:World):Calls prog 251 #[.string s,.string p] w λe w'=>e=.returned (.bool (Lib.hasPrefix s.data.toList p.data.toList))/\w'=w:=Any.strings_HasPrefix Tryz.YS s p w
def Tryz.GK:Go.Shelf.Ren:=⟨λ |100=>71|207=>123|n=>n,λ |9=>9|4=>4|3=>3|n=>n,λ |n=>n⟩
theorem Tryz.Vq:Go.Proofs.Lays.n100 prog Tryz.GK:={
 mixed:=by kernel_rfl
 f100:=func71.trans (congrArg some (by kernel_rfl))
 f207:=func123.trans (congrArg some (by kernel_rfl))
 t3:=underlying3
 a3:=Tryz.isAgg3
 z3:=Tryz.sizeOf3
 v3:=Tryz.zeroValue3
 t4:=underlying4
 a4:=Tryz.isAgg4
 z4:=Tryz.sizeOf4
 v4:=Tryz.zeroValue4
 t9:=underlying9
 a9:=Tryz.isAgg9
 z9:=Tryz.sizeOf9
 v9:=Tryz.zeroValue9}
open Go.RowKit Go.Lib in
theorem Tryz.strings_HasSuffix (s p:ByteArray) (w:World) (hs:s.size<=9223372036854775807):Calls prog 71 #[.string s,.string p] w λe w'=>e=.returned (.bool (Lib.hasSuffix s.data.toList p.data.toList))/\w'=w:=Any.strings_HasSuffix Tryz.Vq s p w hs
def Tryz.GG:Go.Shelf.Ren:=⟨λ |197=>152|260=>181|n=>n,λ |9=>9|21=>21|3=>3|4=>4|5=>5|105=>329|119=>404|0=>0|46=>102|139=>407|138=>406|n=>n,λ |3=>1|4=>2|n=>n⟩
theorem Tryz.Vp:Go.Proofs.Lays.n197 prog Tryz.GG:={
 mixed:=by kernel_rfl
 f197:=func152.trans (congrArg some (by kernel_rfl))
 f260:=func181.trans (congrArg some (by kernel_rfl))
 t0:=underlying0
 a0:=Tryz.isAgg0
 z0:=Tryz.sizeOf0
 v0:=Tryz.zeroValue0
 t3:=underlying3
 a3:=Tryz.isAgg3
 z3:=Tryz.sizeOf3
 v3:=Tryz.zeroValue3
 t4:=underlying4
 a4:=Tryz.isAgg4
 z4:=Tryz.sizeOf4
 v4:=Tryz.zeroValue4
 t5:=underlying5
 a5:=Tryz.isAgg5
 z5:=Tryz.sizeOf5
 v5:=Tryz.zeroValue5
 t9:=underlying9
 a9:=Tryz.isAgg9
 z9:=Tryz.sizeOf9
 v9:=Tryz.zeroValue9
 t21:=underlying21
 a21:=Tryz.isAgg21
 z21:=Tryz.sizeOf21
 v21:=Tryz.zeroValue21
 t46:=underlying102
 a46:=Tryz.isAgg102
 z46:=Tryz.sizeOf102
 v46:=Tryz.zeroValue102
 t105:=underlying329
 a105:=Tryz.isAgg329
 z105:=Tryz.sizeOf329
 v105:=Tryz.zeroValue329
 t119:=underlying404
 a119:=Tryz.isAgg404
 z119:=Tryz.sizeOf404
 t138:=underlying406
 a138:=Tryz.isAgg406
 z138:=Tryz.sizeOf406
 v138:=Tryz.zeroValue406
 t139:=underlying407
 a139:=Tryz.isAgg407
 z139:=Tryz.sizeOf407
 v139:=Tryz.zeroValue407
 g3:=by kernel_rfl
 g4:=by kernel_rfl}
def Tryz.xQ:Go.Shelf.Ren:=⟨λ |260=>181|n=>n,λ |9=>9|21=>21|3=>3|4=>4|5=>5|119=>404|0=>0|46=>102|139=>407|138=>406|n=>n,λ |3=>1|4=>2|n=>n⟩
theorem Tryz.Vo:Go.Proofs.Lays.n260 prog Tryz.xQ:={
 mixed:=by kernel_rfl
 f260:=func181.trans (congrArg some (by kernel_rfl))
 t0:=underlying0
 a0:=Tryz.isAgg0
 z0:=Tryz.sizeOf0
 v0:=Tryz.zeroValue0
 t3:=underlying3
 a3:=Tryz.isAgg3
 z3:=Tryz.sizeOf3
 v3:=Tryz.zeroValue3
 t4:=underlying4
 a4:=Tryz.isAgg4
 z4:=Tryz.sizeOf4
 v4:=Tryz.zeroValue4
 t5:=underlying5
 a5:=Tryz.isAgg5
 z5:=Tryz.sizeOf5
 v5:=Tryz.zeroValue5
 t9:=underlying9
 a9:=Tryz.isAgg9
 z9:=Tryz.sizeOf9
 v9:=Tryz.zeroValue9
 t21:=underlying21
 a21:=Tryz.isAgg21
 z21:=Tryz.sizeOf21
 v21:=Tryz.zeroValue21
 t46:=underlying102
 a46:=Tryz.isAgg102
 z46:=Tryz.sizeOf102
 v46:=Tryz.zeroValue102
 t119:=underlying404
 a119:=Tryz.isAgg404
 z119:=Tryz.sizeOf404
 t138:=underlying406
 a138:=Tryz.isAgg406
 z138:=Tryz.sizeOf406
 v138:=Tryz.zeroValue406
 t139:=underlying407
 a139:=Tryz.isAgg407
 z139:=Tryz.sizeOf407
 v139:=Tryz.zeroValue407
 g3:=by kernel_rfl
 g4:=by kernel_rfl}
open Go.RowKit Go.Lib in
theorem Tryz.utf8_DecodeRuneInString (s:ByteArray) (w:World) (hT:Lib.Utf8Tabs 1 2 w):Calls prog 152 #[.string s] w λe w'=>e=.returned (.tuple #[.int .i32 (Lib.decodeGo s).1,.int .i64 (Lib.decodeGo s).2])/\Below w.heap.size w w':=Any.utf8_DecodeRuneInString Tryz.Vp s w hT
def Tryz.GF:Go.Shelf.Ren:=⟨λ |271=>157|120=>185|197=>152|260=>181|n=>n,λ |9=>9|21=>21|3=>3|4=>4|5=>5|105=>329|119=>404|0=>0|46=>102|139=>407|138=>406|n=>n,λ |3=>1|4=>2|n=>n⟩
theorem Tryz.Vn:Go.Proofs.Lays.n271 prog Tryz.GF:={
 mixed:=by kernel_rfl
 f120:=func185.trans (congrArg some (by kernel_rfl))
 f197:=func152.trans (congrArg some (by kernel_rfl))
 f260:=func181.trans (congrArg some (by kernel_rfl))
 f271:=func157.trans (congrArg some (by kernel_rfl))
 t0:=underlying0
 a0:=Tryz.isAgg0
 z0:=Tryz.sizeOf0
 v0:=Tryz.zeroValue0
 t3:=underlying3
 a3:=Tryz.isAgg3
 z3:=Tryz.sizeOf3
 v3:=Tryz.zeroValue3
 t4:=underlying4
 a4:=Tryz.isAgg4
 z4:=Tryz.sizeOf4
 v4:=Tryz.zeroValue4
 t5:=underlying5
 a5:=Tryz.isAgg5
 z5:=Tryz.sizeOf5
 v5:=Tryz.zeroValue5
 t9:=underlying9
 a9:=Tryz.isAgg9
 z9:=Tryz.sizeOf9
 v9:=Tryz.zeroValue9
 t21:=underlying21
 a21:=Tryz.isAgg21
 z21:=Tryz.sizeOf21
 v21:=Tryz.zeroValue21
 t46:=underlying102
 a46:=Tryz.isAgg102
 z46:=Tryz.sizeOf102
 v46:=Tryz.zeroValue102
 t105:=underlying329
 a105:=Tryz.isAgg329
 z105:=Tryz.sizeOf329
 v105:=Tryz.zeroValue329
 t119:=underlying404
 a119:=Tryz.isAgg404
 z119:=Tryz.sizeOf404
 t138:=underlying406
 a138:=Tryz.isAgg406
 z138:=Tryz.sizeOf406
 v138:=Tryz.zeroValue406
 t139:=underlying407
 a139:=Tryz.isAgg407
 z139:=Tryz.sizeOf407
 v139:=Tryz.zeroValue407
 g3:=by kernel_rfl
 g4:=by kernel_rfl}
open Go.RowKit Go.Lib in
theorem Tryz.utf8_DecodeLastRuneInString (s:ByteArray) (w:World) (hs:s.size<=9223372036854775807) (hT:Lib.Utf8Tabs 1 2 w):Calls prog 157 #[.string s] w λe w'=>e=.returned (.tuple #[.int .i32 (Lib.decodeLastL s.data.toList).1,.int .i64 (Lib.decodeLastL s.data.toList).2])/\Below w.heap.size w w':=Any.utf8_DecodeLastRuneInString Tryz.Vn s w hs hT
def Tryz.GI:Go.Shelf.Ren:=⟨λ |193=>13|n=>n,λ |31=>23|9=>9|4=>4|3=>3|0=>0|n=>n,λ |n=>n⟩
theorem Tryz.L6:Go.Proofs.Lays.n193 prog Tryz.GI:={
 mixed:=by kernel_rfl
 f193:=func13.trans (congrArg some (by kernel_rfl))
 t0:=underlying0
 a0:=Tryz.isAgg0
 z0:=Tryz.sizeOf0
 v0:=Tryz.zeroValue0
 t3:=underlying3
 a3:=Tryz.isAgg3
 z3:=Tryz.sizeOf3
 v3:=Tryz.zeroValue3
 t4:=underlying4
 a4:=Tryz.isAgg4
 z4:=Tryz.sizeOf4
 v4:=Tryz.zeroValue4
 t9:=underlying9
 a9:=Tryz.isAgg9
 z9:=Tryz.sizeOf9
 v9:=Tryz.zeroValue9
 t31:=underlying23
 a31:=Tryz.isAgg23
 z31:=Tryz.sizeOf23
 v31:=Tryz.zeroValue23}
open Go.RowKit Go.Lib in
theorem Tryz.slices_Equal_string (b1 o1 n c b2 o2 m d:Nat) (xs ys:List ByteArray) (w:World) (hx:n<=xs.length) (hy:m<=ys.length) (V2:n<=9223372036854775807) (Sw:m<=9223372036854775807) (j7:∀j,j<xs.length->w.cell? ⟨b1,o1+j,none⟩=some (.string (xs.getD j ByteArray.empty))) (kb:∀j,j<ys.length->w.cell? ⟨b2,o2+j,none⟩=some (.string (ys.getD j ByteArray.empty))):Calls prog 13 #[.slice (some ⟨b1,o1,none⟩) n c,.slice (some ⟨b2,o2,none⟩) m d] w λe w'=>e=.returned (.bool (decide (xs.take n=ys.take m)))/\∃q,w'=w.drewN q:=Any.slices_Equal_string Tryz.L6 b1 o1 n c b2 o2 m d xs ys w hx hy V2 Sw j7 kb
open Go.RowKit Go.Lib in
theorem Tryz.slices_Equal_string_empty (a1 a2:Option Addr) (c m d:Nat) (w:World) (Sw:m<=9223372036854775807):Calls prog 13 #[.slice a1 0 c,.slice a2 m d] w λe w'=>e=.returned (.bool (decide (m=0)))/\w'=w:=Any.slices_Equal_string_empty Tryz.L6 a1 a2 c m d w Sw
def Tryz.GH:Go.Shelf.Ren:=⟨λ |194=>14|n=>n,λ |31=>23|9=>9|3=>3|4=>4|0=>0|n=>n,λ |n=>n⟩
theorem Tryz.L5:Go.Proofs.Lays.n194 prog Tryz.GH:={
 mixed:=by kernel_rfl
 f194:=func14.trans (congrArg some (by kernel_rfl))
 t0:=underlying0
 a0:=Tryz.isAgg0
 z0:=Tryz.sizeOf0
 v0:=Tryz.zeroValue0
 t3:=underlying3
 a3:=Tryz.isAgg3
 z3:=Tryz.sizeOf3
 v3:=Tryz.zeroValue3
 t4:=underlying4
 a4:=Tryz.isAgg4
 z4:=Tryz.sizeOf4
 v4:=Tryz.zeroValue4
 t9:=underlying9
 a9:=Tryz.isAgg9
 z9:=Tryz.sizeOf9
 v9:=Tryz.zeroValue9
 t31:=underlying23
 a31:=Tryz.isAgg23
 z31:=Tryz.sizeOf23
 v31:=Tryz.zeroValue23}
open Go.RowKit Go.Lib Go.Sort in
theorem Tryz.slices_Compact_string (gu off cap:Nat) (zs:List (List UInt8)) (w:World) (hH:Holds encStr w gu off zs.toArray) (gJ:zs.length<=9223372036854775807) (nj:zs.length<=cap):Calls prog 14 #[.slice (some ⟨gu,off,none⟩) zs.length cap] w λe w'=>e=.returned (.slice (some ⟨gu,off,none⟩) (Lib.compact zs).length cap)/\∃q,w'=putRow encStr (Sort.ahead w q) gu off (Lib.compact zs++List.replicate (zs.length- (Lib.compact zs).length) []).toArray:=Any.slices_Compact_string Tryz.L5 gu off cap zs w hH gJ nj
open Go.RowKit Go.Lib Go.Sort in
theorem Tryz.slices_Compact_string_empty (a:Option Addr) (cap:Nat) (w:World):Calls prog 14 #[.slice a 0 cap] w λe w'=>e=.returned (.slice a 0 cap)/\w'=w:=Any.slices_Compact_string_empty Tryz.L5 a cap w
end Go.Proofs
namespace Go.Proofs.YtfejflhgaphilaaGreatDoor.Gm
abbrev dE:=Nat
inductive T where
 |text (t:List dE)
 |char (sep:List dE)
 |star (sep next:List dE) (term:Bool)
 |range (lo hi:Int) (neg:Bool)
 |set (s:List dE) (neg:Bool)
 |void
 |pre (t sep:List dE)
 |eP (t sep:List dE)
 |dN (p s sep:List dE)
 |cont (t:List dE)
 |dH (l:List T)
 |alt (l:List T)
 |eh (l:List T)
def uA (lo hi:Int) (neg:Bool) (c:dE):Bool:=(decide (lo<=(c:Int))&&decide ((c:Int)<=hi)) != neg
mutual
def D:T->List dE->List dE->Prop
 |.text t,r,r'=>r=t++r'
 |.char sep,r,r'=>∃c,r=c::r'/\c∉sep
 |.star sep _ _,r,r'=>∃u,r=u++r'/\∀c∈u,c∉sep
 |.range lo hi neg,r,r'=>∃c,r=c::r'/\uA lo hi neg c=true
 |.set s neg,r,r'=>∃c,r=c::r'/\(s.contains c)≠neg
 |.void,r,r'=>r=r'
 |.pre t sep,r,r'=>r'=[]/\∃u,r=t++u/\∀c∈u,c∉sep
 |.eP t sep,r,r'=>r'=[]/\∃u,r=u++t/\∀c∈u,c∉sep
 |.dN p s sep,r,r'=>r'=[]/\∃u,r=p++(u++s)/\∀c∈u,c∉sep
 |.cont t,r,r'=>r'=[]/\∃u v,r=u++(t++v)
 |.dH l,r,r'=>Ds l r r'
 |.alt l,r,r'=>Da l r r'
 |.eh l,r,r'=>r'=[]/\Da l r []
def Ds:List T->List dE->List dE->Prop
 | [],r,r'=>r=r'
 |t::ts,r,r'=>∃m,D t r m/\Ds ts m r'
def Da:List T->List dE->List dE->Prop
 | [],_,_=>False
 |t::ts,r,r'=>D t r r'\/Da ts r r'
end
theorem jy:∀(a b:List T) (r r':List dE),Ds (a++b) r r'↔∃m,Ds a r m/\Ds b m r'
 | [],b,r,r'=>by simp[Ds]
 |t::ts,b,r,r'=>by
  simp only[aJ,Ds,jy ts b];constructor
  ·rintro⟨m,h,m',h',h''⟩;exact⟨m',⟨m,h,h'⟩,h''⟩
  ·rintro⟨m',⟨m,h,h'⟩,h''⟩;exact⟨m,h,m',h',h''⟩
mutual
theorem gL:∀(t:T) (r r':List dE),D t r r'->r'<:+r
 |.text t,r,r',h=>by simp only[D]at h;exact⟨t,h.symm⟩
 |.char sep,r,r',h=>by simp only[D]at h;obtain⟨c,h,_⟩:=h;exact⟨[c],h.symm⟩
 |.star sep _ _,r,r',h=>by simp only[D]at h;obtain⟨u,h,_⟩:=h;exact⟨u,h.symm⟩
 |.range lo hi neg,r,r',h=>by simp only[D]at h;obtain⟨c,h,_⟩:=h;exact⟨[c],h.symm⟩
 |.set s neg,r,r',h=>by simp only[D]at h;obtain⟨c,h,_⟩:=h;exact⟨[c],h.symm⟩
 |.void,r,r',h=>by simp only[D]at h;exact h▸cF _
 |.pre t sep,r,r',h=>by simp only[D]at h;exact h.1▸cU
 |.eP t sep,r,r',h=>by simp only[D]at h;exact h.1▸cU
 |.dN p s sep,r,r',h=>by simp only[D]at h;exact h.1▸cU
 |.cont t,r,r',h=>by simp only[D]at h;exact h.1▸cU
 |.dH l,r,r',h=>by simp only[D]at h;exact sF l r r' h
 |.alt l,r,r',h=>by simp only[D]at h;exact DM l r r' h
 |.eh l,r,r',h=>by simp only[D]at h;exact h.1▸cU
theorem sF:∀(l:List T) (r r':List dE),Ds l r r'->r'<:+r
 | [],r,r',h=>by simp only[Ds]at h;exact h▸cF _
 |t::ts,r,r',h=>by simp only[Ds]at h;obtain⟨m,h1,h2⟩:=h;exact(sF ts m r' h2).trans (gL t r m h1)
theorem DM:∀(l:List T) (r r':List dE),Da l r r'->r'<:+r
 | [],r,r',h=>by simp[Da]at h
 |t::ts,r,r',h=>by simp only[Da]at h;exact h.elim (gL t r r') (DM ts r r')
end
def T.width:T->Option Nat
 |.text t=>some t.length
 |.char _=>some 1
 |.range _ _ _=>some 1
 |.set _ _=>some 1
 |.void=>some 0
 |_=>none
def T.simple:T->Bool
 |.star _ _ _=>true
 |t=>t.width.isSome
theorem MX {t:T} {n:Nat} (hw:t.width=some n) {r r':List dE} (h:D t r r'):r'=r.drop n/\n<=r.length:=by
 cases t<;>simp only[T.width,ae,reduceCtorEq]at hw<;>simp only[D]at h
 ·subst hw;subst h;simp
 ·obtain⟨c,rfl,_⟩:=h;subst hw;simp
 ·obtain⟨c,rfl,_⟩:=h;subst hw;simp
 ·obtain⟨c,rfl,_⟩:=h;subst hw;simp
 ·subst hw;subst h;simp
theorem ue {a b c:List dE} (h1:a<:+c) (h2:b<:+c):a<:+b\/b<:+a:=by exact List.suffix_or_suffix_of_suffix h1 h2
theorem FE {a b:List dE} (h:a<:+b) (n:Nat):a.drop n<:+b.drop n:=by
 obtain⟨u,rfl⟩:=h;rw[List.drop_append];by_cases hu:n<=u.length
 ·have:n-u.length=0:=by omega
  rw[this,bK];exact((List.drop_suffix n a)).trans (List.suffix_append _ _)
 ·have h1:u.drop n=[]:=List.drop_eq_nil_of_le (by omega);rw[h1,bw];have:a.drop n=(a.drop (n-u.length)).drop u.length:=by rw[dk];congr 1;omega
  rw[this];exact List.drop_suffix _ _
theorem FH {sep nx:List dE} {tm:Bool} {a m m':List dE} (h:D (.star sep nx tm) a m) (h1:m<:+m') (h2:m'<:+a):D (.star sep nx tm) a m'/\D (.star sep nx tm) m' m:=by
 simp only[D]at*;obtain⟨u,rfl,hu⟩:=h;obtain⟨v,rfl⟩:=h1;obtain⟨w,hw⟩:=h2;have:w++v=u:=by
  have:(w++v)++m=u++m:=by rw[<-hw];simp
  exact List.append_cancel_right this
 subst this;exact⟨⟨w,by simp,λc hc=>hu c (by simp[hc])⟩,⟨v,rfl,λc hc=>hu c (by simp[hc])⟩⟩
theorem TA:∀(L:List T),(∀t∈L,t.simple=true)->∀(a a' y y':List dE),Ds L a y->Ds L a' y'->a'<:+a->y<:+y'->Ds L a y'
 | [],_,a,a',y,y',h,h',ha,hy=>by simp only[Ds]at*;subst h;subst h';exact List.IsSuffix.eq_of_length ha (Nat.le_antisymm ha.length_le hy.length_le)▸rfl
 |t::L,hs,a,a',y,y',h,h',ha,hy=>by
  simp only[Ds]at h h'⊢;obtain⟨m,h1,h2⟩:=h;obtain⟨m',h1',Dt⟩:=h';have Uv:∀t∈L,t.simple=true:=λt ht=>hs t (bJ _ ht);have iW:=hs t (cd ..);cases hw:t.width with
  |some n=>obtain⟨rfl,_⟩:=MX hw h1;obtain⟨rfl,_⟩:=MX hw h1';exact⟨_,h1,TA L Uv _ _ y y' h2 Dt (FE ha n) hy⟩
  |none=>
   cases t<;>simp[T.simple,T.width]at iW hw;rename_i sep nx tm;rcases ue (gL _ _ _ h1) ((gL _ _ _ h1').trans ha)with hm|hm
   ·exact⟨m',(FH h1 hm ((gL _ _ _ h1').trans ha)).1,Dt⟩
   ·exact⟨m,h1,TA L Uv m m' y y' h2 Dt hm hy⟩
theorem cut {L:List T} (hs:∀t∈L,t.simple=true) {nx:List dE} {tm:Bool} {ts:List T} {a a' y e:List dE} (h:Ds L a y) (ha:a'<:+a) (h':Ds (L++ .star [] nx tm::ts) a' e):Ds (L++ .star [] nx tm::ts) a e:=by
 rw[jy]at h'⊢;obtain⟨y',h1,h2⟩:=h';rcases ue (sF _ _ _ h) ((sF _ _ _ h1).trans ha)with hy|hy
 ·exact⟨y',TA L hs a a' y y' h h1 ha hy,h2⟩
 ·refine⟨y,h,?_⟩;simp only[Ds]at h2⊢;obtain⟨m,h3,h4⟩:=h2;refine⟨m,?_,h4⟩;simp only[D]at h3⊢;obtain⟨u,rfl,_⟩:=h3;obtain⟨v,rfl⟩:=hy;exact⟨v++u,by simp,by simp⟩
def T.iD:T->Bool
 |.star _ _ tm=>tm
 |.dH _=>false
 |.alt _=>false
 |_=>true
def T.vJ:T->Bool
 |.star _ _ tm=>tm
 |.pre _ _=>true
 |.eP _ _=>true
 |.dN _ _ _=>true
 |.cont _=>true
 |.eh _=>true
 |_=>false
mutual
def T.calm:T->Bool
 |.star _ _ tm=>tm
 |.dH l=>eG l
 |.alt l=>eG l
 |_=>true
def eG:List T->Bool
 | []=>true
 |t::ts=>t.calm&&eG ts
end
theorem qy:∀(a b:List T),eG (a++b)=(eG a&&eG b)
 | [],b=>by simp[eG]
 |t::a,b=>by simp[eG,qy a b,Bool.and_assoc]
inductive Ok (Tl:T->Prop):Bool->List T->Prop where
 |nil (σ:Bool):Ok Tl σ []
 |leaf {σ:Bool} {t:T} {ts:List T} (h:t.width.isSome=true) (hs:Ok Tl σ ts):Ok Tl σ (t::ts)
 |tail {σ:Bool} {t:T} (h:t.vJ=true) (ht:Tl t):Ok Tl σ [t]
 |star {σ:Bool} {sep nx:List dE} {ts:List T} (hs:Ok Tl true ts) (hn:∀m,Ds ts m []->nx<+:m):Ok Tl σ (.star sep nx false::ts)
 |dH {σ:Bool} {l ts:List T} (hc:σ=true->eG (.dH l::ts)=true) (hs:Ok Tl σ (l++ts)):Ok Tl σ (.dH l::ts)
 |alt {σ:Bool} {l ts:List T} (hc:σ=true->eG (.alt l::ts)=true) (hs:∀t∈l,Ok Tl σ (t::ts)):Ok Tl σ (.alt l::ts)
structure qX where
 stars:List (List T×List dE)
 stack:List (List T×List dE)
def Cc (c:List T×List dE):Prop:=Ds c.1 c.2 []
inductive W (res:T->List dE->Option (List dE)) (s0:Nat) (k:List T):List T->List dE->qX->Option (List dE)->qX->Prop where
 |nil (r:List dE) (s:qX):W res s0 k [] r s (some r) s
 |fail {t:T} {ts:List T} {r:List dE} {s:qX} (hl:t.iD=true) (h:res t r=none):W res s0 k (t::ts) r s none s
 |leaf {t:T} {ts:List T} {r r':List dE} {s s':qX} {o:Option (List dE)} (hl:t.iD=true) (h:res t r=some r') (hw:W res s0 k ts r' s o s'):W res s0 k (t::ts) r s o s'
 |stay {sep nx:List dE} {ts:List T} {r:List dE} {s s':qX} {o:Option (List dE)} (hd:∀m,D (.star sep nx false) r m->m≠r->nx<+:m->False) (hw:W res s0 k ts r s o s'):W res s0 k (.star sep nx false::ts) r s o s'
 |store {sep nx:List dE} {ts:List T} {r r1:List dE} {s s':qX} {o:Option (List dE)} (f:Nat) (hf:f<=s0) (h1:D (.star sep nx false) r r1) (eR:r1.length<r.length) (hd:∀m,D (.star sep nx false) r m->m≠r->nx<+:m->m<:+r1) (hw:W res s0 k ts r {s with stars:=(if sep=[]then s.stars.take f else s.stars)++[(.star sep nx false::(ts++k),r1)]} o s'):W res s0 k (.star sep nx false::ts) r s o s'
 |dH {l ts:List T} {r:List dE} {s s':qX} {o:Option (List dE)} (hw:W res s0 k (l++ts) r s o s'):W res s0 k (.dH l::ts) r s o s'
 |last {t:T} {ts:List T} {r:List dE} {s s':qX} {o:Option (List dE)} (hw:W res s0 k (t::ts) r s o s'):W res s0 k (.alt [t]::ts) r s o s'
 |more {t u:T} {l ts:List T} {r:List dE} {s s':qX} {o:Option (List dE)} (hw:W res s0 k (t::ts) r {s with stack:=s.stack++[(.alt (u::l)::(ts++k),r)]} o s'):W res s0 k (.alt (t::u::l)::ts) r s o s'
structure Pt where
 sep:List dE
 nx:List dE
 ts:List T
 xs:List dE
 rem:List dE
def Pt.st (p:Pt):T:=.star p.sep p.nx false
def Pt.ck (p:Pt):List T×List dE:=(p.st::p.ts,p.rem)
def P1 (s:qX):Prop:=∃c∈s.stack,Cc c
def Rel (p q:Pt):Prop:=∃L y,p.ts=L++q.st::q.ts/\(∀t∈L,t.simple=true)/\Ds L p.xs y/\D q.st y q.rem
structure Inv (Tl:T->Prop) (sol:Prop) (s:qX) (ps:List Pt) (cur:Prop):Prop where
 stars:s.stars=ps.map Pt.ck
 ext:∀p∈ps,D p.st p.xs p.rem
 chain:∀a p b,ps=a++p::b->Ds p.ts p.xs []->(∃q∈b,Cc q.ck)\/cur\/P1 s
 rel:ps.Pairwise Rel
 alive:sol->(∃p∈ps,Cc p.ck)\/cur\/P1 s
 sound:cur->sol
 DX:∀p∈ps,Cc p.ck->sol
 zO:P1 s->sol
 iK:∀p∈ps,Ok Tl true (p.st::p.ts)
 Uo:∀c∈s.stack,∃σ,Ok Tl σ c.1
def At (ps:List Pt) (L:List T) (r:List dE):Prop:=eG L=true\/∀p∈ps,∃L0 y,p.ts=L0++L/\(∀t∈L0,t.simple=true)/\Ds L0 p.xs y/\(y=r\/∃sep nx nO,L=.star sep nx false::nO/\D (.star sep nx false) y r)
theorem Inv.covered {Tl:T->Prop} {sol:Prop} {s:qX} {ps:List Pt} {nx:List dE} {ts:List T} {r:List dE} (h:Inv Tl sol s ps (Ds (.star [] nx false::ts) r [])) (xX:At ps (.star [] nx false::ts) r):∀(n:Nat) (a:List Pt) (p:Pt) (b:List Pt),b.length=n->ps=a++p::b->Cc p.ck->Ds (.star [] nx false::ts) r []\/P1 s:=by
 intro n
 induction n using Nat.strongRecOn with
 |_ n ih=>
  intro a p b hn Ft hc;have hp:p∈ps:=by rw[Ft];simp
  rcases xX with xX|xX
  ·simp[eG,T.calm]at xX
  obtain⟨L0,y,fY,hs,hy,_⟩:=xX p hp;have hext:=h.ext p hp;simp only[Cc,Pt.ck,Ds]at hc;obtain⟨m,hm,hr⟩:=hc;have ry:m<:+p.xs:=(gL _ _ _ hm).trans (gL _ _ _ hext);rw[fY]at hr;have hcut:=cut hs hy ry hr;rw[<-fY]at hcut;rcases h.chain a p b Ft hcut with⟨q,hq,hcq⟩|xc
  ·obtain⟨b1,b2,rfl⟩:=List.append_of_mem hq;exact ih b2.length (by rw[<-hn];simp;omega) (a++p::b1) q b2 rfl (by rw[Ft];simp) hcq
  ·exact xc
theorem Inv.covers {Tl:T->Prop} {sol:Prop} {s:qX} {ps:List Pt} {nx:List dE} {ts:List T} {r:List dE} (h:Inv Tl sol s ps (Ds (.star [] nx false::ts) r [])) (xX:At ps (.star [] nx false::ts) r) {p:Pt} (hp:p∈ps) (hc:Cc p.ck):Ds (.star [] nx false::ts) r []\/P1 s:=by obtain⟨a,b,Ft⟩:=List.append_of_mem hp;exact h.covered xX b.length a p b rfl Ft hc
theorem Inv.turn {Tl:T->Prop} {sol cur cur':Prop} {s:qX} {ps:List Pt} (h:Inv Tl sol s ps cur) (h1:cur->cur') (h2:cur'->cur):Inv Tl sol s ps cur':={h with
                                                                                                                                                   chain:=λa p b Ft hx=>(h.chain a p b Ft hx).imp_right (Or.imp_left h1)
                                                                                                                                                   alive:=λhs=>(h.alive hs).imp_right (Or.imp_left h1)
                                                                                                                                                   sound:=λhc=>h.sound (h2 hc)}
structure DF (Tl:T->Prop) (res:T->List dE->Option (List dE)):Prop where
 wide:∀t r m,t.width.isSome=true->D t r m->res t r=some m
 tail:∀t r,Tl t->D t r []->res t r=some []
 sound:∀t r m,res t r=some m->t.iD=true->D t r m
theorem zx {t:T} (h:t.iD=true) (sep nx:List dE):t≠ .star sep nx false:=by rintro rfl;simp[T.iD]at h
theorem Ok.Ax {Tl:T->Prop} {σ:Bool} {t:T} {ts:List T} (hl:t.iD=true) (h:Ok Tl σ (t::ts)):(t.width.isSome=true/\Ok Tl σ ts)\/(t.vJ=true/\Tl t/\ts=[]):=by
 cases h with
 |leaf h hs=>exact .inl ⟨h,hs⟩
 |tail h ht=>exact .inr ⟨h,ht,rfl⟩
 |star=>simp[T.iD]at hl
 |dH=>simp[T.iD]at hl
 |alt=>simp[T.iD]at hl
theorem Ok.rv {Tl:T->Prop} {σ:Bool} {sep nx:List dE} {ts:List T} (h:Ok Tl σ (.star sep nx false::ts)):Ok Tl true ts/\∀m,Ds ts m []->nx<+:m:=by
 cases h with
 |leaf h=>simp[T.width]at h
 |tail h=>simp[T.vJ]at h
 |star hs hn=>exact⟨hs,hn⟩
theorem Ok.Dl {Tl:T->Prop} {σ:Bool} {l ts:List T} (h:Ok Tl σ (.dH l::ts)):(σ=true->eG (.dH l::ts)=true)/\Ok Tl σ (l++ts):=by
 cases h with
 |leaf h=>simp[T.width]at h
 |tail h=>simp[T.vJ]at h
 |dH hc hs=>exact⟨hc,hs⟩
theorem Ok.zg {Tl:T->Prop} {σ:Bool} {l ts:List T} (h:Ok Tl σ (.alt l::ts)):(σ=true->eG (.alt l::ts)=true)/\∀t∈l,Ok Tl σ (t::ts):=by
 cases h with
 |leaf h=>simp[T.width]at h
 |tail h=>simp[T.vJ]at h
 |alt hc hs=>exact⟨hc,hs⟩
theorem At.of {ps:List Pt} {L:List T} {r:List dE} {σ:Bool} (hσ:σ=false->ps=[]) (hc:σ=true->eG L=true):At ps L r:=by
 cases σ with
 |true=>exact .inl (hc rfl)
 |false=>right;rw[hσ rfl];simp
theorem At.leaf {ps:List Pt} {t:T} {ts:List T} {r r':List dE} (hl:t.iD=true) (hw:t.width.isSome=true) (hD:D t r r') (h:At ps (t::ts) r):At ps ts r':=by
 rcases h with h|h
 ·left;simp only[eG,al]at h;exact h.2
 ·right;intro p hp;obtain⟨L0,y,fY,hs,hy,hor⟩:=h p hp;rcases hor with rfl|⟨sep,nx,nO,he,_⟩
  ·refine⟨L0++[t],r',by simp[fY],?_,?_,.inl rfl⟩
   ·intro u hu;rcases ar.1 hu with hu|hu
    ·exact hs u hu
    ·simp at hu;subst hu;cases u<;>simp_all[T.simple,T.width,T.iD]
   ·rw[jy];exact⟨_,hy,by simp only[Ds];exact⟨r',hD,rfl⟩⟩
  ·simp only[bq]at he;exact absurd he.1 (zx hl _ _)
theorem At.star {ps:List Pt} {sep nx:List dE} {ts:List T} {r:List dE} (h:At ps (.star sep nx false::ts) r):At ps ts r:=by
 rcases h with h|h
 ·simp[eG,T.calm]at h
 ·right;intro p hp;obtain⟨L0,y,fY,hs,hy,hor⟩:=h p hp;refine⟨L0++[.star sep nx false],r,by simp[fY],?_,?_,.inl rfl⟩
  ·intro u hu;rcases ar.1 hu with hu|hu
   ·exact hs u hu
   ·simp at hu;subst hu;rfl
  ·rw[jy];refine⟨y,hy,?_⟩;simp only[Ds];refine⟨r,?_,rfl⟩;rcases hor with rfl|⟨yq,Lz,nO,he,hd⟩
   ·simp only[D];exact⟨[],by simp,by simp⟩
   ·simp only[bq,T.star.injEq]at he;obtain⟨⟨rfl,rfl,_⟩,_⟩:=he;exact hd
theorem mL {sep nx:List dE} {tm:Bool} (r:List dE):D (.star sep nx tm) r r:=by simp only[D];exact⟨[],by simp,by simp⟩
theorem W_inv {Tl:T->Prop} {res:T->List dE->Option (List dE)} (iq:DF Tl res) {sol:Prop} {s0:Nat} {k ts:List T} {r:List dE} {s s':qX} {o:Option (List dE)} (hw:W res s0 k ts r s o s'):∀(σ:Bool) (ps:List Pt),Ok Tl σ (ts++k)->Inv Tl sol s ps (Ds (ts++k) r [])->At ps (ts++k) r->(σ=false->ps=[])->∃ps',match(motive:=Option (List dE)->Prop) o with
                                                                                                                                                                                         |none=>Inv Tl sol s' ps' False
                                                                                                                                                                                         |some r'=>Inv Tl sol s' ps' (Ds k r' [])/\At ps' k r'/\∃σ',Ok Tl σ' k/\(σ'=false->ps'=[]):=by
 induction hw with
 |nil r s=>exactλσ ps ez hi ha hσ=>⟨ps,hi,ha,σ,ez,hσ⟩
 |fail hl h=>
  rename_i t ts r s;intro σ ps ez hi ha hσ;simp only[aJ]at ez hi;generalize ts++k=L at ez hi;refine⟨ps,hi.turn (λhc=> ?_) False.elim⟩;simp only[Ds]at hc;obtain⟨m,hm,hr⟩:=hc;rcases ez.Ax hl with⟨hw,_⟩|⟨_,ht,rfl⟩
  ·rw[iq.wide t r m hw hm]at h;cases h
  ·simp only[Ds]at hr;subst hr;rw[iq.tail t r ht hm]at h;cases h
 |leaf hl h hw ih=>
  rename_i t ts r r' s s' o;intro σ ps ez hi ha hσ;simp only[aJ]at ez hi ha;generalize ts++k=L at ez hi ha ih;have hD:=iq.sound t r r' h hl;rcases ez.Ax hl with⟨hwd,RX⟩|⟨_,ht,rfl⟩
  ·refine ih σ ps RX (hi.turn ?_ ?_) (ha.leaf hl hwd hD) hσ
   ·intro hc;simp only[Ds]at hc;obtain⟨m,hm,hr⟩:=hc;have:=iq.wide t r m hwd hm;rw[h]at this;cases this;exact hr
   ·intro hc;simp only[Ds];exact⟨r',hD,hc⟩
  ·refine ih σ ps (.nil σ) (hi.turn ?_ ?_) (.inl rfl) hσ
   ·intro hc;simp only[Ds]at hc⊢;obtain⟨m,hm,rfl⟩:=hc;have:=iq.tail t r ht hm;rw[h]at this;cases this;rfl
   ·intro hc;simp only[Ds];exact⟨r',hD,hc⟩
 |stay hd hw ih=>
  rename_i sep nx ts r s s' o;intro σ ps ez hi ha hσ;simp only[aJ]at ez hi ha;obtain⟨hs,hn⟩:=ez.rv
  ·refine ih true ps hs (hi.turn ?_ ?_) ha.star (λh=>by cases h)
   ·intro hc;simp only[Ds]at hc;obtain⟨m,hm,hr⟩:=hc;by_cases hmr:m=r
    ·subst hmr;exact hr
    ·exact(hd m hm hmr (hn m hr)).elim
   ·intro hc;simp only[Ds];exact⟨r,mL r,hc⟩
 |store f hf h1 eR hd hw ih=>
  rename_i sep nx ts r r1 s s' o;intro σ ps ez hi ha hσ;simp only[aJ]at ez hi ha;obtain⟨hs,hn⟩:=ez.rv
  ·let q:Pt:=⟨sep,nx,ts++k,r,r1⟩
   let BQ:=if sep=[]then ps.take f else ps
   have xc:Ds (.star sep nx false::(ts++k)) r []->Ds (ts++k) r []\/Cc q.ck:=by
    intro hc;simp only[Ds]at hc;obtain⟨m,hm,hr⟩:=hc;by_cases hmr:m=r
    ·subst hmr;exact .inl hr
    ·right;have:=hd m hm hmr (hn m hr);simp only[Cc,Pt.ck,Pt.st,q,Ds];exact⟨m,(FH hm this (gL _ _ _ h1)).2,hr⟩
   have Hu:∀p∈ps,Cc p.ck->sep=[]->Ds (ts++k) r []\/Cc q.ck\/P1 s:=by
    intro p hp hc he;subst he;rcases hi.covers ha hp hc with h|h
    ·exact(xc h).imp_right .inl
    ·exact .inr (.inr h)
   have EA:BQ.Sublist ps:=by
    simp only[BQ];split
    ·exact List.take_sublist _ _
    ·exact List.Sublist.refl _
   have kt:∀p∈BQ,p∈ps:=λp hp=>EA.subset hp;have hq:Cc q.ck->Ds (.star sep nx false::(ts++k)) r []:=by intro hc;simp only[Cc,Pt.ck,Pt.st,q,Ds]at hc;obtain⟨m,hm,hr⟩:=hc;simp only[Ds];refine⟨m,?_,hr⟩;simp only[D]at h1 hm⊢;obtain⟨u,rfl,hu⟩:=h1;obtain⟨v,rfl,hv⟩:=hm;exact⟨u++v,by simp,λc hc=>(ar.1 hc).elim (hu c) (hv c)⟩
   have hqold:Ds (ts++k) r []->Ds (.star sep nx false::(ts++k)) r []:=λh=>by simp only[Ds];exact⟨r,mL r,h⟩
   have pG:∀p∈ps,Cc p.ck->(∃p'∈BQ++[q],Cc p'.ck)\/Ds (ts++k) r []\/P1 s:=by
    intro p hp hc;by_cases he:sep=[]
    ·rcases Hu p hp hc he with h|h|h
     ·exact .inr (.inl h)
     ·exact .inl ⟨q,by simp,h⟩
     ·exact .inr (.inr h)
    ·left;exact⟨p,by simp only[BQ,if_neg he];simp[hp],hc⟩
   have Sf:Inv Tl sol {s with stars:=(if sep=[]then s.stars.take f else s.stars)++[(.star sep nx false::(ts++k),r1)]} (BQ++[q]) (Ds (ts++k) r []):=by
    constructor
    ·simp only[cM,cX,cH];have:(if sep=[]then s.stars.take f else s.stars)=BQ.map Pt.ck:=by
      simp only[BQ,hi.stars];split
      ·rw[List.map_take]
      ·rfl
     rw[this];rfl
    ·intro p hp;rcases ar.1 hp with hp|hp
     ·exact hi.ext p (kt p hp)
     ·simp at hp;subst hp;exact h1
    ·intro a p b Ft hx;rcases List.eq_nil_or_concat b with rfl|⟨b',z,rfl⟩
     ·
      have:p=q:=(by have:=congrArg List.getLast? Ft;simpa using this.symm);subst this;exact .inr (.inl hx)
     ·have hz:z=q/\BQ=a++p::b':=by
       have h1:BQ++[q]=(a++p::b')++[z]:=(by rw[Ft];simp[dj]);have:=List.append_inj_right' h1 (by simp);have h2:=List.append_inj_left' h1 (by simp);simp at this;exact⟨this.symm,h2⟩
      obtain⟨rfl,J7⟩:=hz;have hold:∃b2,ps=a++p::b2/\(∀x∈b',x∈b2)/\(sep≠[]->b2=b'):=by
       by_cases he:sep=[]
       ·have hx:ps=BQ++ps.drop f:=(by simp only[BQ,if_pos he];exact(bN f ps).symm);exact⟨b'++ps.drop f,by rw[J7]at hx;simpa using hx,λx hx=>by simp[hx],λh=>(h he).elim⟩
       ·exact⟨b',by simp only[BQ,if_neg he]at J7;exact J7,λx hx=>hx,λ_=>rfl⟩
      obtain⟨b2,eT,_,hb2e⟩:=hold;rcases hi.chain a p b2 eT hx with⟨x,hxb,hxc⟩|h|h
      ·by_cases he:sep=[]
       ·rcases Hu x (by rw[eT];simp[hxb]) hxc he with h|h|h
        ·exact .inr (.inl h)
        ·exact .inl ⟨q,by simp[dj],h⟩
        ·exact .inr (.inr h)
       ·rw[hb2e he]at hxb;exact .inl ⟨x,by simp[dj,hxb],hxc⟩
      ·rcases xc h with h|h
       ·exact .inr (.inl h)
       ·exact .inl ⟨q,by simp[dj],h⟩
      ·exact .inr (.inr h)
    ·rw[List.pairwise_append];refine⟨hi.rel.sublist EA,by simp,?_⟩;intro p hp x hx;simp at hx;subst hx;rcases ha with hc|ha
     ·simp[eG,T.calm]at hc
     ·obtain⟨L0,y,fY,qQ,hy,hor⟩:=ha p (kt p hp);refine⟨L0,y,fY,qQ,hy,?_⟩;simp only[Pt.st,q];have hyr:D (.star sep nx false) y r:=by
       rcases hor with rfl|⟨yq,Lz,nO,he,hd'⟩
       ·exact mL _
       ·simp only[bq,T.star.injEq]at he;obtain⟨⟨rfl,rfl,_⟩,_⟩:=he;exact hd'
      simp only[D]at hyr h1⊢;obtain⟨u,rfl,hu⟩:=hyr;obtain⟨v,rfl,hv⟩:=h1;exact⟨u++v,by simp,λc hc=>(ar.1 hc).elim (hu c) (hv c)⟩
    ·intro hsol;rcases hi.alive hsol with⟨p,hp,hc⟩|h|h
     ·exact pG p hp hc
     ·rcases xc h with h|h
      ·exact .inr (.inl h)
      ·exact .inl ⟨q,by simp,h⟩
     ·exact .inr (.inr h)
    ·exactλh=>hi.sound (hqold h)
    ·intro p hp hc;rcases ar.1 hp with hp|hp
     ·exact hi.DX p (kt p hp) hc
     ·simp at hp;subst hp;exact hi.sound (hq hc)
    ·exact hi.zO
    ·intro p hp;rcases ar.1 hp with hp|hp
     ·exact hi.iK p (kt p hp)
     ·simp at hp;subst hp;exact .star hs hn
    ·exact hi.Uo
   have hatn:At (BQ++[q]) (ts++k) r:=by
    have h2:=ha.star;rcases h2 with h2|h2
    ·exact .inl h2
    ·right;intro p hp;rcases ar.1 hp with hp|hp
     ·exact h2 p (kt p hp)
     ·simp at hp;subst hp;exact⟨[],r,rfl,by simp,by simp[Ds,q],.inl rfl⟩
   exact ih true (BQ++[q]) hs Sf hatn (λh=>by cases h)
 |dH hw ih=>
  rename_i l ts r s s' o;intro σ ps ez hi ha hσ;simp only[aJ]at ez hi ha;obtain⟨hc,RX⟩:=ez.Dl;rw[aD]at ih;refine ih σ ps RX (hi.turn ?_ ?_) (At.of hσ λh=> ?_) hσ
  ·intro hc;simp only[Ds,D]at hc;rw[jy];exact hc
  ·intro hc;rw[jy]at hc;simp only[Ds,D];exact hc
  ·have:=hc h;simp only[eG,T.calm,al]at this;rw[qy,this.1,this.2];rfl
 |last hw ih=>
  rename_i t ts r s s' o;intro σ ps ez hi ha hσ;simp only[aJ]at ez hi ha ih;obtain⟨hc,hs⟩:=ez.zg;refine ih σ ps (hs t (by simp)) (hi.turn ?_ ?_) (At.of hσ λh=> ?_) hσ
  ·intro h;simp only[Ds,D,Da,or_false]at h⊢;exact h
  ·intro h;simp only[Ds,D,Da,or_false]at h⊢;exact h
  ·have:=hc h;simp only[eG,T.calm,cG]at this⊢;exact this
 |more hw ih=>
  rename_i t u l ts r s s' o;intro σ ps ez hi ha hσ;simp only[aJ]at ez hi ha ih;obtain⟨hc,hs⟩:=ez.zg;have xc:Ds (.alt (t::u::l)::(ts++k)) r []↔Ds (t::(ts++k)) r []\/Ds (.alt (u::l)::(ts++k)) r []:=by
   simp only[Ds,D,Da];constructor
   ·rintro⟨m,h|h,h'⟩
    ·exact .inl ⟨m,h,h'⟩
    ·exact .inr ⟨m,h,h'⟩
   ·rintro(⟨m,h,h'⟩|⟨m,h,h'⟩)
    ·exact⟨m,.inl h,h'⟩
    ·exact⟨m,.inr h,h'⟩
  have RH:∀{s1:qX},s1.stack=s.stack++[(.alt (u::l)::(ts++k),r)]->(P1 s1↔P1 s\/Ds (.alt (u::l)::(ts++k)) r []):=by
   intro s1 h1;simp only[P1,h1,ar,az,ba,or_false];constructor
   ·rintro⟨c,h|rfl,h'⟩
    ·exact .inl ⟨c,h,h'⟩
    ·exact .inr h'
   ·rintro(⟨c,h,h'⟩|h)
    ·exact⟨c,.inl h,h'⟩
    ·exact⟨_,.inr rfl,h⟩
  have Fs:∀{s1:qX},s1.stack=s.stack++[(.alt (u::l)::(ts++k),r)]->(Ds (.alt (t::u::l)::(ts++k)) r []\/P1 s->Ds (t::(ts++k)) r []\/P1 s1):=by
   intro s1 h1 h;rcases h with h|h
   ·exact(xc.1 h).imp_right λh=>(RH h1).2 (.inr h)
   ·exact .inr ((RH h1).2 (.inl h))
  refine ih σ ps (hs t (by simp)) ?_ (At.of hσ λh=> ?_) hσ
  ·constructor
   ·exact hi.stars
   ·exact hi.ext
   ·exactλa p b Ft hx=>(hi.chain a p b Ft hx).imp_right (Fs rfl)
   ·exact hi.rel
   ·exactλh=>(hi.alive h).imp_right (Fs rfl)
   ·exactλh=>hi.sound (xc.2 (.inl h))
   ·exact hi.DX
   ·intro h;rcases(RH rfl).1 h with h|h
    ·exact hi.zO h
    ·exact hi.sound (xc.2 (.inr h))
   ·exact hi.iK
   ·intro c mX;rcases ar.1 mX with mX|mX
    ·exact hi.Uo c mX
    ·simp only[az,ba,or_false]at mX;subst mX;refine⟨σ,.alt (λh=> ?_) λv hv=>hs v (bJ _ hv)⟩;have:=hc h;simp only[eG,T.calm,al]at this⊢;exact⟨⟨this.1.2.1,this.1.2.2⟩,this.2⟩
  ·have:=hc h;simp only[eG,T.calm,al]at this⊢;exact⟨this.1.1,this.2⟩
end Go.Proofs.YtfejflhgaphilaaGreatDoor.Gm
