/- Texts as characters and as bytes: what the bytes of a text tell of its characters. The matchers that take what they take at once: each does what its tree says, and writes nothing that was there. How the checkpoints of a walk lie in memory, and what keeps them. -/
import Derived.Test.YtfejflhgaphilaaGreatDoorC02
import GoSem.Core.Utf8
import Derived.Test.YtfejflhgaphilaaGreatDoorC00
import Derived.WalkKit
import Derived.WalkSpells
import Derived.WalkLawsBesides
import Derived.Lib.Hide
import Derived.Deep.AppendLies
set_option linter.all false
set_option maxRecDepth 100000
set_option maxHeartbeats 64000000
open Go.Proofs.Tryz
namespace Go.Proofs.YtfejflhgaphilaaGreatDoor.Gm
def mz (c:Nat):Prop:=c<0xD800\/(0xE000<=c/\c<=0x10FFFF)
def dV (r:List dE):Prop:=∀c∈r,mz c
def e1 (c:Nat):List UInt8:=if c<0x80 then[UInt8.ofNat c]else if c<0x800 then[UInt8.ofNat (0xC0+c /64),UInt8.ofNat (0x80+c%64)]else if c<0x10000 then[UInt8.ofNat (0xE0+c /4096),UInt8.ofNat (0x80+c /64%64),UInt8.ofNat (0x80+c%64)]else[UInt8.ofNat (0xF0+c /262144),UInt8.ofNat (0x80+c /4096%64),UInt8.ofNat (0x80+c /64%64),UInt8.ofNat (0x80+c%64)]
def enc (r:List dE):List UInt8:=r.flatMap e1
def bs (r:List dE):ByteArray:=⟨(enc r).toArray⟩
@[simp] theorem gd:enc []=[]:=rfl
@[simp] theorem et (c:Nat) (r:List dE):enc (c::r)=e1 c++enc r:=by simp[enc]
@[simp] theorem dR (a b:List dE):enc (a++b)=enc a++enc b:=by simp[enc]
theorem wO {c:Nat} (h:mz c):Utf8.valid (c:Int)=true:=by unfold Utf8.valid mz at*;simp only[cC,al,decide_eq_true_eq];omega
theorem DB {c:Nat} (h:mz c):(Utf8.encode (c:Int)).data.toList=e1 c:=by
 unfold Utf8.encode;rw[wO h];simp only[if_true,Int.toNat_natCast,e1];split
 ·rfl
 split
 ·rfl
 split
 ·rfl
 ·rfl
theorem ec (c:Nat):1<=(e1 c).length/\(e1 c).length<=4:=by
 unfold e1;split
 ·simp
 split
 ·simp
 split<;>simp
theorem X' (c:Nat):e1 c≠[]:=by intro h;have:=(ec c).1;rw[h]at this;simp at this
def ru (b:UInt8):Prop:=b.toNat /64=2
theorem ofNat_toNat {k:Nat} (h:k<256):(UInt8.ofNat k).toNat=k:=by simp[UInt8.toNat_ofNat'];omega
theorem zo {c:Nat} (h:mz c):∃b bs,e1 c=b::bs/\¬ru b/\∀x∈bs,ru x:=by
 unfold mz at h;unfold e1 ru;split
 ·refine⟨_,[],rfl,?_,by simp⟩;rw[ofNat_toNat (by omega)];omega
 split
 ·refine⟨_,_,rfl,?_,?_⟩
  ·rw[ofNat_toNat (by omega)];omega
  ·simp only[az,ba,or_false];rintro x rfl;rw[ofNat_toNat (by omega)];omega
 split
 ·refine⟨_,_,rfl,?_,?_⟩
  ·rw[ofNat_toNat (by omega)];omega
  ·simp only[az,ba,or_false];rintro x (rfl|rfl)<;>(rw[ofNat_toNat (by omega)];omega)
 ·refine⟨_,_,rfl,?_,?_⟩
  ·rw[ofNat_toNat (by omega)];omega
  ·simp only[az,ba,or_false];rintro x (rfl|rfl|rfl)<;>(rw[ofNat_toNat (by omega)];omega)
theorem OW (l:List UInt8) (i:Nat) (b:UInt8) (h:l[i]? =some b):(ByteArray.mk l.toArray).get! i=b:=by show(l.toArray)[i]! =b;have hi:i<l.length:=(aB.1 h).1;have:=(aB.1 h).2;simp[hi,this]
theorem nJ {c:Nat} (h:mz c) (l y:List UInt8) (i:Nat) (hl:l.drop i=e1 c++y):Utf8.decode ⟨l.toArray⟩ i=(c,(e1 c).length):=by
 have uI:∀k b,(e1 c++y)[k]? =some b->(ByteArray.mk l.toArray).get! (i+k)=b:=by intro k b hb;apply OW;rw[<-hl,cK]at hb;exact hb
 have gJ:∀k,k<(e1 c).length->i+k<(ByteArray.mk l.toArray).size:=by intro k hk;have h1:=congrArg List.length hl;simp only[bT,aj]at h1;show i+k<l.toArray.size;simp;omega
 unfold mz at h;unfold e1 at uI gJ⊢;split at uI
 ·rename_i h1;have g0:=uI 0 _ rfl;simp only[bL]at g0;simp only[if_pos h1];unfold Utf8.decode;simp only[bL,g0,ofNat_toNat (show c<256 by omega),if_pos h1,aH,aG]
 rename_i h1;split at uI
 ·rename_i h2;simp only[if_neg h1,if_pos h2]at gJ⊢;have g0:=uI 0 _ rfl;have g1:=uI 1 _ rfl;have s1:=gJ 1 (by simp);simp only[bL]at g0;unfold Utf8.decode;simp only[bL,g0,g1,ofNat_toNat (show 0xC0+c /64<256 by omega),ofNat_toNat (show 0x80+c%64<256 by omega)];rw[if_neg (by omega),if_pos (by simp only[al,decide_eq_true_eq,beq_iff_eq];exact⟨by omega,s1,by omega⟩),if_pos (by omega)];have hc:(0xC0+c /64)%32*64+(0x80+c%64)%64=c:=by omega
  rw[hc];rfl
 rename_i h2;split at uI
 ·rename_i h3;simp only[if_neg h1,if_neg h2,if_pos h3]at gJ⊢;have g0:=uI 0 _ rfl;have g1:=uI 1 _ rfl;have g2:=uI 2 _ rfl;have s1:=gJ 1 (by simp);have s2:=gJ 2 (by simp);simp only[bL]at g0;unfold Utf8.decode;simp only[bL,g0,g1,g2,ofNat_toNat (show 0xE0+c /4096<256 by omega),ofNat_toNat (show 0x80+c /64%64<256 by omega),ofNat_toNat (show 0x80+c%64<256 by omega)];have hc:(0xE0+c /4096)%16*4096+(0x80+c /64%64)%64*64+(0x80+c%64)%64=c:=by omega
  rw[if_neg (by omega),if_neg (by simp only[al,decide_eq_true_eq,beq_iff_eq];omega),if_pos (by simp only[al,decide_eq_true_eq,beq_iff_eq];exact⟨⟨by omega,s1,by omega⟩,s2,by omega⟩),hc];rw[if_pos]
  ·rfl
  ·simp only[al,decide_eq_true_eq];exact⟨by omega,wO h⟩
 ·rename_i h3;simp only[if_neg h1,if_neg h2,if_neg h3]at gJ⊢;have g0:=uI 0 _ rfl;have g1:=uI 1 _ rfl;have g2:=uI 2 _ rfl;have g3:=uI 3 _ rfl;have s1:=gJ 1 (by simp);have s2:=gJ 2 (by simp);have s3:=gJ 3 (by simp);simp only[bL]at g0;unfold Utf8.decode;simp only[bL,g0,g1,g2,g3,ofNat_toNat (show 0xF0+c /262144<256 by omega),ofNat_toNat (show 0x80+c /4096%64<256 by omega),ofNat_toNat (show 0x80+c /64%64<256 by omega),ofNat_toNat (show 0x80+c%64<256 by omega)];have hc:(0xF0+c /262144)%8*262144+(0x80+c /4096%64)%64*4096+(0x80+c /64%64)%64*64+(0x80+c%64)%64=c:=by omega
  rw[if_neg (by omega),if_neg (by simp only[al,decide_eq_true_eq,beq_iff_eq];omega),if_neg (by simp only[al,decide_eq_true_eq,beq_iff_eq];omega),if_pos (by simp only[al,decide_eq_true_eq,beq_iff_eq];exact⟨⟨⟨by omega,s1,by omega⟩,s2,by omega⟩,s3,by omega⟩),hc];rw[if_pos]
  ·rfl
  ·simp only[al,decide_eq_true_eq];exact⟨by omega,wO h⟩
theorem PT {c d:Nat} (hc:mz c) (hd:mz d) {x y:List UInt8} (h:e1 c++x=e1 d++y):c=d/\x=y:=by have h1:=nJ hc (e1 c++x) x 0 (by simp);have h2:=nJ hd (e1 c++x) y 0 (by simpa using h);rw[h1]at h2;simp only[aQ]at h2;obtain⟨rfl,_⟩:=h2;exact⟨rfl,List.append_cancel_left h⟩
theorem gf {c:Nat} {r:List dE} (h:dV (c::r)):dV r:=λd hd=>h d (bJ _ hd)
theorem fg {c:Nat} {r:List dE} (h:dV (c::r)):mz c:=h c (cd ..)
theorem eM {a b:List dE} (h:dV b) (hs:a<:+b):dV a:=λc hc=>h c (hs.subset hc)
theorem gS {a b:List dE} (ha:dV a) (hb:dV b):dV (a++b):=λc hc=>(ar.1 hc).elim (ha c) (hb c)
theorem qw:∀{t r:List dE},dV t->dV r->∀{y:List UInt8},enc r=enc t++y->∃u,r=t++u/\y=enc u
 | [],r,_,_,y,h=>⟨r,rfl,by simpa using h.symm⟩
 |c::t,[],_,_,y,h=>by have:=congrArg List.length h;have h1:=(ec c).1;simp at this;omega
 |c::t,d::r,ht,hr,y,h=>by simp only[et,aD]at h;obtain⟨rfl,h2⟩:=PT (fg hr) (fg ht) h;obtain⟨u,rfl,hy⟩:=qw (gf ht) (gf hr) h2;exact⟨u,rfl,hy⟩
theorem MA {a b:List dE} (ha:dV a) (hb:dV b) (h:enc a=enc b):a=b:=by
 obtain⟨u,rfl,hy⟩:=qw hb ha (y:=[]) (by simpa using h);cases u with
 |nil=>simp
 |cons c u=>have:=congrArg List.length hy;have h1:=(ec c).1;simp at this;omega
theorem sA {t:List dE} (ht:dV t) (eK:t≠[]):∀{r:List dE},dV r->∀{x y:List UInt8},enc r=x++(enc t++y)->∃u v,r=u++(t++v)/\x=enc u/\y=enc v
 | [],_,x,y,h=>by obtain⟨c,t',rfl⟩:=List.exists_cons_of_ne_nil eK;have:=congrArg List.length h;have h1:=(ec c).1;simp at this;omega
 |d::r,hr,x,y,h=>by
  by_cases hx:x=[]
  ·subst hx;obtain⟨u,hu,hy⟩:=qw ht hr (y:=y) (by simpa using h);exact⟨[],u,by simpa using hu,by simp,hy⟩
  ·simp only[et]at h;by_cases hl:(e1 d).length<=x.length
   ·
    obtain⟨x',rfl⟩:∃x',x=e1 d++x':=by
     refine⟨x.drop (e1 d).length,?_⟩;have h2:=congrArg (List.take (e1 d).length) h;rw[cR,cP hl]at h2
     conv=>lhs;rw[<-bN (e1 d).length x]
     rw[<-h2]
    rw[aD]at h;obtain⟨u,v,h1,h2,h3⟩:=sA ht eK (gf hr) (List.append_cancel_left h);exact⟨d::u,v,by simp[h1],by simp[h2],h3⟩
   ·
    exfalso;obtain⟨c,t',rfl⟩:=List.exists_cons_of_ne_nil eK;obtain⟨b,bs',hb,XF,_⟩:=zo (fg ht);obtain⟨b2,bs2,eT,_,jh⟩:=zo (fg hr);have Zq:0<x.length:=bG.2 hx;have h2:=congrArg (·[x.length]?) h;simp only[et,hb,aJ,aD]at h2;rw[bV (by omega),aR (by omega)]at h2;simp only[cO,aN]at h2;rw[eT]at h2;have h3:b∈bs2:=by obtain⟨k,hk⟩:∃k,x.length=k+1:=⟨x.length-1,by omega⟩;rw[hk,bH]at h2;exact bm h2
    exact XF (jh b h3)
theorem KI {t r:List dE} (ht:dV t) (hr:dV r) {x:List UInt8} (h:enc r=x++enc t):∃u,r=u++t/\x=enc u:=by
 by_cases eK:t=[]
 ·subst eK;exact⟨r,by simp,by simpa using h.symm⟩
 ·obtain⟨u,v,h1,h2,h3⟩:=sA ht eK hr (x:=x) (y:=[]) (by simpa using h);have:v=[]:=by
   cases v with
   |nil=>rfl
   |cons c v=>have:=congrArg List.length h3;have h4:=(ec c).1;simp at this;omega
  subst this;exact⟨u,by simpa using h1,h2⟩
theorem Aw {t r:List dE} (ht:dV t) (hr:dV r):(enc t).isPrefixOf (enc r)=t.isPrefixOf r:=by
 rw[bO,bE,bE];constructor
 ·rintro⟨y,h⟩;obtain⟨u,rfl,_⟩:=qw ht hr h.symm;exact cB _ _
 ·rintro⟨u,rfl⟩;rw[dR];exact cB _ _
theorem Av {t r:List dE} (ht:dV t) (hr:dV r):(enc t).isSuffixOf (enc r)=t.isSuffixOf r:=by
 rw[bO,cY,cY];constructor
 ·rintro⟨x,h⟩;obtain⟨u,rfl,_⟩:=KI ht hr h.symm;exact List.suffix_append _ _
 ·rintro⟨u,rfl⟩;rw[dR];exact List.suffix_append _ _
theorem eI (r:List dE):r.length<=(enc r).length/\(enc r).length<=4*r.length:=by
 induction r with
 |nil=>simp
 |cons c r ih=>have:=ec c;simp;omega
theorem dQ (r:List dE):(bs r).size=(enc r).length:=by simp[bs,ByteArray.size]
theorem eE (r:List dE):(bs r).data.toList=enc r:=by simp[bs]
end Go.Proofs.YtfejflhgaphilaaGreatDoor.Gm
namespace Go.Proofs.YtfejflhgaphilaaGreatDoor
open Go.RowKit Gm
def gC (r:List dE) (o:Option (List dE)):Value:=match o with
 |none=>.tuple #[.int .i64 0,.bool false]
 |some r'=>.tuple #[.int .i64 ((enc r).length- (enc r').length:Int),.bool true]
theorem qs {t r:List dE} (ht:dV t) (hr:dV r):Lib.hasPrefix (bs r).data.toList (bs t).data.toList=t.isPrefixOf r:=by rw[eE,eE,<-Aw ht hr];rfl
theorem On {t r:List dE} (h:t.isPrefixOf r=true):gC r (res (.text t) r)=.tuple #[.int .i64 ((bs t).size:Int),.bool true]:=by
 simp only[res,M,h,if_true,gC,dQ];have h1:=congrArg (λx=>(enc x).length) (jL h);simp only[dR,aj]at h1;have:((enc r).length:Int)- ((enc (r.drop t.length)).length:Int)=((enc t).length:Int):=by omega
 rw[this]
theorem fK {t:T} {r:List dE} (h:res t r=none):gC r (res t r)=.tuple #[.int .i64 0,.bool false]:=by rw[h];rfl
theorem f249 (b:Nat) (t r:List dE) (c0 c1 c2 c3 c4 c5:Value) (w:World) (ht:dV t) (hr:dV r) (hc:w.cell? ⟨b,0,none⟩=some (.string (bs t))):Calls prog 249 #[.pointer (some ⟨b,0,none⟩),.agg #[c0,c1,c2,c3,c4,c5],.string (bs r)] w λe w'=>e=.returned (gC r (res (.text t) r))/\Below w.heap.size w w':=by
 have eR:=bp w _ hc;by_cases hp:t.isPrefixOf r=true
 ·have hpx:Lib.hasPrefix (bs r).data.toList (bs t).data.toList=true:=(qs ht hr).trans hp;rw[On hp];go_enter func249,ntmps249;go_wp2_with (go_at_call 251;refine(Tryz.strings_HasPrefix _ _ _).mono ?_;rintro e w' ⟨rfl,rfl⟩);go_ret2;exact⟨rfl,(ay _ _).alloc (af _) _⟩
 ·have hpx:Lib.hasPrefix (bs r).data.toList (bs t).data.toList=false:=(qs ht hr).trans (bF.2 hp);rw[fK (by simp only[res,M];rw[if_neg hp])];go_enter func249,ntmps249;go_wp2_with (go_at_call 251;refine(Tryz.strings_HasPrefix _ _ _).mono ?_;rintro e w' ⟨rfl,rfl⟩);go_ret2;exact⟨rfl,(ay _ _).alloc (af _) _⟩
theorem iC {c:Nat} {r:List dE} (h:mz c):Lib.decodeGo (bs (c::r))=(c,(e1 c).length):=by
 have eK:¬(bs (c::r)).size=0:=by rw[dQ,et,aj];have:=(ec c).1;omega
 unfold Lib.decodeGo;rw[if_neg eK];exact nJ h _ (enc r) 0 (by simp)
theorem uX:Lib.decodeGo (bs [])=(65533,0):=rfl
def ek (w:World) (v:Value) (rs:List dE):Prop:=(v=.slice none 0 0/\rs=[])\/∃b o cap,v=.slice (some ⟨b,o,none⟩) rs.length cap/\rs.length<=cap/\cap<=maxLen/\b<w.heap.size/\∀i (h:i<rs.length),w.cell? ⟨b,o+i,none⟩=some (.int .i32 (rs[i]:Nat))
theorem ek.keep {w w':World} {v:Value} {rs:List dE} (h:ek w v rs) (hb:∀b,v.ownBlock=some b->b<w'.heap.size/\w'.heap[b]? =w.heap[b]?):ek w' v rs:=by
 rcases h with h|⟨b,o,cap,rfl,h1,h2,h3,h4⟩
 ·exact .inl h
 ·obtain⟨h5,h6⟩:=hb b rfl;exact .inr ⟨b,o,cap,rfl,h1,h2,h5,λi hi=>(aF (w:=w) h6).trans (h4 i hi)⟩
def JM (rs:List dE) (c:dE):Int:=if c∈rs then(rs.idxOf c:Int)else-1
theorem sg {a b:Int} (h:a=b):Ending.returned (.int .i64 a)=.returned (.int .i64 b):=by rw[h]
theorem Va {rs:List dE} {c:dE} {k:Nat} (hk:k<rs.length) (hb:∀j (h:j<rs.length),j<k->rs[j]≠c) (he:rs[k]=c):JM rs c=k:=by
 have hm:c∈rs:=he▸List.getElem_mem hk;simp only[JM,if_pos hm];congr 1;have h1:rs.idxOf c<rs.length:=List.idxOf_lt_length_of_mem hm;have h2:rs[rs.idxOf c]=c:=List.getElem_idxOf h1;rcases Nat.lt_trichotomy (rs.idxOf c) k with h|h|h
 ·exact absurd h2 (hb _ h1 h)
 ·exact h
 ·exfalso;have:=List.not_of_lt_findIdx (p:=(·==c)) (xs:=rs) (i:=k) h;simp[he]at this
theorem Od {rs:List dE} {c:dE} (hb:∀j (h:j<rs.length),rs[j]≠c):JM rs c= -1:=by simp only[JM];rw[if_neg];intro hm;obtain⟨j,hj,he⟩:=List.getElem_of_mem hm;exact hb j hj he
theorem U' {rs:List dE} {c:dE}:decide (0<=JM rs c)=rs.contains c:=by simp only[JM];by_cases h:c∈rs<;>simp[h]
theorem f186 (rs:List dE) (c:Nat) (v:Value) (w:World) (h:ek w v rs) (hl:rs.length<=100000):Calls prog 186 #[v,.int .i32 (c:Int)] w λe w'=>e=.returned (.int .i64 (JM rs c))/\w'=w:=by
 rcases h with⟨rfl,rfl⟩|⟨b,o,cap,rfl,nj,hmax,_,eB⟩
 ·go_enter func186,ntmps186;go_wp2
  go_loop [8] (λi=>i=.int .i64 0) (λ_=>0)
  case atStart=>rfl
  case round=>subst hrel;go_wp2;go_ret;exact⟨rfl,rfl⟩
 ·have H:=aa eB;clear eB;unfold maxLen at hmax;go_enter func186,ntmps186;go_wp2
  go_loop [8] (λi=>∃k:Nat,k<=rs.length/\i=.int .i64 k/\∀j (h:j<rs.length),j<k->rs[j]≠c) (λi=>rs.length- (intOf i).toNat)
  case atStart=>exact⟨0,by omega,rfl,λj _ h=>by omega⟩
  case round=>
   obtain⟨k,hk,rfl,hb⟩:=hrel;have HB:=aa hb;clear hb;by_cases eR:k<rs.length
   ·have uF:=H.out k eR;by_cases he:rs[k]=c
    ·have heq:((c:Int)==((rs[k]:Nat):Int))=true:=(by rw[he];exact beq_self_eq_true _);go_wp2;go_ret;exact⟨sg (Va eR HB.out he).symm,rfl⟩
    ·have heq:((c:Int)==((rs[k]:Nat):Int))=false:=beq_eq_false_iff_ne.2 (λe=>he (by exact_mod_cast e.symm));have HE:=aa he;clear he;go_wp2;go_round
     case rel=>exact⟨k+1,by omega,by go_num,λj hj hjk=>if e:j<k then HB.out j hj e else by have:j=k:=by omega
                                                                                           subst this;exact HE.out⟩
     case measure=>simp[intOf];omega
   ·go_wp2;go_ret;exact⟨sg (Od λj hj=>HB.out j hj (by omega)).symm,rfl⟩
theorem f158 (rs:List dE) (c:Nat) (v:Value) (w:World) (h:ek w v rs) (hl:rs.length<=100000):Calls prog 158 #[v,.int .i32 (c:Int)] w λe w'=>e=.returned (.bool (rs.contains c))/\w'=w:=by rw[<-U'];go_enter func158,ntmps158;go_wp2_with (go_at_call 186;refine(f186 _ _ _ _ h hl).mono ?_;rintro e w' ⟨rfl,rfl⟩);go_ret;exact⟨rfl,rfl⟩
structure fE (w:World):Prop where
 qN:Lib.Utf8Tabs 1 2 w
 size:2<w.heap.size
theorem fE.keep {w w':World} (h:fE w) (hs:w.heap.size<=w'.heap.size) (h1:w'.heap[1]? =w.heap[1]?) (h2:w'.heap[2]? =w.heap[2]?):fE w':=by
 refine⟨⟨λc hc=> ?_,λi hi=> ?_⟩,ai h.size hs⟩
 ·exact(aF (w:=w) (a:=⟨1,c,none⟩) h1).trans (h.qN.1 c hc)
 ·have:=h.qN.2 i hi;exact⟨(aF (w:=w) (a:=⟨2,2*i,none⟩) h2).trans this.1,(aF (w:=w) (a:=⟨2,2*i+1,none⟩) h2).trans this.2⟩
theorem fE.below {w w':World} {B:Nat} (h:fE w) (hb:Below B w w') (hB:w.heap.size<=B):fE w':=h.keep hb.size (hb.block 1 (by have:=h.size;omega)) (hb.block 2 (by have:=h.size;omega))
theorem fE.alloc {w:World} (h:fE w) (o:Obj):fE (w.alloc o):=h.below ((ay _ _).alloc (af _) o) (af _)
theorem ek.below {w w':World} {B:Nat} {v:Value} {rs:List dE} (h:ek w v rs) (hb:Below B w w') (hB:w.heap.size<=B):ek w' v rs:=by
 rcases h with h|⟨b,o,cap,rfl,h1,h2,h3,h4⟩
 ·exact .inl h
 ·exact .inr ⟨b,o,cap,rfl,h1,h2,by have:=hb.size;omega,λi hi=>(hb.cell (p:=⟨b,o+i,none⟩) (by simp;omega)).trans (h4 i hi)⟩
theorem ek.alloc {w:World} {v:Value} {rs:List dE} (h:ek w v rs) (o:Obj):ek (w.alloc o) v rs:=h.below ((ay _ _).alloc (af _) o) (af _)
theorem dY {w w':World} {B b o:Nat} {v:Value} (h:w.cell? ⟨b,o,none⟩=some v) (hb:Below B w w') (hB:b<B):w'.cell? ⟨b,o,none⟩=some v:=(hb.cell (p:=⟨b,o,none⟩) hB).trans h
theorem dJ {w:World} {b i:Nat} {v:Value} (h:w.cell? ⟨b,i,none⟩=some v) (o:Obj):(w.alloc o).cell? ⟨b,i,none⟩=some v:=(World.cell?_alloc_lt w o ⟨b,i,none⟩ (bp w _ h)).trans h
theorem rp {c:Nat} {r:List dE} {t:T} (h:res t (c::r)=some r):gC (c::r) (res t (c::r))=.tuple #[.int .i64 ((e1 c).length:Int),.bool true]:=by
 rw[h];simp only[gC,et,aj];have:(((e1 c).length+(enc r).length:Nat):Int)- ((enc r).length:Int)=((e1 c).length:Int):=by omega
 rw[this]
theorem f247 (b:Nat) (sep r:List dE) (vs c0 c1 c2 c3 c4 c5:Value) (w:World) (hT:fE w) (hl:sep.length<=100000) (hr:dV r) (hc:w.cell? ⟨b,0,none⟩=some vs) (hs:ek w vs sep):Calls prog 247 #[.pointer (some ⟨b,0,none⟩),.agg #[c0,c1,c2,c3,c4,c5],.string (bs r)] w λe w'=>e=.returned (gC r (res (.char sep) r))/\Below w.heap.size w w':=by
 have eR:=bp w _ hc;cases r with
 |nil=>rw[fK rfl];have h0:(((bs []).size:Int)==0)=true:=rfl;go_enter func247,ntmps247;go_wp2_with fail;go_ret2;exact⟨rfl,(ay _ _).alloc (af _) _⟩
 |cons c r=>
  have hd:=iC (r:=r) (fg hr);have h0:(((bs (c::r)).size:Int)==0)=false:=by rw[beq_eq_false_iff_ne,dQ,et,aj];have:=(ec c).1;omega
  by_cases hm:sep.contains c=true
  ·rw[fK (by simp only[res,M,hm,if_true])];go_enter func247,ntmps247;go_wp2_with fail;refine(Tryz.utf8_DecodeRuneInString _ _ (hT.alloc _).qN).mono ?_;rintro e w1 ⟨rfl,eu⟩;rw[hd];have j7:=dY (dJ hc _) eu (by rw[ab];omega);have kR:=(hs.alloc _).below eu (af _);go_wp2_with fail;refine(f158 sep c _ _ kR hl).mono ?_;rintro e w2 ⟨rfl,rfl⟩;rw[hm];go_wp2_with fail;go_ret2;exact⟨rfl,((ay _ _).alloc (af _) _).trans (eu.mono (by simp))⟩
  ·rw[rp (by simp only[res,M];rw[if_neg hm])];go_enter func247,ntmps247;go_wp2_with fail;refine(Tryz.utf8_DecodeRuneInString _ _ (hT.alloc _).qN).mono ?_;rintro e w1 ⟨rfl,eu⟩;rw[hd];have j7:=dY (dJ hc _) eu (by rw[ab];omega);have kR:=(hs.alloc _).below eu (af _);go_wp2_with fail;refine(f158 sep c _ _ kR hl).mono ?_;rintro e w2 ⟨rfl,rfl⟩;rw[bF.2 hm];go_wp2_with fail;go_ret2;exact⟨rfl,((ay _ _).alloc (af _) _).trans (eu.mono (by simp))⟩
def eF (w:World) (v:Value) (p:List Nat):Prop:=∃a cap,v=.slice a p.length cap/\p.length<=cap/\cap<=maxLen/\(p≠[]->∃b o,a=some ⟨b,o,none⟩/\(∀i (h:i<p.length),w.cell? ⟨b,o+i,none⟩=some (.int .i64 (p[i]:Nat)))/\∃cs,w.heap[b]? =some (.cells cs 3 (0,0)))
structure SV where
 vs:Value
 vk:Value
 va:Value
def BT:Value->Nat
 |.slice _ n _=>n
 |_=>0
def Wh:Value->Nat
 |.slice _ _ c=>c
 |_=>0
def PL (sp:Nat) (S:SV) (v:Value):Prop:=∀b o n cap,v=.slice (some ⟨b,o,none⟩) n cap->0<n->b≠sp/\S.vs.ownBlock≠some b/\S.vk.ownBlock≠some b/\(S.va.ownBlock=some b->o+n<=BT S.va)
def off (txt rem:List dE):Int:=((enc txt).length:Int)- ((enc rem).length:Int)
def ia (txt:List dE):List Ck->List Value->List Value
 |c::cs,v::vs=>.int .i64 (off txt c.rem)::v::ia txt cs vs
 |_,_=>[]
theorem oX (txt:List dE):∀(cs:List Ck) (vs:List Value) (c:Ck) (v:Value),vs.length=cs.length->ia txt (cs++[c]) (vs++[v])=ia txt cs vs++[.int .i64 (off txt c.rem),v]
 | [],[],c,v,_=>rfl
 | [],_::_,_,_,h=>by simp at h
 |_::_,[],_,_,h=>by simp at h
 |d::cs,u::vs,c,v,h=>by have:=oX txt cs vs c v (by simpa using h);simp only[aJ,ia,this]
theorem yd (txt:List dE):∀(cs:List Ck) (vs:List Value) (n:Nat),vs.length=cs.length->ia txt (cs.take n) (vs.take n)=(ia txt cs vs).take (n*2)
 | [],[],n,_=>by simp[ia]
 | [],_::_,_,h=>by simp at h
 |_::_,[],_,h=>by simp at h
 |d::cs,u::vs,0,h=>by simp[ia]
 |d::cs,u::vs,n+1,h=>by have:=yd txt cs vs n (by simpa using h);rw[show(n+1)*2=n*2+1+1 from by omega];simp only[de,ia,this]
def oq (w:World) (B sp:Nat) (S:SV) (txt:List dE) (v:Value) (ld:List Ck):Prop:=∃qH:List Value,qH.length=ld.length/\w.ownsRow B 162 2 v ld.length (ia txt ld qH)/\∀(i:Nat) (c:Ck) (pv:Value),ld[i]? =some c->qH[i]? =some pv->eF w pv c.path/\PL sp S pv
def vx (w:World) (B:Nat) (va:Value):Prop:=va=.slice none 0 0\/∃b u cap cs,va=.slice (some ⟨b,0,none⟩) u cap/\B<=b/\w.heap[b]? =some (.cells cs 3 (0,0))/\cs.size=cap/\u<=cap
structure Yu (sp:Nat) (S:SV):Prop where
 s:∀b,S.vs.ownBlock=some b->b≠sp/\S.vk.ownBlock≠some b/\S.va.ownBlock≠some b
 k:∀b,S.vk.ownBlock=some b->b≠sp/\S.va.ownBlock≠some b
 a:∀b,S.va.ownBlock=some b->b≠sp
structure eY (w:World) (B sp:Nat) (S:SV) (txt:List dE) (tot:Nat) (st:St):Prop where
 gu:w.heap[sp]? =some (.cells #[S.vs,S.vk,S.va] 165 (0,0))
 base:B<=sp
 stars:oq w B sp S txt S.vs st.stars
 stack:oq w B sp S txt S.vk st.stack
 arena:vx w B S.va
 apart:Yu sp S
 nY:st.stars.length<=tot
 nstack:st.stack.length<=tot
 narena:BT S.va<=tot
 ncap:Wh S.va<=2*tot+32
structure Fr (w w':World) (sp:Nat) (S S':SV):Prop where
 os:w'.os=w.os
 tape:w'.tape=w.tape
 output:w'.output=w.output
 size:w.heap.size<=w'.heap.size
 other:∀b,b<w.heap.size->b≠sp->S.vs.ownBlock≠some b->S.vk.ownBlock≠some b->S.va.ownBlock≠some b->w'.heap[b]? =w.heap[b]?
 arena:∀b i,S.va.ownBlock=some b->i<BT S.va->w'.cell? ⟨b,i,none⟩=w.cell? ⟨b,i,none⟩
 kind:∀b cs,S.va.ownBlock=some b->w.heap[b]? =some (.cells cs 3 (0,0))->∃tN,w'.heap[b]? =some (.cells tN 3 (0,0))
 rM:∀b,S'.vs.ownBlock=some b->S.vs.ownBlock=some b\/w.heap.size<=b
 rN:∀b,S'.vk.ownBlock=some b->S.vk.ownBlock=some b\/w.heap.size<=b
 tM:∀b,S'.va.ownBlock=some b->(S.va.ownBlock=some b/\BT S.va<=BT S'.va)\/w.heap.size<=b
theorem Fr.refl (w:World) (sp:Nat) (S:SV):Fr w w sp S S:=⟨rfl,rfl,rfl,af _,λ_ _ _ _ _ _=>rfl,λ_ _ _ _=>rfl,λ_ cs _ h=>⟨cs,h⟩,λ_ h=>.inl h,λ_ h=>.inl h,λ_ h=>.inl ⟨h,af _⟩⟩
theorem vx.own {w:World} {B:Nat} {va:Value} (h:vx w B va):∀b,va.ownBlock=some b->b<w.heap.size/\B<=b:=by
 intro b hb;rcases h with rfl|⟨b',u,cap,cs,rfl,h1,h2,_⟩
 ·simp[Value.ownBlock]at hb
 ·simp[Value.ownBlock]at hb;subst hb;exact⟨(bc.1 h2).1,h1⟩
theorem eY.lt {w:World} {B sp:Nat} {S:SV} {txt:List dE} {tot:Nat} {st:St} (h:eY w B sp S txt tot st):sp<w.heap.size/\(∀b,S.vs.ownBlock=some b->b<w.heap.size/\B<=b)/\(∀b,S.vk.ownBlock=some b->b<w.heap.size/\B<=b)/\(∀b,S.va.ownBlock=some b->b<w.heap.size/\B<=b):=by
 refine⟨(bc.1 h.gu).1,λb hb=> ?_,λb hb=> ?_,h.arena.own⟩
 ·obtain⟨qH,_,ho,_⟩:=h.stars;have:=ho.lt b hb;exact⟨this.2,this.1⟩
 ·obtain⟨qH,_,ho,_⟩:=h.stack;have:=ho.lt b hb;exact⟨this.2,this.1⟩
theorem eF.fr {w w':World} {sp:Nat} {S S':SV} {v:Value} {p:List Nat} (h:eF w v p) (hp:PL sp S v) (hf:Fr w w' sp S S'):eF w' v p/\PL sp S' v:=by
 obtain⟨a,cap,rfl,h1,h2,h3⟩:=h;have eR:∀b o,a=some ⟨b,o,none⟩->p≠[]->b<w.heap.size:=by rintro b o rfl eK;obtain⟨b',o',e,hc,_⟩:=h3 eK;simp only[ae,aY,and_true]at e;obtain⟨rfl,rfl⟩:=e;exact bp w _ (hc 0 (bG.2 eK))
 constructor
 ·refine⟨a,cap,rfl,h1,h2,λeK=> ?_⟩;obtain⟨b,o,rfl,hc,cs,hk⟩:=h3 eK;obtain⟨g1,g2,g3,g4⟩:=hp b o p.length cap rfl (bG.2 eK);refine⟨b,o,rfl,λi hi=> ?_,?_⟩
  ·by_cases ha:S.va.ownBlock=some b
   ·rw[hf.arena b (o+i) ha (by have:=g4 ha;omega)];exact hc i hi
   ·exact(aF (w:=w) (a:=⟨b,o+i,none⟩) (hf.other b (eR b o rfl eK) g1 g2 g3 ha)).trans (hc i hi)
  ·by_cases ha:S.va.ownBlock=some b
   ·exact hf.kind b cs ha hk
   ·exact⟨cs,(hf.other b (eR b o rfl eK) g1 g2 g3 ha).trans hk⟩
 ·intro b o n oY e hn;simp only[au]at e;obtain⟨rfl,rfl,rfl⟩:=e;have eK:p≠[]:=bG.1 hn;have hb:=eR b o rfl eK;obtain⟨g1,g2,g3,g4⟩:=hp b o p.length cap rfl hn;refine⟨g1,λe=> ?_,λe=> ?_,λe=> ?_⟩
  ·rcases hf.rM b e with e|e
   ·exact g2 e
   ·omega
  ·rcases hf.rN b e with e|e
   ·exact g3 e
   ·omega
  ·rcases hf.tM b e with⟨e,e2⟩|e
   ·have:=g4 e;omega
   ·omega
theorem Fr.trans {w w1 w2:World} {sp:Nat} {S S1 S2:SV} (h:Fr w w1 sp S S1) (k:Fr w1 w2 sp S1 S2) (ha:∀b,S.va.ownBlock=some b->b<w.heap.size) (hap:Yu sp S):Fr w w2 sp S S2:=by
 have hs:=h.size;refine⟨k.os.trans h.os,k.tape.trans h.tape,k.output.trans h.output,ao hs k.size,λb hb h1 h2 h3 h4=> ?_,λb i hb hi=> ?_,λb cs hb hk=> ?_,λb hb=> ?_,λb hb=> ?_,λb hb=> ?_⟩
 ·rw[k.other b (by omega) h1 (λe=> ?_) (λe=> ?_) (λe=> ?_)]
  ·exact h.other b hb h1 h2 h3 h4
  ·rcases h.rM b e with e|e
   ·exact h2 e
   ·omega
  ·rcases h.rN b e with e|e
   ·exact h3 e
   ·omega
  ·rcases h.tM b e with⟨e,_⟩|e
   ·exact h4 e
   ·omega
 ·by_cases e:S1.va.ownBlock=some b
  ·rcases h.tM b e with⟨_,e2⟩|e2
   ·rw[k.arena b i e (by omega)];exact h.arena b i hb hi
   ·have:=ha b hb;omega
  ·have zm:=ha b hb;have h1:=aF (w:=w1) (a:=⟨b,i,none⟩) (k.other b (by omega) (hap.a b hb) (λe'=> ?_) (λe'=> ?_) e)
   ·exact h1.trans (h.arena b i hb hi)
   ·rcases h.rM b e' with e'|e'
    ·exact(hap.s b e').2.2 hb
    ·omega
   ·rcases h.rN b e' with e'|e'
    ·exact(hap.k b e').2 hb
    ·omega
 ·obtain⟨cs1,uF⟩:=h.kind b cs hb hk;by_cases e:S1.va.ownBlock=some b
  ·exact k.kind b cs1 e uF
  ·have zm:=ha b hb;refine⟨cs1,(k.other b (by omega) (hap.a b hb) (λe'=> ?_) (λe'=> ?_) e).trans uF⟩
   ·rcases h.rM b e' with e'|e'
    ·exact(hap.s b e').2.2 hb
    ·omega
   ·rcases h.rN b e' with e'|e'
    ·exact(hap.k b e').2 hb
    ·omega
 ·rcases k.rM b hb with e|e
  ·exact h.rM b e
  ·right;omega
 ·rcases k.rN b hb with e|e
  ·exact h.rN b e
  ·right;omega
 ·rcases k.tM b hb with⟨e,e2⟩|e
  ·rcases h.tM b e with⟨e3,e4⟩|e3
   ·exact .inl ⟨e3,by omega⟩
   ·exact .inr e3
  ·right;omega
theorem eY.trans {w w1 w2:World} {B sp tot:Nat} {S S1 S2:SV} {txt:List dE} {st:St} (hs:eY w B sp S txt tot st) (h:Fr w w1 sp S S1) (k:Fr w1 w2 sp S1 S2):Fr w w2 sp S S2:=h.trans k (λb hb=>(hs.lt.2.2.2 b hb).1) hs.apart
theorem Fr.ft {w w':World} (sp:Nat) (S:SV) (h:Below w.heap.size w w') (ha:∀b,S.va.ownBlock=some b->b<w.heap.size):Fr w w' sp S S:=⟨h.os,h.tape,h.output,h.size,λb hb _ _ _ _=>h.block b hb,λb i hb _=>h.cell (p:=⟨b,i,none⟩) (ha b hb),λb cs hb hk=>⟨cs,(h.block b (ha b hb)).trans hk⟩,λ_ h=>.inl h,λ_ h=>.inl h,λ_ h=>.inl ⟨h,af _⟩⟩
theorem eY.below {w w':World} {B sp tot:Nat} {S:SV} {txt:List dE} {st:St} (hs:eY w B sp S txt tot st) (h:Below w.heap.size w w'):Fr w w' sp S S:=Fr.ft sp S h (λb hb=>(hs.lt.2.2.2 b hb).1)
theorem oq.keep {w w':World} {B sp:Nat} {S S':SV} {txt:List dE} {v:Value} {ld:List Ck} (h:oq w B sp S txt v ld) (hf:Fr w w' sp S S') (hv:∀b,v.ownBlock=some b->w'.heap[b]? =w.heap[b]?):oq w' B sp S' txt v ld:=by
 obtain⟨qH,h1,h2,h3⟩:=h;refine⟨qH,h1,⟨h2.1,?_⟩,λi c pv hc qR=> ?_⟩
 ·rcases h2.2 with h4|⟨g,cap,cur,rfl,h5,h6,h7⟩
  ·exact .inl h4
  ·exact .inr ⟨g,cap,cur,rfl,h5,(hv g rfl).trans h6,h7⟩
 ·obtain⟨h4,h5⟩:=h3 i c pv hc qR;exact h4.fr h5 hf
theorem eY.keep {w w':World} {B sp tot:Nat} {S:SV} {txt:List dE} {st:St} (hs:eY w B sp S txt tot st) (h:Below w.heap.size w w'):eY w' B sp S txt tot st:=by
 obtain⟨l1,l2,l3,l4⟩:=hs.lt;have hf:=hs.below h;refine{hs with gu:=(h.block sp l1).trans hs.gu,stars:=hs.stars.keep hf λb hb=>h.block b (l2 b hb).1,stack:=hs.stack.keep hf λb hb=>h.block b (l3 b hb).1,arena:= ?_};rcases hs.arena with ha|⟨b,u,cap,cs,ha,h1,h2,h3⟩
 ·exact .inl ha
 ·exact .inr ⟨b,u,cap,cs,ha,h1,(h.block b (l4 b (by rw[ha];rfl)).1).trans h2,h3⟩
theorem eY.more {w:World} {B sp tot M5:Nat} {S:SV} {txt:List dE} {st:St} (hs:eY w B sp S txt tot st) (h:tot<=M5):eY w B sp S txt M5 st:={hs with nY:=ao hs.nY h,nstack:=ao hs.nstack h,narena:=ao hs.narena h,ncap:=by have:=hs.ncap;omega}
theorem eY.cells {w:World} {B sp tot:Nat} {S:SV} {txt:List dE} {st:St} (hs:eY w B sp S txt tot st):w.cell? ⟨sp,0,none⟩=some S.vs/\w.cell? ⟨sp,1,none⟩=some S.vk/\w.cell? ⟨sp,2,none⟩=some S.va:=by simp[World.cell?,hs.gu]
theorem dG {w:World} {b i:Nat} {cs:Array Value} {t:TypeId} (h:w.heap[b]? =some (.cells cs t (0,0))) (v:Value):(w.setCell ⟨b,i,none⟩ v).heap[b]? =some (.cells (cs.setIfInBounds i v) t (0,0)):=by simp only[World.setCell,Array.getElem?_modify,if_true,h,dr];rfl
theorem dI {w w':World} {B:Nat} {e:TypeId} {size:Nat} {v:Value} {n:Nat} {xs:List Value} (h:w.ownsRow B e size v n xs) (hb:∀g,v.ownBlock=some g->w'.heap[g]? =w.heap[g]?):w'.ownsRow B e size v n xs:=by
 refine⟨h.1,?_⟩;rcases h.2 with h1|⟨g,cap,cur,rfl,h2,h3,h4⟩
 ·exact .inl h1
 ·exact .inr ⟨g,cap,cur,rfl,h2,(hb g rfl).trans h3,h4⟩
section
variable {w wa w1:World} {B sp tot:Nat} {S:SV} {txt:List dE} {st:St}
theorem eY.YK (hs:eY w B sp S txt tot st) {qH:List Value} (hl:qH.length=st.stack.length) (hp:∀(i:Nat) (c:Ck) (pv:Value),st.stack[i]? =some c->qH[i]? =some pv->eF w pv c.path/\PL sp S pv) (hb:Below w.heap.size w wa) {g cap:Nat} {c:Ck} {pv:Value} (qR:eF w pv c.path) (nG:PL sp S pv) (gh:w1.ownsRow B 162 2 (.slice (some ⟨g,0,none⟩) (st.stack.length+1) cap) (st.stack.length+1) (ia txt st.stack qH++[.int .i64 (off txt c.rem),pv])) (hg:wa.grownBy w1 S.vk.ownBlock) (xX:S.vk.ownBlock=some g\/g=wa.heap.size):eY (w1.setCell ⟨sp,1,none⟩ (.slice (some ⟨g,0,none⟩) (st.stack.length+1) cap)) B sp {S with vk:=.slice (some ⟨g,0,none⟩) (st.stack.length+1) cap} txt (tot+1) {st with stack:=st.stack++[c]}/\Fr w (w1.setCell ⟨sp,1,none⟩ (.slice (some ⟨g,0,none⟩) (st.stack.length+1) cap)) sp S {S with vk:=.slice (some ⟨g,0,none⟩) (st.stack.length+1) cap}:=by
 obtain⟨l1,l2,l3,l4⟩:=hs.lt;have gJ:=hb.size;have VH:=hg.size;have xU:g≠sp/\S.va.ownBlock≠some g/\S.vs.ownBlock≠some g:=by
  rcases xX with h|h
  ·exact⟨(hs.apart.k g h).1,(hs.apart.k g h).2,λe=>(hs.apart.s g e).2.1 h⟩
  ·exact⟨by omega,λe=>by have:=(l4 g e).1;omega,λe=>by have:=(l2 g e).1;omega⟩
 have fH:∀b,b<w.heap.size->b≠sp->S.vk.ownBlock≠some b->(w1.setCell ⟨sp,1,none⟩ (.slice (some ⟨g,0,none⟩) (st.stack.length+1) cap)).heap[b]? =w.heap[b]? :=by intro b eu eT gQ;rw[aq _ _ _ _ eT,hg.block b (by omega) (λe=>gQ e.symm),hb.block b eu]
 have vD:Fr w (w1.setCell ⟨sp,1,none⟩ (.slice (some ⟨g,0,none⟩) (st.stack.length+1) cap)) sp S {S with vk:=.slice (some ⟨g,0,none⟩) (st.stack.length+1) cap}:=by
  refine⟨?_,?_,?_,?_,λb h1 h2 _ h4 _=>fH b h1 h2 h4,λb i zm _=>aF (w:=w) (a:=⟨b,i,none⟩) (fH b (l4 b zm).1 (hs.apart.a b zm) λe=>(hs.apart.k b e).2 zm),λb cs zm hk=>⟨cs,(fH b (l4 b zm).1 (hs.apart.a b zm) λe=>(hs.apart.k b e).2 zm).trans hk⟩,λ_ h=>.inl h,λb h=> ?_,λ_ h=>.inl ⟨h,af _⟩⟩
  ·exact hg.os.trans hb.os
  ·exact hg.tape.trans hb.tape
  ·exact hg.output.trans hb.output
  ·rw[aK];omega
  ·simp only[Value.ownBlock,ae]at h;subst h;rcases xX with h|h
   ·exact .inl h
   ·right;omega
 refine⟨⟨?_,hs.base,?_,?_,?_,?_,by have:=hs.nY;simp only;omega,by have:=hs.nstack;simp;omega,by have:=hs.narena;simp only;omega,by have:=hs.ncap;simp only;omega⟩,vD⟩
 ·have h0:w1.heap[sp]? =some (.cells #[S.vs,S.vk,S.va] 165 (0,0)):=by
   rw[hg.block sp (by omega) (λe=>(hs.apart.k sp e.symm).1 rfl),hb.block sp l1];exact hs.gu
  have:=dG (i:=1) h0 (.slice (some ⟨g,0,none⟩) (st.stack.length+1) cap);simpa using this
 ·exact hs.stars.keep vD λb h=>fH b (l2 b h).1 (hs.apart.s b h).1 (hs.apart.s b h).2.1
 ·refine⟨qH++[pv],by simp[hl],?_,?_⟩
  ·simp only[aj,aH,aG,cm];rw[oX _ _ _ _ _ hl];refine dI gh λg' zk=> ?_;simp only[Value.ownBlock,ae]at zk;subst zk;exact aq _ _ _ _ xU.1
  ·intro i d u hd hu;have xT:i<st.stack.length+1:=by have:=(aB.1 hd).1;simpa using this
   by_cases hi:i<st.stack.length
   ·rw[bV hi]at hd;rw[bV (by omega)]at hu;obtain⟨h1,h2⟩:=hp i d u hd hu;exact h1.fr h2 vD
   ·have:i=st.stack.length:=(by omega);subst this;rw[aR (af _)]at hd;rw[aR (by omega)]at hu;simp only[cO,aN,ae]at hd;rw[hl]at hu;simp only[cO,aN,ae]at hu;subst hd;subst hu;exact qR.fr nG vD
 ·rcases hs.arena with ha|⟨b,u,cp,cs,ha,h1,h2,h3⟩
  ·exact .inl ha
  ·have tI:S.va.ownBlock=some b:=(by rw[ha];rfl);exact .inr ⟨b,u,cp,cs,ha,h1,(fH b (l4 b tI).1 (hs.apart.a b tI) λe=>(hs.apart.k b e).2 tI).trans h2,h3⟩
 ·constructor
  ·intro b h;obtain⟨h1,h2,h3⟩:=hs.apart.s b h;refine⟨h1,λe=> ?_,h3⟩;simp only[Value.ownBlock,ae]at e;subst e;exact xU.2.2 h
  ·intro b h;simp only[Value.ownBlock,ae]at h;subst h;exact⟨xU.1,xU.2.1⟩
  ·exact hs.apart.a
theorem eY.p5 (hs:eY w B sp S txt tot st) {qH:List Value} (hl:qH.length=st.stars.length) (hp:∀(i:Nat) (c:Ck) (pv:Value),st.stars[i]? =some c->qH[i]? =some pv->eF w pv c.path/\PL sp S pv) (hb:Below w.heap.size w wa) {g cap:Nat} {c:Ck} {pv:Value} (qR:eF w pv c.path) (nG:PL sp S pv) (gh:w1.ownsRow B 162 2 (.slice (some ⟨g,0,none⟩) (st.stars.length+1) cap) (st.stars.length+1) (ia txt st.stars qH++[.int .i64 (off txt c.rem),pv])) (hg:wa.grownBy w1 S.vs.ownBlock) (xX:S.vs.ownBlock=some g\/g=wa.heap.size):eY (w1.setCell ⟨sp,0,none⟩ (.slice (some ⟨g,0,none⟩) (st.stars.length+1) cap)) B sp {S with vs:=.slice (some ⟨g,0,none⟩) (st.stars.length+1) cap} txt (tot+1) {st with stars:=st.stars++[c]}/\Fr w (w1.setCell ⟨sp,0,none⟩ (.slice (some ⟨g,0,none⟩) (st.stars.length+1) cap)) sp S {S with vs:=.slice (some ⟨g,0,none⟩) (st.stars.length+1) cap}:=by
 obtain⟨l1,l2,l3,l4⟩:=hs.lt;have gJ:=hb.size;have VH:=hg.size;have xU:g≠sp/\S.va.ownBlock≠some g/\S.vk.ownBlock≠some g:=by
  rcases xX with h|h
  ·exact⟨(hs.apart.s g h).1,(hs.apart.s g h).2.2,(hs.apart.s g h).2.1⟩
  ·exact⟨by omega,λe=>by have:=(l4 g e).1;omega,λe=>by have:=(l3 g e).1;omega⟩
 have fH:∀b,b<w.heap.size->b≠sp->S.vs.ownBlock≠some b->(w1.setCell ⟨sp,0,none⟩ (.slice (some ⟨g,0,none⟩) (st.stars.length+1) cap)).heap[b]? =w.heap[b]? :=by intro b eu eT gQ;rw[aq _ _ _ _ eT,hg.block b (by omega) (λe=>gQ e.symm),hb.block b eu]
 have vD:Fr w (w1.setCell ⟨sp,0,none⟩ (.slice (some ⟨g,0,none⟩) (st.stars.length+1) cap)) sp S {S with vs:=.slice (some ⟨g,0,none⟩) (st.stars.length+1) cap}:=by
  refine⟨?_,?_,?_,?_,λb h1 h2 h3 _ _=>fH b h1 h2 h3,λb i zm _=>aF (w:=w) (a:=⟨b,i,none⟩) (fH b (l4 b zm).1 (hs.apart.a b zm) λe=>(hs.apart.s b e).2.2 zm),λb cs zm hk=>⟨cs,(fH b (l4 b zm).1 (hs.apart.a b zm) λe=>(hs.apart.s b e).2.2 zm).trans hk⟩,λb h=> ?_,λ_ h=>.inl h,λ_ h=>.inl ⟨h,af _⟩⟩
  ·exact hg.os.trans hb.os
  ·exact hg.tape.trans hb.tape
  ·exact hg.output.trans hb.output
  ·rw[aK];omega
  ·simp only[Value.ownBlock,ae]at h;subst h;rcases xX with h|h
   ·exact .inl h
   ·right;omega
 refine⟨⟨?_,hs.base,?_,?_,?_,?_,by have:=hs.nY;simp;omega,by have:=hs.nstack;simp only;omega,by have:=hs.narena;simp only;omega,by have:=hs.ncap;simp only;omega⟩,vD⟩
 ·have h0:w1.heap[sp]? =some (.cells #[S.vs,S.vk,S.va] 165 (0,0)):=by
   rw[hg.block sp (by omega) (λe=>(hs.apart.s sp e.symm).1 rfl),hb.block sp l1];exact hs.gu
  have:=dG (i:=0) h0 (.slice (some ⟨g,0,none⟩) (st.stars.length+1) cap);simpa using this
 ·refine⟨qH++[pv],by simp[hl],?_,?_⟩
  ·simp only[aj,aH,aG,cm];rw[oX _ _ _ _ _ hl];refine dI gh λg' zk=> ?_;simp only[Value.ownBlock,ae]at zk;subst zk;exact aq _ _ _ _ xU.1
  ·intro i d u hd hu;have xT:i<st.stars.length+1:=by have:=(aB.1 hd).1;simpa using this
   by_cases hi:i<st.stars.length
   ·rw[bV hi]at hd;rw[bV (by omega)]at hu;obtain⟨h1,h2⟩:=hp i d u hd hu;exact h1.fr h2 vD
   ·have:i=st.stars.length:=(by omega);subst this;rw[aR (af _)]at hd;rw[aR (by omega)]at hu;simp only[cO,aN,ae]at hd;rw[hl]at hu;simp only[cO,aN,ae]at hu;subst hd;subst hu;exact qR.fr nG vD
 ·exact hs.stack.keep vD λb h=>fH b (l3 b h).1 (hs.apart.k b h).1 λe=>(hs.apart.s b e).2.1 h
 ·rcases hs.arena with ha|⟨b,u,cp,cs,ha,h1,h2,h3⟩
  ·exact .inl ha
  ·have tI:S.va.ownBlock=some b:=(by rw[ha];rfl);exact .inr ⟨b,u,cp,cs,ha,h1,(fH b (l4 b tI).1 (hs.apart.a b tI) λe=>(hs.apart.s b e).2.2 tI).trans h2,h3⟩
 ·constructor
  ·intro b h;simp only[Value.ownBlock,ae]at h;subst h;exact⟨xU.1,xU.2.2,xU.2.1⟩
  ·exact hs.apart.k
  ·exact hs.apart.a
end
end Go.Proofs.YtfejflhgaphilaaGreatDoor
