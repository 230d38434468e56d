/- The lexer reads a class, and the next item. The lexer's next item. -/
import Derived.Test.YtfejflhgaphilaaGreatDoorC13
set_option linter.all false
set_option maxRecDepth 100000
set_option maxHeartbeats 64000000
open Go.Proofs.Tryz
namespace Go.Proofs.YtfejflhgaphilaaGreatDoor
open Go.RowKit Gm
variable {c:Nat}
def Ci:List dE:=[63,42,91,123]
def Ch:List dE:=[63,42,91,123,125,44]
theorem f179 (w:World):Calls prog 179 #[] w λe w'=>e=.returned (.slice (some ⟨w.heap.size,0,none⟩) 4 4)/\w'=w.alloc (.cells #[.int .i32 63,.int .i32 42,.int .i32 91,.int .i32 123] 21):=by go_enter func179,ntmps179;go_wp2_with fail;go_ret;exact⟨rfl,rfl⟩
theorem QW (w:World) (B:Nat) (hB:B<=w.heap.size):(w.alloc (.cells #[.int .i32 63,.int .i32 42,.int .i32 91,.int .i32 123] 21)).ownsRow B 21 1 (.slice (some ⟨w.heap.size,0,none⟩) 4 4) 4 [.int .i32 63,.int .i32 42,.int .i32 91,.int .i32 123]:=⟨rfl,.inr ⟨w.heap.size,4,_,rfl,hB,heap_alloc_new w _,af _,by decide,rfl,rfl⟩⟩
def Bn (w w':World) (v:Value) (rs:List dE):Prop:=ek w' v rs/\(∀b,v.ownBlock=some b->w.heap.size<=b)/\Below w.heap.size w w'
theorem S5 (w:World):Calls prog 179 #[] w λe w'=>∃a c,e=.returned (.slice a 4 c)/\Bn w w' (.slice a 4 c) Ci:=by refine(f179 w).mono ?_;rintro e w' ⟨rfl,rfl⟩;refine⟨_,_,rfl,ek.wS (QW w 0 (aU _)),λb hb=> ?_,by go_grown⟩;simp only[Value.ownBlock,ae]at hb;omega
theorem f178 (w:World):Calls prog 178 #[] w λe w'=>∃a c,e=.returned (.slice a 6 c)/\Bn w w' (.slice a 6 c) Ch:=by
 obtain⟨i0,hi,gD,gB,gF⟩:=info_parts Tryz.Ry;go_enter func178,ntmps178;go_wp2_with fail;refine(f179 _).mono ?_;rintro e w1 ⟨rfl,rfl⟩;have gO:=(QW w w.heap.size (af _)).alloc (.cells #[.int .i32 125,.int .i32 44] 21);have xC:=aa gO;clear gO;go_wp2_with (at_builtin;refine wpList_append_own _ rfl (.tmp 1) (.tmp 2) 98 rfl w.heap.size 21 i0 (.int .i32 0) 1 4 underlying98 hi gD gB gF rfl (by decide) (.slice (some ⟨w.heap.size,0,none⟩) 4 4) 4 [.int .i32 63,.int .i32 42,.int .i32 91,.int .i32 123] rfl xC.out ⟨w.heap.size+1,0,none⟩ 2 2 [.int .i32 125,.int .i32 44] rfl rfl ?c1 ?c2 ?c3 ?c4 ?c5 ?c6)
 case c1=>have:=cell_two_new (w.alloc (.cells #[.int .i32 63,.int .i32 42,.int .i32 91,.int .i32 123] 21)) (.int .i32 125) (.int .i32 44) 21;rw[ab]at this;exact this
 case c2=>intro u hu;simp only[az,ba,or_false]at hu;rcases hu with rfl|rfl<;>rfl
 case c3=>decide
 case c4=>decide
 case c5=>simp;omega
 case c6=>
  intro v' w2 Jo OO _;obtain⟨a,c,rfl⟩:∃a c,v'=.slice a 6 c:=by
   rcases Jo.2 with⟨e,h0⟩|⟨g,cap,cur,e,_⟩
   ·exact absurd h0 (by decide)
   ·exact⟨_,_,e⟩
  have HO:=aa Jo;have HG:=aa OO;clear Jo OO;go_wp2_with fail;go_ret;refine⟨_,_,rfl,ek.wS HO.out,λb hb=>(HO.lt b hb).1,?_⟩;refine⟨HG.os,HG.tape,HG.output,ao (by simp;omega) HG.size,λb hb=> ?_⟩;refine(HG.block b (by simp;omega) (λe=> ?_)).trans ((heap_alloc_old _ _ (by simp;omega)).trans (heap_alloc_old _ _ hb));simp only[Value.ownBlock,ae]at e;omega
def fi:Nat->Bool->Bool->Bool->List dE->Option (List Tok×List dE)
 |0,_,_,_,_=>none
 |_+1,_,_,_,[]=>none
 |n+1,wh,wc,sn,c::r=>
  if wc then(if c=93 then some ([.jz],r)else none)
  else if wh then(fi n true true sn r).map λp=>(.hi c::p.1,p.2)
  else if sn=false/\c=33 then(fi n false false true r).map λp=>(.not::p.1,p.2)
  else if hd r=45 then(fi n true false sn r.tail).map λp=>(.lo c:: .PW::p.1,p.2)
  else match eZ [93] false (c::r)with
   |none=>none
   |some (D,R)=>if D=[]then none else(fi n false true sn R).map λp=>(.text D::p.1,p.2)
theorem fS (h:mz c):Utf8.encode ((c:Nat):Int)=bs [c]:=by apply fC;rw[DB h,eE];simp
structure FRx (w wr:World) (B L:Nat) (txt rest:List dE) (tl:Nat) (vq:Value) (Qf:List Tok) (R:List dE) (k:Nat) (wh wc sn:Bool) (qk:List Tok) (xE:Value) (lr gI:Int) (hr:Bool):Prop where
 lex:er wr B L txt rest tl qk xE lr gI hr
 fr:kA w wr L vq xE
 eq:∃ts,fi k wh wc sn rest=some (ts,R)/\qk++ts=Qf
 len:qk.length+2*k<=1000000
section
variable {w:World} {B L tl:Nat} {txt rest:List dE} {q:List Tok} {vq:Value} {lr gI:Int} {hr:Bool}
theorem not_neg_one (c:Nat):(((c:Nat):Int)== -1)=false:=beq_eq_false_iff_ne.2 (λh=>by have:(0:Int)<=((c:Nat):Int):=Int.natCast_nonneg _;omega)
theorem p6 {d:Nat} (h:c≠d):(((c:Nat):Int)==((d:Nat):Int))=false:=beq_eq_false_iff_ne.2 (λe=>h (dC e))
theorem f176 (ts:List Tok) (R:List dE) (h:er w B L txt rest tl q vq lr gI hr) (hT:fE w) (nI:3<=B) (ez:dV txt) (hlen:(enc txt).length<=1000000) (hq:q.length<=900000) (kS:fi 4 false false false rest=some (ts,R)):Calls prog 176 #[.pointer (some ⟨L,0,none⟩)] w λe w'=>e=.returned (.tuple #[])/\∃fb lr' lsz' hr',er w' B L txt R tl (q++ts) fb lr' lsz' hr'/\kA w w' L vq fb:=by
 have H:=aa h;have Cl:=aa kS;have iw:=eo ez hlen;have Kk:=h.base;have KV:=aa h.lt;clear h kS ez hlen;go_enter func176,ntmps176;go_wp2_with fail;go_loopg [2,3,4] 4 (λk s2 s3 s4 wr=>∃(rk:List dE) (wh wc sn:Bool) (qk:List Tok) (xE:Value) (lr gI:Int) (hr:Bool),s2=.bool wh/\s3=.bool wc/\s4=.bool sn/\Hid (FRx w wr B L txt rk tl vq (q++ts) R k wh wc sn qk xE lr gI hr))
 case atStart=>exact⟨rest,false,false,false,q,vq,lr,gI,hr,rfl,rfl,rfl,aa ⟨H.out,kA.refl _ _ _,⟨ts,Cl.out,rfl⟩,by omega⟩⟩
 case round=>
  obtain⟨rk,wh,wc,sn,qk,xE,lr,gI,hr,rfl,rfl,rfl,HL⟩:=hrel;obtain⟨k,rfl⟩:∃k,gk=k+1:=by
   obtain⟨nO,h1,_⟩:=HL.eq;cases gk with
   |zero=>simp[fi]at h1
   |succ k=>exact⟨k,rfl⟩
  obtain⟨c,r,rfl⟩:∃c r,rk=c::r:=by
   obtain⟨nO,h1,_⟩:=HL.eq;cases rk with
   |nil=>simp[fi]at h1
   |cons c r=>exact⟨c,r,rfl⟩
  have Hz:fE wr:=hT.Jk HL.fr nI Kk λb hb=>(KV.2 b hb).1;have GZ:=f171 HL.lex Hz iw.1 iw.2;have gU:=aa GZ;have j7:=not_neg_one c;have VX:mz c:=fg (eM iw.1 HL.lex.eP);have wZ:qk.length<=1000000:=by have:=HL.len;omega
  have yQ:=aa HL.lex.eP;clear GZ Hz;cases wc with
  |true=>
   have Ht:c=93/\R=r/\q++ts=qk++[.jz]:=by
    obtain⟨nO,h1,h2⟩:=HL.eq;simp only[fi,if_true]at h1;split at h1
    ·rename_i hc;simp only[ae,aQ]at h1;exact⟨hc,h1.2.symm,by rw[<-h2,<-h1.1]⟩
    ·cases h1
   obtain⟨rfl,hR,hQ⟩:=Ht;have HR:=eo hR hQ;have Hm:Utf8.encode 93=bs [93]:=fS VX;clear hR hQ;go_wp2_with fail;refine gU.mono ?_;rintro e w1 ⟨rfl,e1,e2⟩;rw[show hd (93::r)=93 from rfl];have xD:=aa (f172 .jz e1 wZ);have HE:=eo e1 e2;clear e1 e2;go_wp2_with fail;refine xD.mono ?_;rintro e w2 ⟨rfl,fb,k1,k2⟩;have HK:=eo k1 k2;clear k1 k2;go_wp2_with fail;refine bodyPost_ret (results_none rfl _ _ _) rfl ?_;exact⟨rfl,fb,_,_,_,by rw[HR.1,HR.2];exact HK.1,(HL.fr.trans HE.2).trans HK.2⟩
  |false=>
   cases wh with
   |true=>
    have sE:Hid (∃nO,fi k true true sn r=some (nO,R)/\(qk++[.hi c])++nO=q++ts):=aa (by obtain⟨nO,h1,h2⟩:=HL.eq;simp only[fi,aM,if_false,if_true,aX,aQ]at h1;obtain⟨⟨t1,R1⟩,h3,h4,h5⟩:=h1;simp only at h4 h5;exact⟨t1,by rw[h3,h5],by rw[<-h2,<-h4];simp⟩);have Hm:Utf8.encode ((c:Nat):Int)=bs [c]:=fS VX;go_wp2_with fail;refine gU.mono ?_;rintro e w1 ⟨rfl,e1,e2⟩;rw[show hd (c::r)=((c:Nat):Int)from rfl];have xD:=aa (f172 (.hi c) e1 wZ);have HE:=eo e1 e2;clear e1 e2;go_wp2_with fail;refine xD.mono ?_;rintro e w2 ⟨rfl,fb,k1,k2⟩;have HK:=eo k1 k2;clear k1 k2;go_wp2_with fail;go_roundg k
    case measure=>omega
    case rel=>exact⟨r,true,true,sn,_,fb,_,_,_,rfl,rfl,rfl,aa ⟨HK.1,(HL.fr.trans HE.2).trans HK.2,sE.out,by have:=HL.len;simp;omega⟩⟩
   |false=>
    by_cases OL:sn=false/\c=33
    ·obtain⟨rfl,rfl⟩:=OL;have sE:Hid (∃nO,fi k false false true r=some (nO,R)/\(qk++[.not])++nO=q++ts):=aa (by
      obtain⟨nO,h1,h2⟩:=HL.eq;simp only[fi,aM,if_false,and_self,if_true,aX,aQ]at h1;obtain⟨⟨t1,R1⟩,h3,h4,h5⟩:=h1;simp only at h4 h5;exact⟨t1,by rw[h3,h5],by rw[<-h2,<-h4];simp⟩)
     have Hm:Utf8.encode 33=bs [33]:=fS VX;go_wp2_with fail;refine gU.mono ?_;rintro e w1 ⟨rfl,e1,e2⟩;rw[show hd (33::r)=33 from rfl];have xD:=aa (f172 .not e1 wZ);have HE:=eo e1 e2;clear e1 e2 j7;go_wp2_with fail;refine xD.mono ?_;rintro e w2 ⟨rfl,fb,k1,k2⟩;have HK:=eo k1 k2;clear k1 k2;go_wp2_with fail;go_roundg k
     case measure=>omega
     case rel=>exact⟨r,false,false,true,_,fb,_,_,_,rfl,rfl,rfl,aa ⟨HK.1,(HL.fr.trans HE.2).trans HK.2,sE.out,by have:=HL.len;simp;omega⟩⟩
    ·have mY:sn=true\/(sn=false/\(((c:Nat):Int)==33)=false):=by
      cases sn with
      |true=>exact .inl rfl
      |false=>exact .inr ⟨rfl,p6 (d:=33) λe=>OL ⟨rfl,e⟩⟩
     have HNOT:=aa OL;clear OL;have Hm:Utf8.encode ((c:Nat):Int)=bs [c]:=fS VX;by_cases Kg:hd r=45
     ·obtain⟨r',rfl⟩:∃r',r=45::r':=by
       cases r with
       |nil=>simp[hd]at Kg
       |cons d r'=>exact⟨r',by rw[show d=45 from dC (show((d:Nat):Int)=((45:Nat):Int)from Kg)]⟩
      have sE:Hid (∃nO,fi k true false sn r'=some (nO,R)/\((qk++[.lo c])++[.PW])++nO=q++ts):=aa (by obtain⟨nO,h1,h2⟩:=HL.eq;rw[fi,if_neg (by simp),if_neg (by simp),if_neg HNOT.out,if_pos Kg]at h1;simp only[List.tail_cons,aX,aQ]at h1;obtain⟨⟨t1,R1⟩,h3,h4,h5⟩:=h1;simp only at h4 h5;exact⟨t1,by rw[h3,h5],by rw[<-h2,<-h4];simp⟩);have eT:mz 45:=fg (gf (eM iw.1 HL.lex.eP));have hen2:Utf8.encode 45=bs [45]:=fS eT;have hob:=wR (tail_suffix.trans yQ.out) iw.2;have hwd:=Qp (45::r');have oG:IntKind.i64.wrap (off txt (45::r')+wd (45::r'))=off txt (45::r')+wd (45::r'):=by simp only[List.tail_cons]at hob;rw[aW];omega
      have HWR:=aa oG;clear Kg hob hwd oG;rcases mY with rfl|⟨rfl,hc33⟩
      all_goals
       go_wp2_with fail;refine gU.mono ?_;rintro e w1 ⟨rfl,e1,e2⟩;rw[show hd (c::45::r')=((c:Nat):Int)from rfl];have ZZ:fE w1:=hT.Jk (HL.fr.trans e2) nI Kk λb hb=>(KV.2 b hb).1;have Wv:=aa (f192 e1 ZZ iw.1);have HE:=eo e1 e2;clear e1 e2 ZZ;go_wp2_with fail;refine Wv.mono ?_;rintro e w2 ⟨rfl,eT⟩;rw[show hd ((c::45::r').tail)=45 from rfl,show wd ((c::45::r').tail)=wd (45::r')from rfl];have H2:=aa (HE.1.below eT);have jR:=aa eT;clear eT;go_wp2_with fail;refine(f191 (L:=L) _ _ _ H2.gu rfl HWR.out).mono ?_;rintro e w3 ⟨rfl,rfl⟩;obtain⟨g1,g2⟩:=H2.put 1 (.int .i64 (off txt (45::r')+wd (45::r'))) (txt':=txt) (rest':=r') (tl':=tl) (lr':=hd (c::45::r')) (lsz':=wd (c::45::r')) (hr':=false) (by rw[DP];rfl) ((tail_suffix.trans tail_suffix).trans yQ.out) (λh=>by cases h);have xD:=aa (f172 (.lo c) g1 wZ);have HG:=eo g1 g2;clear g1 g2;go_wp2_with fail;refine xD.mono ?_;rintro e w4 ⟨rfl,fb,k1,k2⟩;have HPU2:=aa (f172 .PW k1 (by have:=HL.len;simp;omega));have HK:=eo k1 k2;clear k1 k2;go_wp2_with fail;refine HPU2.mono ?_;rintro e w5 ⟨rfl,UR,k1,k2⟩;have Ys:=eo k1 k2;clear k1 k2;go_wp2_with fail;go_roundg k
       case measure=>omega
       case rel=>exact⟨r',true,false,_,_,UR,_,_,_,rfl,rfl,rfl,aa ⟨Ys.1,((((HL.fr.trans HE.2).trans (kA.ft jR.out)).trans HG.2).trans HK.2).trans Ys.2,sE.out,by have:=HL.len;simp;omega⟩⟩
     ·obtain⟨D,R1,hrt,hD,nO,B7,fY⟩:∃D R1,eZ [93] false (c::r)=some (D,R1)/\D≠[]/\∃nO,fi k false true sn R1=some (nO,R)/\(qk++[.text D])++nO=q++ts:=by
       obtain⟨nO,h1,h2⟩:=HL.eq;rw[fi,if_neg (by simp),if_neg (by simp),if_neg HNOT.out,if_neg Kg]at h1;cases hx:eZ [93] false (c::r)with
       |none=>rw[hx]at h1;simp at h1
       |some p=>
        obtain⟨D,R1⟩:=p;rw[hx]at h1;simp only at h1;split at h1
        ·cases h1
        ·rename_i hD;simp only[aX,aQ]at h1;obtain⟨⟨t1,R2⟩,h3,h4,h5⟩:=h1;simp only at h4 h5;exact⟨D,R1,rfl,hD,t1,by rw[h3,h5],by rw[<-h2,<-h4];simp⟩
      have hb45:((hd r:Int)==45)=false:=beq_eq_false_iff_ne.2 Kg;have HRT:=eo hrt hD;have Yr:=eo B7 fY;clear Kg hrt hD B7 fY Hm;rcases mY with rfl|⟨rfl,hc33⟩
      all_goals
       go_wp2_with fail;refine gU.mono ?_;rintro e w1 ⟨rfl,e1,e2⟩;rw[show hd (c::r)=((c:Nat):Int)from rfl];have ZZ:fE w1:=hT.Jk (HL.fr.trans e2) nI Kk λb hb=>(KV.2 b hb).1;have Wv:=aa (f192 e1 ZZ iw.1);have HE:=eo e1 e2;clear e1 e2 ZZ;go_wp2_with fail;refine Wv.mono ?_;rintro e w2 ⟨rfl,eT⟩;rw[show hd ((c::r).tail)=hd r from rfl,show wd ((c::r).tail)=wd r from rfl];have P2:=aa (f177 (r0:=c::r) (HE.1.below eT) yQ.out iw.2);have jR:=aa eT;clear eT;go_wp2_with fail;refine P2.mono ?_;rintro e w3 ⟨rfl,e3,e4⟩;have hW:Below w3.heap.size w3 (w3.alloc (.cells #[.int .i32 93] 21)):=(by go_grown);have hf3:=(((HL.fr.trans HE.2).trans (kA.ft jR.out)).trans e4).trans (kA.ft (L:=L) (vq:=xE) hW);have OS:fE (w3.alloc (.cells #[.int .i32 93] 21)):=hT.Jk hf3 nI Kk λb hb=>(KV.2 b hb).1;have hvb:ek (w3.alloc (.cells #[.int .i32 93] 21)) (.slice (some ⟨w3.heap.size,0,none⟩) 1 1) [93]:=ek.wS (B:=0) ⟨rfl,.inr ⟨w3.heap.size,1,_,rfl,aU _,heap_alloc_new w3 _,af _,by decide,rfl,rfl⟩⟩;have BF:=f180 (.slice (some ⟨w3.heap.size,0,none⟩) 1 1) [93] D R1 (e3.below hW) OS nI iw.1 iw.2 wZ hvb (λb hb=>by simp only[Value.ownBlock,ae]at hb;have l1:=e3.lt;exact⟨by omega,λe=>by have:=(l1.2 b e).2;omega⟩) (by simp) HRT.1;rw[if_neg HRT.2]at BF;have HTX:=aa BF;have Wz:=aa hf3;clear e3 e4 hW hf3 OS hvb BF;go_wp2_with fail;refine HTX.mono ?_;rintro e w5 ⟨rfl,UR,lr2,Ou,sK,k1,k2⟩;have Ys:=eo k1 k2;clear k1 k2;go_wp2_with fail;go_roundg k
       case measure=>omega
       case rel=>exact⟨R1,false,true,_,_,UR,_,_,_,rfl,rfl,rfl,aa ⟨Ys.1,Wz.trans Ys.2,⟨nO,Yr.1,Yr.2⟩,by have:=HL.len;simp;omega⟩⟩
end
def gy (tl:Nat):List dE->Option (List Tok×List dE×Nat)
 | []=>some ([.eof],[],tl)
 |c::r=>
  if c=123 then some ([.uc],r,tl+1)
  else if c=44/\0<tl then some ([.DS],r,tl)
  else if c=125/\0<tl then some ([.pW],r,tl-1)
  else if c=91 then(fi 4 false false false r).map λp=>(.py::p.1,p.2,tl)
  else if c=63 then some ([.single],r,tl)
  else if c=42 then(if hd r=42 then some ([.fq],r.tail,tl)else some ([.any],r,tl))
  else(eZ (if 0<tl then Ch else Ci) false (c::r)).map λp=>(if p.1=[]then[]else[.text p.1],p.2,tl)
section
variable {w:World} {B L tl:Nat} {txt rest:List dE} {q:List Tok} {vq:Value} {lr gI:Int} {hr:Bool}
theorem lv (a b:List dE):bs a++bs b=bs (a++b):=by apply fC;rw[ByteArray.data_append,Array.toList_append,eE,eE,eE,dR]
theorem f151a (h:er w B L txt [] tl q vq lr gI hr) (hT:fE w) (ez:dV txt) (hlen:(enc txt).length<=1000000) (hq:q.length<=900000):Calls prog 151 #[.pointer (some ⟨L,0,none⟩)] w λe w'=>e=.returned (.tuple #[])/\∃fb lr' lsz' hr',er w' B L txt [] tl (q++[.eof]) fb lr' lsz' hr'/\kA w w' L vq fb:=by
 have gU:=aa (f171 h hT ez hlen);have wZ:q.length<=1000000:=by omega
 clear h;go_enter func151,ntmps151;go_wp2_with fail;refine gU.mono ?_;rintro e w1 ⟨rfl,e1,e2⟩;rw[show hd []= -1 from rfl];have xD:=aa (f172 .eof e1 wZ);have HE:=eo e1 e2;clear e1 e2;go_wp2_with fail;refine xD.mono ?_;rintro e w2 ⟨rfl,fb,k1,k2⟩;have HK:=eo k1 k2;clear k1 k2;go_wp2_with fail;go_end0;exact⟨rfl,fb,_,_,_,HK.1,HE.2.trans HK.2⟩
theorem f151b {r:List dE} (h:er w B L txt (123::r) tl q vq lr gI hr) (hT:fE w) (ez:dV txt) (hlen:(enc txt).length<=1000000) (hq:q.length<=900000) (yw:tl<=1000000):Calls prog 151 #[.pointer (some ⟨L,0,none⟩)] w λe w'=>e=.returned (.tuple #[])/\∃fb lr' lsz' hr',er w' B L txt r (tl+1) (q++[.uc]) fb lr' lsz' hr'/\kA w w' L vq fb:=by
 have gU:=aa (f171 h hT ez hlen);have wZ:q.length<=1000000:=by omega
 have Hm:Utf8.encode 123=bs [123]:=fS (fg (eM ez h.eP));clear h;go_enter func151,ntmps151;go_wp2_with fail;refine gU.mono ?_;rintro e w1 ⟨rfl,e1,e2⟩;rw[show hd (123::r)=123 from rfl];have HE:=eo e1 e2;clear e1 e2;go_wp2_with fail;refine(f173 (L:=L) _ HE.1.gu rfl yw).mono ?_;rintro e w2 ⟨rfl,rfl⟩;obtain⟨g1,g2⟩:=HE.1.put 4 (.int .i64 (tl+1)) (txt':=txt) (rest':=r) (tl':=tl+1) (lr':=hd (123::r)) (lsz':=wd (123::r)) (hr':=false) rfl HE.1.eP (λh=>by cases h);have xD:=aa (f172 .uc g1 wZ);have HG:=eo g1 g2;clear g1 g2;go_wp2_with fail;refine xD.mono ?_;rintro e w3 ⟨rfl,fb,k1,k2⟩;have HK:=eo k1 k2;clear k1 k2;go_wp2_with fail;go_end0;exact⟨rfl,fb,_,_,_,HK.1,(HE.2.trans HG.2).trans HK.2⟩
theorem f151c {r:List dE} (h:er w B L txt (44::r) (tl+1) q vq lr gI hr) (hT:fE w) (ez:dV txt) (hlen:(enc txt).length<=1000000) (hq:q.length<=900000):Calls prog 151 #[.pointer (some ⟨L,0,none⟩)] w λe w'=>e=.returned (.tuple #[])/\∃fb lr' lsz' hr',er w' B L txt r (tl+1) (q++[.DS]) fb lr' lsz' hr'/\kA w w' L vq fb:=by
 have gU:=aa (f171 h hT ez hlen);have wZ:q.length<=1000000:=by omega
 have Hm:Utf8.encode 44=bs [44]:=fS (fg (eM ez h.eP));clear h;go_enter func151,ntmps151;go_wp2_with fail;refine gU.mono ?_;rintro e w1 ⟨rfl,e1,e2⟩;rw[show hd (44::r)=44 from rfl];have xD:=aa (f172 .DS e1 wZ);have HE:=eo e1 e2;clear e1 e2;go_wp2_with fail;refine(f174 (L:=L) _ HE.1.gu rfl).mono ?_;rintro e w1 ⟨rfl,rfl⟩;rw[show decide (0<tl+1)=true from decide_eq_true (Nat.succ_pos _)];go_wp2_with fail;refine xD.mono ?_;rintro e w3 ⟨rfl,fb,k1,k2⟩;have HK:=eo k1 k2;clear k1 k2;go_wp2_with fail;go_end0;exact⟨rfl,fb,_,_,_,HK.1,HE.2.trans HK.2⟩
theorem f151d {r:List dE} (h:er w B L txt (125::r) (tl+1) q vq lr gI hr) (hT:fE w) (ez:dV txt) (hlen:(enc txt).length<=1000000) (hq:q.length<=900000) (yw:tl<=1000000):Calls prog 151 #[.pointer (some ⟨L,0,none⟩)] w λe w'=>e=.returned (.tuple #[])/\∃fb lr' lsz' hr',er w' B L txt r tl (q++[.pW]) fb lr' lsz' hr'/\kA w w' L vq fb:=by
 have gU:=aa (f171 h hT ez hlen);have wZ:q.length<=1000000:=by omega
 have Hm:Utf8.encode 125=bs [125]:=fS (fg (eM ez h.eP));clear h;go_enter func151,ntmps151;go_wp2_with fail;refine gU.mono ?_;rintro e w1 ⟨rfl,e1,e2⟩;rw[show hd (125::r)=125 from rfl];have xD:=aa (f172 .pW e1 wZ);have HE:=eo e1 e2;clear e1 e2;go_wp2_with fail;refine(f174 (L:=L) _ HE.1.gu rfl).mono ?_;rintro e w1 ⟨rfl,rfl⟩;rw[show decide (0<tl+1)=true from decide_eq_true (Nat.succ_pos _)];go_wp2_with fail;refine xD.mono ?_;rintro e w3 ⟨rfl,fb,k1,k2⟩;have HK:=eo k1 k2;clear k1 k2;go_wp2_with fail;refine(f175 (L:=L) _ HK.1.gu rfl yw).mono ?_;rintro e w4 ⟨rfl,rfl⟩;obtain⟨g1,g2⟩:=HK.1.put 4 (.int .i64 tl) (txt':=txt) (rest':=r) (tl':=tl) (lr':=hd (125::r)) (lsz':=wd (125::r)) (hr':=false) rfl HE.1.eP (λh=>by cases h);have HG:=eo g1 g2;clear g1 g2;go_wp2_with fail;go_end0;exact⟨rfl,fb,_,_,_,HG.1,(HE.2.trans HK.2).trans HG.2⟩
theorem f151e {r:List dE} (ts:List Tok) (R:List dE) (h:er w B L txt (91::r) tl q vq lr gI hr) (hT:fE w) (nI:3<=B) (ez:dV txt) (hlen:(enc txt).length<=1000000) (hq:q.length<=800000) (kS:fi 4 false false false r=some (ts,R)):Calls prog 151 #[.pointer (some ⟨L,0,none⟩)] w λe w'=>e=.returned (.tuple #[])/\∃fb lr' lsz' hr',er w' B L txt R tl (q++ .py::ts) fb lr' lsz' hr'/\kA w w' L vq fb:=by
 have gU:=aa (f171 h hT ez hlen);have wZ:q.length<=1000000:=by omega
 have Hm:Utf8.encode 91=bs [91]:=fS (fg (eM ez h.eP));have HB:=eo h.base h.lt;have Cl:=aa kS;have iw:=eo ez hlen;clear h kS ez hlen;go_enter func151,ntmps151;go_wp2_with fail;refine gU.mono ?_;rintro e w1 ⟨rfl,e1,e2⟩;rw[show hd (91::r)=91 from rfl];have xD:=aa (f172 .py e1 wZ);have HE:=eo e1 e2;clear e1 e2;go_wp2_with fail;refine xD.mono ?_;rintro e w3 ⟨rfl,fb,k1,k2⟩;have OS:fE w3:=hT.Jk (HE.2.trans k2) nI HB.1 λb hb=>(HB.2.2 b hb).1;have HFR:=aa (f176 ts R k1 OS nI iw.1 iw.2 (by simp;omega) Cl.out);have HK:=eo k1 k2;clear k1 k2 OS;go_wp2_with fail;refine HFR.mono ?_;rintro e w4 ⟨rfl,UR,lr2,Ou,sK,k1,k2⟩;have Ys:=eo k1 k2;clear k1 k2;go_wp2_with fail;go_end0;refine⟨rfl,UR,lr2,Ou,sK,?_,(HE.2.trans HK.2).trans Ys.2⟩;have:=Ys.1;rw[aD]at this;exact this
theorem f151f {r:List dE} (h:er w B L txt (63::r) tl q vq lr gI hr) (hT:fE w) (ez:dV txt) (hlen:(enc txt).length<=1000000) (hq:q.length<=900000):Calls prog 151 #[.pointer (some ⟨L,0,none⟩)] w λe w'=>e=.returned (.tuple #[])/\∃fb lr' lsz' hr',er w' B L txt r tl (q++[.single]) fb lr' lsz' hr'/\kA w w' L vq fb:=by
 have gU:=aa (f171 h hT ez hlen);have wZ:q.length<=1000000:=by omega
 have Hm:Utf8.encode 63=bs [63]:=fS (fg (eM ez h.eP));clear h;go_enter func151,ntmps151;go_wp2_with fail;refine gU.mono ?_;rintro e w1 ⟨rfl,e1,e2⟩;rw[show hd (63::r)=63 from rfl];have xD:=aa (f172 .single e1 wZ);have HE:=eo e1 e2;clear e1 e2;go_wp2_with fail;refine xD.mono ?_;rintro e w3 ⟨rfl,fb,k1,k2⟩;have HK:=eo k1 k2;clear k1 k2;go_wp2_with fail;go_end0;exact⟨rfl,fb,_,_,_,HK.1,HE.2.trans HK.2⟩
theorem f151g {r:List dE} (h:er w B L txt (42::42::r) tl q vq lr gI hr) (hT:fE w) (nI:3<=B) (ez:dV txt) (hlen:(enc txt).length<=1000000) (hq:q.length<=900000):Calls prog 151 #[.pointer (some ⟨L,0,none⟩)] w λe w'=>e=.returned (.tuple #[])/\∃fb lr' lsz' hr',er w' B L txt r tl (q++[.fq]) fb lr' lsz' hr'/\kA w w' L vq fb:=by
 have gU:=aa (f171 h hT ez hlen);have wZ:q.length<=1000000:=by omega
 have Hm:Utf8.encode 42=bs [42]:=fS (fg (eM ez h.eP));have hcat:bs [42]++bs [42]=bs [42,42]:=lv _ _;have HB:=eo h.base h.lt;have iw:=eo ez hlen;clear h ez hlen;go_enter func151,ntmps151;go_wp2_with fail;refine gU.mono ?_;rintro e w1 ⟨rfl,e1,e2⟩;rw[show hd (42::42::r)=42 from rfl];have Hz:fE w1:=hT.Jk e2 nI HB.1 λb hb=>(HB.2.2 b hb).1;have KU:=aa (f171 e1 Hz iw.1 iw.2);have HE:=eo e1 e2;clear e1 e2 Hz;go_wp2_with fail;refine KU.mono ?_;rintro e w2 ⟨rfl,e1,e2⟩;rw[show hd (42::42::r).tail=42 from rfl];have xD:=aa (f172 .fq e1 wZ);have yS:=eo e1 e2;clear e1 e2;go_wp2_with fail;refine xD.mono ?_;rintro e w3 ⟨rfl,fb,k1,k2⟩;have HK:=eo k1 k2;clear k1 k2;go_wp2_with fail;go_end0;exact⟨rfl,fb,_,_,_,HK.1,(HE.2.trans yS.2).trans HK.2⟩
theorem f151h {r:List dE} (h:er w B L txt (42::r) tl q vq lr gI hr) (hT:fE w) (nI:3<=B) (ez:dV txt) (hlen:(enc txt).length<=1000000) (hq:q.length<=900000) (hr42:hd r≠42):Calls prog 151 #[.pointer (some ⟨L,0,none⟩)] w λe w'=>e=.returned (.tuple #[])/\∃fb lr' lsz' hr',er w' B L txt r tl (q++[.any]) fb lr' lsz' hr'/\kA w w' L vq fb:=by
 have gU:=aa (f171 h hT ez hlen);have wZ:q.length<=1000000:=by omega
 have Hm:Utf8.encode 42=bs [42]:=fS (fg (eM ez h.eP));have hn42:((hd r:Int)==42)=false:=beq_eq_false_iff_ne.2 hr42;have yQ:=aa (tail_suffix.trans h.eP);have HB:=eo h.base h.lt;have iw:=eo ez hlen;clear h ez hlen hr42;go_enter func151,ntmps151;go_wp2_with fail;refine gU.mono ?_;rintro e w1 ⟨rfl,e1,e2⟩;rw[show hd (42::r)=42 from rfl];have Hz:fE w1:=hT.Jk e2 nI HB.1 λb hb=>(HB.2.2 b hb).1;have KU:=aa (f171 e1 Hz iw.1 iw.2);have HE:=eo e1 e2;clear e1 e2 Hz;go_wp2_with fail;refine KU.mono ?_;rintro e w2 ⟨rfl,e1,e2⟩;rw[show hd (42::r).tail=hd r from rfl];have P2:=aa (f177 (r0:=r) e1 yQ.out iw.2);have yS:=eo e1 e2;clear e1 e2;go_wp2_with fail;refine P2.mono ?_;rintro e w3 ⟨rfl,e1,e2⟩;have xD:=aa (f172 .any e1 wZ);have Br:=eo e1 e2;clear e1 e2;go_wp2_with fail;refine xD.mono ?_;rintro e w4 ⟨rfl,fb,k1,k2⟩;have HK:=eo k1 k2;clear k1 k2;go_wp2_with fail;go_end0;exact⟨rfl,fb,_,_,_,HK.1,((HE.2.trans yS.2).trans Br.2).trans HK.2⟩
theorem f151i {r:List dE} (D R:List dE) (h:er w B L txt (c::r) tl q vq lr gI hr) (hT:fE w) (nI:3<=B) (ez:dV txt) (hlen:(enc txt).length<=1000000) (hq:q.length<=900000) (h1:c≠123) (h2:c=44->tl=0) (h3:c=125->tl=0) (h4:c≠91) (h5:c≠63) (h6:c≠42) (kS:eZ (if 0<tl then Ch else Ci) false (c::r)=some (D,R)):Calls prog 151 #[.pointer (some ⟨L,0,none⟩)] w λe w'=>e=.returned (.tuple #[])/\∃fb lr' lsz' hr',er w' B L txt R tl (if D=[]then q else q++[.text D]) fb lr' lsz' hr'/\kA w w' L vq fb:=by
 obtain⟨q2,OJ⟩:=dS (if D=[]then q else q++[.text D]);rw[<-OJ];have HQ2:=aa OJ;clear OJ;have gU:=aa (f171 h hT ez hlen);have wZ:q.length<=1000000:=by omega
 have g0:=not_neg_one c;have g1:(((c:Nat):Int)==123)=false:=p6 (c:=c) (d:=123) h1;have g4:(((c:Nat):Int)==91)=false:=p6 (c:=c) (d:=91) h4;have g5:(((c:Nat):Int)==63)=false:=p6 (c:=c) (d:=63) h5;have g6:(((c:Nat):Int)==42)=false:=p6 (c:=c) (d:=42) h6;have yQ:=aa h.eP;have HB:=eo h.base h.lt;have iw:=eo ez hlen;have Cl:=aa kS;have mY:(c=44/\tl=0)\/(c=125/\tl=0)\/((((c:Nat):Int)==44)=false/\(((c:Nat):Int)==125)=false):=by
  by_cases e2:c=44
  ·exact .inl ⟨e2,h2 e2⟩
  ·by_cases e3:c=125
   ·exact .inr (.inl ⟨e3,h3 e3⟩)
   ·exact .inr (.inr ⟨p6 (d:=44) e2,p6 (d:=125) e3⟩)
 clear h ez hlen h1 h2 h3 h4 h5 h6 kS;have fin:∀(w3:World),er w3 B L txt (c::r) tl q vq (hd (c::r)) (wd (c::r)) true->kA w w3 L vq vq->∀(w4:World) (a:Option Addr) (n k:Nat),Bn w3 w4 (.slice a n k) (if 0<tl then Ch else Ci)->Calls prog 180 #[.pointer (some ⟨L,0,none⟩),.slice a n k] w4 λe w'=>e=.returned (.tuple #[])/\∃fb lr' lsz' hr',er w' B L txt R tl q2 fb lr' lsz' hr'/\kA w w' L vq fb:=by
  intro w3 e3 e4 w4 a n k hn;have hT4:fE w4:=(hT.Jk e4 nI HB.1 λb hb=>(HB.2.2 b hb).1).below hn.2.2 (af _);refine(f180 (.slice a n k) _ D R (e3.below hn.2.2) hT4 nI iw.1 iw.2 wZ hn.1 (λb hb=> ?_) (by split<;>simp[Ch,Ci]) Cl.out).mono ?_
  ·have:=hn.2.1 b hb;have l1:=e3.lt;exact⟨by omega,λe=>by have:=(l1.2 b e).2;omega⟩
  ·rintro e w' ⟨rfl,fb,lr',lsz',hr',k1,k2⟩;exact⟨rfl,fb,lr',lsz',hr',by rw[HQ2.out];exact k1,(e4.trans (kA.ft hn.2.2)).trans k2⟩
 have FIN:=aa fin;clear fin;rcases mY with⟨rfl,rfl⟩|⟨rfl,rfl⟩|⟨g2,g3⟩
 ·go_enter func151,ntmps151;go_wp2_with fail;refine gU.mono ?_;rintro e w1 ⟨rfl,e1,e2⟩;rw[show hd (44::r)=44 from rfl];have P2:=aa (f177 (r0:=44::r) e1 yQ.out iw.2);have HE:=eo e1 e2;clear e1 e2;go_wp2_with fail;refine(f174 (L:=L) _ HE.1.gu rfl).mono ?_;rintro e w1 ⟨rfl,rfl⟩;rw[show decide (0<0)=false from rfl];go_wp2_with fail;refine P2.mono ?_;rintro e w3 ⟨rfl,e3,e4⟩;have Br:=eo e3 e4;clear e3 e4;go_wp2_with fail;refine(f174 (L:=L) _ Br.1.gu rfl).mono ?_;rintro e w3 ⟨rfl,rfl⟩;rw[show decide (0<0)=false from rfl];go_wp2_with fail;refine(S5 w3).mono ?_;rintro e w4 ⟨a,k,rfl,hn⟩;have HF:=aa (FIN.out w3 Br.1 (HE.2.trans Br.2) w4 a 4 k hn);clear hn;go_wp2_with fail;refine HF.mono ?_;rintro e w5 ⟨rfl,hx⟩;have HX:=aa hx;clear hx;go_wp2_with fail;go_end0;exact⟨rfl,HX.out⟩
 ·go_enter func151,ntmps151;go_wp2_with fail;refine gU.mono ?_;rintro e w1 ⟨rfl,e1,e2⟩;rw[show hd (125::r)=125 from rfl];have P2:=aa (f177 (r0:=125::r) e1 yQ.out iw.2);have HE:=eo e1 e2;clear e1 e2;go_wp2_with fail;refine(f174 (L:=L) _ HE.1.gu rfl).mono ?_;rintro e w1 ⟨rfl,rfl⟩;rw[show decide (0<0)=false from rfl];go_wp2_with fail;refine P2.mono ?_;rintro e w3 ⟨rfl,e3,e4⟩;have Br:=eo e3 e4;clear e3 e4;go_wp2_with fail;refine(f174 (L:=L) _ Br.1.gu rfl).mono ?_;rintro e w3 ⟨rfl,rfl⟩;rw[show decide (0<0)=false from rfl];go_wp2_with fail;refine(S5 w3).mono ?_;rintro e w4 ⟨a,k,rfl,hn⟩;have HF:=aa (FIN.out w3 Br.1 (HE.2.trans Br.2) w4 a 4 k hn);clear hn;go_wp2_with fail;refine HF.mono ?_;rintro e w5 ⟨rfl,hx⟩;have HX:=aa hx;clear hx;go_wp2_with fail;go_end0;exact⟨rfl,HX.out⟩
 ·by_cases yw:0<tl
  ·go_enter func151,ntmps151;go_wp2_with fail;refine gU.mono ?_;rintro e w1 ⟨rfl,e1,e2⟩;rw[show hd (c::r)=((c:Nat):Int)from rfl];have P2:=aa (f177 (r0:=c::r) e1 yQ.out iw.2);have HE:=eo e1 e2;clear e1 e2;go_wp2_with fail;refine P2.mono ?_;rintro e w3 ⟨rfl,e3,e4⟩;have Br:=eo e3 e4;clear e3 e4;go_wp2_with fail;refine(f174 (L:=L) _ Br.1.gu rfl).mono ?_;rintro e w3 ⟨rfl,rfl⟩;rw[decide_eq_true yw];go_wp2_with fail;refine(f178 w3).mono ?_;rintro e w4 ⟨a,k,rfl,hn⟩;have HF:=aa (FIN.out w3 Br.1 (HE.2.trans Br.2) w4 a 6 k (by rw[if_pos yw];exact hn));clear hn;go_wp2_with fail;refine HF.mono ?_;rintro e w5 ⟨rfl,hx⟩;have HX:=aa hx;clear hx;go_wp2_with fail;go_end0;exact⟨rfl,HX.out⟩
  ·go_enter func151,ntmps151;go_wp2_with fail;refine gU.mono ?_;rintro e w1 ⟨rfl,e1,e2⟩;rw[show hd (c::r)=((c:Nat):Int)from rfl];have P2:=aa (f177 (r0:=c::r) e1 yQ.out iw.2);have HE:=eo e1 e2;clear e1 e2;go_wp2_with fail;refine P2.mono ?_;rintro e w3 ⟨rfl,e3,e4⟩;have Br:=eo e3 e4;clear e3 e4;go_wp2_with fail;refine(f174 (L:=L) _ Br.1.gu rfl).mono ?_;rintro e w3 ⟨rfl,rfl⟩;rw[decide_eq_false yw];go_wp2_with fail;refine(S5 w3).mono ?_;rintro e w4 ⟨a,k,rfl,hn⟩;have HF:=aa (FIN.out w3 Br.1 (HE.2.trans Br.2) w4 a 4 k (by rw[if_neg yw];exact hn));clear hn;go_wp2_with fail;refine HF.mono ?_;rintro e w5 ⟨rfl,hx⟩;have HX:=aa hx;clear hx;go_wp2_with fail;go_end0;exact⟨rfl,HX.out⟩
theorem er.qlen (h:er w B L txt rest tl q vq lr gI hr):∃a c,vq=.slice a q.length c:=by
 rcases h.q.2 with⟨e,h0⟩|⟨g,cap,cur,e,_⟩
 ·exact⟨none,0,by rw[e,h0]⟩
 ·exact⟨_,_,e⟩
theorem er.aside (h:er w B L txt rest tl q vq lr gI hr) {H:Nat} (h1:H≠L) (h2:vq.ownBlock≠some H) (i:Nat) (v:Value):er (w.setCell ⟨H,i,none⟩ v) B L txt rest tl q vq lr gI hr:=h.keep λb hb=>aq w ⟨H,i,none⟩ v b (by
 rcases hb with rfl|hb
 ·exact cE h1
 ·exactλe=>h2 (by rw[hb];exact congrArg some e))
theorem ya (t:Tok) (h:er w B L txt rest tl (t::q) vq lr gI hr):Calls prog 110 #[.pointer (some ⟨L,0,none⟩)] w λe w'=>e=.returned (.agg #[.int .i64 (t.num:Nat),.string (bs t.str)])/\∃fb,er w' B L txt rest tl q fb lr gI hr/\kA w w' L vq fb:=by
 have hL:=h.lt;have h0:=h.below (w':=w.alloc (.cells #[.int .i64 0,.string ⟨#[]⟩] 242)) (by go_grown);obtain⟨a,c,hv⟩:=h0.qlen;obtain⟨_,_,d2,d3,_,_,_,_,_⟩:=gg h0.gu;rw[hv,aH]at d3;have HSH:=aa (f150 t h0);have HF:Hid (Calls prog 149 #[.pointer (some ⟨L,3,none⟩)] (w.alloc (.cells #[.int .i64 0,.string ⟨#[]⟩] 242)) λe w'=>e=.returned (.bool false)/\(w.alloc (.cells #[.int .i64 0,.string ⟨#[]⟩] 242))=w'):=aa ((f149 (L:=L) (q.length+1) a c d3).mono λ_ _ h=>h);have HL:=aa hL;have HB:=aa (heap_alloc_new w (.cells #[.int .i64 0,.string ⟨#[]⟩] 242));obtain⟨x,hx⟩:=dS (((t.num:Nat):Int):Int);obtain⟨y,hy⟩:=dS (bs t.str);rw[<-hx,<-hy]at HSH;rw[<-hx,<-hy];clear h h0 hv d3 hL hx hy;go_enter func110,ntmps110;go_wp2_with fail;refine HF.mono ?_;rintro e w1 ⟨rfl,rfl⟩;go_wp2_with fail;refine HSH.mono ?_;rintro e w2 ⟨rfl,fb,k1,k2⟩;have hH:w.heap.size≠L:=by have:=HL.1;omega
 have hHq:vq.ownBlock≠some w.heap.size:=λe=>by have:=(HL.2 _ e).2;omega
 have b2:w2.heap[w.heap.size]? =some (.cells #[.int .i64 0,.string ⟨#[]⟩] 242 (0,0)):=(k2.fo.same w.heap.size (by rw[ab];omega) (λe=>by rcases e with e|e;exact hH e;exact hHq e)).trans HB.out;have SJ:fb.ownBlock≠some w.heap.size:=λe=>by
  rcases k2.own _ e with h|h
  ·exact hHq h
  ·rw[ab]at h;omega
 have x0:w2.cell? ⟨w.heap.size,0,none⟩=some (.int .i64 0):=by simp[World.cell?,b2]
 have x1:w2.cell? ⟨w.heap.size,1,none⟩=some (.string ⟨#[]⟩):=by simp[World.cell?,b2]
 have x2:w2.frozen? ⟨w.heap.size,0,none⟩=false:=by simp[World.frozen?,b2]
 have x3:w2.frozen? ⟨w.heap.size,1,none⟩=false:=by simp[World.frozen?,b2]
 have iq:=dG (i:=1) (dG (i:=0) b2 (.int .i64 x)) (.string y);have HRES:=aa iq;have HK:=jS ((k1.aside hH SJ 0 (.int .i64 x)).aside hH SJ 1 (.string y)) k2 b2;clear k1 k2 b2 iq;go_wp2_with fail
 (try simp only[Exit.inBlock,Exit.then])
 refine bodyPost_ret (results_cell_row rfl _ _ _ _ _ _ _ rfl HRES.out underlying242 rfl (by kernel_rfl)) rfl ?_;refine⟨rfl,fb,HK.1,?_,λb hb=> ?_⟩
 ·have hc:=HK.2.1.fo;have hW:ei (λb=>b=L\/vq.ownBlock=some b) w (w.alloc (.cells #[.int .i64 0,.string ⟨#[]⟩] 242)):=ei.grown (by go_grown);refine⟨hc.os,hc.tape,hc.output,?_,λb hb hn=> ?_⟩
  ·rw[aK,aK];exact ao (by rw[ab];omega) hc.size
  ·rw[aq _ _ _ b (show b≠w.heap.size by omega),aq _ _ _ b (show b≠w.heap.size by omega)];exact(hc.same b (by rw[ab];omega) hn).trans (hW.same b hb hn)
 ·rcases HK.2.1.own b hb with h|h
  ·exact .inl h
  ·right;rw[ab]at h;omega
theorem f110b (t:Tok) (ts:List Tok) (R:List dE) (tl':Nat) (h:er w B L txt rest tl [] vq lr gI hr) (hit:∀w0,er w0 B L txt rest tl [] vq lr gI hr->Below w.heap.size w w0->Calls prog 151 #[.pointer (some ⟨L,0,none⟩)] w0 λe w'=>e=.returned (.tuple #[])/\∃fb lr' lsz' hr',er w' B L txt R tl' (t::ts) fb lr' lsz' hr'/\kA w0 w' L vq fb):Calls prog 110 #[.pointer (some ⟨L,0,none⟩)] w λe w'=>e=.returned (.agg #[.int .i64 (t.num:Nat),.string (bs t.str)])/\∃fb lr' lsz' hr',er w' B L txt R tl' ts fb lr' lsz' hr'/\kA w w' L vq fb:=by
 have hL:=h.lt;have hW:Below w.heap.size w (w.alloc (.cells #[.int .i64 0,.string ⟨#[]⟩] 242)):=by go_grown
 have h0:=h.below hW;obtain⟨a,c,hv⟩:=h0.qlen;obtain⟨_,_,d2,d3,_,_,_,_,_⟩:=gg h0.gu;rw[hv,aG]at d3;have HIT:=aa (hit _ h0 hW);have HF:Hid (Calls prog 149 #[.pointer (some ⟨L,3,none⟩)] (w.alloc (.cells #[.int .i64 0,.string ⟨#[]⟩] 242)) λe w'=>e=.returned (.bool true)/\(w.alloc (.cells #[.int .i64 0,.string ⟨#[]⟩] 242))=w'):=aa ((f149 (L:=L) 0 a c d3).mono λ_ _ h=>h);have HL:=aa hL;have HB:=aa (heap_alloc_new w (.cells #[.int .i64 0,.string ⟨#[]⟩] 242));obtain⟨x,hx⟩:=dS (((t.num:Nat):Int):Int);obtain⟨y,hy⟩:=dS (bs t.str);rw[<-hx,<-hy];have HX:=eo hx hy;clear h h0 hv d3 hL hx hy hit hW;go_enter func110,ntmps110;go_wp2_with fail;refine HF.mono ?_;rintro e w1 ⟨rfl,rfl⟩;go_wp2_with fail;refine HIT.mono ?_;rintro e w1 ⟨rfl,xF,lr1,YQ,yz,j1,j2⟩;have qY:=aa (ya t j1);rw[<-HX.1,<-HX.2]at qY;have HJ:=eo j1 j2;clear j1 j2;go_wp2_with fail;refine qY.mono ?_;rintro e w2 ⟨rfl,fb,k1,k2⟩;have hk:=HJ.2.trans k2;have hH:w.heap.size≠L:=by have:=HL.1;omega
 have hHq:vq.ownBlock≠some w.heap.size:=λe=>by have:=(HL.2 _ e).2;omega
 have b2:w2.heap[w.heap.size]? =some (.cells #[.int .i64 0,.string ⟨#[]⟩] 242 (0,0)):=(hk.fo.same w.heap.size (by rw[ab];omega) (λe=>by rcases e with e|e;exact hH e;exact hHq e)).trans HB.out;have SJ:fb.ownBlock≠some w.heap.size:=λe=>by
  rcases hk.own _ e with h|h
  ·exact hHq h
  ·rw[ab]at h;omega
 have x0:w2.cell? ⟨w.heap.size,0,none⟩=some (.int .i64 0):=by simp[World.cell?,b2]
 have x1:w2.cell? ⟨w.heap.size,1,none⟩=some (.string ⟨#[]⟩):=by simp[World.cell?,b2]
 have x2:w2.frozen? ⟨w.heap.size,0,none⟩=false:=by simp[World.frozen?,b2]
 have x3:w2.frozen? ⟨w.heap.size,1,none⟩=false:=by simp[World.frozen?,b2]
 have iq:=dG (i:=1) (dG (i:=0) b2 (.int .i64 x)) (.string y);have HRES:=aa iq;have HK:=jS ((k1.aside hH SJ 0 (.int .i64 x)).aside hH SJ 1 (.string y)) hk b2;clear k1 k2 b2 iq hk;go_wp2_with fail
 (try simp only[Exit.inBlock,Exit.then])
 refine bodyPost_ret (results_cell_row rfl _ _ _ _ _ _ _ rfl HRES.out underlying242 rfl (by kernel_rfl)) rfl ?_;refine⟨rfl,fb,_,_,_,HK.1,?_,λb hb=> ?_⟩
 ·have hc:=HK.2.1.fo;have hW:ei (λb=>b=L\/vq.ownBlock=some b) w (w.alloc (.cells #[.int .i64 0,.string ⟨#[]⟩] 242)):=ei.grown (by go_grown);refine⟨hc.os,hc.tape,hc.output,?_,λb hb hn=> ?_⟩
  ·rw[aK,aK];exact ao (by rw[ab];omega) hc.size
  ·rw[aq _ _ _ b (show b≠w.heap.size by omega),aq _ _ _ b (show b≠w.heap.size by omega)];exact(hc.same b (by rw[ab];omega) hn).trans (hW.same b hb hn)
 ·rcases HK.2.1.own b hb with h|h
  ·exact .inl h
  ·right;rw[ab]at h;omega
theorem X9 (t:Tok) (ts:List Tok) (R:List dE) (tl':Nat) (h:er w B L txt rest tl [] vq lr gI hr) (hT:fE w) (nI:3<=B) (ez:dV txt) (hlen:(enc txt).length<=1000000) (yw:tl<=1000000) (hit:gy tl rest=some (t::ts,R,tl')):Calls prog 110 #[.pointer (some ⟨L,0,none⟩)] w λe w'=>e=.returned (.agg #[.int .i64 (t.num:Nat),.string (bs t.str)])/\∃fb lr' lsz' hr',er w' B L txt R tl' ts fb lr' lsz' hr'/\kA w w' L vq fb:=by
 refine f110b t ts R tl' h λw0 h0 hb=> ?_;have V4:=hT.below hb (af _);cases rest with
 |nil=>simp only[gy,ae,aQ,bq]at hit;obtain⟨⟨rfl,rfl⟩,rfl,rfl⟩:=hit;exact f151a h0 V4 ez hlen (by simp)
 |cons c r=>
  simp only[gy]at hit;by_cases e1:c=123
  ·subst e1;simp only[if_true,ae,aQ,bq]at hit;obtain⟨⟨rfl,rfl⟩,rfl,rfl⟩:=hit;exact f151b h0 V4 ez hlen (by simp) yw
  rw[if_neg e1]at hit;by_cases e2:c=44/\0<tl
  ·rw[if_pos e2]at hit;obtain⟨rfl,h2⟩:=e2;obtain⟨k,rfl⟩:∃k,tl=k+1:=⟨tl-1,by omega⟩;simp only[ae,aQ,bq]at hit;obtain⟨⟨rfl,rfl⟩,rfl,rfl⟩:=hit;exact f151c h0 V4 ez hlen (by simp)
  rw[if_neg e2]at hit;by_cases e3:c=125/\0<tl
  ·rw[if_pos e3]at hit;obtain⟨rfl,h2⟩:=e3;obtain⟨k,rfl⟩:∃k,tl=k+1:=⟨tl-1,by omega⟩;simp only[ae,aQ,bq,Nat.add_sub_cancel]at hit;obtain⟨⟨rfl,rfl⟩,rfl,rfl⟩:=hit;exact f151d h0 V4 ez hlen (by simp) (by omega)
  rw[if_neg e3]at hit;by_cases e4:c=91
  ·subst e4;simp only[if_true,aX,aQ,bq]at hit;obtain⟨⟨t1,R1⟩,h1,⟨rfl,rfl⟩,rfl,rfl⟩:=hit;exact f151e t1 R1 h0 V4 nI ez hlen (by simp) h1
  rw[if_neg e4]at hit;by_cases e5:c=63
  ·subst e5;simp only[if_true,ae,aQ,bq]at hit;obtain⟨⟨rfl,rfl⟩,rfl,rfl⟩:=hit;exact f151f h0 V4 ez hlen (by simp)
  rw[if_neg e5]at hit;by_cases e6:c=42
  ·subst e6;rw[if_pos rfl]at hit;by_cases e7:hd r=42
   ·rw[if_pos e7]at hit;obtain⟨r',rfl⟩:∃r',r=42::r':=by
     cases r with
     |nil=>simp[hd]at e7
     |cons d r'=>exact⟨r',by rw[show d=42 from dC (show((d:Nat):Int)=((42:Nat):Int)from e7)]⟩
    simp only[ae,aQ,bq,List.tail_cons]at hit;obtain⟨⟨rfl,rfl⟩,rfl,rfl⟩:=hit;exact f151g h0 V4 nI ez hlen (by simp)
   ·rw[if_neg e7]at hit;simp only[ae,aQ,bq]at hit;obtain⟨⟨rfl,rfl⟩,rfl,rfl⟩:=hit;exact f151h h0 V4 nI ez hlen (by simp) e7
  rw[if_neg e6]at hit;simp only[aX,aQ]at hit;obtain⟨⟨D,R1⟩,h1,h2,rfl,rfl⟩:=hit;have:=f151i D R1 h0 V4 nI ez hlen (by simp) e1 (λe=>by by_cases h:0<tl;exact absurd ⟨e,h⟩ e2;omega) (λe=>by by_cases h:0<tl;exact absurd ⟨e,h⟩ e3;omega) e4 e5 e6 h1;refine this.mono ?_;rintro e w' ⟨rfl,fb,lr',lsz',hr',k1,k2⟩;refine⟨rfl,fb,lr',lsz',hr',?_,k2⟩;rw[<-h2];simp only at h2;split at h2
  ·cases h2
  ·rename_i hD;rw[if_neg hD]at k1⊢;exact k1
theorem f109 (hB:B<=w.heap.size):Calls prog 109 #[.string (bs txt)] w λe w'=>∃vq,e=.returned (.pointer (some ⟨w.heap.size+1,0,none⟩))/\er w' B (w.heap.size+1) txt txt 0 [] vq 0 0 false/\Below w.heap.size w w'/\vq.ownBlock=some w.heap.size:=by
 have ZA:∀w:World,(Instr.makeSlice 324 (.int .i64 0) (.int .i64 4)).run prog w=.ok (.slice (some ⟨w.heap.size,0,none⟩) 0 4) (w.alloc (.cells #[.int .i64 0,.string ⟨#[]⟩,.int .i64 0,.string ⟨#[]⟩,.int .i64 0,.string ⟨#[]⟩,.int .i64 0,.string ⟨#[]⟩] 242)):=λ_=>by kernel_rfl
 go_enter func109,ntmps109;go_wp2_with fail;go_ret;refine⟨.slice (some ⟨w.heap.size,0,none⟩) 0 4,rfl,⟨?_,cF _,by omega,?_,?_,λh=>by cases h⟩,by go_grown,rfl⟩
 ·have:=heap_alloc_new (w.alloc (.cells #[.int .i64 0,.string ⟨#[]⟩,.int .i64 0,.string ⟨#[]⟩,.int .i64 0,.string ⟨#[]⟩,.int .i64 0,.string ⟨#[]⟩] 242)) (.cells #[.string (bs txt),.int .i64 0,.nilIface,.slice (some ⟨w.heap.size,0,none⟩) 0 4,.int .i64 0,.int .i32 0,.int .i64 0,.bool false] 327);rw[ab]at this;rw[show off txt txt=0 from by simp[off]];exact this
 ·refine World.ownsRow.alloc ?_ _;exact World.ownsRow_made w _ 4 hB (by decide) rfl
 ·simp[Value.ownBlock]
end
end Go.Proofs.YtfejflhgaphilaaGreatDoor
