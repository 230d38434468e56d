/- A region that draws its order and ends in one operation that waits for all others: those that read and those that must come one by one, in any mix: one order stands for all. The lexer's memory, and its small steps. A group of alternatives matches. -/
import Derived.Test.YtfejflhgaphilaaGreatDoorC04
import Derived.Test.YtfejflhgaphilaaGreatDoorC08
import Derived.Deep.Cut
set_option linter.all false
set_option maxRecDepth 100000
set_option maxHeartbeats 64000000
open Go.Proofs.Tryz
namespace Go.Proofs.YtfejflhgaphilaaGreatDoor
open Go
section
variable {P:Program} {Q:Exit->Act->World->Prop} {md:Region.Mode} {S:World->Prop}
def wN (md:Region.Mode) (ops:Array Oper) (n:Nat):List (Bool×Nat)->Array Bool->Bool
 |(true,i)::is,listed=>(Region.ready md ops listed).contains i&&Region.free md ops listed i&&decide (i<n)&&wN md ops n is (listed.setIfInBounds i true)
 |(false,t)::is,listed=>decide (Region.ready md ops listed=[t])&&decide (t<n)&&wN md ops n is (listed.setIfInBounds t true)
 | [],listed=>Region.seqB md ops 1 n listed
def m6 (P:Program) (l:List Oper) (Q:Exit->Act->World->Prop) (S:World->Prop):List (Bool×Nat)->Act->World->Prop
 |(true,i)::is,a,w=>∃o v,nth l i=some o/\(∀c a w,Q (.panic c) (a.put o.dst v) w->Q (.panic c) a w)/\YieldsIf P l.toArray S o v a/\S w/\m6 P l Q S is (a.put o.dst v) w
 |(false,t)::is,a,w=>wpOp P l.toArray Q t (λa' w'=>S w'/\m6 P l Q S is a' w') a w
 | [],a,w=>∃o,nth l (l.length-1)=some o/\wpList P l.toArray Q [o] a w
theorem dL {l:List Oper} {i:Nat} {is:List (Bool×Nat)} {a:Act} {w:World} {o:Oper} {v:Value} (ho:nth l i=some o) (hQ:∀c a w,Q (.panic c) (a.put o.dst v) w->Q (.panic c) a w) (hw:Region.wanted o (yielded l.toArray a.tmps)=true) (hv:∀w,S w->(execOp a.eval o).run P w=.ok (.value v) w) (hS:S w) (h:m6 P l Q S is (a.put o.dst v) w):m6 P l Q S ((true,i)::is) a w:=⟨o,v,ho,hQ,.inl ⟨hw,hv⟩,hS,h⟩
theorem dM {l:List Oper} {t:Nat} {is:List (Bool×Nat)} {a:Act} {w:World} {o:Oper} (ho:nth l t=some o) (h:∀K':Act->World->Prop,Shut (∀a w,S w->(S w->m6 P l Q S is a w)->K' a w)->if Region.wanted o (yielded l.toArray a.tmps)=true then Oper.wp P o a w K' Q else K' (a.put o.dst undef) w):m6 P l Q S ((false,t)::is) a w:=by
 have h0:l.toArray[t]? =some o:=by rw[<-ho,tp];simp
 exact wpOp_step h0 λK' hK=>h K' λa w hS hW=>hK a w ⟨hS,hW hS⟩
theorem dX {l:List Oper} {a:Act} {w:World} {o:Oper} (ho:nth l (l.length-1)=some o) (h:wpList P l.toArray Q [o] a w):m6 P l Q S [] a w:=⟨o,ho,h⟩
section
variable {l:List Oper} {n:Nat} (sq:n+1=l.length) (yx:Region.noSelect l.toArray=true) (hs:Region.sinkB md l.toArray n=true) (hc:Region.chainB md l.toArray n=true)
include sq yx hs hc
theorem rR:∀(is:List (Bool×Nat)) (listed:Array Bool) (a:Act) (w:World),HeadInv md l.toArray n listed->wN md l.toArray n is listed=true->m6 P l Q S is a w->Bj P md l.toArray Q S n (λql a' w'=>Region.seqB md l.toArray 1 n ql=true/\∃o,nth l (l.length-1)=some o/\wpList P l.toArray Q [o] a' w') is.length listed a w
 | [],listed,a,w,_,hB,h=>⟨hB,h⟩
 |(false,t)::is,listed,a,w,inv,hB,h=>by
  simp only[wN,al,decide_eq_true_eq]at hB;obtain⟨⟨hr,htn⟩,Qj⟩:=hB;refine⟨by rw[hr];simp,λj hj=> ?_⟩;have hjt:j=t:=by rw[hr]at hj;simpa using hj
  subst hjt;exact⟨htn,wpOp_mono (λa' w' h'=>⟨h'.1,rR is _ a' w' (inv.set hj htn) Qj h'.2⟩) h⟩
 |(true,i)::is,listed,a,w,inv,hB,h=>by
  simp only[wN,al,decide_eq_true_eq]at hB;obtain⟨⟨⟨hr,hf⟩,jn⟩,Qj⟩:=hB;obtain⟨o,v,ho,hQ,hy,hS,hK⟩:=h;have h0:l.toArray[i]? =some o:=by rw[<-ho,tp];simp
  have hr':i∈Region.ready md l.toArray listed:=by simpa using hr
  exact yi h0 (Region.noSelect_spec yx) hs hc (by simp;omega) jn hQ (λql a' w' hL=>seqB_ready hL.1) _ listed a w inv (Region.free_spec h0 hf) hr' hy hS (rR is _ _ w (inv.set hr' jn) Qj hK)
end
def L8 (l:List Oper) (is:List (Bool×Nat)):Bool:=decide (is.length+1=l.length)&&Region.noSelect l.toArray&&Region.sinkB .any l.toArray (l.length-1)&&Region.chainB .any l.toArray (l.length-1)&&wN .any l.toArray (l.length-1) is (Array.replicate l.length false)
theorem dP {id:Nat} {a:Act} {w:World} {l:List Oper} (S:World->Prop) (is:List (Bool×Nat)) (hm:P.follows .mixedOrders=true) (hB:L8 l is=true) (hS:S w.drew) (h:S w.drew->m6 P l Q S is a w.drew):(Code.region id l.toArray true).wp P Q a w:=by
 replace h:=h hS;simp only[L8,al,decide_eq_true_eq]at hB;obtain⟨⟨⟨⟨hl,yx⟩,hs⟩,hc⟩,hB⟩:=hB;have sq:l.length-1+1=l.length:=by omega
 have YU:HeadInv .any l.toArray (l.length-1) (Array.replicate l.length false):=⟨by simp,λj oj _ yC=>(by rw[getD_replicate_false]at yC;cases yC),λt _ ht=>getD_in (by simpa using ht) (getD_replicate_false _ _)⟩;have H:=rR (md:=.any) sq yx hs hc is _ a w.drew YU hB h;refine wp_region_any hm ?_;have:=nL (Q:=Q) (g:=1) (λlisted a' w' hL=>by
  obtain⟨o,ho,hw⟩:=hL.2;rw[tp]at ho;exact wpAny_of_seq (md:=.any) (Q':=Q) [o] (l.length-1) listed a' w' (λj=>by
   cases j with
   |zero=>simpa using ho.symm
   |succ j=>simp;omega) hL.1 hw) _ _ _ _ H
 rw[show is.length+1=l.toArray.size from by simpa using hl]at this;simpa using this
end
end Go.Proofs.YtfejflhgaphilaaGreatDoor
namespace Go.Proofs.YtfejflhgaphilaaGreatDoor
open Go.RowKit Gm
inductive Tok where
 |eof
 |text (t:List dE)
 |any
 |fq
 |single
 |not
 |DS
 |py
 |jz
 |lo (c:Nat)
 |hi (c:Nat)
 |PW
 |uc
 |pW
def Tok.num:Tok->Nat
 |.eof=>0
 |.text _=>2
 |.any=>3
 |.fq=>4
 |.single=>5
 |.not=>6
 |.DS=>7
 |.py=>8
 |.jz=>9
 |.lo _=>10
 |.hi _=>11
 |.PW=>12
 |.uc=>13
 |.pW=>14
def Tok.str:Tok->List dE
 |.eof=>[]
 |.text t=>t
 |.any=>[42]
 |.fq=>[42,42]
 |.single=>[63]
 |.not=>[33]
 |.DS=>[44]
 |.py=>[91]
 |.jz=>[93]
 |.lo c=>[c]
 |.hi c=>[c]
 |.PW=>[45]
 |.uc=>[123]
 |.pW=>[125]
def fp:List Tok->List Value
 | []=>[]
 |t::q=>.int .i64 (t.num:Nat):: .string (bs t.str)::fp q
theorem qF:∀(q:List Tok),(fp q).length=q.length*2
 | []=>rfl
 |t::q=>by simp only[fp,aH,qF q];omega
theorem qG:∀(q p:List Tok),fp (q++p)=fp q++fp p
 | [],p=>rfl
 |t::q,p=>by simp only[aJ,fp,qG q p]
def hd:List dE->Int
 | []=> -1
 |c::_=>(c:Nat)
def wd:List dE->Nat
 | []=>0
 |c::_=>(e1 c).length
theorem DP {txt r:List dE}:off txt r+wd r=off txt r.tail:=by
 cases r with
 |nil=>simp[wd,off]
 |cons c r=>simp only[wd,off,List.tail_cons,et,aj];omega
structure er (w:World) (B L:Nat) (txt rest:List dE) (tl:Nat) (q:List Tok) (vq:Value) (lr gI:Int) (hr:Bool):Prop where
 gu:w.heap[L]? =some (.cells #[.string (bs txt),.int .i64 (off txt rest),.nilIface,vq,.int .i64 tl,.int .i32 lr,.int .i64 gI,.bool hr] 327 (0,0))
 eP:rest<:+txt
 base:B<=L
 q:w.ownsRow B 242 2 vq q.length (fp q)
 apart:vq.ownBlock≠some L
 mem:hr=true->lr=hd rest/\gI=wd rest
structure kA (w w':World) (L:Nat) (vq fb:Value):Prop where
 fo:ei (λb=>b=L\/vq.ownBlock=some b) w w'
 own:∀b,fb.ownBlock=some b->vq.ownBlock=some b\/w.heap.size<=b
theorem kA.refl (w:World) (L:Nat) (vq:Value):kA w w L vq vq:=⟨ei.refl _ _,λ_ h=>.inl h⟩
theorem kA.trans {w w1 w2:World} {L:Nat} {v v1 v2:Value} (h:kA w w1 L v v1) (k:kA w1 w2 L v1 v2):kA w w2 L v v2:=by
 refine⟨h.fo.trans k.fo (λ_ _ h=>h) (λb hb hc=> ?_),λb hb=> ?_⟩
 ·rcases hc with hc|hc
  ·exact .inl hc
  ·rcases h.own b hc with h1|h1
   ·exact .inr h1
   ·omega
 ·rcases k.own b hb with h1|h1
  ·exact h.own b h1
  ·right;have:=h.fo.size;omega
theorem gg {w:World} {L:Nat} {v0 v1 v2 v3 v4 v5 v6 v7:Value} {t:TypeId} (h:w.heap[L]? =some (.cells #[v0,v1,v2,v3,v4,v5,v6,v7] t (0,0))):w.cell? ⟨L,0,none⟩=some v0/\w.cell? ⟨L,1,none⟩=some v1/\w.cell? ⟨L,2,none⟩=some v2/\w.cell? ⟨L,3,none⟩=some v3/\w.cell? ⟨L,4,none⟩=some v4/\w.cell? ⟨L,5,none⟩=some v5/\w.cell? ⟨L,6,none⟩=some v6/\w.cell? ⟨L,7,none⟩=some v7/\∀i,w.frozen? ⟨L,i,none⟩=false:=⟨by simp[World.cell?,h],by simp[World.cell?,h],by simp[World.cell?,h],by simp[World.cell?,h],by simp[World.cell?,h],by simp[World.cell?,h],by simp[World.cell?,h],by simp[World.cell?,h],λi=>by simp[World.frozen?,h]⟩
section
variable {w:World} {B L tl:Nat} {txt rest:List dE} {q:List Tok} {vq:Value} {lr gI:Int} {hr:Bool}
theorem er.lt (h:er w B L txt rest tl q vq lr gI hr):L<w.heap.size/\∀b,vq.ownBlock=some b->B<=b/\b<w.heap.size:=⟨(bc.1 h.gu).1,h.q.lt⟩
theorem er.keep (h:er w B L txt rest tl q vq lr gI hr) {w':World} (hs:∀b,b=L\/vq.ownBlock=some b->w'.heap[b]? =w.heap[b]?):er w' B L txt rest tl q vq lr gI hr:=⟨(hs L (.inl rfl)).trans h.gu,h.eP,h.base,dI h.q λg hg=>hs g (.inr hg),h.apart,h.mem⟩
theorem er.put (h:er w B L txt rest tl q vq lr gI hr) (i:Nat) (v:Value) {txt' rest':List dE} {tl':Nat} {lr' lsz':Int} {hr':Bool} (hb:(#[Value.string (bs txt),.int .i64 (off txt rest),.nilIface,vq,.int .i64 tl,.int .i32 lr,.int .i64 gI,.bool hr]:Array Value).setIfInBounds i v=#[.string (bs txt'),.int .i64 (off txt' rest'),.nilIface,vq,.int .i64 tl',.int .i32 lr',.int .i64 lsz',.bool hr']) (hs:rest'<:+txt') (hm:hr'=true->lr'=hd rest'/\lsz'=wd rest'):er (w.setCell ⟨L,i,none⟩ v) B L txt' rest' tl' q vq lr' lsz' hr'/\kA w (w.setCell ⟨L,i,none⟩ v) L vq vq:=by refine⟨⟨?_,hs,h.base,dI h.q λg hg=>aq w ⟨L,i,none⟩ v g (λe=>h.apart (by rw[hg];exact congrArg some e)),h.apart,hm⟩,⟨ei.cell (.inl rfl),λ_ h=>.inl h⟩⟩;rw[<-hb];exact dG h.gu v
theorem f191 (p n:Int) (cs:Array Value) (hb:w.heap[L]? =some (.cells cs 327 (0,0))) (hp:cs[1]? =some (.int .i64 p)) (hw:IntKind.i64.wrap (p+n)=p+n):Calls prog 191 #[.pointer (some ⟨L,0,none⟩),.int .i64 n] w λe w'=>e=.returned (.tuple #[])/\w'=w.setCell ⟨L,1,none⟩ (.int .i64 (p+n)):=by
 have hc:w.cell? ⟨L,1,none⟩=some (.int .i64 p):=by simpa[World.cell?,hb]using hp
 have hf:w.frozen? ⟨L,1,none⟩=false:=by simp[World.frozen?,hb]
 clear hb hp;go_enter func191,ntmps191;go_wp2_with fail;go_end0;exact⟨rfl,rfl⟩
theorem f173 (cs:Array Value) (hb:w.heap[L]? =some (.cells cs 327 (0,0))) (hp:cs[4]? =some (.int .i64 tl)) (hl:tl<=1000000):Calls prog 173 #[.pointer (some ⟨L,0,none⟩)] w λe w'=>e=.returned (.tuple #[])/\w'=w.setCell ⟨L,4,none⟩ (.int .i64 (tl+1)):=by
 have hc:w.cell? ⟨L,4,none⟩=some (.int .i64 tl):=by simpa[World.cell?,hb]using hp
 have hf:w.frozen? ⟨L,4,none⟩=false:=by simp[World.frozen?,hb]
 have hw:IntKind.i64.wrap ((tl:Int)+1)=tl+1:=by rw[aW];omega
 clear hb hp;go_enter func173,ntmps173;go_wp2_with fail;go_end0;exact⟨rfl,rfl⟩
theorem f175 (cs:Array Value) (hb:w.heap[L]? =some (.cells cs 327 (0,0))) (hp:cs[4]? =some (.int .i64 ((tl+1:Nat):Int))) (hl:tl<=1000000):Calls prog 175 #[.pointer (some ⟨L,0,none⟩)] w λe w'=>e=.returned (.tuple #[])/\w'=w.setCell ⟨L,4,none⟩ (.int .i64 tl):=by
 have hc:w.cell? ⟨L,4,none⟩=some (.int .i64 ((tl+1:Nat):Int)):=by simpa[World.cell?,hb]using hp
 have hf:w.frozen? ⟨L,4,none⟩=false:=by simp[World.frozen?,hb]
 have hw:IntKind.i64.wrap (((tl+1:Nat):Int)-1)=tl:=by rw[aW];omega
 have hw':IntKind.i64.wrap ((tl:Int)+1-1)=tl:=by rw[aW];omega
 clear hb hp;go_enter func175,ntmps175;go_wp2_with fail;go_end0;exact⟨rfl,rfl⟩
theorem f174 (cs:Array Value) (hb:w.heap[L]? =some (.cells cs 327 (0,0))) (hp:cs[4]? =some (.int .i64 tl)):Calls prog 174 #[.pointer (some ⟨L,0,none⟩)] w λe w'=>e=.returned (.bool (decide (0<tl)))/\w=w':=by
 have hc:w.cell? ⟨L,4,none⟩=some (.int .i64 tl):=by simpa[World.cell?,hb]using hp
 clear hb hp;by_cases ht:0<tl
 ·have h1:decide ((0:Int)<(tl:Int))=true:=by simpa using ht
  rw[decide_eq_true ht];go_enter func174,ntmps174;go_wp2_with fail;go_ret;exact⟨rfl,rfl⟩
 ·have h1:decide ((0:Int)<(tl:Int))=false:=by simpa using ht
  rw[decide_eq_false ht];go_enter func174,ntmps174;go_wp2_with fail;go_ret;exact⟨rfl,rfl⟩
theorem f149 (n:Nat) (a:Option Addr) (c:Nat) (hc:w.cell? ⟨L,3,none⟩=some (.slice a n c)):Calls prog 149 #[.pointer (some ⟨L,3,none⟩)] w λe w'=>e=.returned (.bool (decide (n=0)))/\w=w':=by
 by_cases ht:n=0
 ·have h1:((n:Int)==0)=true:=by simpa using ht
  rw[decide_eq_true ht];have HT:=aa ht;clear ht;go_enter func149,ntmps149;go_wp2_with fail;go_ret;exact⟨rfl,rfl⟩
 ·have h1:((n:Int)==0)=false:=by simpa using ht
  rw[decide_eq_false ht];have HT:=aa ht;clear ht;go_enter func149,ntmps149;go_wp2_with fail;go_ret;exact⟨rfl,rfl⟩
end
def pO (txt r:List dE) (vp:Value) (sp:Nat) (x:Ctx):Value:=.agg #[.int .i64 (off txt r),vp,.int .i64 x.depth,.pointer (some ⟨sp,0,none⟩),.int .i64 (if x.onStack then 0 else 1),.int .i64 x.floor]
def MOk (t:T) (u:Value) (B sp:Nat) (txt:List dE):Prop:=∃ty v f,u=.iface ty v/\(∀w,(method 570 ty v "Match").run prog w=.ok (f,v) w)/\(∀args w,(callFunc f args).run prog w=.ok (.enter f args) w)/\∀(w:World) (tot:Nat) (S:SV) (r:List dE) (st:St) (x:Ctx) (vp:Value),Rp w B t u->fE w->eY w B sp S txt tot st->eF w vp x.path->PL sp S vp->r<:+txt->x.floor<=st.stars.length->x.live=true->val t (x.path.drop x.depth)->x.depth+uH t<=1000000->tot+fT t x.depth<=1000000000000->Calls prog f #[v,pO txt r vp sp x,.string (bs r)] w λe w'=>e=.returned (gC r (M t x r st).1)/\∃S',eY w' B sp S' txt (tot+fT t x.depth) (M t x r st).2/\Fr w w' sp S S'
theorem mg (r:List dE) (o:Option (List dE)):∃(k:Int) (ok:Bool),gC r o=.tuple #[.int .i64 k,.bool ok]:=by
 cases o with
 |none=>exact⟨_,_,rfl⟩
 |some r'=>exact⟨_,_,rfl⟩
section
variable {w:World} {B sp tot:Nat} {S:SV} {txt:List dE} {st:St}
theorem f265 (b o cap:Nat) (l:List T) (t:T) (u:Value) (r:List dE) (x:Ctx) (vp:Value) (hT:fE w) (nI:3<=B) (uL:b<B) (hs:eY w B sp S txt tot st) (hp:eF w vp x.path) (nG:PL sp S vp) (hM:MOk t u B sp txt) (hu:w.cell? ⟨b,o+x.idx,none⟩=some u) (uB:Rp w B t u) (ht:l[x.idx]? =some t) (hl:l.length<=1000000) (ez:dV txt) (hr:r<:+txt) (hlen:(enc txt).length<=1000000) (kT:x.floor<=st.stars.length) (mU:x.live=true) (kZ:val t (x.path.drop (x.depth+1))) (hd:x.depth+1+uH t<=1000000) (sH:St) (qP:sH=if mv x l.length then{st with stack:=st.stack++[⟨x.branch (x.idx+1),r⟩]}else st) (qn:tot+(x.depth+2)+fT t (x.depth+1)<=1000000000000):Calls prog 265 #[.slice (some ⟨b,o,none⟩) l.length cap,pO txt r vp sp x,.string (bs r)] w λe w'=>e=.returned (gC r (M t {x.next with floor:=sH.stars.length} r sH).1)/\∃S',eY w' B sp S' txt (tot+(x.depth+2)+fT t (x.depth+1)) (M t {x.next with floor:=sH.stars.length} r sH).2/\Fr w w' sp S S':=by
 unfold pO;obtain⟨pa,pc,rfl⟩:∃pa pc,vp=.slice pa x.path.length pc:=by obtain⟨a,c,h,_⟩:=hp;exact⟨a,c,h⟩
 have xT:x.idx<l.length:=(aB.1 ht).1;obtain⟨kd,kg⟩:=dS ((if x.onStack then 0 else 1):Int);rw[<-kg];have HB:Below w.heap.size w (w.alloc (.cells #[.int .i64 (off txt r),.slice pa x.path.length pc,.int .i64 x.depth,.pointer (some ⟨sp,0,none⟩),.int .i64 kd,.int .i64 x.floor] 151)):=by go_grown
 obtain⟨i,hi⟩:=dS x.idx;obtain⟨n,hn⟩:=dS l.length;rw[<-hi]at hu ht xT qP;rw[<-hn]at xT hl qP⊢;have kY:=gW ((i:Int)+1) (by omega);have hPL:x.path.length<=maxLen:=by obtain⟨a,c,e,h1,h2,_⟩:=hp;omega
 have hwl:IntKind.i64.wrap ((x.path.length:Int)-1)=(x.path.length:Int)-1:=by rw[aW];unfold maxLen at hPL;omega
 have HP:=aa ((hp.lk HB));have HI:=aa hi;have HN:=aa hn;have BM:=aa kg;have zt:=eo hp nG;have HS:=aa hs;have oL:=aa qP;have TV:=aa kZ;clear kZ;have HM:=aa hM;have Jv:=eo uB ht;have HU:=aa hu;have iw:=Ur ez hr hlen kT mU hd qn;have l1:=hs.lt.1;clear hi hn kg hp nG hs qP hM uB ht ez hr hlen kT mU hd qn hPL hu;go_enter func265,ntmps265;go_wp2_with fail;refine(f223 _ x.path x.depth _ HP.out).mono ?_;rintro e w1 ⟨rfl,eu⟩;rw[show(x.path.getD x.depth 0:Nat)=i from by rw[HI.out];rfl];have o4:Hid (Below w.heap.size w w1):=aa (HB.trans (eu.mono (by rw[ab];omega)));have Qn:=aa ((eu.block w.heap.size (by rw[ab];omega)).trans (heap_alloc_new w (.cells #[.int .i64 (off txt r),.slice pa x.path.length pc,.int .i64 x.depth,.pointer (some ⟨sp,0,none⟩),.int .i64 kd,.int .i64 x.floor] 151)));have tR:w.heap.size<w1.heap.size:=by have:=eu.size;rw[ab]at this;omega
 obtain⟨z0,z1,z2,z3,z4,z5⟩:=eA Qn.out;clear HB eu;go_upto_if 22 with fail
 go_cut [8]from 14 (λs8 wx=>s8=.int .i64 i/\∃S1,Hid (eY wx B sp S1 txt (tot+(x.depth+2)) sH/\Fr w wx sp S S1/\wx.heap[w.heap.size]? =some (.cells #[.int .i64 (off txt r),.slice pa x.path.length pc,.int .i64 x.depth,.pointer (some ⟨sp,0,none⟩),.int .i64 kd,.int .i64 x.floor] 151)/\yT w.heap.size sp S1/\w.heap.size<wx.heap.size))
 case first=>
  by_cases hA:i+1<n
  ·by_cases hBd:x.path.length<=x.depth
   ·have e0:sH={st with stack:=st.stack++[⟨x.branch (i+1),r⟩]}:=(by rw[oL.out,if_pos];simp[mv,<-HI.out,hA,hBd]);have eu:decide (x.path.length<=x.depth)=true:=by simpa using hBd
    go_wp2_with fail;refine ev (λw'=>w'.cell? ⟨w.heap.size,0,none⟩=some (.int .i64 (off txt r))/\w'.cell? ⟨w.heap.size,1,none⟩=some (.slice pa x.path.length pc)/\w'.cell? ⟨w.heap.size,2,none⟩=some (.int .i64 x.depth)/\w'.cell? ⟨w.heap.size,3,none⟩=some (.pointer (some ⟨sp,0,none⟩))/\w'.cell? ⟨w.heap.size,4,none⟩=some (.int .i64 kd)/\w'.cell? ⟨w.heap.size,5,none⟩=some (.int .i64 x.floor)) [0,1,2] [3] (by kernel_rfl) (by kernel_rfl) ⟨z0,z1,z2,z3,z4,z5⟩ (λhHeld=> ?_);iterate 3
     refine fc (v:= ?_) rfl (λ_ _ _ h=>h) (by rfl) ?_ hHeld ?_;rotate_left
     ·intro w hSw;(try dsimp only at hSw);go_simp
      try with_reducible rfl
     simp only[Act.put,iX]
    refine fe ?_;refine ep rfl (λK hK=> ?_);go_simp;have UI:=HS.keep o4.out;have T5:=HS.below o4.out;have OV:=zt.1.fr zt.2 T5;have fI:=f263 x (.slice pa x.path.length pc) (i+1) x.floor (off txt r) kd UI.drew (OV.1.lk (by go_grown)) OV.2 (by have:=iw.2.2.2.2.2.2;omega);rw[show((i+1:Nat):Int)=(i:Int)+1 from rfl]at fI;refine fI.mono ?_;clear fI;rintro e w2 ⟨S2,pv,rfl,e1,e2,e3,e4⟩;have q8:=aa e1;have yS:=aa (HS.trans (HS.trans T5 (UI.below (by go_grown))) e2);have Br:=eo e3 e4;have HY:=aa ((HS.free (af w.heap.size)).keep (show w.heap.size<w1.drew.heap.size from tR) e2);have HSZ2:w.heap.size<w2.heap.size:=by have:=e2.size;have h:w1.drew.heap.size=w1.heap.size:=rfl;omega
    clear e1 e2 e3 e4 UI T5 OV;dsimp only;have oJ:=aa (HY.2.trans Qn.out);refine hK.out _ _ (eA oJ.out) (λdW=> ?_);clear hK K hHeld dW;refine ff rfl ?_;go_wp2_with fail;refine(f267 B sp _ S2 txt r st (.slice pa x.path.length pc) pv x.depth x.depth x.floor kd (x.branch (i+1)) w2 q8.out Br.1 Br.2 (by have:=iw.2.2.2.2.2.2;omega)).mono ?_;rintro e w4 ⟨rfl,S3,e1,e2⟩;have HE4:=aa e1;have HE5:=aa (HS.trans yS.out e2);have HY3:=aa (HY.1.keep HSZ2 e2);have HSZ3:w.heap.size<w4.heap.size:=(by have:=e2.size;omega);clear e1 e2;go_wp2_with fail;go_meet
    case rel=>rw[e0];exact⟨rfl,S3,aa ⟨HE4.more (by omega),HE5.out,HY3.2.trans oJ.out,HY3.1,HSZ3⟩⟩
   ·have eu:decide (x.path.length<=x.depth)=false:=(by simpa using hBd);by_cases hC:x.depth+1=x.path.length/\x.onStack=true
    ·have e0:sH={st with stack:=st.stack++[⟨x.branch (i+1),r⟩]}:=(by rw[oL.out,if_pos];simp[mv,<-HI.out,hA,hC.1,hC.2]);have eT:((x.depth:Int)==(x.path.length:Int)-1)=true:=by simp;omega
     have gQ:(kd==0)=true:=(by rw[BM.out,hC.2];rfl);go_wp2_with fail;refine ev (λw'=>w'.cell? ⟨w.heap.size,0,none⟩=some (.int .i64 (off txt r))/\w'.cell? ⟨w.heap.size,1,none⟩=some (.slice pa x.path.length pc)/\w'.cell? ⟨w.heap.size,2,none⟩=some (.int .i64 x.depth)/\w'.cell? ⟨w.heap.size,3,none⟩=some (.pointer (some ⟨sp,0,none⟩))/\w'.cell? ⟨w.heap.size,4,none⟩=some (.int .i64 kd)/\w'.cell? ⟨w.heap.size,5,none⟩=some (.int .i64 x.floor)) [0,1,2] [3] (by kernel_rfl) (by kernel_rfl) ⟨z0,z1,z2,z3,z4,z5⟩ (λhHeld=> ?_);iterate 3
      refine fc (v:= ?_) rfl (λ_ _ _ h=>h) (by rfl) ?_ hHeld ?_;rotate_left
      ·intro w hSw;(try dsimp only at hSw);go_simp
       try with_reducible rfl
      simp only[Act.put,iX]
     refine fe ?_;refine ep rfl (λK hK=> ?_);go_simp;have UI:=HS.keep o4.out;have T5:=HS.below o4.out;have OV:=zt.1.fr zt.2 T5;have fI:=f263 x (.slice pa x.path.length pc) (i+1) x.floor (off txt r) kd UI.drew (OV.1.lk (by go_grown)) OV.2 (by have:=iw.2.2.2.2.2.2;omega);rw[show((i+1:Nat):Int)=(i:Int)+1 from rfl]at fI;refine fI.mono ?_;clear fI;rintro e w2 ⟨S2,pv,rfl,e1,e2,e3,e4⟩;have q8:=aa e1;have yS:=aa (HS.trans (HS.trans T5 (UI.below (by go_grown))) e2);have Br:=eo e3 e4;have HY:=aa ((HS.free (af w.heap.size)).keep (show w.heap.size<w1.drew.heap.size from tR) e2);have HSZ2:w.heap.size<w2.heap.size:=by have:=e2.size;have h:w1.drew.heap.size=w1.heap.size:=rfl;omega
     clear e1 e2 e3 e4 UI T5 OV;dsimp only;have oJ:=aa (HY.2.trans Qn.out);refine hK.out _ _ (eA oJ.out) (λdW=> ?_);clear hK K hHeld dW;refine ff rfl ?_;go_wp2_with fail;refine(f267 B sp _ S2 txt r st (.slice pa x.path.length pc) pv x.depth x.depth x.floor kd (x.branch (i+1)) w2 q8.out Br.1 Br.2 (by have:=iw.2.2.2.2.2.2;omega)).mono ?_;rintro e w4 ⟨rfl,S3,e1,e2⟩;have HE4:=aa e1;have HE5:=aa (HS.trans yS.out e2);have HY3:=aa (HY.1.keep HSZ2 e2);have HSZ3:w.heap.size<w4.heap.size:=(by have:=e2.size;omega);clear e1 e2;go_wp2_with fail;go_meet
     case rel=>rw[e0];exact⟨rfl,S3,aa ⟨HE4.more (by omega),HE5.out,HY3.2.trans oJ.out,HY3.1,HSZ3⟩⟩
    ·have e0:sH=st:=by
      rw[oL.out,if_neg];simp only[mv,al,cC,decide_eq_true_eq,not_and,not_or];intro _;exact⟨hBd,λh1 h2=>hC ⟨h1,h2⟩⟩
     have eT:((x.depth:Int)==(x.path.length:Int)-1)=false\/(((x.depth:Int)==(x.path.length:Int)-1)=true/\(kd==0)=false):=by
      by_cases h1:x.depth+1=x.path.length
      ·right;exact⟨by simp;omega,by rw[BM.out,if_neg (λh2=>hC ⟨h1,h2⟩)];rfl⟩
      ·left;rw[beq_eq_false_iff_ne];omega
     rcases eT with eT|⟨eT,gQ⟩
     all_goals
      clear hC hBd;go_wp2_with fail
      all_goals
       go_meet
       case rel=>rw[e0];have:=HS.keep o4.out;exact⟨rfl,S,aa ⟨this.more (by omega),HS.below o4.out,Qn.out,HS.free (af _),tR⟩⟩
  ·go_wp2_with fail;go_meet
   case rel=>have e1:sH=st:=(by rw[oL.out,if_neg];simp[mv,<-HI.out];omega);rw[e1];have:=HS.keep o4.out;exact⟨rfl,S,aa ⟨this.more (by omega),HS.below o4.out,Qn.out,HS.free (af _),tR⟩⟩
 case rest=>
  obtain⟨rfl,S1,HR⟩:=hcut;obtain⟨r1,r2,r3,r4,r5⟩:=HR.out;obtain⟨c0,c1,c2⟩:=r1.cells;obtain⟨sa,sc,tC,_,_⟩:=r1.stars.form;rw[tC]at c0;obtain⟨y0,y1,y2,y3,y4,y5⟩:=eA r3;have yf:wc.frozen? ⟨w.heap.size,5,none⟩=false:=by simp[World.frozen?,r3]
  have eK:w.heap.size≠sp:=r4.sp;have HFC:=aa r2;clear r1 r2 r3 r4 r5 tC c1 c2 z0 z1 z2 z3 z4 z5 Qn o4 tR HP;go_upto_region 8 with fail
  obtain⟨w2,mN⟩:=dS (wc.setCell ⟨w.heap.size,5,none⟩ (.int .i64 sH.stars.length));have oJ:Hid (w2.heap[w.heap.size]? =some (.cells #[.int .i64 (off txt r),.slice pa x.path.length pc,.int .i64 x.depth,.pointer (some ⟨sp,0,none⟩),.int .i64 kd,.int .i64 sH.stars.length] 151 (0,0))):=aa (by rw[mN];exact dG (i:=5) HR.2.2.1 _);have tS:Hid (eY w2 B sp S1 txt (tot+(x.depth+2)) sH):=aa (by rw[mN];exact HR.1.boxed HR.2.2.2.1 HR.2.2.1 (by decide) _);have P6:Hid (Fr w w2 sp S S1):=aa (by rw[mN];exact HFC.boxed (λb h=>(HS.lt.2.2.2 b h).1) (af _) _);have HO2:Hid (∀c,c≠w.heap.size->w2.heap[c]? =wc.heap[c]?):=aa (λc hc=>by rw[mN];exact aq _ _ _ _ hc);have HZ2:Hid (w2.heap.size=wc.heap.size):=aa (by rw[mN];exact aK ..);rw[<-mN];clear mN y0 y1 y2 y3 y4 y5 yf c0;obtain⟨y0,y1,y2,y3,y4,y5⟩:=eA oJ.out;go_wp2_with fail;have RY:off txt r+0=off txt r:=Int.add_zero _;refine(f264 (off txt r) 0 x.depth kd sH.stars.length pa x.path.length pc (some ⟨sp,0,none⟩) w2 (by
   have h1:=iw.2.1;have h2:=iw.2.2.1;obtain⟨v,hv⟩:=h1;have h3:(enc r).length<=(enc txt).length:=by rw[<-hv];simp
   rw[aW];unfold off;omega) (by have:=iw.2.2.2.2.2.1;rw[aW];omega)).mono ?_
  rintro e w3 ⟨rfl,gQ⟩;obtain⟨d1,xV⟩:=dS (x.depth+1);rw[show(x.depth:Int)+1=(d1:Int)from by rw[xV];rfl,RY];have HD1:=aa xV;have DK:=aa gQ;have MQ:=aa ((gQ.block w.heap.size (by have:=HR.2.2.2.2;have:=HZ2.out;omega)).trans oJ.out);clear xV gQ y0 y1 y2 y3 y4 y5 RY;go_wp2_with fail;have Yp:=aa (heap_alloc_new w3 (.cells #[.int .i64 (off txt r),.slice pa x.path.length pc,.int .i64 d1,.pointer (some ⟨sp,0,none⟩),.int .i64 kd,.int .i64 sH.stars.length] 151));obtain⟨y0,y1,y2,y3,y4,y5⟩:=eA Yp.out;have P7:Hid (Below w2.heap.size w2 (w3.alloc (.cells #[.int .i64 (off txt r),.slice pa x.path.length pc,.int .i64 d1,.pointer (some ⟨sp,0,none⟩),.int .i64 kd,.int .i64 sH.stars.length] 151)).drew):=aa (DK.trans (by have:=DK.size;go_grown));have HS4:=aa (tS.keep P7.out);have HF4:=aa (HS.trans P6.out (tS.below P7.out));have HO4:=aa (Old.xM HS.out HF4.out);have HFR:=aa ((tS.keep DK.out).free (af w3.heap.size));have hu4:(w3.alloc (.cells #[.int .i64 (off txt r),.slice pa x.path.length pc,.int .i64 d1,.pointer (some ⟨sp,0,none⟩),.int .i64 kd,.int .i64 sH.stars.length] 151)).cell? ⟨b,o+i,none⟩=some u:=(HO4.cell uL).trans HU.out;have i1:(0:Int)<=(i:Int):=by omega
  have i2:(i:Int)<(n:Int):=by omega
  obtain⟨ty,v,f,rfl,hm,UB,hC⟩:=HM.out;have HC:=aa hC;clear hC;refine dP (λw'=>w'.cell? ⟨w3.heap.size,0,none⟩=some (.int .i64 (off txt r))/\w'.cell? ⟨w3.heap.size,1,none⟩=some (.slice pa x.path.length pc)/\w'.cell? ⟨w3.heap.size,2,none⟩=some (.int .i64 d1)/\w'.cell? ⟨w3.heap.size,3,none⟩=some (.pointer (some ⟨sp,0,none⟩))/\w'.cell? ⟨w3.heap.size,4,none⟩=some (.int .i64 kd)/\w'.cell? ⟨w3.heap.size,5,none⟩=some (.int .i64 sH.stars.length)/\w'.cell? ⟨b,o+i,none⟩=some (.iface ty v)) [(true,0),(true,1),(true,2),(true,3),(true,4),(true,5),(false,6),(false,7),(true,8),(true,9),(false,10)] (by kernel_rfl) (by kernel_rfl) ⟨y0,y1,y2,y3,y4,y5,hu4⟩ (λhHeld=> ?_);iterate 6
   refine dL (v:= ?_) rfl (λ_ _ _ h=>h) (by rfl) ?_ hHeld ?_;rotate_left
   ·intro w hSw;(try dsimp only at hSw);go_simp
    try with_reducible rfl
   simp only[Act.put,iX]
  refine dM rfl (λK hK=> ?_);go_simp;obtain⟨g1,g2,g3,g4,g5,g6,g7⟩:=iw.out;have hP4:=zt.1.fr zt.2 HF4.out;have hT4:fE (w3.alloc (.cells #[.int .i64 (off txt r),.slice pa x.path.length pc,.int .i64 d1,.pointer (some ⟨sp,0,none⟩),.int .i64 kd,.int .i64 sH.stars.length] 151)).drew:=hT.keep HF4.size (HO4.same 1 (by omega)) (HO4.same 2 (by omega));have Hp:pO txt r (.slice pa x.path.length pc) sp {x.next with floor:=sH.stars.length}=.agg #[.int .i64 (off txt r),.slice pa x.path.length pc,.int .i64 d1,.pointer (some ⟨sp,0,none⟩),.int .i64 kd,.int .i64 sH.stars.length]:=by rw[BM.out,HD1.out];rfl
  have fI:=(HC.out _ _ S1 r sH {x.next with floor:=sH.stars.length} (.slice pa x.path.length pc) (Rp.keep HO4.out t _ Jv.1) hT4 HS4.out hP4.1 hP4.2 g2 (af _) g5 TV.out (show x.depth+1+uH t<=1000000 from g6) (show tot+(x.depth+2)+fT t (x.depth+1)<=1000000000000 from g7));rw[Hp]at fI;refine fI.mono ?_;clear fI Hp;rintro e w5 ⟨rfl,S',e1,e2⟩;obtain⟨k,ok,ie⟩:=mg r (M t {x.next with floor:=sH.stars.length} r sH).1;rw[ie];have Cn:=aa ie;have q8:=aa e1;have yS:=aa (HS.trans HF4.out e2);have HY:=aa ((HFR.keep (by simp) e2).2);have Wr:=aa ((Old.xM HS.out yS.out).cell (o:=o+i) uL);clear e1 e2 ie g1 g2 g3 g4 g5 g6 g7 hP4 hT4 y0 y1 y2 y3 y4 y5;obtain⟨y0,y1,y2,y3,y4,y5⟩:=eA (HY.trans Yp.out);dsimp only;refine hK.out _ _ ⟨y0,y1,y2,y3,y4,y5,Wr.trans HU.out⟩ (λhHeld=> ?_);clear hK K y0 y1 y2 y3 y4 y5 hu4;refine dM rfl (λK hK=> ?_);go_simp;refine hK.out _ _ hHeld (λdW=> ?_);clear hK K dW;iterate 2
   refine dL (v:= ?_) rfl (λ_ _ _ h=>h) (by rfl) ?_ hHeld ?_;rotate_left
   ·intro w hSw;(try dsimp only at hSw);go_simp
    try with_reducible rfl
   simp only[Act.put,iX]
  refine dM rfl (λK hK=> ?_);go_simp;refine hK.out _ _ hHeld (λdW=> ?_);clear hK K dW;refine dX rfl ?_;clear hHeld;go_wp2_with fail;go_ret2;exact⟨by rw[Cn.out];rfl,S',q8.out,yS.out⟩
end
end Go.Proofs.YtfejflhgaphilaaGreatDoor
