/- The arguments, read off what a parameter is: patterns and texts in memory. THE ROW AND THE TIED CARD of FnWholeGlob. -/
import Derived.Test.YtfejflhgaphilaaGreatDoorC45
import Derived.OpenShut
import Derived.SizedLaws
import Derived.Deep.Strs
import Derived.Test.YtfejflhgaphilaaGreatDoorTie
import Derived.Test.YtfejflhgaphilaaGreatDoorCards
import Derived.Test.YtfejflhgaphilaaGreatDoorC49
import Derived.ProofKit
import Derived.LaidMore
import Derived.Lay
import Derived.SevenTiedAt
import Derived.Stop.Joined
import Derived.PinnedBridge
import Derived.Lib.LaidU8T
set_option linter.all false
set_option maxRecDepth 100000
set_option maxHeartbeats 64000000
open Go.Proofs.Tryz
namespace Go.Proofs.YtfejflhgaphilaaGreatDoor
open Go.RowKit Gm
theorem Et {α:Type} {P:Nat->α->Prop}:∀(n:Nat),(∀i,i<n->∃g,P i g)->∃l:List α,l.length=n/\∀i g,l[i]? =some g->P i g
 |0,_=>⟨[],rfl,λi g h=>by simp at h⟩
 |n+1,h=>by
  obtain⟨l,hl,hP⟩:=Et n λi hi=>h i (by omega);obtain⟨g,hg⟩:=h n (by omega);refine⟨l++[g],by simp[hl],λi x hx=> ?_⟩;rcases aV i l.length with hi|hi
  ·rw[bV hi]at hx;exact hP i x hx
  ·rw[aR hi]at hx;cases hk:i-l.length with
   |zero=>rw[hk]at hx;simp only[aN,ae]at hx;subst hx;rw[show i=n by omega];exact hg
   |succ m=>rw[hk]at hx;simp at hx
theorem six {α:Type}:∀{l:List α},l.length=6->∃a b c d e f,l=[a,b,c,d,e,f]
 | [a,b,c,d,e,f],_=>⟨a,b,c,d,e,f,rfl⟩
theorem qd {α:Type} {a b:α} (h:[a]=[b]):a=b:=by simpa using h
theorem tW.of {w:World}:∀(l:List Gr) (b o:Nat),(∀i g,l[i]? =some g->tX w g b (o+i*6))->tW w l b o
 | [],_,_,_=>by simp only[tW]
 |g::l,b,o,h=>by simp only[tW];refine⟨by simpa using h 0 g rfl,tW.of l b (o+6) λi x hx=> ?_⟩;have:=h (i+1) x (by simpa using hx);rw[show o+6+i*6=o+(i+1)*6 by omega];exact this
theorem ua.of {w:World}:∀(ks:List (List Gr)) (b o:Nat),(∀i k,ks[i]? =some k->∃v,w.cell? ⟨b,o+i,none⟩=some v/\tV w k v)->ua w ks b o
 | [],_,_,_=>by simp only[ua]
 |k::ks,b,o,h=>by
  simp only[ua];refine⟨?_,ua.of ks b (o+1) λi x hx=> ?_⟩
  ·obtain⟨v,hv,a,c,rfl,h2,h3⟩:=h 0 k rfl;exact⟨a,c,by simpa using hv,h2,h3⟩
  ·have:=h (i+1) x (by simpa using hx);rw[show o+1+i=o+(i+1)by omega];exact this
section
variable {H:Type} {enc:TypeId×Value->H} {w:World} {base:Nat} {spare:Nat->Bool} {held:Bool}
theorem Tryz.TD:prog.cellsOf 9=1:=by kernel_rfl
theorem Tryz.Wg:prog.cellsOf 21=1:=by kernel_rfl
theorem Tryz.Wi:prog.bytesOf 22=24:=by kernel_rfl
theorem rS {a:Addr} (h:a.spot=none) (n:Nat):a.add n=⟨a.block,a.off+n,none⟩:=by
 obtain⟨b,o,s⟩:=a;simp only at h;subst h;unfold Addr.add;split
 ·rename_i h;subst h;rfl
 ·rfl
theorem nM {P:Program} {e:TypeId} {d:DataW H} {y:Nat} (h:y∈d.weights P e):∀{l:List (DataW H)},d∈l->y∈DataW.weightsAll P e l
 | [],hd=>by cases hd
 |x::l,hd=>by
  simp only[DataW.weightsAll,ar];rcases az.1 hd with rfl|hd
  ·exact .inl h
  ·exact .inr (nM h hd)
theorem FV:∀(N fuel:Nat),fuel<=N->∀{cs:List Value} {x:DataW H×List MemPlace},DataW.trod enc prog w base spare held fuel 22 cs=some x->(∀y∈x.1.weights prog 22,y<=reachBytes)->∃v l,cs=[v]/\tV w l v
 |0,fuel,hN,cs,x,h,hw=>by
  obtain rfl:fuel=0:=by omega
  simp[DataW.trod]at h
 |N+1,fuel,hN,cs,x,h,hw=>by
  rcases DataW.trod_slice underlying22 h with⟨rfl,rfl⟩|⟨a,len,cap,elems,rest,n,rfl,rfl,rfl,hb,hlc,mX,hel,hx,_,_⟩
  ·exact⟨_,[],rfl,none,0,rfl,aU _,λh=>absurd rfl h⟩
  ·rw[Tryz.Wd]at hx;have Xp:0<len->a.spot=none:=λh0=>by
    have RA:=hx 0 h0;rw[ah (by omega)]at RA;obtain⟨tN,lJ,_⟩:=Option.bind_eq_some_iff.1 RA;obtain⟨_,hl6,eB⟩:=World.cells?_some lJ;have h1:=eB 0 (by omega);rw[ah (by omega)]at h1;simpa[Addr.add]using World.cell?_spot h1
   have hpart:∀i,i<len->∃g,tX w g a.block (a.off+i*6):=λi hi=>by
    have RA:=hx i hi;have XP:i<elems.length:=by omega
    rw[ah XP]at RA;obtain⟨tN,lJ,ll⟩:=Option.bind_eq_some_iff.1 RA;obtain⟨zm,hl6,eB⟩:=World.cells?_some lJ;obtain⟨xs,m,hfu,hxe,ka,hxl,hf⟩:=DataW.trod_struct underlying97 ll;have xd:∀k,k<6->w.cell? ⟨a.block,a.off+i*6+k,none⟩=tN[k]? :=λk hk=>by have:=eB k hk;rw[rS (Xp (by omega)),rS rfl]at this;exact this
    obtain⟨c0,c1,c2,c3,c4,c5,rfl⟩:=six hl6;have Y2:xs.length=6:=hxl;obtain⟨x0,x1,x2,x3,x4,x5,rfl⟩:=six Y2;have f0:=hf 0 _ rfl;have f1:=hf 1 _ rfl;have f2:=hf 2 _ rfl;have f3:=hf 3 _ rfl;have f4:=hf 4 _ rfl;have f5:=hf 5 _ rfl;simp only[Tryz.cells5,Tryz.cells4,Tryz.TD,Tryz.Wg,Tryz.We,bK,cu,de,List.take_zero,aN,bH]at f0 f1 f2 f3 f4 f5;obtain⟨kk,h0,_,Xi⟩:=DataW.trod_int underlying5 f0;obtain⟨ng,h1,_⟩:=DataW.trod_bool underlying4 f1;obtain⟨t,h2,_,fY⟩:=DataW.trod_string underlying9 f2;obtain⟨lo,h3,_,_⟩:=DataW.trod_int underlying21 f3;obtain⟨Sf,h4,_,_⟩:=DataW.trod_int underlying21 f4;obtain rfl:=qd h0;obtain rfl:=qd h1;obtain rfl:=qd h2;obtain rfl:=qd h3;obtain rfl:=qd h4;have hkr:0<=kk/\kk<256:=by
     have h:=Xi;simp only[Lit.wf,al,decide_eq_true_eq]at h;have e1:IntKind.u8.min=0:=(by decide);have e2:IntKind.u8.max=255:=by decide
     rw[e1,e2]at h;omega
    have Ut:∀y∈x5.1.weights prog 95,y<=reachBytes:=λy hy=>hw y (by simp only[DataW.weights,underlying22];refine bJ _ (bu _ (nM ?_ (List.mem_map_of_mem (List.getElem_mem XP))));rw[hxe];simp only[DataW.weights,underlying97];exact DataW.weights_mem_each (j:=5) rfl rfl y hy);have e0:=xd 0 (by omega);have e1:=xd 1 (by omega);have e2:=xd 2 (by omega);have e3:=xd 3 (by omega);have e4:=xd 4 (by omega);have e5:=xd 5 (by omega);simp only[aN,bH,bL]at e0 e1 e2 e3 e4 e5;rcases DataW.trod_slice underlying95 f5 with⟨h5,VE⟩|⟨a2,Vl,cap2,Ty,rest2,q,hq,h5,VE,eT,hlc2,hcm2,hel2,hxx,_,_⟩
    ·obtain rfl:=qd h5;refine⟨.mk kk ng t lo Sf [],?_⟩;simp only[tX];exact⟨e0,hkr,e1,e2,fY,e3,e4,none,0,e5,aU _,λh=>absurd rfl h⟩
    ·obtain rfl:=qd h5;rw[Tryz.Wf]at hxx;have RI:0<Vl->a2.spot=none:=λh0=>by
      have RA:=hxx 0 h0;rw[ah (by omega)]at RA;obtain⟨tN,lJ,_⟩:=Option.bind_eq_some_iff.1 RA;obtain⟨_,jg,eB⟩:=World.cells?_some lJ;have h1:=eB 0 (by omega);rw[ah (by omega)]at h1;simpa[Addr.add]using World.cell?_spot h1
     have hkid:∀k,k<Vl->∃l,∃v,w.cell? ⟨a2.block,a2.off+k,none⟩=some v/\tV w l v:=λk hk=>by
      have RA:=hxx k hk;have XO:k<Ty.length:=by omega
      rw[ah XO]at RA;obtain⟨tN,lJ,ll⟩:=Option.bind_eq_some_iff.1 RA;obtain⟨_,jg,eB⟩:=World.cells?_some lJ;obtain⟨v,l,rfl,hv⟩:=FV N q (by omega) ll (λy hy=>Ut y (by rw[VE];simp only[DataW.weights,underlying95];exact bJ _ (bu _ (nM hy (List.mem_map_of_mem (List.getElem_mem XO))))));refine⟨l,v,?_,hv⟩;have h1:=eB 0 (by omega);rw[rS (RI (by omega)),rS rfl]at h1;simpa using h1
     obtain⟨ks,Dq,hPk⟩:=Et Vl hkid;refine⟨.mk kk ng t lo Sf ks,?_⟩;simp only[tX];refine⟨e0,hkr,e1,e2,fY,e3,e4,some a2,cap2,by rw[Dq];exact e5,?_,λeK=> ?_⟩
     ·have h1:=Ut ((Ty.length+rest2.length)*24) (by
       rw[VE];simp only[DataW.weights,underlying95,Tryz.Wi,bU];exact cd)
      have h2:=reachBytes_lt;rw[Dq];omega
     ·have XJ:0<Vl:=(by rw[<-Dq];exact bG.2 eK);refine⟨a2.block,a2.off,?_,ua.of ks _ _ hPk⟩;have:=RI XJ;cases a2;simp only at this;subst this;rfl
   obtain⟨l,hl,hP⟩:=Et len hpart;refine⟨_,l,rfl,some a,cap,by rw[hl],by omega,λeK=> ?_⟩;have hlen:0<len:=(by rw[<-hl];exact bG.2 eK);refine⟨a.block,a.off,?_,tW.of l _ _ hP⟩;have:=Xp hlen;cases a;simp only at this;subst this;rfl
theorem N8 {fuel:Nat} {cs:List Value} {x:DataW H×List MemPlace} (h:DataW.trod enc prog w base spare held fuel 23 cs=some x):∃v ts,cs=[v]/\P0 w ts v:=by
 rcases Go.Deep.open_strs underlying23 underlying9 Tryz.TD h with⟨rfl,_⟩|⟨a,len,cap,m,Sx,rfl,hb,hlc,mX,hm,_,hx⟩
 ·exact⟨_,[],rfl,none,0,rfl,aU _,λh=>absurd rfl h⟩
 ·have hlm:len<=m:=by rw[hm];split<;>omega
  refine⟨_,(List.range len).map Sx,rfl,some a,cap,by simp,by simp;omega,λeK=> ?_⟩;have XJ:0<len:=by
   cases len with
   |zero=>simp at eK
   |succ n=>omega
  have hs:a.spot=none:=by simpa[Addr.add]using World.cell?_spot (hx 0 (by omega)).1
  refine⟨a.block,a.off,by cases a;simp only at hs;subst hs;rfl,λi t ht=> ?_⟩;rw[cq]at ht;obtain⟨k,hk,rfl⟩:=aX.1 ht;obtain⟨hi,rfl⟩:=aB.1 hk;rw[List.getElem_range]at*;have xT:i<len:=by simpa using hi
  have:=hx i (by omega);rw[rS hs]at this;exact this
end
end Go.Proofs.YtfejflhgaphilaaGreatDoor
namespace Go.Proofs.YtfejflhgaphilaaGreatDoor
open Go.ChangeShapes Go.WideShapes Go.ChangeAt Go.RowKit Go.Lib
theorem Tryz.own:ownKnob prog.godebug=none:=by kernel_rfl
theorem Tryz.laidOut:laidOutB prog=true:=by kernel_rfl
theorem DT {W:World} (h:laidMetH prog Rows.fnWholeGlobRow.laid W):Lib.Utf8Tabs 1 2 W:=by rw[MakeChecks.laidMetH_plain _ _ _ (by kernel_rfl)]at h;exact utf8Tabs_of_readsT (ρ:=Tryz.xQ) (U8Types.of260 Tryz.Vo) ⟨by kernel_rfl,by kernel_rfl,by kernel_rfl,by kernel_rfl,by kernel_rfl,by kernel_rfl,by kernel_rfl⟩ (Pinned.utf8First_eq▸Lib.laidMet.reads h (.tail _ (.tail _ (.tail _ (.tail _ (.tail _ (.tail _ (.tail _ (.tail _ (.tail _ (.head _))))))))))) (show VarReads prog W "unicode/utf8.acceptRanges" acceptData from(show acceptData=Rows.laid_unicode_utf8_acceptRanges by kernel_rfl)▸Lib.laidMet.reads h (.tail _ (.tail _ (.tail _ (.head _)))))
theorem lifted (os:Os) (started:os.Started) (H:Type) (enc:TypeId×Value->H):ReturnsInHanded {} Tryz.checked os 3 .any (λw args=>(Rows.fnWholeGlobSpec.pre enc prog Tryz.f3 Rows.fnWholeGlobRow.domain false w args/\laidMetH prog Rows.fnWholeGlobRow.laid w)/\sizedMet enc prog Tryz.f3 (OpenSpec.ofChange Rows.fnWholeGlobSpec) false w args) (Rows.fnWholeGlobSpec.post enc prog Tryz.f3 false true false false):=by
 refine returnsInHanded_of_change_and (C:=Tryz.checked) (X:=λw _=>laidMetH prog Rows.fnWholeGlobRow.laid w) (λ_ _ _ hh h=>h.of_heap hh) Tryz.own started (by kernel_rfl) func3 (ChangeSpec.witness_shaped (enc:=enc) (C:=Tryz.checked) (os:=os) (X:=λw _=>laidMetH prog Rows.fnWholeGlobRow.laid w) false (World.laidAll prog os Rows.fnWholeGlobRow.laid) #[.slice none 0 0,.string ⟨#[]⟩,.slice none 0 0] 8 (World.laidAll_os _ _ _) (World.shaped_of_ZipB (by kernel_rfl) (by kernel_rfl)) (by kernel_rfl) (by kernel_rfl) (by kernel_rfl) (by rw[MakeChecks.laidMetH_plain _ _ _ (by kernel_rfl)];exact laidMet_laidAll _ (by kernel_rfl) (by kernel_rfl))) ?_;intro W base args ds gs before hval0 hW hc hx hL gJ;have kZ:∀(j:Nat) t v,Tryz.f3.params[j]? =some t->args[j]? =some v->Value.okWide prog W .any base t v:=hval0;have hW':=hW;obtain⟨p,q,hA0,hV,rfl,Ke,lI⟩:=hW;have hA:DataW.TrodAll enc prog W 0 (λ_=>true) true Tryz.f3.params.toList args.toList ds p:=hA0;rw[Tryz.params3]at hA kZ;obtain⟨v0,v1,v2,d0,d1,d2,p0,p1,p2,rfl,rfl,rfl,h0,h1,h2⟩:=trodAll_three hA;obtain⟨rfl,rfl⟩:=trodVars_none hV;obtain⟨s,rfl,rfl,rfl,ws⟩:=Go.ChangeMaps.open_string underlying9 (kZ 1 9 v1 rfl rfl) h1;have h0k:=h0;have h2k:=h2;obtain⟨fu0,hr0⟩:=h0;obtain⟨fu2,sK⟩:=h2;obtain⟨x0,l,Fq,hl⟩:=FV fu0 fu0 (af _) hr0 (λy hy=>by have:=List.all_eq_true.1 hx y (by show y∈DataW.weightsEach prog (Tryz.f3.params.toList++_) _;rw[Tryz.params3];simp only[aJ,bw,DataW.weightsEach,ar];exact .inl hy);simpa using this);obtain⟨x2,ts,qI,pT⟩:=N8 sK;obtain⟨a0,n0,k0,hv0⟩:=okWide_slice underlying22 (kZ 0 22 v0 rfl rfl);obtain⟨a2,n2,k2,hv2⟩:=okWide_slice underlying23 (kZ 2 23 v2 rfl rfl);subst hv0 hv2;obtain rfl:Value.slice a0 n0 k0=x0:=by simpa[Value.cells]using Fq
 obtain rfl:Value.slice a2 n2 k2=x2:=by simpa[Value.cells]using qI
 have hT:=DT hL;have gJ:2<W.heap.size:=block_lt_of_cell (hT.2 0 (by decide)).1;simp only[bd]at hW';refine(f3 W l s ts _ _ hl pT ⟨hT,gJ⟩ gJ).mono λe W' ⟨he,bel⟩=> ?_;subst he;have eR:∀x∈p0++([]++p2),x.block<W.heap.size:=λx hx=>by simpa using hW'.lt x hx
 refine⟨_,rfl,_,_,_,[],p0++([]++p2),[],hW',?_,?_,rfl,bel.frame _,λh=>by cases h⟩
 ·exact trodAll_mk1 (shut_bool underlying4 _)
 ·exact trodAll_mk3 (Below.trod Tryz.laidOut (by kernel_rfl) (of_decide_eq_true (by kernel_rfl)) h0k bel (λx hx=>eR x (bu _ hx))) (Go.ChangeMaps.shut_string underlying9 ws) (Below.trod Tryz.laidOut (by kernel_rfl) (of_decide_eq_true (by kernel_rfl)) h2k bel (λx hx=>eR x (bg _ (bg _ hx))))
end Go.Proofs.YtfejflhgaphilaaGreatDoor
