/- What a tree begins with, and whether it needs a state: read off memory. -/
import Derived.Test.YtfejflhgaphilaaGreatDoorC19
import Derived.Test.YtfejflhgaphilaaGreatDoorC17
import Derived.Handy
import Derived.Deep.LoopGhost
set_option linter.all false
set_option maxRecDepth 100000
set_option maxHeartbeats 64000000
open Go.Proofs.Tryz
namespace Go.Proofs.YtfejflhgaphilaaGreatDoor
open Go.RowKit Gm
variable {i:Nat} {w:World} {v:Value} {us:List Value} {bl:List Nat}
theorem f160 (B:Nat) (t:T) (v:Value) (F:List Nat) (w:World) (h:Tr w B t v F):Calls prog 160 #[v] w λe w'=>e=.returned (.string (bs (lead t)))/\w=w':=by
 cases t with
 |text t=>
  simp only[Tr]at h;obtain⟨b,rfl,hF,hb⟩:=h;have hc:w.cell? ⟨b,0,none⟩=some (.string (bs t)):=by simp[World.cell?,hb]
  clear hF hb;have gw:=il (.pointer (some ⟨b,0,none⟩));go_enter func160,ntmps160;go_wp2_with fail;go_ret;exact⟨rfl,rfl⟩
 |char sep=>simp only[Tr]at h;obtain⟨b,vs,rfl,hF,hb,dU⟩:=h;clear hF hb dU;have gw:=kQ (.pointer (some ⟨b,0,none⟩));have pg:=CZ (.pointer (some ⟨b,0,none⟩));have lA:=CX (.pointer (some ⟨b,0,none⟩));go_enter func160,ntmps160;go_wp2_with fail;go_ret;exact⟨rfl,rfl⟩
 |star sep nx tm=>simp only[Tr]at h;obtain⟨b,vs,rfl,hF,hb,dU⟩:=h;clear hF hb dU;have gw:=iQ (.pointer (some ⟨b,0,none⟩));have pg:=CV (.pointer (some ⟨b,0,none⟩));have lA:=wq (.pointer (some ⟨b,0,none⟩));go_enter func160,ntmps160;go_wp2_with fail;go_ret;exact⟨rfl,rfl⟩
 |range lo hi neg=>simp only[Tr]at h;obtain⟨b,rfl,hF,hb⟩:=h;clear hF hb;have gw:=kM (.pointer (some ⟨b,0,none⟩));have pg:=CL (.pointer (some ⟨b,0,none⟩));have lA:=CJ (.pointer (some ⟨b,0,none⟩));go_enter func160,ntmps160;go_wp2_with fail;go_ret;exact⟨rfl,rfl⟩
 |set cs neg=>simp only[Tr]at h;obtain⟨b,mb,rfl,hF,hb,dU⟩:=h;clear hF hb dU;have gw:=kK (.pointer (some ⟨b,0,none⟩));have pg:=CH (.pointer (some ⟨b,0,none⟩));have lA:=CF (.pointer (some ⟨b,0,none⟩));go_enter func160,ntmps160;go_wp2_with fail;go_ret;exact⟨rfl,rfl⟩
 |void=>simp only[Tr]at h;obtain⟨u,rfl,hF⟩:=h;clear hF;have gw:=l6 u;have pg:=wm u;have lA:=wj u;go_enter func160,ntmps160;go_wp2_with fail;go_ret;exact⟨rfl,rfl⟩
 |pre t sep=>
  simp only[Tr]at h;obtain⟨b,rfl,hF,hb⟩:=h;have hc:w.cell? ⟨b,0,none⟩=some (.string (bs t)):=by simp[World.cell?,hb]
  clear hF hb;have gw:=kH (.pointer (some ⟨b,0,none⟩));have pg:=vU (.pointer (some ⟨b,0,none⟩));go_enter func160,ntmps160;go_wp2_with fail;go_ret;exact⟨rfl,rfl⟩
 |eP t sep=>simp only[Tr]at h;obtain⟨b,rfl,hF,hb⟩:=h;clear hF hb;have gw:=kF (.pointer (some ⟨b,0,none⟩));have pg:=vS (.pointer (some ⟨b,0,none⟩));have lA:=Nf (.pointer (some ⟨b,0,none⟩));go_enter func160,ntmps160;go_wp2_with fail;go_ret;exact⟨rfl,rfl⟩
 |dN p q sep=>
  simp only[Tr]at h;obtain⟨b,rfl,hF,hb⟩:=h;have hc:w.cell? ⟨b,0,none⟩=some (.string (bs p)):=by simp[World.cell?,hb]
  clear hF hb;have gw:=kE (.pointer (some ⟨b,0,none⟩));have pg:=vQ (.pointer (some ⟨b,0,none⟩));have lA:=vO (.pointer (some ⟨b,0,none⟩));go_enter func160,ntmps160;go_wp2_with fail;go_ret;exact⟨rfl,rfl⟩
 |cont t=>simp only[Tr]at h;obtain⟨b,rfl,hF,hb⟩:=h;clear hF hb;have gw:=kD (.pointer (some ⟨b,0,none⟩));have pg:=vN (.pointer (some ⟨b,0,none⟩));have lA:=vK (.pointer (some ⟨b,0,none⟩));go_enter func160,ntmps160;go_wp2_with fail;go_ret;exact⟨rfl,rfl⟩
 |dH l=>simp only[Tr]at h;obtain⟨sv,us,bl,G,rfl,hF,h1,h2⟩:=h;clear hF h1 h2;have gw:=l0 sv;have pg:=wi sv;have lA:=we sv;go_enter func160,ntmps160;go_wp2_with fail;go_ret;exact⟨rfl,rfl⟩
 |alt l=>simp only[Tr]at h;obtain⟨sv,us,bl,G,rfl,hF,h1,h2⟩:=h;clear hF h1 h2;have gw:=kO sv;have pg:=wb sv;have lA:=vY sv;go_enter func160,ntmps160;go_wp2_with fail;go_ret;exact⟨rfl,rfl⟩
 |eh l=>simp only[Tr]at h;obtain⟨sv,us,bl,G,rfl,hF,h1,h2⟩:=h;clear hF h1 h2;have gw:=kI sv;have pg:=vX sv;have lA:=vV sv;go_enter func160,ntmps160;go_wp2_with fail;go_ret;exact⟨rfl,rfl⟩
theorem eW.at {w:World} {B:Nat}:∀(l:List T) (us:List Value) (F:List Nat) (i:Nat) (u:Value),eW w B l us F->us[i]? =some u->∃t F1,l[i]? =some t/\Tr w B t u F1/\∀x∈F1,x∈F
 | [],us,F,i,u,h,hu=>by simp only[eW]at h;rw[h.1]at hu;simp at hu
 |t::l,us,F,0,u,h,hu=>by simp only[eW]at h;obtain⟨u',fV,F1,F2,rfl,rfl,h1,h2⟩:=h;simp only[aN,ae]at hu;subst hu;exact⟨t,F1,rfl,h1,λx hx=>bu _ hx⟩
 |t::l,us,F,i+1,u,h,hu=>by simp only[eW]at h;obtain⟨u',fV,F1,F2,rfl,rfl,h1,h2⟩:=h;obtain⟨t',F3,h3,h4,h5⟩:=eW.at l fV F2 i u h2 (by simpa using hu);exact⟨t',F3,by simpa using h3,h4,λx hx=>bg _ (h5 x hx)⟩
theorem xO {l:List T} {t:T} (h:l[i]? =some t):iA (l.drop i)=(needs t||iA (l.drop (i+1))):=by obtain⟨h1,h2⟩:=aB.1 h;rw[bo h1,h2,iA]
theorem oI.cell (h:oI w v us bl) {u:Value} (hi:us[i]? =some u):∃b o cap,v=.slice (some ⟨b,o,none⟩) us.length cap/\bl=[b]/\w.cell? ⟨b,o+i,none⟩=some u:=by
 obtain⟨hl,rfl⟩:=aB.1 hi;rcases h with⟨rfl,_⟩|⟨b,o,cap,cs,rfl,rfl,h3,h4,_⟩
 ·simp at hl
 ·exact⟨b,o,cap,rfl,rfl,by simp[World.cell?,h3,h4 i hl]⟩
theorem oI.small (h:oI w v us bl):us.length<=maxLen:=by
 rcases h with⟨rfl,_⟩|⟨b,o,cap,cs,_,_,_,_,h5,h6⟩
 ·exact aU _
 ·omega
def Yo (p:Bool) (w:World) (e:Ending) (w':World):Prop:=∃z:Int,e=.returned (.int .i64 z)/\decide (0<=z)=p/\w=w'
theorem f188 (B:Nat) (l:List T) (a:Option Addr) (n c:Nat) (us:List Value) (bl G:List Nat) (w:World) (h1:oI w (.slice a n c) us bl) (h2:eW w B l us G) (hM:∀(i:Nat) (t:T) (u:Value),l[i]? =some t->us[i]? =some u->Calls prog 120 #[u] w λe w'=>e=.returned (.bool (needs t))/\w=w'):Calls prog 188 #[.slice a n c,.func (.func 120) #[] #[]] w (Yo (iA l) w):=by
 have ic:=eW.length l us G h2;have hn:n=l.length:=by obtain⟨a',c',e⟩:=h1.len;simp only[au]at e;rw[e.2.1,ic]
 have HH:=eo h1 h2;have HM:=aa hM;have HN:=eo hn ic;have sq:n<=9223372036854775807:=by have:=h1.small;unfold maxLen at this;omega
 obtain⟨Z,hZ⟩:=dS (iA l);rw[<-hZ];have HZ:=aa hZ;clear h1 h2 hM hn ic hZ;go_enter func188,ntmps188;go_wp2_with fail;go_loopg [8] n (λk s8 wr=>∃j:Nat,k=n-j/\s8=.int .i64 j/\j<=n/\wr=w/\Hid (Z=iA (l.drop j)))
 case atStart=>exact⟨0,rfl,rfl,aU _,rfl,aa HZ.out⟩
 case round=>
  obtain⟨j,rfl,rfl,hj,rfl,HJ⟩:=hrel;by_cases gM:j<n
  ·have kY:=gW ((j:Int)+1) (by omega);have jA:decide ((j:Int)<(n:Int))=true:=by simp;omega
   obtain⟨u,hu⟩:∃u,us[j]? =some u:=⟨us[j]'(by rw[HN.2,<-HN.1];exact gM),ah _⟩;obtain⟨t,F1,ht,_⟩:=eW.at l us G j u HH.2 hu;obtain⟨b,o,cap,he,_,eB⟩:=HH.1.cell hu;simp only[au]at he;obtain⟨rfl,qJ,rfl⟩:=he;clear qJ;have i1:(0:Int)<=(j:Int):=(by omega);have i2:(j:Int)<(n:Int):=by omega
   have HC:=aa (HM.out j t u ht hu);have HD:=aa (xO ht);clear ht hu;go_wp2_with fail;refine HC.mono ?_;rintro e w1 ⟨rfl,rfl⟩;cases eK:needs t with
   |true=>have hZ:Z=true:=(by rw[HJ.out,HD.out,eK];rfl);have sD:=aa hZ;clear eK hZ;go_wp2_with fail;go_ret;exact⟨_,rfl,by rw[sD.out];simp,rfl⟩
   |false=>
    have hZ:Z=iA (l.drop (j+1)):=(by rw[HJ.out,HD.out,eK];rfl);have sD:=aa hZ;clear eK hZ;go_wp2_with fail;go_roundg (n- (j+1))
    case measure=>omega
    case rel=>exact⟨j+1,rfl,rfl,by omega,rfl,aa sD.out⟩
  ·have jA:decide ((j:Int)<(n:Int))=false:=(by simp;omega);have hZ:Z=false:=by
    rw[HJ.out,aL (by rw[<-HN.1];omega)];rfl
   have sD:=aa hZ;clear hZ;go_wp2_with fail;go_ret;exact⟨_,rfl,by rw[sD.out];rfl,rfl⟩
theorem f162 (B:Nat) (l:List T) (a:Option Addr) (n c:Nat) (us:List Value) (bl G:List Nat) (w:World) (h1:oI w (.slice a n c) us bl) (h2:eW w B l us G) (hM:∀(i:Nat) (t:T) (u:Value),l[i]? =some t->us[i]? =some u->Calls prog 120 #[u] w λe w'=>e=.returned (.bool (needs t))/\w=w'):Calls prog 162 #[.slice a n c,.func (.func 120) #[] #[]] w λe w'=>e=.returned (.bool (iA l))/\w=w':=by have HC:=aa (f188 B l a n c us bl G w h1 h2 hM);clear h1 h2 hM;go_enter func162,ntmps162;go_wp2_with fail;refine HC.mono ?_;rintro e w1 ⟨z,rfl,hz,rfl⟩;go_wp2_with fail;go_ret;exact⟨rfl,rfl⟩
theorem f187 (B:Nat) (l:List T) (a:Option Addr) (n c:Nat) (us:List Value) (bl G:List Nat) (w:World) (h1:oI w (.slice a n c) us bl) (h2:eW w B l us G) (hM:∀(i:Nat) (t:T) (u:Value),l[i]? =some t->us[i]? =some u->Calls prog 120 #[u] w λe w'=>e=.returned (.bool (needs t))/\w=w'):Calls prog 187 #[.slice a n c,.func (.func 120) #[] #[]] w (Yo (iA l) w):=by
 have ic:=eW.length l us G h2;have hn:n=l.length:=by obtain⟨a',c',e⟩:=h1.len;simp only[au]at e;rw[e.2.1,ic]
 have HH:=eo h1 h2;have HM:=aa hM;have HN:=eo hn ic;have sq:n<=9223372036854775807:=by have:=h1.small;unfold maxLen at this;omega
 obtain⟨Z,hZ⟩:=dS (iA l);rw[<-hZ];have HZ:=aa hZ;clear h1 h2 hM hn ic hZ;go_enter func187,ntmps187;go_wp2_with fail;go_loopg [8] n (λk s8 wr=>∃j:Nat,k=n-j/\s8=.int .i64 j/\j<=n/\wr=w/\Hid (Z=iA (l.drop j)))
 case atStart=>exact⟨0,rfl,rfl,aU _,rfl,aa HZ.out⟩
 case round=>
  obtain⟨j,rfl,rfl,hj,rfl,HJ⟩:=hrel;by_cases gM:j<n
  ·have kY:=gW ((j:Int)+1) (by omega);have jA:decide ((j:Int)<(n:Int))=true:=by simp;omega
   obtain⟨u,hu⟩:∃u,us[j]? =some u:=⟨us[j]'(by rw[HN.2,<-HN.1];exact gM),ah _⟩;obtain⟨t,F1,ht,_⟩:=eW.at l us G j u HH.2 hu;obtain⟨b,o,cap,he,_,eB⟩:=HH.1.cell hu;simp only[au]at he;obtain⟨rfl,qJ,rfl⟩:=he;clear qJ;have i1:(0:Int)<=(j:Int):=(by omega);have i2:(j:Int)<(n:Int):=by omega
   have HC:=aa (HM.out j t u ht hu);have HD:=aa (xO ht);clear ht hu;go_wp2_with fail;refine HC.mono ?_;rintro e w1 ⟨rfl,rfl⟩;cases eK:needs t with
   |true=>have hZ:Z=true:=(by rw[HJ.out,HD.out,eK];rfl);have sD:=aa hZ;clear eK hZ;go_wp2_with fail;go_ret;exact⟨_,rfl,by rw[sD.out];simp,rfl⟩
   |false=>
    have hZ:Z=iA (l.drop (j+1)):=(by rw[HJ.out,HD.out,eK];rfl);have sD:=aa hZ;clear eK hZ;go_wp2_with fail;go_roundg (n- (j+1))
    case measure=>omega
    case rel=>exact⟨j+1,rfl,rfl,by omega,rfl,aa sD.out⟩
  ·have jA:decide ((j:Int)<(n:Int))=false:=(by simp;omega);have hZ:Z=false:=by
    rw[HJ.out,aL (by rw[<-HN.1];omega)];rfl
   have sD:=aa hZ;clear hZ;go_wp2_with fail;go_ret;exact⟨_,rfl,by rw[sD.out];rfl,rfl⟩
theorem f161 (B:Nat) (l:List T) (a:Option Addr) (n c:Nat) (us:List Value) (bl G:List Nat) (w:World) (h1:oI w (.slice a n c) us bl) (h2:eW w B l us G) (hM:∀(i:Nat) (t:T) (u:Value),l[i]? =some t->us[i]? =some u->Calls prog 120 #[u] w λe w'=>e=.returned (.bool (needs t))/\w=w'):Calls prog 161 #[.slice a n c,.func (.func 120) #[] #[]] w λe w'=>e=.returned (.bool (iA l))/\w=w':=by have HC:=aa (f187 B l a n c us bl G w h1 h2 hM);clear h1 h2 hM;go_enter func161,ntmps161;go_wp2_with fail;refine HC.mono ?_;rintro e w1 ⟨z,rfl,hz,rfl⟩;go_wp2_with fail;go_ret;exact⟨rfl,rfl⟩
theorem Pm (B:Nat) (w:World) (t:List dE) (v:Value) (F:List Nat) (h:Tr w B (.text t) v F):Calls prog 120 #[v] w λe w'=>e=.returned (.bool (needs (.text t)))/\w=w':=by simp only[Tr]at h;obtain⟨b,rfl,hF,hb⟩:=h;clear hF hb;have fu:=pe (.pointer (some ⟨b,0,none⟩));have eH:=jX (.pointer (some ⟨b,0,none⟩));have jI:=pf (.pointer (some ⟨b,0,none⟩));go_enter func120,ntmps120;go_wp2_with fail;go_ret;exact⟨rfl,rfl⟩
theorem Pq (B:Nat) (w:World) (sep:List dE) (v:Value) (F:List Nat) (h:Tr w B (.char sep) v F):Calls prog 120 #[v] w λe w'=>e=.returned (.bool (needs (.char sep)))/\w=w':=by simp only[Tr]at h;obtain⟨b,vs,rfl,hF,hb,dU⟩:=h;clear hF hb dU;have fu:=nB (.pointer (some ⟨b,0,none⟩));have eH:=kP (.pointer (some ⟨b,0,none⟩));have jI:=l8 (.pointer (some ⟨b,0,none⟩));go_enter func120,ntmps120;go_wp2_with fail;go_ret;exact⟨rfl,rfl⟩
theorem Po (B:Nat) (w:World) (sep nx:List dE) (tm:Bool) (v:Value) (F:List Nat) (h:Tr w B (.star sep nx tm) v F):Calls prog 120 #[v] w λe w'=>e=.returned (.bool (needs (.star sep nx tm)))/\w=w':=by
 simp only[Tr]at h;obtain⟨b,vs,rfl,hF,hb,dU⟩:=h;have hc:w.cell? ⟨b,3,none⟩=some (.bool tm):=by simp[World.cell?,hb]
 clear hF hb dU;have fu:=l7 (.pointer (some ⟨b,0,none⟩));have eH:=iP (.pointer (some ⟨b,0,none⟩));have jI:=gV (.pointer (some ⟨b,0,none⟩));go_enter func120,ntmps120;go_wp2_with fail;go_ret;exact⟨rfl,rfl⟩
theorem KB (B:Nat) (w:World) (lo hi:Int) (neg:Bool) (v:Value) (F:List Nat) (h:Tr w B (.range lo hi neg) v F):Calls prog 120 #[v] w λe w'=>e=.returned (.bool (needs (.range lo hi neg)))/\w=w':=by simp only[Tr]at h;obtain⟨b,rfl,hF,hb⟩:=h;clear hF hb;have fu:=nz (.pointer (some ⟨b,0,none⟩));have eH:=kL (.pointer (some ⟨b,0,none⟩));have jI:=lZ (.pointer (some ⟨b,0,none⟩));go_enter func120,ntmps120;go_wp2_with fail;go_ret;exact⟨rfl,rfl⟩
theorem Te (B:Nat) (w:World) (cs:List dE) (neg:Bool) (v:Value) (F:List Nat) (h:Tr w B (.set cs neg) v F):Calls prog 120 #[v] w λe w'=>e=.returned (.bool (needs (.set cs neg)))/\w=w':=by simp only[Tr]at h;obtain⟨b,mb,rfl,hF,hb,dU⟩:=h;clear hF hb dU;have fu:=ny (.pointer (some ⟨b,0,none⟩));have eH:=kJ (.pointer (some ⟨b,0,none⟩));have jI:=lY (.pointer (some ⟨b,0,none⟩));go_enter func120,ntmps120;go_wp2_with fail;go_ret;exact⟨rfl,rfl⟩
theorem Pl (B:Nat) (w:World) (v:Value) (F:List Nat) (h:Tr w B (.void) v F):Calls prog 120 #[v] w λe w'=>e=.returned (.bool (needs (.void)))/\w=w':=by simp only[Tr]at h;obtain⟨u,rfl,hF⟩:=h;clear hF;have fu:=l5 u;have eH:=jW u;have jI:=nA u;go_enter func120,ntmps120;go_wp2_with fail;go_ret;exact⟨rfl,rfl⟩
theorem Tf (B:Nat) (w:World) (t sep:List dE) (v:Value) (F:List Nat) (h:Tr w B (.pre t sep) v F):Calls prog 120 #[v] w λe w'=>e=.returned (.bool (needs (.pre t sep)))/\w=w':=by simp only[Tr]at h;obtain⟨b,rfl,hF,hb⟩:=h;clear hF hb;have fu:=nv (.pointer (some ⟨b,0,none⟩));have eH:=kG (.pointer (some ⟨b,0,none⟩));have jI:=lW (.pointer (some ⟨b,0,none⟩));go_enter func120,ntmps120;go_wp2_with fail;go_ret;exact⟨rfl,rfl⟩
theorem Td (B:Nat) (w:World) (t sep:List dE) (v:Value) (F:List Nat) (h:Tr w B (.eP t sep) v F):Calls prog 120 #[v] w λe w'=>e=.returned (.bool (needs (.eP t sep)))/\w=w':=by simp only[Tr]at h;obtain⟨b,rfl,hF,hb⟩:=h;clear hF hb;have fu:=o8 (.pointer (some ⟨b,0,none⟩));have eH:=lU (.pointer (some ⟨b,0,none⟩));have jI:=lV (.pointer (some ⟨b,0,none⟩));go_enter func120,ntmps120;go_wp2_with fail;go_ret;exact⟨rfl,rfl⟩
theorem IA (B:Nat) (w:World) (p q sep:List dE) (v:Value) (F:List Nat) (h:Tr w B (.dN p q sep) v F):Calls prog 120 #[v] w λe w'=>e=.returned (.bool (needs (.dN p q sep)))/\w=w':=by simp only[Tr]at h;obtain⟨b,rfl,hF,hb⟩:=h;clear hF hb;have fu:=o7 (.pointer (some ⟨b,0,none⟩));have eH:=lR (.pointer (some ⟨b,0,none⟩));have jI:=lS (.pointer (some ⟨b,0,none⟩));go_enter func120,ntmps120;go_wp2_with fail;go_ret;exact⟨rfl,rfl⟩
theorem Pp (B:Nat) (w:World) (t:List dE) (v:Value) (F:List Nat) (h:Tr w B (.cont t) v F):Calls prog 120 #[v] w λe w'=>e=.returned (.bool (needs (.cont t)))/\w=w':=by simp only[Tr]at h;obtain⟨b,rfl,hF,hb⟩:=h;clear hF hb;have fu:=nt (.pointer (some ⟨b,0,none⟩));have eH:=kC (.pointer (some ⟨b,0,none⟩));have jI:=lQ (.pointer (some ⟨b,0,none⟩));go_enter func120,ntmps120;go_wp2_with fail;go_ret;exact⟨rfl,rfl⟩
theorem KC (B:Nat) (w:World) (l:List T) (v:Value) (F:List Nat) (h:Tr w B (.dH l) v F) (hM:∀(us:List Value) (G:List Nat),eW w B l us G->∀(i:Nat) (t:T) (u:Value),l[i]? =some t->us[i]? =some u->Calls prog 120 #[u] w λe w'=>e=.returned (.bool (needs t))/\w=w'):Calls prog 120 #[v] w λe w'=>e=.returned (.bool (needs (.dH l)))/\w=w':=by simp only[Tr]at h;obtain⟨sv,us,bl,G,rfl,hF,h1,h2⟩:=h;obtain⟨a,c,rfl⟩:=h1.len;have HC:=aa (f162 B l a _ c us bl G w h1 h2 (hM us G h2));clear hF h1 h2 hM;have fu:=rY (.slice a us.length c);have eH:=ij (.slice a us.length c);go_enter func120,ntmps120;go_wp2_with fail;refine HC.mono ?_;rintro e w1 ⟨rfl,rfl⟩;go_wp2_with fail;go_ret;exact⟨rfl,rfl⟩
theorem Tg (B:Nat) (w:World) (l:List T) (v:Value) (F:List Nat) (h:Tr w B (.alt l) v F):Calls prog 120 #[v] w λe w'=>e=.returned (.bool (needs (.alt l)))/\w=w':=by simp only[Tr]at h;obtain⟨sv,us,bl,G,rfl,hF,h1,h2⟩:=h;clear hF h1 h2;have fu:=jV sv;go_enter func120,ntmps120;go_wp2_with fail;go_ret;exact⟨rfl,rfl⟩
theorem Pn (B:Nat) (w:World) (l:List T) (v:Value) (F:List Nat) (h:Tr w B (.eh l) v F):Calls prog 120 #[v] w λe w'=>e=.returned (.bool (needs (.eh l)))/\w=w':=by simp only[Tr]at h;obtain⟨sv,us,bl,G,rfl,hF,h1,h2⟩:=h;clear hF h1 h2;have fu:=o9 sv;have eH:=jU sv;have jI:=lX sv;go_enter func120,ntmps120;go_wp2_with fail;go_ret;exact⟨rfl,rfl⟩
mutual
theorem f120 (B:Nat) (w:World):∀(t:T) (v:Value) (F:List Nat),Tr w B t v F->Calls prog 120 #[v] w λe w'=>e=.returned (.bool (needs t))/\w=w'
 |.text t,v,F,h=>Pm B w t v F h
 |.char sep,v,F,h=>Pq B w sep v F h
 |.star sep nx tm,v,F,h=>Po B w sep nx tm v F h
 |.range lo hi neg,v,F,h=>KB B w lo hi neg v F h
 |.set cs neg,v,F,h=>Te B w cs neg v F h
 |.void,v,F,h=>Pl B w v F h
 |.pre t sep,v,F,h=>Tf B w t sep v F h
 |.eP t sep,v,F,h=>Td B w t sep v F h
 |.dN p q sep,v,F,h=>IA B w p q sep v F h
 |.cont t,v,F,h=>Pp B w t v F h
 |.dH l,v,F,h=>KC B w l v F h λus G h2=>Tc B w l us G h2
 |.alt l,v,F,h=>Tg B w l v F h
 |.eh l,v,F,h=>Pn B w l v F h
theorem Tc (B:Nat) (w:World):∀(l:List T) (us:List Value) (G:List Nat),eW w B l us G->∀(i:Nat) (t:T) (u:Value),l[i]? =some t->us[i]? =some u->Calls prog 120 #[u] w λe w'=>e=.returned (.bool (needs t))/\w=w'
 | [],us,G,h,i,t,u,ht,hu=>by simp at ht
 |t0::l,us,G,h,i,t,u,ht,hu=>by
  simp only[eW]at h;obtain⟨u0,fV,F1,F2,rfl,rfl,h1,h2⟩:=h;cases i with
  |zero=>simp only[aN,ae]at ht hu;subst ht;subst hu;exact f120 B w t0 u0 F1 h1
  |succ i=>exact Tc B w l fV F2 h2 i t u (by simpa using ht) (by simpa using hu)
end
end Go.Proofs.YtfejflhgaphilaaGreatDoor
