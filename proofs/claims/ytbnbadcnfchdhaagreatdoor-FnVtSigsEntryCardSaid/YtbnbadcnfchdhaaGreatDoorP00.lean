/- Lemmas for FnVtSigsEntry; no conditions. -/
import Derived.Test.YtbnbadcnfchdhaaGreatDoorProg
import Derived.WalkKit
import Derived.WalkSpells
import Derived.WalkLawsBesides
import Derived.Deep.DeepFit
import Derived.Lib.Hide
import Derived.BigQuiet
import Derived.Deep.QuietTactic
import GoSem.PinnedTables
import Derived.Scope
import Derived.Below
import Derived.Deep.LoopGhost
import Derived.Deep.CutBlock
import Derived.Deep.CutRange
import Derived.Deep.DeepCutAuto
import Derived.Laws.BitsAllLaws
set_option maxRecDepth 100000
set_option maxHeartbeats 16000000
set_option linter.all false
namespace Go.Proofs
section
open Go.RowKit
theorem Om{p:Prop}(h:p:=by omega):p:=h
theorem De{p:Prop}(h:p:=by decide):p:=h
theorem Kr{p:Prop}(h:p:=by kernel_rfl):p:=h
theorem Sm{p:Prop}(h:p:=by simp):p:=h
theorem Bq{a b:Int}(h:a≠b:=by omega):(a==b)=false:=beq_eq_false_iff_ne.2 h
theorem Bn{α:Type}[BEq α][LawfulBEq α]{a b:α}:(a==b)=false↔a≠b:=beq_eq_false_iff_ne
theorem Hd{p:Prop}(h:p):Hid p:=Lib.hid h
theorem Nl{n:Nat}:n≤n:=Nat.le_refl n
theorem Ha{w:World}{o:Obj}{i:Nat}(h:i<w.heap.size):(w.alloc o).heap[i]?=w.heap[i]?:=by first|exact heap_alloc_old w o _ h|exact heap_alloc_old w o h
theorem Bl{n:Nat}{w:World}:Below n w w:=Below.refl n w
end
end Go.Proofs
namespace Go.Proofs.YtbnbadcnfchdhaaGreatDoor
open Go.RowKit
structure CM where
 d:Array Int
 nd:Int
 dp:Int
 neg:Bool
 trunc:Bool
def CM.cells(x:CM):Array Value:=x.d.map (Value.int .u8)++#[.int .i64 x.nd,.int .i64 x.dp,.bool x.neg,.bool x.trunc]
def dw(w:World)(B:Nat)(x:CM):World:={ w with heap:=w.heap.setIfInBounds B (.cells x.cells 234 (0,0)) }
theorem AL4(w:World)(B:Nat)(x:CM):(dw w B x).heap.size=w.heap.size:=by simp[dw]
theorem KW{w:World}{B:Nat}{x:CM}(hB:B<w.heap.size):(dw w B x).heap[B]?=some (.cells x.cells 234 (0,0)):=by simp[dw,hB]
theorem AAw(w:World)(B:Nat)(x:CM)(n:Nat):(dw w B x).drewN n=dw (w.drewN n) B x:=rfl
theorem MG(w:World)(B:Nat)(x:CM)(m k:Nat):(dw (w.drewN m) B x).drewN k=dw (w.drewN (m+k)) B x:=by rw[AAw];simp[World.drewN,Nat.add_assoc]
theorem ZL{w:World}{B:Nat}{x:CM}(h:w.heap[B]?=some (.cells x.cells 234 (0,0))):dw w B x=w:=by
 unfold dw;have:w.heap.setIfInBounds B (.cells x.cells 234 (0,0))=w.heap:=by
  apply Array.ext_getElem?;intro i;rw[Array.getElem?_setIfInBounds];split
  .subst_vars;split
   .exact h.symm
   rename_i h2;have:=(Array.getElem?_eq_some_iff.1 h).1;omega
  rfl
 rw[this]
theorem AGn{x:CM}(h:x.d.size=800)(i:Nat)(hi:i<800):x.cells[i]?=some (.int .u8 x.d[i]!):=by simp[CM.cells,Array.getElem?_append,h,hi]
theorem E0{w:World}{B:Nat}{x:CM}(hB:B<w.heap.size)(h:x.d.size=800)(i:Nat)(hi:i<800):(dw w B x).cell? ⟨B,i,none⟩=some (.int .u8 x.d[i]!):=by simp[World.cell?,KW hB,AGn h i hi]
theorem LE{w:World}{B:Nat}{x:CM}(hB:B<w.heap.size)(h:x.d.size=800):(dw w B x).cell? ⟨B,800,none⟩=some (.int .i64 x.nd):=by simp[World.cell?,KW hB,CM.cells,h]
theorem VO{w:World}{B:Nat}{x:CM}(hB:B<w.heap.size)(h:x.d.size=800):(dw w B x).cell? ⟨B,801,none⟩=some (.int .i64 x.dp):=by simp[World.cell?,KW hB,CM.cells,h]
theorem AHt{w:World}{B:Nat}{x:CM}(hB:B<w.heap.size)(h:x.d.size=800):(dw w B x).cell? ⟨B,802,none⟩=some (.bool x.neg):=by simp[World.cell?,KW hB,CM.cells,h]
theorem OE{w:World}{B:Nat}{x:CM}(hB:B<w.heap.size)(h:x.d.size=800):(dw w B x).cell? ⟨B,803,none⟩=some (.bool x.trunc):=by simp[World.cell?,KW hB,CM.cells,h]
theorem IF{w:World}{B:Nat}{x:CM}(hB:B<w.heap.size)(i:Nat):(dw w B x).frozen? ⟨B,i,none⟩=false:=by simp[World.frozen?,KW hB]
theorem V0{w:World}{B:Nat}{x y:CM}{i:Nat}{v:Value}(h:x.cells.setIfInBounds i v=y.cells):(dw w B x).setCell ⟨B,i,none⟩ v=dw w B y:=by
 unfold World.setCell dw;simp only[Option.isSome_none,Bool.false_eq_true,if_false];congr 1;apply Array.ext_getElem?;intro k;simp only[Array.getElem?_modify,Array.getElem?_setIfInBounds];by_cases hk:B=k
 .subst hk
  by_cases hs:B<w.heap.size
  .simp[hs,h]
  simp[hs]
 simp[hk]
theorem IB{w:World}{B:Nat}{x:CM}(h:x.d.size=800)(i:Nat)(hi:i<800)(v:Int):(dw w B x).setCell ⟨B,i,none⟩ (.int .u8 v)=dw w B { x with d:=x.d.set! i v }:=by apply V0;simp[CM.cells,Array.setIfInBounds_append_left,h,hi,Array.set!_eq_setIfInBounds,Array.map_setIfInBounds]
theorem KB{w:World}{B:Nat}{x:CM}(h:x.d.size=800)(v:Int):(dw w B x).setCell ⟨B,800,none⟩ (.int .i64 v)=dw w B { x with nd:=v }:=by apply V0;rw[CM.cells,Array.setIfInBounds_append_right (by simp[h])];simp[h];rfl
theorem F7{w:World}{B:Nat}{x:CM}(h:x.d.size=800)(v:Int):(dw w B x).setCell ⟨B,801,none⟩ (.int .i64 v)=dw w B { x with dp:=v }:=by apply V0;rw[CM.cells,Array.setIfInBounds_append_right (by simp[h])];simp[h];rfl
theorem V4{w:World}{B:Nat}{x:CM}(h:x.d.size=800)(v:Bool):(dw w B x).setCell ⟨B,802,none⟩ (.bool v)=dw w B { x with neg:=v }:=by apply V0;rw[CM.cells,Array.setIfInBounds_append_right (by simp[h])];simp[h];rfl
theorem J8{w:World}{B:Nat}{x:CM}(h:x.d.size=800)(v:Bool):(dw w B x).setCell ⟨B,803,none⟩ (.bool v)=dw w B { x with trunc:=v }:=by apply V0;rw[CM.cells,Array.setIfInBounds_append_right (by simp[h])];simp[h];rfl
end Go.Proofs.YtbnbadcnfchdhaaGreatDoor
namespace Go.Proofs.YtbnbadcnfchdhaaGreatDoor
section

def val(g:Nat->Nat):Nat->Nat
 |0=>0
 |n+1=>val g n*10+g n
theorem AGf{g h:Nat->Nat}:∀n,(∀i,i<n->g i=h i)->val g n=val h n
 |0,_=>rfl
 |n+1,e=>by unfold val;rw[AGf n λi hi=>e i Om,e n Om]
theorem ADq{g:Nat->Nat}:∀n,(∀i,i<n->g i<=9)->val g n<10^n
 |0,_=>by simp[val]
 |n+1,h=>by have:=ADq n λi hi=>h i Om;have h9:=h n Om;unfold val;rw[Nat.pow_succ];omega
theorem ADh{g:Nat->Nat}(h:1<=g 0):∀n,10^n<=val g (n+1)
 |0=>by simp[val];omega
 |n+1=>by have:=ADh h n;rw[val,Nat.pow_succ];omega
theorem KE(g:Nat->Nat)(m:Nat):∀c,(∀i,i<m+c->g i<=9)->∃r,val g (m+c)=val g m*10^c+r/\r<10^c
 |0,_=>⟨0,by simp,by simp⟩
 |c+1,h=>by obtain⟨r,h1,h2⟩:=KE g m c λi hi=>h i Om;have h9:=h (m+c) Om;refine⟨r*10+g (m+c),?_,by rw[Nat.pow_succ];omega⟩;rw[<-Nat.add_assoc,val,h1,Nat.pow_succ,Nat.add_mul,Nat.mul_assoc];omega
theorem AE3{g h:Nat->Nat}{i a b:Nat}(hg:∀j,j<i+1+a->g j<=9)(hh:∀j,j<i+1+b->h j<=9)(e:val g i=val h i)(hl:g i<h i) :
 val g (i+1+a)*10^(i+1+b)<val h (i+1+b)*10^(i+1+a):=by
 obtain⟨r,h1,h2⟩:=KE g (i+1) a hg
 obtain⟨s,h3,h4⟩:=KE h (i+1) b hh
 rw[h1,h3]
 have hv:val g (i+1)+1<=val h (i+1):=by unfold val;omega
 have k1:val g (i+1)*10^a+r<val h (i+1)*10^a:=by have:=Nat.mul_le_mul_right (10^a) hv;rw[Nat.add_mul]at this;omega
 have k2:(val g (i+1)*10^a+r)*10^(i+1+b)<val h (i+1)*10^a*10^(i+1+b):=Nat.mul_lt_mul_of_pos_right k1 (Nat.pow_pos De)
 have k3:val h (i+1)*10^b*10^(i+1+a)<=(val h (i+1)*10^b+s)*10^(i+1+a):=Nat.mul_le_mul_right _ (Nat.le_add_right _ _)
 have k4:val h (i+1)*10^a*10^(i+1+b)=val h (i+1)*10^b*10^(i+1+a):=by rw[Nat.mul_assoc,Nat.mul_assoc,<-Nat.pow_add,<-Nat.pow_add];congr 2;omega
 omega
theorem AC3{g h:Nat->Nat}{n b:Nat}(hh:∀j,j<n+(b+1)->h j<=9)(e:val g n=val h n)(hl:h (n+b)≠0) :
 val g n*10^(n+(b+1))<val h (n+(b+1))*10^n:=by
 obtain⟨s,h3,h4⟩:=KE h n (b+1) hh
 have hs:0<s:=by
  rcases Nat.eq_zero_or_pos s with h0|h0
  .exfalso
   rw[h0,<-Nat.add_assoc,val,Nat.pow_succ]at h3;have:=hh (n+b) Om;have h5:val h n*(10^b*10)=val h n*10^b*10:=by rw[Nat.mul_assoc]
   omega
  exact h0
 rw[h3,e,Nat.add_mul]
 have:0<s*10^n:=Nat.mul_pos hs (Nat.pow_pos De)
 have:val h n*10^(n+(b+1))=val h n*10^(b+1)*10^n:=by rw[Nat.mul_assoc,<-Nat.pow_add];congr 2;omega
 omega
theorem AGl{g h:Nat->Nat}{n b:Nat}(hg:∀j,j<n+b->g j<=9)(e:val g n=val h n):¬val g (n+b)*10^n<val h n*10^(n+b):=by
 obtain⟨s,h3,h4⟩:=KE g n b hg;rw[h3,e,Nat.add_mul];have:val h n*10^(n+b)=val h n*10^b*10^n:=by rw[Nat.mul_assoc,<-Nat.pow_add];congr 2;omega
 omega
def D8(k:Nat):Nat×List UInt8:=Go.Pinned.cheatRows.getD k (0,[])
def FE(k:Nat):Nat:=(D8 k).2.length
def ABv(l:List UInt8)(i:Nat):Nat:=(l.getD i 0).toNat-48
def AM8(k:Nat):Bool:=
 decide ((D8 k).1=k+1-FE k)&&decide (FE k<=k)&&decide (1<=FE k)&&decide (10^(FE k-1)<=5^k)&&decide (5^k<10^FE k)&&decide (val (ABv (D8 k).2) (FE k)=5^k) &&
 (D8 k).2.all (λb=>decide (48<=b.toNat)&&decide (b.toNat<=57))&&decide (ABv (D8 k).2 (FE k-1)≠0)
theorem ALl:((List.range 60).all λk=>AM8 (k+1))=true:=by decide +kernel
structure Row(k:Nat):Prop where
 delta:(D8 k).1=k+1-FE k
 small:FE k<=k
 one:1<=FE k
 low:10^(FE k-1)<=5^k
 high:5^k<10^FE k
 five:val (ABv (D8 k).2) (FE k)=5^k
 digit:∀b∈(D8 k).2,48<=b.toNat/\b.toNat<=57
 last:ABv (D8 k).2 (FE k-1)≠0
theorem APc(k:Nat)(h1:1<=k)(h2:k<=60):Row k:=by have:=List.all_eq_true.1 ALl (k-1) (List.mem_range.2 Om);rw[show k-1+1=k by omega]at this;simp only[AM8,Bool.and_eq_true,decide_eq_true_eq,List.all_eq_true]at this;obtain⟨⟨⟨⟨⟨⟨⟨a,b⟩,c⟩,d⟩,e⟩,f⟩,g⟩,h⟩:=this;exact⟨a,b,c,d,e,f,g,h⟩
def EZ(D n k:Nat):Nat:=if D*10^FE k<5^k*10^n then k-FE k else k+1-FE k
theorem VX{D n k:Nat}(R:Row k)(h1:10^n<=D)(h2:D<10^(n+1)) :
 10^(n+EZ D (n+1) k)<=D*2^k/\D*2^k<10^(n+1+EZ D (n+1) k):=by
 have hL:=R.small
 obtain⟨q,hq⟩:∃q,k=FE k+q:=⟨k-FE k,Om⟩
 have e10:(10:Nat)^k=5^k*2^k:=by rw[<-Nat.mul_pow]
 have p5:0<5^k:=Nat.pow_pos De
 have pL:0<10^FE k:=Nat.pow_pos De
 have hk:(10:Nat)^k=10^FE k*10^q:=by rw[<-Nat.pow_add,<-hq]
 -- 10^q<=2^k,2^k<=10^(q+1)
 have lo:10^q<=2^k:=by
  have h3:5^k*10^q<=5^k*2^k:=by rw[<-e10,hk];exact Nat.mul_le_mul_right _ (Nat.le_of_lt R.high)
  exact Nat.le_of_mul_le_mul_left h3 p5
 have hi:2^k<=10^(q+1):=by
  have h3:5^k*2^k<=5^k*10^(q+1):=by
   rw[<-e10,hk];have h4:10^FE k=10^(FE k-1)*10:=by rw[<-Nat.pow_succ];congr 1;have:=R.one;omega
   rw[h4,Nat.pow_succ 10 q,Nat.mul_assoc,Nat.mul_comm 10 (10^q)];exact Nat.mul_le_mul_right _ R.low
  exact Nat.le_of_mul_le_mul_left h3 p5
 unfold EZ
 split
 .rename_i hless
  have hd:k-FE k=q:=Om;rw[hd];constructor
  .rw[Nat.pow_add];exact Nat.mul_le_mul h1 lo
  have h3:D*2^k*10^FE k<10^(n+1+q)*10^FE k:=by
   have h4:D*10^FE k*2^k<5^k*10^(n+1)*2^k:=Nat.mul_lt_mul_of_pos_right hless (Nat.pow_pos De);have h5:5^k*10^(n+1)*2^k=10^(n+1+q)*10^FE k:=by rw[Nat.mul_right_comm,<-e10,hk,<-Nat.pow_add,<-Nat.pow_add,<-Nat.pow_add];congr 1;omega
   rw[h5,Nat.mul_right_comm]at h4;exact h4
  exact Nat.lt_of_mul_lt_mul_right h3
 rename_i hless
 have hd:k+1-FE k=q+1:=Om
 rw[hd]
 constructor
 .have h3:10^(n+(q+1))*10^FE k<=D*2^k*10^FE k:=by
   have h4:5^k*10^(n+1)*2^k<=D*10^FE k*2^k:=Nat.mul_le_mul_right _ (Nat.le_of_not_lt hless);have h5:5^k*10^(n+1)*2^k=10^(n+(q+1))*10^FE k:=by rw[Nat.mul_right_comm,<-e10,hk,<-Nat.pow_add,<-Nat.pow_add,<-Nat.pow_add];congr 1;omega
   rw[h5,Nat.mul_right_comm D]at h4;exact h4
  exact Nat.le_of_mul_le_mul_right h3 pL
 rw[Nat.pow_add 10 (n+1)]
 exact Nat.lt_of_lt_of_le (Nat.mul_lt_mul_of_pos_right h2 (Nat.pow_pos De)) (Nat.mul_le_mul_left _ hi)
end
end Go.Proofs.YtbnbadcnfchdhaaGreatDoor
namespace Go.Proofs.YtbnbadcnfchdhaaGreatDoor
section
open Go Go.RowKit
def FT(P:Program)(rest:Code)(Q:Exit->Act->World->Prop)(a:Act)(w:World):Prop:=rest.wp P (Exit.noGoto Q) a w
def Exit.two(J0 J1:Act->World->Prop)(Q:Exit->Act->World->Prop):Exit->Act->World->Prop
 |.goto 0,a,w=>J0 a w
 |.goto 1,a,w=>J1 a w
 |.goto _,_,_=>False
 |e,a,w=>Q e a w
section
variable{P:Program}{a:Act}{w:World}{Q:Exit->Act->World->Prop}{J0 J1:Act->World->Prop}
@[go_sem] theorem Exit.two_normal:Exit.two J0 J1 Q .normal a w=Q .normal a w:=rfl
@[go_sem] theorem Exit.two_exit (id:Nat):Exit.two J0 J1 Q (.exit id) a w=Q (.exit id) a w:=rfl
@[go_sem] theorem Exit.two_ret:Exit.two J0 J1 Q .ret a w=Q .ret a w:=rfl
@[go_sem] theorem Exit.two_panic (ch:List PanicEntry):Exit.two J0 J1 Q (.panic ch) a w=Q (.panic ch) a w:=rfl
theorem J3{c rest0 rest1:Code}(hf0:findLabel c 0=some rest0)(hf1:findLabel c 1=some rest1)
 (first:∀J0 J1:Act->World->Prop,Hid (∀a w,FT P rest0 Q a w->J0 a w)->Hid (∀a w,FT P rest1 Q a w->J1 a w)->c.wp P (Exit.two J0 J1 Q) a w) :
 (Code.scope c).wp P Q a w:=by
 intro b k cs
 have hg0:gotoIn 0 (.inScope c::k)=some (.code rest0::.inScope c::k):=by simp[gotoIn,hf0]
 have hg1:gotoIn 1 (.inScope c::k)=some (.code rest1::.inScope c::k):=by simp[gotoIn,hf1]
 have key:∀(rest:Code) a w,FT P rest Q a w->∃e a' w',Q e a' w'/\Arrives P (lone (b.at a (.code rest::.inScope c::k)) cs w) b k cs e a' w':=by
  intro rest a w h;obtain⟨e,a₁,w₁,hq,harr⟩:=h b (.inScope c::k) cs
  cases e with
  |normal=>exact⟨.normal,a₁,w₁,hq,Steps.trans harr (.one step_inScope)⟩
  |exit id=>exact⟨.exit id,a₁,w₁,hq,λk' hk=>harr k' (by simp[exitTo,hk])⟩
  |goto l=>exact hq.elim
  |ret=>exact⟨_,a₁,w₁,hq,harr⟩
  |panic ch=>exact⟨_,a₁,w₁,hq,harr⟩
  |outgrown=>exact⟨_,a₁,w₁,hq,harr⟩
 obtain⟨e,a₁,w₁,hq,harr⟩:=first _ _ (λ_ _ h=>h) (λ_ _ h=>h) b (.inScope c::k) cs
 cases e with
 |normal=>exact⟨.normal,a₁,w₁,hq,.head step_scope (Steps.trans harr (.one step_inScope))⟩
 |exit id=>exact⟨.exit id,a₁,w₁,hq,λk' hk=>.head step_scope (harr k' (by simp[exitTo,hk]))⟩
 |goto l=>
  match l,hq,harr with
  |0,hq,harr=>
   obtain⟨e₂,a₂,w₂,hq₂,harr₂⟩:=key _ a₁ w₁ hq
   exact⟨e₂,a₂,w₂,hq₂,.of_steps (.head step_scope (harr _ hg0)) harr₂⟩
  |1,hq,harr=>
   obtain⟨e₂,a₂,w₂,hq₂,harr₂⟩:=key _ a₁ w₁ hq
   exact⟨e₂,a₂,w₂,hq₂,.of_steps (.head step_scope (harr _ hg1)) harr₂⟩
  |n+2,hq,_=>exact hq.elim
 |ret=>exact⟨_,a₁,w₁,hq,.of_steps (.one step_scope) harr⟩
 |panic ch=>exact⟨_,a₁,w₁,hq,.of_steps (.one step_scope) harr⟩
 |outgrown=>exact⟨_,a₁,w₁,hq,.of_steps (.one step_scope) harr⟩
end
end
end Go.Proofs.YtbnbadcnfchdhaaGreatDoor
namespace Go.Proofs.YtbnbadcnfchdhaaGreatDoor
open Go.RowKit
def JN(d:Array Int):Nat->Nat
 |0=>0
 |n+1=>if d[n]! = 48 then JN d n else n+1
def CM.trim(x:CM):CM:=if JN x.d x.nd.toNat=0 then { x with nd:=0,dp:=0 } else { x with nd:=JN x.d x.nd.toNat }
theorem V5(d:Array Int):∀n,JN d n<=n
 |0=>Nl
 |n+1=>by unfold JN;split;exact Nat.le_succ_of_le (V5 d n);exact Nl
theorem RK{d:Array Int}(h:d[0]!≠48):∀n,1<=n->1<=JN d n
 |0,h0=>Om
 |n+1,_=>by
  unfold JN;split
  .rename_i h1
   cases n with
   |zero=>exact absurd h1 h
   |succ m=>exact RK h (m+1) Om
  omega
theorem UK(B:Nat)(x:CM)(w:World)(hB:B<w.heap.size)(hd:x.d.size=800)(n:Nat)(hn:n<=800)(hx:x.nd=n) :
 Calls Tryz.prog 202 #[.pointer (some ⟨B,0,none⟩)] (dw w B x) λe w'=>e=.returned (.tuple #[])/\∃m,w'=dw (w.drewN m) B x.trim:=by
 go_enter Tryz.func202,Tryz.ntmps202
 go_wp2_with fail
 go_loopg [] n (λg wr=>∃m,g<=800/\JN x.d g=JN x.d n/\wr=dw (w.drewN m) B { x with nd:=g })
 case atStart=>exact⟨0,hn,rfl,by rw[<-hx];rfl⟩
 obtain⟨m,hg,ht,hwr⟩:=hrel
 have hB':B<(w.drewN m).heap.size:=hB
 have hf:=IF (x:={ x with nd:=(gk:Int) }) hB'
 rw[<-hwr]at hf
 have hdp:wr.cell? ⟨B,801,none⟩=some (.int .i64 x.dp):=by rw[hwr];exact VO hB' hd
 cases gk with
 |zero=>
  have h1:wr.cell? ⟨B,800,none⟩=some (.int .i64 0):=by rw[hwr];exact LE hB' hd
  have HW:=Hd hwr
  clear hwr
  go_wp2_with fail
  go_quiet (fail)
  go_wp2_with fail
  go_end0
  refine⟨rfl,m+nq,?_⟩
  rw[HW.out]
  have e0:JN x.d n=0:=ht.symm
  unfold CM.trim
  rw[hx,Int.toNat_natCast,if_pos e0]
  rw[MG];exact F7 (x:={ x with nd:=0 }) hd 0
 |succ k=>
  have h1:wr.cell? ⟨B,800,none⟩=some (.int .i64 ((k:Int)+1)):=by rw[hwr];exact LE hB' hd
  have hdd:(0:Int)<(k:Int)+1:=Om
  obtain⟨v,hv⟩:∃v,x.d[k]! = v:=⟨_,rfl⟩
  have hix:wr.cell? ⟨B,k,none⟩=some (.int .u8 v):=by rw[hwr,<-hv];exact E0 (x:={ x with nd:=((k+1:Nat):Int) }) hB' hd k Om
  have hk:(k:Int)<800:=Om
  have HW:=Hd hwr
  clear hwr
  by_cases h48:v=48
  .have e48:((v:Int)==48)=true:=by simp[h48]
   go_wp2_with fail;go_quiet (fail);go_wp2_with fail;go_roundg k
   case rel=>
    refine⟨m+nq,Om,?_,?_⟩
    .rw[<-ht,JN,if_pos (by rw[hv];exact h48)]
    rw[HW.out];rw[MG];exact KB (x:={ x with nd:=((k+1:Nat):Int) }) hd k
   omega
  have e48:((v:Int)==48)=false:=by simp[h48]
  go_wp2_with fail
  go_quiet (fail)
  go_wp2_with fail
  go_end0
  refine⟨rfl,m+nq,?_⟩
  rw[HW.out]
  have e0:JN x.d n=k+1:=by rw[<-ht,JN,if_neg (by rw[hv];exact h48)]
  unfold CM.trim
  rw[hx,Int.toNat_natCast,if_neg Om,e0,MG]
def ZW(d:Array Int)(nd k:Nat):Nat->Nat->Nat->Nat×Nat
 |0,r,n=>(r,n)
 |f+1,r,n=>if n/2^k=0 then ZW d nd k f (r+1) (if r<nd then n*10+(d[r]!-48).toNat else n*10) else(r,n)
def rsB(k:Nat):Nat->Array Int->Nat->Nat->Nat->Array Int×Nat×Nat
 |0,d,_,w,n=>(d,w,n)
 |c+1,d,r,w,n=>rsB k c (d.set! w ((n/2^k:Nat)+48)) (r+1) (w+1) (n%2^k*10+(d[r]!-48).toNat)
def rsC(k:Nat):Nat->Array Int->Nat->Nat->Bool->Array Int×Nat×Bool
 |0,d,w,_,t=>(d,w,t)
 |f+1,d,w,n,t=>if n=0 then(d,w,t) else if w<800 then rsC k f (d.set! w ((n/2^k:Nat)+48)) (w+1) (n%2^k*10) t else rsC k f d w (n%2^k*10) (t||decide (0<n/2^k))
structure CM.Ok(x:CM)(nd:Nat):Prop where
 size:x.d.size=800
 many:x.nd=nd
 most:nd<=800
 digit:∀i,i<nd->48<=x.d[i]!/\x.d[i]!<=57
 lead:0<nd->49<=x.d[0]!
def CM.rsh(x:CM)(nd k:Nat):CM:=
 let a:=ZW x.d nd k 21 0 0
 let b:=rsB k (nd-a.1) x.d a.1 0 a.2
 let c:=rsC k 62 b.1 b.2.1 b.2.2 x.trunc
 CM.trim { x with d:=c.1,nd:=(c.2.1:Nat),dp:=x.dp-((a.1:Int)-1),trunc:=c.2.2 }
theorem ABx(d:Array Int)(nd k:Nat):∀f r n,r<=(ZW d nd k f r n).1
 |0,_,_=>Nl
 |f+1,r,n=>by unfold ZW;split;exact Nat.le_trans (Nat.le_succ r) (ABx d nd k f _ _);exact Nl
theorem AMm{d:Array Int}{nd k n:Nat}(h1:1<=nd)(h:ZW d nd k 21 0 0=(1,n)):n=(d[0]!-48).toNat:=by
 rw[ZW,if_pos (Nat.zero_div _),if_pos Om,Nat.zero_mul,Nat.zero_add,Nat.zero_add]at h;rw[ZW]at h;split at h
 .have:=ABx d nd k 19 2 (if 1<nd then(d[0]!-48).toNat*10+(d[1]!-48).toNat else(d[0]!-48).toNat*10)
  rw[h]at this;omega
 exact(congrArg Prod.snd h).symm
theorem V8{x:CM}{nd:Nat}(h:x.Ok nd)(i:Nat)(hi:i<nd):∃c:Nat,c<=9/\x.d[i]! = (c:Int)+48/\(x.d[i]!-48).toNat=c:=by obtain⟨h1,h2⟩:=h.digit i hi;exact⟨(x.d[i]!-48).toNat,Om,Om,rfl⟩
theorem wrap_u64{z:Int}(h0:0<=z)(h1:z<18446744073709551616):IntKind.u64.wrap z=z:=by unfold IntKind.wrap;simp[IntKind.bits,IntKind.signed];omega
theorem ACb{k:Nat}(hk:k<=60):2^k<=1152921504606846976:=Nat.pow_le_pow_right De hk
theorem Z4{P n c:Nat}(hP:P<=1152921504606846976)(hn:n<P)(hc:c<=9):Value.int IntKind.u64 (IntKind.u64.wrap (IntKind.u64.wrap (IntKind.u64.wrap ((n:Int)*10)+((c:Int)+48))-48))=Value.int .u64 ((n*10+c:Nat):Int):=by rw[wrap_u64 (z:=(n:Int)*10) Om Om,wrap_u64 (z:=(n:Int)*10+((c:Int)+48)) Om Om,wrap_u64 Om Om];congr 1;omega
theorem RC{P n:Nat}(hP:P<=1152921504606846976)(hn:n<P):Value.int IntKind.u64 (IntKind.u64.wrap ((n:Int)*10))=Value.int .u64 ((n*10:Nat):Int):=by rw[wrap_u64 Om Om];congr 1
theorem QW{P k n:Nat}(hk:P=2^k)(hP:P<=1152921504606846976)(hn:n<10*P):bits .and .u64 (n:Int) ((P-1:Nat):Int)=((n%P:Nat):Int):=by rw[u64_and_nat n (P-1) Om Om,hk,Nat.and_two_pow_sub_one_eq_mod]
theorem XM{P k n:Nat}(hk:P=2^k)(hn:n<10*P):Value.int IntKind.u8 (IntKind.u64.wrap ((n:Int)/2^k+48)%256)=Value.int .u8 ((n/P:Nat)+48):=by
 have e:(n:Int)/2^k=((n/P:Nat):Int):=by rw[hk];norm_cast
 have h:n/P<10:=Nat.div_lt_of_lt_mul (by rw[Nat.mul_comm];exact hn);rw[e];generalize n/P=q at h ⊢;rw[wrap_u64 Om Om];congr 1;omega
theorem OW{d:Array Int}{i j:Nat}{v:Int}(h:i<d.size):(d.set! i v)[j]! = if i=j then v else d[j]!:=by
 by_cases e:i=j
 .subst e;simp[h]
 rw[if_neg e,getElem!_def,getElem!_def,Array.set!_eq_setIfInBounds,Array.getElem?_setIfInBounds_ne e]
theorem AD6{k n r:Nat}(hk:k<=60)(h:10^(r-1)<=n)(hr:r=21)(hn:n<2^k):False:=by subst hr;have:=ACb hk;have h2:(10:Nat)^(21-1)=100000000000000000000:=rfl;omega
theorem AAk{n r c:Nat}(h:r=0/\n=0/\1<=c\/1<=r/\10^(r-1)<=n):10^(r+1-1)<=n*10+c:=by
 rcases h with⟨rfl,rfl,h⟩|⟨hr,h⟩
 .simpa using h
 obtain⟨q,rfl⟩:∃q,r=q+1:=⟨r-1,Om⟩;simp only[Nat.add_sub_cancel]at h ⊢;rw[Nat.pow_succ];omega
theorem SA(B:Nat)(x:CM)(w:World)(hB:B<w.heap.size)(nd:Nat)(hx:x.Ok nd)(h1:1<=nd)(k:Nat)(hk1:1<=k)(hk:k<=60)(hdp0:-1000000<=x.dp)(hdp1:x.dp<=1000000) :
 Calls Tryz.prog 195 #[.pointer (some ⟨B,0,none⟩),.int .u64 k] (dw w B x) λe w'=>e=.returned (.tuple #[])/\∃m nd',w'=dw (w.drewN m) B (x.rsh nd k)/\(x.rsh nd k).Ok nd'/\1<=nd'/\(x.rsh nd k).dp<=x.dp/\x.dp-20<=(x.rsh nd k).dp/\((x.rsh nd k).dp=x.dp->(x.rsh nd k).d[0]! < x.d[0]!):=by
 obtain⟨P,hP⟩:∃P:Nat,P=2^k:=⟨_,rfl⟩
 have hP60:P<=1152921504606846976:=by rw[hP];exact ACb hk
 have hP0:0<P:=by rw[hP];exact Nat.two_pow_pos k
 generalize hW:dw w B x=W
 have hnd:W.cell? ⟨B,800,none⟩=some (.int .i64 nd):=by rw[<-hW,<-hx.many];exact LE hB hx.size
 have hdig:∀i c:Nat,i<800->x.d[i]! = (c:Int)+48->W.cell? ⟨B,i,none⟩=some (.int .u8 ((c:Int)+48)):=λi c hi e=>by rw[<-hW,<-e];exact E0 hB hx.size i hi
 have HD:=Hd hdig
 have HX:=Hd hx
 have HW:=Hd hW
 have HP:=Hd hP
 clear hx hW hdig hP
 go_enter Tryz.func195,Tryz.ntmps195
 go_upto_block 0 with fail
 go_cut [4,6,7] from 12 to 48 (λr n c wx=>wx=W/\∃rr nn:Nat,r=.int .i64 rr/\n=.int .u64 nn/\1<=rr/\rr<=21/\nn<10*P/\P<=nn/\ZW x.d nd k 21 0 0=(rr,nn))
 case first=>
  go_wp2_with fail;go_loopg [4,6,7] 21 (λg r n c wr=>wr=W/\∃rr nn:Nat,r=.int .i64 rr/\n=.int .u64 nn/\rr+g=21/\nn<10*P/\(rr=0/\nn=0\/1<=rr/\10^(rr-1)<=nn)/\ZW x.d nd k g rr nn=ZW x.d nd k 21 0 0)
  case atStart=>exact⟨rfl,0,0,rfl,rfl,rfl,Om,Or.inl ⟨rfl,rfl⟩,rfl⟩
  obtain⟨rfl,rr,nn,rfl,rfl,hsum,hlt,hlow,hfin⟩:=hrel;have HF:=Hd hfin;clear hfin;by_cases hq:nn/2^k=0
  .have hnP:nn<P:=by rw[HP.out];exact(Nat.div_eq_zero_iff.1 hq).resolve_left (by have:=Nat.two_pow_pos k;omega)
   cases gk with
   |zero=>exact(AD6 hk (hlow.elim (λh=>by omega) (λh=>h.2)) Om (HP.out▸hnP)).elim
   |succ g=>
   have hstep:=HF.out;rw[ZW,if_pos hq]at hstep;have hq':((nn:Int)/2^k==0)=true:=by
    have:((nn/2^k:Nat):Int)=0:=by rw[hq];rfl
    rw[beq_iff_eq];rw[<-this];norm_cast
   by_cases hr:rr<nd
   .rw[if_pos hr]at hstep
    have hr':¬((rr:Int)≥(nd:Int)):=Om;obtain⟨c,hc,hv,hv'⟩:=V8 HX.out rr hr;have hcell:=HD.out rr c (by have:=HX.out.most;omega) hv;have hr8:(rr:Int)<800:=by have:=HX.out.most;omega
    have hlead:rr=0->1<=c:=λe=>by have:=HX.out.lead Om;rw[e]at hv;omega
    have HV:=Hd hv;have HV':=Hd hv';have HL:=Hd hlead;have HS:=Hd hstep;clear hv hv' hlead hstep hq;go_wp2_with fail;go_roundg g
    case rel=>
     refine⟨rfl,rr+1,nn*10+c,by go_num,by first|exact Z4 hP60 hnP hc|(congr 1;omega),Om,Om,Or.inr ⟨Om,AAk ?_⟩,?_⟩
     .rcases hlow with⟨a,b⟩|h
      .exact Or.inl ⟨a,b,HL.out a⟩
      exact Or.inr h
     rw[<-HS.out,HV'.out]
    omega
   have hr':((rr:Int)≥(nd:Int)):=Om;have hlow1:10^(rr-1)<=nn:=hlow.elim (λh=>by omega) (λh=>h.2);have hn1:1<=nn:=Nat.le_trans (Nat.pos_of_neZero _) hlow1;have hn0:((nn:Int)==0)=false:=Bq;clear hstep hq hlow;go_wp2_with fail;go_loopg [4,6] (g+1) (λg2 r n wx=>wx=wr/\∃rr nn:Nat,r=.int .i64 rr/\n=.int .u64 nn/\rr+g2=21/\nd<=rr/\nn<10*P/\10^(rr-1)<=nn/\ZW x.d nd k g2 rr nn=ZW x.d nd k 21 0 0)
   case atStart=>exact⟨rfl,rr,nn,rfl,rfl,Om,Om,hlt,hlow1,HF.out⟩
   clear hq' hnP hn0 hr' hlow1 hn1 hr HF hlt hsum;obtain⟨rfl,rr,nn,rfl,rfl,hsum,hr,hlt,hlow1,hfin⟩:=hrel;have HF:=Hd hfin;clear hfin;by_cases hq:nn/2^k=0
   .have hnP:nn<P:=by rw[HP.out];exact(Nat.div_eq_zero_iff.1 hq).resolve_left (by have:=Nat.two_pow_pos k;omega)
    cases gk with
    |zero=>exact(AD6 hk hlow1 Om (HP.out▸hnP)).elim
    |succ g2=>
    have hstep:=HF.out;rw[ZW,if_pos hq,if_neg Om]at hstep;have hq':((nn:Int)/2^k==0)=true:=by
     have:((nn/2^k:Nat):Int)=0:=by rw[hq];rfl
     rw[beq_iff_eq];rw[<-this];norm_cast
    have HS:=Hd hstep;clear hstep hq;go_wp2_with fail;go_roundg g2
    case rel=>exact⟨rfl,rr+1,nn*10,by go_num,by first|exact RC hP60 hnP|(congr 1),Om,Om,Om,AAk (c:=0) (Or.inr ⟨Om,hlow1⟩),HS.out⟩
    omega
   have hq':((nn:Int)/2^k==0)=false:=by
    rw[Bn];intro h;apply hq;have:((nn/2^k:Nat):Int)=0:=by rw[<-h];norm_cast
    omega
   have hnP:P<=nn:=by rw[HP.out];exact Nat.le_of_not_lt λh=>hq (Nat.div_eq_of_lt h)
   have hstep:ZW x.d nd k 21 0 0=(rr,nn):=by
    rw[<-HF.out]
    cases gk with
    |zero=>rfl
    |succ g=>rw[ZW,if_neg hq]
   have HS:=Hd hstep;clear hq hstep;go_wp2_with fail;go_meet;exact⟨rfl,rr,nn,rfl,rfl,Om,Om,hlt,hnP,HS.out⟩
  have hq':((nn:Int)/2^k==0)=false:=by
   rw[Bn];intro h;apply hq;have:((nn/2^k:Nat):Int)=0:=by rw[<-h];norm_cast
   omega
  have hnP:P<=nn:=by rw[HP.out];exact Nat.le_of_not_lt λh=>hq (Nat.div_eq_of_lt h)
  have hr1:1<=rr:=hlow.elim (λh=>by omega) (λh=>h.1);have hstep:ZW x.d nd k 21 0 0=(rr,nn):=by
   rw[<-HF.out]
   cases gk with
   |zero=>rfl
   |succ g=>rw[ZW,if_neg hq]
  have HS:=Hd hstep;clear hq hstep;go_wp2_with fail;go_meet;exact⟨rfl,rr,nn,rfl,rfl,hr1,Om,hlt,hnP,HS.out⟩
 obtain⟨rfl,rr,nn,rfl,rfl,hr1,hr21,hlt,hge,hA⟩:=hcut
 have hdp:wc.cell? ⟨B,801,none⟩=some (.int .i64 x.dp):=by rw[<-HW.out];exact VO hB HX.out.size
 have hfz:wc.frozen? ⟨B,801,none⟩=false:=by rw[<-HW.out];exact IF hB _
 have HA:=Hd hA
 clear hA
 go_wp2_with fail
 have hw0:(wc.setCell ⟨B,801,none⟩ (.int .i64 (x.dp-((rr:Int)-1))))=dw w B { x with dp:=x.dp-((rr:Int)-1) }:=by rw[<-HW.out];exact F7 HX.out.size _
 have hmask:IntKind.u64.wrap (IntKind.u64.wrap (2^k)-1)=((P-1:Nat):Int):=by rw[show ((2:Int)^k)=((P:Nat):Int) by rw[HP.out];norm_cast,wrap_u64 (z:=(P:Int)) Om Om,wrap_u64 Om Om];omega
 rw[hw0,hmask]
 clear hw0 hmask hdp hfz hnd HD HW wc
 go_loopg [4,5,6,9,10] (nd-rr) (λg r w' n c dg wr=>∃(d:Array Int) (ra ww na:Nat),r=.int .i64 ra/\w'=.int .i64 ww/\n=.int .u64 na/\wr=dw w B { x with dp:=x.dp-((rr:Int)-1),d:=d }/\d.size=800/\g=nd-ra/\ww+1<=ra/\ww<=nd/\na<10*P/\
  (∀i,ra<=i->d[i]! = x.d[i]!)/\(∀i,i<ww->48<=d[i]!/\d[i]!<=57)/\(0<ww->d[0]! = (nn/P:Nat)+48)/\(ww=0->na=nn)/\rsB k g d ra ww na=rsB k (nd-rr) x.d rr 0 nn)
 case atStart=>exact⟨x.d,rr,0,nn,rfl,rfl,rfl,rfl,HX.out.size,rfl,hr1,Om,hlt,λ_ _=>rfl,λi h=>Om,λh=>Om,λ_=>rfl,rfl⟩
 obtain⟨d,ra,ww,na,rfl,rfl,rfl,hwr,hsz,hg,hwra,hwnd,hna,hsame,hdg,hd0,hz,hfin⟩:=hrel
 have HSm:=Hd hsame
 have HDg:=Hd hdg
 have HD0:=Hd hd0
 have HZ:=Hd hz
 have HF:=Hd hfin
 clear hsame hdg hd0 hz hfin
 have hnd:wr.cell? ⟨B,800,none⟩=some (.int .i64 nd):=by rw[hwr,<-HX.out.many];exact LE hB hsz
 by_cases hr:ra<nd
 .obtain⟨g',rfl⟩:∃g',gk=g'+1:=⟨gk-1,Om⟩
  have hr':(ra:Int)<(nd:Int):=Om;obtain⟨c,hc,hv,hv'⟩:=V8 HX.out ra hr;have hm:=HX.out.most;have hcell:wr.cell? ⟨B,ra,none⟩=some (.int .u8 ((c:Int)+48)):=by rw[hwr,<-hv,<-HSm.out ra Nl];exact E0 hB hsz ra Om
  have hcellw:wr.cell? ⟨B,ww,none⟩=some (.int .u8 (d[ww]!)):=by rw[hwr];exact E0 hB hsz ww Om
  have hfz:wr.frozen? ⟨B,ww,none⟩=false:=by rw[hwr];exact IF hB _
  have hr8:(ra:Int)<800:=Om;have hw8:(ww:Int)<800:=Om;have HWR:=Hd hwr;have HV:=Hd hv;have HV':=Hd hv';have HG:=Hd hg;have HM:=Hd hsz;clear hv hv' hwr hg hsz;go_wp2_with fail;go_roundg g'
  case rel=>
   have hlt10:na/P<10:=Nat.div_lt_of_lt_mul Om;have hsz:=HM.out;have hmod:na%P<P:=Nat.mod_lt _ hP0;refine⟨d.set! ww ((na/2^k:Nat)+48),ra+1,ww+1,na%P*10+c,by go_num,by go_num,?_,?_,by simp[hsz],by have:=HG.out;omega,Om,Om,Om,?_,?_,?_,Om,?_⟩
   .rw[QW HP.out hP60 hna];exact Z4 hP60 hmod hc
   .rw[HWR.out,XM HP.out hna,HP.out];exact IB (x:={ x with d:=d,dp:=x.dp-((rr:Int)-1) }) hsz ww Om _
   .intro i hi;rw[OW Om,if_neg Om];exact HSm.out i Om
   .intro i hi
    rw[OW Om,<-HP.out];generalize na/P=q at hlt10 ⊢;split
    .omega
    exact HDg.out i Om
   .intro _
    rw[OW Om,<-HP.out];split
    .rename_i h0;rw[HZ.out h0]
    exact HD0.out Om
   rw[<-HF.out,rsB,HP.out,show (d[ra]!-48).toNat=c by rw[HSm.out ra Nl];exact HV'.out]
  omega
 have hr':¬(ra:Int)<(nd:Int):=Om
 have HWR:=Hd hwr
 have HG:=Hd hg
 have HM:=Hd hsz
 have hg0:gk=0:=Om
 subst hg0
 have hB1:rsB k (nd-rr) x.d rr 0 nn=(d,ww,na):=HF.out.symm
 have HB:=Hd hB1
 clear hwr hg hsz hB1 HF HSm
 go_wp2_with fail
 go_loopg [5,6,11] 62 (λg w' n dg wx=>∃(d2:Array Int) (wa nb:Nat) (t:Bool),w'=.int .i64 wa/\n=.int .u64 nb/\wx=dw w B { x with dp:=x.dp-((rr:Int)-1),d:=d2,trunc:=t }/\d2.size=800/\wa<=800/\nb<10*P/\
  (∀i,i<wa->48<=d2[i]!/\d2[i]!<=57)/\(0<wa->d2[0]! = (nn/P:Nat)+48)/\(wa=0->nb=nn)/\(nb=0\/∃j,g+j=62/\j<=k/\2^j ∣ nb)/\rsC k g d2 wa nb t=rsC k 62 d ww na x.trunc)
 case atStart=>exact⟨d,ww,na,x.trunc,rfl,rfl,HWR.out,HM.out,by have:=HX.out.most;omega,hna,HDg.out,HD0.out,HZ.out,Or.inr ⟨0,rfl,Om,by simp⟩,rfl⟩
 clear HWR HM HDg HD0 HZ
 obtain⟨d2,wa,nb,t,rfl,rfl,hwr,hsz,hwa,hnb,hdg,hd0,hz,hdv,hfin⟩:=hrel
 have HWR:=Hd hwr
 have HM:=Hd hsz
 have HDg:=Hd hdg
 have HD0:=Hd hd0
 have HZ:=Hd hz
 have HDv:=Hd hdv
 have HF:=Hd hfin
 have hfz:∀i,wr.frozen? ⟨B,i,none⟩=false:=λi=>by rw[hwr];exact IF hB _
 cases nb with
 |zero=>
  have hwa1:1<=wa:=by
   rcases Nat.eq_zero_or_pos wa with h|h
   .exact absurd (hz h) Om
   exact h
  have hC:rsC k 62 d ww na x.trunc=(d2,wa,t):=by
   rw[<-hfin];cases gk with
   |zero=>rfl
   |succ g=>rw[rsC,if_pos rfl]
  have hnd2:wr.cell? ⟨B,800,none⟩=some (.int .i64 nd):=by rw[hwr,<-HX.out.many];exact LE hB hsz
  have HC:=Hd hC
  have hfz1:=hfz 800
  clear hwr hsz hdg hd0 hz hdv hfin hC hfz
  go_wp2_with fail
  have hst:wr.setCell ⟨B,800,none⟩ (.int .i64 (wa:Int))=dw w B { x with dp:=x.dp-((rr:Int)-1),d:=d2,trunc:=t,nd:=(wa:Int) }:=by rw[HWR.out];exact KB (x:={ x with dp:=x.dp-((rr:Int)-1),d:=d2,trunc:=t }) HM.out wa
  rw[hst]
  have hT:=UK B { x with dp:=x.dp-((rr:Int)-1),d:=d2,trunc:=t,nd:=(wa:Int) } w hB HM.out wa hwa rfl
  have hq10:nn/P<10:=Nat.div_lt_of_lt_mul Om
  have hq1:1<=nn/P:=(Nat.le_div_iff_mul_le hP0).2 Om
  have h0:d2[0]! = (nn/P:Nat)+48:=HD0.out Om
  have hne:d2[0]!≠48:=by rw[h0];omega
  have htp:=RK hne wa hwa1
  have htl:=V5 d2 wa
  have hres:x.rsh nd k={ x with dp:=x.dp-((rr:Int)-1),d:=d2,trunc:=t,nd:=(JN d2 wa:Int) }:=by unfold CM.rsh;rw[HA.out];simp only[];rw[HB.out];simp only[];rw[HC.out];simp only[];unfold CM.trim;simp only[Int.toNat_natCast];rw[if_neg Om]
  have hpost:(x.rsh nd k).Ok (JN d2 wa)/\1<=JN d2 wa/\(x.rsh nd k).dp<=x.dp/\x.dp-20<=(x.rsh nd k).dp/\((x.rsh nd k).dp=x.dp->(x.rsh nd k).d[0]! < x.d[0]!):=by
   rw[hres];refine⟨⟨HM.out,rfl,Om,λi hi=>HDg.out i Om,λ_=>by simp only[];rw[h0];omega⟩,htp,by simp only[];omega,by simp only[];omega,λe=>?_⟩;have hr1:rr=1:=by simp only[]at e;omega
   subst hr1;have hnn:=AMm h1 HA.out;obtain⟨c,hc,hv,hv'⟩:=V8 HX.out 0 Om;simp only[];rw[h0,hv];have hcn:nn=c:=by rw[hnn,hv']
   have hP2:2<=P:=by rw[HP.out];exact Nat.le_trans De (Nat.pow_le_pow_right De hk1)
   have:nn/P<nn:=Nat.div_lt_self Om hP2;omega
  have htr:CM.trim { x with dp:=x.dp-((rr:Int)-1),d:=d2,trunc:=t,nd:=(wa:Int) } = x.rsh nd k:=by rw[hres];unfold CM.trim;simp only[Int.toNat_natCast];rw[if_neg Om]
  rw[htr]at hT
  have HPo:=Hd hpost
  clear htr hpost hres hne h0 hst hq10 hq1 htp htl
  refine hT.mono ?_
  rintro e w' ⟨rfl,m,rfl⟩
  go_wp2_with fail
  go_end0
  exact⟨rfl,m,_,rfl,HPo.out⟩
 |succ nb'=>
  obtain⟨nb,hnbe⟩:∃nb,nb=nb'+1:=⟨_,rfl⟩
  rw[<-hnbe]at hnb hz hdv hfin ⊢
  obtain⟨j,hj1,hj2,hj3⟩:=hdv.resolve_left Om
  obtain⟨g,rfl⟩:∃g,gk=g+1:=⟨gk-1,Om⟩
  have hpos:(0:Int)<(nb:Int):=Om
  have hlt10:nb/P<10:=Nat.div_lt_of_lt_mul Om
  have hmod:nb%P<P:=Nat.mod_lt _ hP0
  have hdvn:nb%P*10=0\/∃j,g+j=62/\j<=k/\2^j ∣ nb%P*10:=by
   by_cases e:j=k
   .subst e
    left;rw[HP.out,Nat.mod_eq_zero_of_dvd hj3]
   right;refine⟨j+1,Om,Om,?_⟩;have h1:2^j ∣ P:=by rw[HP.out];exact Nat.pow_dvd_pow 2 hj2
   have h2:2^j ∣ nb%P:=(Nat.dvd_mod_iff h1).2 hj3;rw[Nat.pow_succ];exact Nat.mul_dvd_mul h2 De
  rw[rsC,if_neg Om]at hfin
  have HN:=Hd hdvn
  have HE:=Hd hnbe
  by_cases hw8:wa<800
  .rw[if_pos hw8]at hfin
   have hw8':(wa:Int)<800:=Om;have hcellw:wr.cell? ⟨B,wa,none⟩=some (.int .u8 (d2[wa]!)):=by rw[hwr];exact E0 hB hsz wa Om
   have hfz1:=hfz wa;have HF:=Hd hfin;clear hwr hsz hdg hd0 hz hdv hfin hfz hdvn hnbe hj3;go_wp2_with fail;go_roundg g
   case rel=>
    refine⟨d2.set! wa ((nb/2^k:Nat)+48),wa+1,nb%P*10,t,by go_num,?_,?_,by simp[HM.out],Om,Om,?_,?_,Om,HN.out,?_⟩
    .rw[QW HP.out hP60 hnb];exact RC hP60 hmod
    .rw[HWR.out,XM HP.out hnb,HP.out];exact IB (x:={ x with d:=d2,dp:=x.dp-((rr:Int)-1),trunc:=t }) HM.out wa Om _
    .intro i hi
     rw[OW (by rw[HM.out];omega),<-HP.out];generalize nb/P=q at hlt10 ⊢;split
     .omega
     exact HDg.out i Om
    .intro _
     rw[OW (by rw[HM.out];omega),<-HP.out];split
     .rename_i h0;rw[<-HZ.out h0,<-HE.out]
     exact HD0.out Om
    rw[<-HF.out,HP.out]
   omega
  rw[if_neg hw8]at hfin
  have hw8':¬(wa:Int)<800:=Om
  have hcellt:wr.cell? ⟨B,803,none⟩=some (.bool t):=by rw[hwr];exact OE hB hsz
  have hfz1:=hfz 803
  have HF:=Hd hfin
  have hq:((nb:Int)/2^k)=((nb/P:Nat):Int):=by rw[HP.out];norm_cast
  by_cases hdig:0<nb/P
  .have hdig':(0:Int)<(nb:Int)/2^k:=by rw[hq];omega
   clear hwr hsz hdg hd0 hz hdv hfin hfz hdvn hnbe hj3 hq;go_wp2_with fail;go_roundg g
   case rel=>
    refine⟨d2,wa,nb%P*10,true,rfl,?_,?_,HM.out,hwa,Om,HDg.out,HD0.out,Om,HN.out,?_⟩
    .rw[QW HP.out hP60 hnb];exact RC hP60 hmod
    .rw[HWR.out];exact J8 (x:={ x with d:=d2,dp:=x.dp-((rr:Int)-1),trunc:=t }) HM.out true
    rw[<-HF.out,HP.out,decide_eq_true (HP.out▸hdig),Bool.or_true]
   omega
  have hdig':¬(0:Int)<(nb:Int)/2^k:=by rw[hq];omega
  clear hwr hsz hdg hd0 hz hdv hfin hfz hdvn hnbe hj3 hq
  go_wp2_with fail
  go_roundg g
  case rel=>
   refine⟨d2,wa,nb%P*10,t,rfl,?_,HWR.out,HM.out,hwa,Om,HDg.out,HD0.out,Om,HN.out,?_⟩
   .rw[QW HP.out hP60 hnb];exact RC hP60 hmod
   rw[<-HF.out,HP.out,decide_eq_false (HP.out▸hdig),Bool.or_false]
  omega
def LP(d:Array Int)(i:Nat):Nat:=(d[i]!-48).toNat
theorem LR{x:CM}{nd:Nat}(h:x.Ok nd)(i:Nat)(hi:i<nd):LP x.d i<=9:=by obtain⟨h1,h2⟩:=h.digit i hi;unfold LP;omega
theorem VL{x:CM}{nd:Nat}(h:x.Ok nd)(i:Nat)(hi:i<nd):x.d[i]! = (LP x.d i:Int)+48:=by obtain⟨h1,h2⟩:=h.digit i hi;unfold LP;omega
structure AIa(s:ByteArray)(h:Nat->Nat):Prop where
 each:∀i (hi:i<s.size),((s[i]'hi).toNat:Int)=(h i:Int)+48
 nine:∀i,i<s.size->h i<=9
 last:h (s.size-1)≠0
theorem AFq(B:Nat)(x:CM)(w:World)(hB:B<w.heap.size)(nd:Nat)(hx:x.Ok nd)(s:ByteArray)(h:Nat->Nat)(hs:AIa s h)(cap:Nat) :
 Calls Tryz.prog 201 #[.slice (some ⟨B,0,none⟩) nd cap,.string s] (dw w B x) λe w'=>e=.returned (.bool (decide (val (LP x.d) nd*10^s.size<val h s.size*10^nd)))/\∃m,w'=dw (w.drewN m) B x:=by
 have HX:=Hd hx
 have HS:=Hd hs
 have hm:=hx.most
 clear hx hs
 go_enter Tryz.func201,Tryz.ntmps201
 go_wp2_with fail
 go_loopg [5] s.size (λg i wr=>∃ii m:Nat,i=.int .i64 ii/\ii<=nd/\g+ii=s.size/\val (LP x.d) ii=val h ii/\wr=dw (w.drewN m) B x)
 case atStart=>exact⟨0,0,rfl,Nat.zero_le _,rfl,rfl,rfl⟩
 obtain⟨ii,m,rfl,hnd,hg,hv,hwr⟩:=hrel
 have HV:=Hd hv
 clear hv
 have hB':B<(w.drewN m).heap.size:=hB
 cases gk with
 |zero=>
  have hi':¬(ii:Int)<(s.size:Int):=Om
  have HW:=Hd hwr
  have HG:=Hd hg
  clear hwr hg
  go_wp2_with fail
  go_ret
  have e:ii=s.size:=by have:=HG.out;omega
  obtain⟨b,rfl⟩:∃b,nd=ii+b:=⟨nd-ii,Om⟩
  have:=AGl (h:=h) (λj hj=>LR HX.out j hj) HV.out
  rw[e]at this
  refine⟨?_,m,HW.out⟩
  simp only[Array.getD_eq_getD_getElem?]
  rw[e,decide_eq_false this];rfl
 |succ g=>
  have hi:ii<s.size:=Om
  have hi':(ii:Int)<(s.size:Int):=Om
  by_cases hlt:ii<nd
  .have hlt':¬((ii:Int)≥(nd:Int)):=Om
   have hcell:wr.cell? ⟨B,ii,none⟩=some (.int .u8 ((LP x.d ii:Int)+48)):=by rw[hwr,<-VL HX.out ii hlt];exact E0 hB' HX.out.size ii Om
   have hat:=HS.out.each ii hi;obtain⟨a,ha⟩:∃a,LP x.d ii=a:=⟨_,rfl⟩;obtain⟨b,hb⟩:∃b,h ii=b:=⟨_,rfl⟩;obtain⟨c,hc⟩:∃c:Int,((s[ii]'hi).toNat:Int)=c:=⟨_,rfl⟩;rw[ha]at hcell;rw[hb,hc]at hat;subst hat;have HC:=Hd hc;have HA:=Hd ha;have HBb:=Hd hb;have HW:=Hd hwr;have HG:=Hd hg;clear ha hb hwr hg;by_cases hab:a=b
   .have hne:(((a:Int)+48)!=((b:Int)+48))=false:=by simp[hab]
    go_wp2_with fail;go_quiet (fail);go_wp2_with fail;go_roundg g
    case rel=>refine⟨ii+1,m+nq,by go_num,Om,by have:=HG.out;omega,?_,by rw[HW.out,MG]⟩;unfold val;rw[HV.out,HA.out,HBb.out,hab]
    omega
   have hne:(((a:Int)+48)!=((b:Int)+48))=true:=by rw[bne_iff_ne];omega
   have hmain:decide (val (LP x.d) nd*10^s.size<val h s.size*10^nd)=decide (a<b):=by
    obtain⟨p,hp⟩:∃p,nd=ii+1+p:=⟨nd-(ii+1),Om⟩;obtain⟨q,hq⟩:∃q,s.size=ii+1+q:=⟨s.size-(ii+1),Om⟩;have h1:∀j,j<ii+1+p->LP x.d j<=9:=λj hj=>LR HX.out j Om;have h2:∀j,j<ii+1+q->h j<=9:=λj hj=>HS.out.nine j Om;rw[hp,hq];by_cases hab2:a<b
    .rw[decide_eq_true hab2,decide_eq_true (AE3 h1 h2 HV.out (by rw[HA.out,HBb.out];exact hab2))]
    rw[decide_eq_false hab2,decide_eq_false (Nat.not_lt_of_gt (AE3 h2 h1 HV.out.symm (by rw[HA.out,HBb.out];omega)))]
   have HM:=Hd hmain;clear hmain;go_wp2_with fail;go_quiet (fail);go_wp2_with fail;go_quiet (fail);go_wp2_with fail;go_ret;exact⟨by rw[HM.out];rfl,_,by rw[HW.out,MG,MG]⟩
  have hlt':((ii:Int)≥(nd:Int)):=Om
  have e:ii=nd:=Om
  obtain⟨b,hb⟩:∃b,s.size=nd+(b+1):=⟨s.size-nd-1,Om⟩
  have hmain:decide (val (LP x.d) nd*10^s.size<val h s.size*10^nd)=true:=by rw[hb];refine decide_eq_true (AC3 (λj hj=>HS.out.nine j Om) (e▸HV.out) ?_);have:=HS.out.last;rw[hb,show nd+(b+1)-1=nd+b by omega]at this;exact this
  have HM:=Hd hmain
  have HW:=Hd hwr
  clear hmain hwr e hb hg
  go_wp2_with fail
  go_ret
  exact⟨by rw[HM.out];rfl,m,HW.out⟩
