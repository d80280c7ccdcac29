/- Lemmas for FnVtSigsEntry; no conditions. -/
import Derived.Test.YtbnbadcnfchdhaaGreatDoorP08
set_option maxRecDepth 100000
set_option maxHeartbeats 16000000
set_option linter.all false
namespace Go.Proofs.YtbnbadcnfchdhaaGreatDoor
open Go.RowKit
def CV(s:ByteArray)(q:Int)(k:Nat):Option Nat:=
 if h:k<s.size then(if AA s k=92 then CV s q (k+2) else if AA s k=q then some (k+1) else CV s q (k+1)) else none
 termination_by s.size-k
theorem GM{s:ByteArray}{q:Int}{k:Nat}(h:¬k<s.size):CV s q k=none:=by unfold CV;rw[dif_neg h]
theorem EH{s:ByteArray}{q:Int}{k:Nat}(h:k<s.size)(e:AA s k=92):CV s q k=CV s q (k+2):=by
 conv=>lhs;unfold CV
 rw[dif_pos h,if_pos e]
theorem FO{s:ByteArray}{q:Int}{k:Nat}(h:k<s.size)(e:AA s k≠92)(e2:AA s k=q):CV s q k=some (k+1):=by
 conv=>lhs;unfold CV
 rw[dif_pos h,if_neg e,if_pos e2]
theorem DU{s:ByteArray}{q:Int}{k:Nat}(h:k<s.size)(e:AA s k≠92)(e2:AA s k≠q):CV s q k=CV s q (k+1):=by
 conv=>lhs;unfold CV
 rw[dif_pos h,if_neg e,if_neg e2]
def VV(r:Option Nat)(kind:Int):Value:=match r with
 |some n=>.tuple #[.int .i64 n,.int .i64 kind,.bool true]
 |none=>.tuple #[.int .i64 0,.int .i64 1,.bool true]
theorem QQ(s:ByteArray)(hs:s.size<=100000)(a:Nat)(ha:a<s.size)(kind:Int)(w:World) :
 Calls Tryz.prog 54 #[.string s,.int .i64 a,.int .i64 kind] w λe w'=>e=.returned (VV (CV s (AA s a) (a+1)) kind)/\w=w':=by
 generalize hR:CV s (AA s a) (a+1)=R
 have HR:=Hd hR
 clear hR
 have ea:=AJ ha
 have hai:(a:Int)<(s.size:Int):=Om
 go_enter Tryz.func54,Tryz.ntmps54
 go_wp2_with fail
 go_loop [9] (λi=>∃k:Nat,k<=s.size+1/\Hid (CV s (AA s a) k=R)/\i=.int .i64 k) (λi=>s.size+2-(intOf i).toNat)
 case atStart=>exact⟨a+1,Om,HR,by first|rfl|go_num⟩
 obtain⟨k,hk,HK,rfl⟩:=hrel
 by_cases hlt:(k:Int)<(s.size:Int)
 .have hks:k<s.size:=Om
  have ec:=AJ hks;by_cases h92:AA s k=92
  .have t1:(AA s k==92)=true:=by simp[h92]
   have HK2:=Hd (show CV s (AA s a) (k+2)=R by rw[<-HK.out,EH hks h92]);clear HK HR h92;generalize AA s k=d at *;go_wp2_with fail;go_round
   case rel=>exact⟨k+2,Om,HK2,by first|rfl|go_num|(congr 1;omega)⟩
   simp[intOf];omega
  have t1:(AA s k==92)=false:=by simp[h92]
  by_cases hq:AA s k=AA s a
  .have t2:(AA s k==AA s a)=true:=by simp[hq]
   obtain rfl:R=some (k+1):=by rw[<-HK.out];exact FO hks h92 hq
   clear HK HR h92 hq;generalize AA s k=d at *;generalize AA s a=d2 at *;go_wp2_with fail;go_ret3;exact⟨rfl,rfl⟩
  have t2:(AA s k==AA s a)=false:=by simp[hq]
  have HK2:=Hd (show CV s (AA s a) (k+1)=R by rw[<-HK.out,DU hks h92 hq]);clear HK HR h92 hq;generalize AA s k=d at *;generalize hd:AA s a=d2 at *;have HD:=Hd hd;clear hd;go_wp2_with fail;go_round
  case rel=>exact⟨k+1,Om,HK2,by go_num⟩
  simp[intOf];omega
 obtain rfl:R=none:=by rw[<-HK.out];exact GM Om
 clear HK HR
 go_wp2_with fail
 go_ret3
 exact⟨rfl,rfl⟩
def IG(s:ByteArray)(i:Nat)(b:Bool):Bool:=if h:i<s.size then IG s (i+1) (b||BT (AA s i) ⟨#[40,41,123,125]⟩) else b
 termination_by s.size-i
def OO(s:ByteArray):Bool:=IG s 0 false
theorem SV{s:ByteArray}{i:Nat}{b:Bool}(h:¬i<s.size):IG s i b=b:=by unfold IG;rw[dif_neg h]
theorem Q0{s:ByteArray}{i:Nat}{b:Bool}(h:i<s.size):IG s i b=IG s (i+1) (b||BT (AA s i) ⟨#[40,41,123,125]⟩):=by
 conv=>lhs;unfold IG
 rw[dif_pos h]
theorem Y9(s:ByteArray)(hs:s.size<=100000)(w:World) :
 Calls Tryz.prog 56 #[.string s] w λe w'=>e=.returned (.bool (OO s))/\w=w':=by
 unfold OO
 generalize hR:IG s 0 false=R
 have HR:=Hd hR
 clear hR
 go_enter Tryz.func56,Tryz.ntmps56
 go_wp2_with fail
 go_loop [3,4] (λv i=>∃(k:Nat) (b:Bool),k<=s.size/\Hid (IG s k b=R)/\i=.int .i64 k/\v=.bool b) (λ_ i=>s.size-(intOf i).toNat)
 case atStart=>exact⟨0,false,Nat.zero_le _,HR,rfl,rfl⟩
 obtain⟨k,b,hk,HK,rfl,rfl⟩:=hrel
 by_cases hlt:(k:Int)<(s.size:Int)
 .have hks:k<s.size:=Om
  have ec:=AJ hks;have HK2:=Hd (show IG s (k+1) (b||BT (AA s k) ⟨#[40,41,123,125]⟩)=R by rw[<-HK.out,Q0 hks]);clear HK HR;generalize AA s k=d at *
  cases b with
  |true=>
   go_wp2_with fail;go_round
   case rel=>exact⟨k+1,true,Om,HK2,by go_num,rfl⟩
   simp[intOf];omega
  |false=>
   go_wp2_with (go_at_call 31;refine(B4 _ _ De _).mono ?_;rintro e w' ⟨rfl,rfl⟩);go_round
   case rel=>exact⟨k+1,_,Om,HK2,by go_num,rfl⟩
   simp[intOf];omega
 obtain rfl:b=R:=by rw[<-HK.out];exact(SV Om).symm
 clear HK HR
 go_wp2_with fail
 go_ret
 exact⟨rfl,rfl⟩
def FU(s:ByteArray)(i:Nat):Bool:=
 (decide (AA s i=40)||decide (AA s i=41))||(decide (AA s i=123)&&(decide (i+1=s.size)||!BT (AA s (i+1)) ⟨#[121,110,113,105,117,120,116,115,111]⟩))
def I2(s:ByteArray)(i:Nat):Bool:=if h:i<s.size then(if FU s i then false else I2 s (i+1)) else true
 termination_by s.size-i
def RQ(s:ByteArray):Bool:=I2 s 0
theorem ADc{s:ByteArray}{i:Nat}(h:¬i<s.size):I2 s i=true:=by unfold I2;rw[dif_neg h]
theorem V1{s:ByteArray}{i:Nat}(h:i<s.size)(e:FU s i=true):I2 s i=false:=by unfold I2;rw[dif_pos h,if_pos e]
theorem S8{s:ByteArray}{i:Nat}(h:i<s.size)(e:FU s i=false):I2 s i=I2 s (i+1):=by
 conv=>lhs;unfold I2
 rw[dif_pos h,if_neg (by simp[e])]
theorem SE(s:ByteArray)(hs:s.size<=100000)(w:World) :
 Calls Tryz.prog 57 #[.string s] w λe w'=>e=.returned (.bool (RQ s))/\w=w':=by
 unfold RQ
 generalize hR:I2 s 0=R
 have HR:=Hd hR
 clear hR
 go_enter Tryz.func57,Tryz.ntmps57
 go_wp2_with fail
 go_loop [3] (λi=>∃k:Nat,k<=s.size/\Hid (I2 s k=R)/\i=.int .i64 k) (λi=>s.size-(intOf i).toNat)
 case atStart=>exact⟨0,Nat.zero_le _,HR,rfl⟩
 obtain⟨k,hk,HK,rfl⟩:=hrel
 clear HR
 by_cases hlt:(k:Int)<(s.size:Int)
 .have hks:k<s.size:=Om
  have ec:=AJ hks;have hhit:FU s k=true->R=false:=λh=>by rw[<-HK.out];exact V1 hks h
  have hstep:FU s k=false->I2 s (k+1)=R:=λh=>by rw[<-HK.out,S8 hks h]
  clear HK;by_cases h40:AA s k=40
  .have t1:(AA s k==40)=true:=by simp[h40]
   obtain rfl:R=false:=hhit (by unfold FU;simp[h40]);clear hhit hstep h40;generalize AA s k=d at *;go_wp2_with fail;go_ret;exact⟨rfl,rfl⟩
  have t1:(AA s k==40)=false:=by simp[h40]
  by_cases h41:AA s k=41
  .have t2:(AA s k==41)=true:=by simp[h41]
   obtain rfl:R=false:=hhit (by unfold FU;simp[h41]);clear hhit hstep h40 h41;generalize AA s k=d at *;go_wp2_with fail;go_ret;exact⟨rfl,rfl⟩
  have t2:(AA s k==41)=false:=by simp[h41]
  by_cases h123:AA s k=123
  .have t3:(AA s k==123)=true:=by simp[h123]
   by_cases hend:k+1=s.size
   .have t4:((k:Int)+1==(s.size:Int))=true:=by rw[beq_iff_eq];omega
    obtain rfl:R=false:=hhit (by unfold FU;simp[h123,hend]);clear hhit hstep h40 h41 h123 hend;generalize AA s k=d at *;go_wp2_with fail;go_ret;exact⟨rfl,rfl⟩
   have t4:((k:Int)+1==(s.size:Int))=false:=Bq;have hk1:k+1<s.size:=Om;have hk1i:(k:Int)+1<(s.size:Int):=Om;have e1:=AJ hk1
   cases ha:BT (AA s (k+1)) ⟨#[121,110,113,105,117,120,116,115,111]⟩ with
   |true=>
    have HK2:=Hd (hstep (by unfold FU;simp[h123,ha];exact hend));clear hhit hstep h40 h41 h123 hend;generalize AA s k=d at *;generalize AA s (k+1)=d1 at *;have HA:=Hd ha;clear ha;go_wp2_with (go_at_call 31;refine(B4 _ _ De _).mono ?_;rintro e w' ⟨rfl,rfl⟩;rw[HA.out]);go_round
    case rel=>exact⟨k+1,Om,HK2,by go_num⟩
    simp[intOf];omega
   |false=>obtain rfl:R=false:=hhit (by unfold FU;simp[h123,ha]);clear hhit hstep h40 h41 h123 hend;generalize AA s k=d at *;generalize AA s (k+1)=d1 at *;have HA:=Hd ha;clear ha;go_wp2_with (go_at_call 31;refine(B4 _ _ De _).mono ?_;rintro e w' ⟨rfl,rfl⟩;rw[HA.out]);go_ret;exact⟨rfl,rfl⟩
  have t3:(AA s k==123)=false:=by simp[h123]
  have HK2:=Hd (hstep (by unfold FU;simp[h40,h41,h123]));clear hhit hstep h40 h41 h123;generalize AA s k=d at *;go_wp2_with fail;go_round
  case rel=>exact⟨k+1,Om,HK2,by go_num⟩
  simp[intOf];omega
 obtain rfl:R=true:=by rw[<-HK.out];exact ADc Om
 clear HK
 go_wp2_with fail
 go_ret
 exact⟨rfl,rfl⟩
inductive Ph where
 |mk (k:Nat) (x:ByteArray) (kids:List Ph) (ty:Option ByteArray)
def Ph.k:Ph->Nat | .mk k _ _ _=>k
def Ph.kids:Ph->List Ph | .mk _ _ l _=>l
def Ph.ty:Ph->Option ByteArray | .mk _ _ _ t=>t
mutual
def Ph.sz:Ph->Nat | .mk _ _ l _=>1+K8 l
def K8:List Ph->Nat | []=>0|p::l=>p.sz+K8 l
end
theorem Ph.sz_pos(p:Ph):1<=p.sz:=by cases p;simp[Ph.sz]
theorem CW(l:List Ph)(i:Nat)(h:i<l.length):l[i].sz<=K8 l:=by
 induction l generalizing i with
 |nil=>simp at h
 |cons p l ih=>
  cases i with
  |zero=>simp[K8]
  |succ i=>simp[K8];have:=ih i (by simpa using h);omega
def ZV(t:Option ByteArray):ByteArray:=t.getD ⟨#[]⟩
def NX(k:Nat)(x:ByteArray)(A:Option Addr)(n c:Nat)(b:Bool)(t:ByteArray):List Value:=[.int .i64 k,.string x,.slice A n c,.bool b,.string t]
inductive PhAt(w:World)(P:Nat->Prop):List Value->Ph->Prop
 |mk (k:Nat) (x:ByteArray) (A:Option Addr) (n c:Nat) (kids:List Ph) (ty:Option ByteArray) (rows:Nat->List Value) (hn:n=kids.length)
  (hrow:w.ownsRow 0 37 5 (.slice A n c) n ((List.range n).flatMap rows)) (hP:∀b,(Value.slice A n c).ownBlock=some b->P b)
  (hA:0<n->∃g,A=some ⟨g,0,none⟩/\g<w.heap.size)
  (hkid:∀(i:Nat) (h:i<kids.length),PhAt w P (rows i) kids[i]) :
  PhAt w P (NX k x A n c ty.isSome (ZV ty)) (.mk k x kids ty)
theorem AR{w w':World}{base:Nat}{e:TypeId}{size:Nat}{v:Value}{n:Nat}{xs:List Value}(h:w.ownsRow base e size v n xs)(hb:∀g,v.ownBlock=some g->g<w.heap.size->w'.heap[g]?=w.heap[g]?):w'.ownsRow base e size v n xs:=by
 obtain⟨h1,h2⟩:=h;refine⟨h1,?_⟩;rcases h2 with h2|⟨g,cap,cur,rfl,hg,hh,hr⟩
 .exact .inl h2
 have hlt:g<w.heap.size:=(Array.getElem?_eq_some_iff.1 hh).1;exact .inr ⟨g,cap,cur,rfl,hg,(hb g rfl hlt).trans hh,hr⟩
theorem AD{w w':World}{base:Nat}{e:TypeId}{size:Nat}{v:Value}{n:Nat}{xs:List Value}(h:w.ownsRow base e size v n xs)(hb:Below w.heap.size w w'):w'.ownsRow base e size v n xs:=
 AR h λg _ hg=>hb.block g hg
theorem PhAt.same{w w':World}{P P':Nat->Prop}{cs:List Value}{p:Ph}(h:PhAt w P cs p)(hs:w.heap.size<=w'.heap.size)(hb:∀g,P g->g<w.heap.size->w'.heap[g]?=w.heap[g]?)(hp:∀g,P g->P' g):PhAt w' P' cs p:=by
 induction h with
 |mk k x A n c kids ty rows hn hrow hP hA _ ih=>exact .mk k x A n c kids ty rows hn (AR hrow λg e hg=>hb g (hP g e) hg) (λb e=>hp _ (hP b e)) (λh=>by obtain⟨g,h1,h2⟩:=hA h;exact⟨g,h1,Om⟩) ih
theorem PhAt.keep{w w':World}{P:Nat->Prop}{cs:List Value}{p:Ph}(h:PhAt w P cs p)(hb:Below w.heap.size w w'):PhAt w' P cs p:=
 h.same hb.size (λg _ hg=>hb.block g hg) λ_ h=>h
theorem PhAt.any{w:World}{P:Nat->Prop}{cs:List Value}{p:Ph}(h:PhAt w P cs p):PhAt w (λ_=>True) cs p:=
 h.same Nl (λ_ _ _=>rfl) λ_ _=>trivial
theorem ZM{rows:Nat->List Value}{n m:Nat}(hr:∀i,i<n->(rows i).length=m)(i j:Nat)(hi:i<n)(hj:j<m):((List.range n).flatMap rows)[i*m+j]?=(rows i)[j]?:=by
 induction n with
 |zero=>omega
 |succ n ih=>
  have hlen:((List.range n).flatMap rows).length=n*m:=by
   clear ih hi;induction n with
   |zero=>simp
   |succ n ih=>rw[List.range_succ,List.flatMap_append,List.length_append,ih (λi hi=>hr i Om)];simp[hr n Om,Nat.succ_mul]
  rw[List.range_succ,List.flatMap_append];by_cases e:i=n
  .subst e
   rw[List.getElem?_append_right Om,hlen];simp
  have hin:i<n:=Om;have:i*m+j<n*m:=by have:(i+1)*m<=n*m:=Nat.mul_le_mul_right m Om;rw[Nat.succ_mul]at this;omega
  rw[List.getElem?_append_left Om,ih (λi hi=>hr i Om) hin]
theorem PhAt.length{w:World}{P:Nat->Prop}{cs:List Value}{p:Ph}(h:PhAt w P cs p):cs.length=5:=by cases h;rfl
theorem AV{w:World}{base:Nat}{e:TypeId}{size:Nat}{v:Value}{n:Nat}{xs:List Value}(h:w.ownsRow base e size v n xs)(g c:Nat)(hv:v=.slice (some ⟨g,0,none⟩) n c)(j:Nat)(hj:j<n*size):w.cell? ⟨g,j,none⟩=xs[j]?:=by
 obtain⟨h1,h2⟩:=h;rcases h2 with⟨h2,_⟩|⟨g',cap,cur,h2,hg,hh,hn,hm,hsz,htk⟩
 .rw[hv]at h2;simp at h2
 rw[hv]at h2;simp only[Value.slice.injEq,Option.some.injEq,Addr.mk.injEq]at h2;obtain⟨⟨rfl,_⟩,_,rfl⟩:=h2;have:w.cell? ⟨g,j,none⟩=cur[j]?:=by simp[World.cell?,hh]
 rw[this,<-htk,List.getElem?_take_of_lt hj];simp
theorem AF{w:World}{base:Nat}{e:TypeId}{size:Nat}{v:Value}{n:Nat}{xs:List Value}(h:w.ownsRow base e size v n xs) :
 ∃A c,v=.slice A n c/\(0<n->∃g,A=some ⟨g,0,none⟩/\g<w.heap.size):=by
 rcases h.2 with⟨rfl,rfl⟩|⟨g,cap,cur,rfl,_,hh,_⟩
 .exact⟨none,0,rfl,λh=>absurd h Om⟩
 exact⟨_,cap,rfl,λ_=>⟨g,rfl,(Array.getElem?_eq_some_iff.1 hh).1⟩⟩
theorem AG{w:World}{base:Nat}{e:TypeId}{size:Nat}{v:Value}{n:Nat}{xs:List Value}(h:w.ownsRow base e size v n xs):∀k,v.ownBlock=some k->base<=k:=by
 intro k hk;rcases h.2 with⟨rfl,_⟩|⟨g,cap,cur,rfl,hg,_⟩
 .simp[Value.ownBlock]at hk
 simp[Value.ownBlock]at hk;omega
theorem SU{w:World}{base:Nat}{e:TypeId}{size:Nat}{v:Value}{n:Nat}{xs:List Value}(h:w.ownsRow base e size v n xs):n<=9223372036854775807:=by
 rcases h.2 with⟨_,rfl⟩|⟨g,cap,cur,_,_,_,h1,h2,_⟩
 .omega
 unfold maxLen at h2;omega
theorem PhAt.kid{w:World}{P:Nat->Prop}{rows:Nat->List Value}{kids:List Ph}{g n c:Nat}(hn:n=kids.length)
 (hrow:w.ownsRow 0 37 5 (.slice (some ⟨g,0,none⟩) n c) n ((List.range n).flatMap rows))
 (hkid:∀(i:Nat) (h:i<kids.length),PhAt w P (rows i) kids[i]) (i:Nat) (hi:i<kids.length) :
 ∃(k:Nat) (x:ByteArray) (A:Option Addr) (m c:Nat) (b:Bool) (t:ByteArray),PhAt w P (NX k x A m c b t) kids[i]/\w.cell? ⟨g,i*5,none⟩=some (.int .i64 k)/\w.cell? ⟨g,i*5+1,none⟩=some (.string x)/\w.cell? ⟨g,i*5+2,none⟩=some (.slice A m c)/\w.cell? ⟨g,i*5+3,none⟩=some (.bool b)/\w.cell? ⟨g,i*5+4,none⟩=some (.string t):=by
 subst hn
 have hk:=hkid i hi
 have hall:∀j,j<5->w.cell? ⟨g,i*5+j,none⟩=(rows i)[j]?:=λj hj=>by rw[AV hrow g c rfl _ Om,ZM (λi hi=>(hkid i hi).length) i j hi hj]
 have h0:=hall 0 Om
 have h1:=hall 1 Om
 have h2:=hall 2 Om
 have h3:=hall 3 Om
 have h4:=hall 4 Om
 clear hall
 generalize rows i=r at *
 generalize kids[i]=q at *
 cases hk with
 |mk k x A m c kids' ty rows' hn' hrow' hP' hA' hkid'=>exact⟨k,x,A,m,c,_,_,.mk k x A m c kids' ty rows' hn' hrow' hP' hA' hkid',h0,h1,h2,h3,h4⟩
def BV(c:Int):Bool:=decide (c=121)||decide (c=98)||decide (c=110)||decide (c=113)||decide (c=105)||decide (c=117)||decide (c=120)||decide (c=116)||decide (c=100)||decide (c=115)||decide (c=111)||decide (c=103)||decide (c=104)
theorem EN(c:Int)(w:World):Calls Tryz.prog 138 #[.int .u8 c] w λe w'=>e=.returned (.bool (BV c))/\w=w':=by
 generalize hR:BV c=R;have HR:=Hd hR;clear hR;by_cases h121:c=121
 .have t121:(c==121)=true:=by simp[h121]
  obtain rfl:R=true:=by rw[<-HR.out];unfold BV;simp[h121]
  clear HR h121;go_enter Tryz.func138,Tryz.ntmps138;go_wp2_with fail;go_ret;exact⟨rfl,rfl⟩
 have t121:(c==121)=false:=by simp[h121]
 by_cases h98:c=98
 .have t98:(c==98)=true:=by simp[h98]
  obtain rfl:R=true:=by rw[<-HR.out];unfold BV;simp[h98]
  clear HR h98 h121;go_enter Tryz.func138,Tryz.ntmps138;go_wp2_with fail;go_ret;exact⟨rfl,rfl⟩
 have t98:(c==98)=false:=by simp[h98]
 by_cases h110:c=110
 .have t110:(c==110)=true:=by simp[h110]
  obtain rfl:R=true:=by rw[<-HR.out];unfold BV;simp[h110]
  clear HR h110 h121 h98;go_enter Tryz.func138,Tryz.ntmps138;go_wp2_with fail;go_ret;exact⟨rfl,rfl⟩
 have t110:(c==110)=false:=by simp[h110]
 by_cases h113:c=113
 .have t113:(c==113)=true:=by simp[h113]
  obtain rfl:R=true:=by rw[<-HR.out];unfold BV;simp[h113]
  clear HR h113 h121 h98 h110;go_enter Tryz.func138,Tryz.ntmps138;go_wp2_with fail;go_ret;exact⟨rfl,rfl⟩
 have t113:(c==113)=false:=by simp[h113]
 by_cases h105:c=105
 .have t105:(c==105)=true:=by simp[h105]
  obtain rfl:R=true:=by rw[<-HR.out];unfold BV;simp[h105]
  clear HR h105 h121 h98 h110 h113;go_enter Tryz.func138,Tryz.ntmps138;go_wp2_with fail;go_ret;exact⟨rfl,rfl⟩
 have t105:(c==105)=false:=by simp[h105]
 by_cases h117:c=117
 .have t117:(c==117)=true:=by simp[h117]
  obtain rfl:R=true:=by rw[<-HR.out];unfold BV;simp[h117]
  clear HR h117 h121 h98 h110 h113 h105;go_enter Tryz.func138,Tryz.ntmps138;go_wp2_with fail;go_ret;exact⟨rfl,rfl⟩
 have t117:(c==117)=false:=by simp[h117]
 by_cases h120:c=120
 .have t120:(c==120)=true:=by simp[h120]
  obtain rfl:R=true:=by rw[<-HR.out];unfold BV;simp[h120]
  clear HR h120 h121 h98 h110 h113 h105 h117;go_enter Tryz.func138,Tryz.ntmps138;go_wp2_with fail;go_ret;exact⟨rfl,rfl⟩
 have t120:(c==120)=false:=by simp[h120]
 by_cases h116:c=116
 .have t116:(c==116)=true:=by simp[h116]
  obtain rfl:R=true:=by rw[<-HR.out];unfold BV;simp[h116]
  clear HR h116 h121 h98 h110 h113 h105 h117 h120;go_enter Tryz.func138,Tryz.ntmps138;go_wp2_with fail;go_ret;exact⟨rfl,rfl⟩
 have t116:(c==116)=false:=by simp[h116]
 by_cases h100:c=100
 .have t100:(c==100)=true:=by simp[h100]
  obtain rfl:R=true:=by rw[<-HR.out];unfold BV;simp[h100]
  clear HR h100 h121 h98 h110 h113 h105 h117 h120 h116;go_enter Tryz.func138,Tryz.ntmps138;go_wp2_with fail;go_ret;exact⟨rfl,rfl⟩
 have t100:(c==100)=false:=by simp[h100]
 by_cases h115:c=115
 .have t115:(c==115)=true:=by simp[h115]
  obtain rfl:R=true:=by rw[<-HR.out];unfold BV;simp[h115]
  clear HR h115 h121 h98 h110 h113 h105 h117 h120 h116 h100;go_enter Tryz.func138,Tryz.ntmps138;go_wp2_with fail;go_ret;exact⟨rfl,rfl⟩
 have t115:(c==115)=false:=by simp[h115]
 by_cases h111:c=111
 .have t111:(c==111)=true:=by simp[h111]
  obtain rfl:R=true:=by rw[<-HR.out];unfold BV;simp[h111]
  clear HR h111 h121 h98 h110 h113 h105 h117 h120 h116 h100 h115;go_enter Tryz.func138,Tryz.ntmps138;go_wp2_with fail;go_ret;exact⟨rfl,rfl⟩
 have t111:(c==111)=false:=by simp[h111]
 by_cases h103:c=103
 .have t103:(c==103)=true:=by simp[h103]
  obtain rfl:R=true:=by rw[<-HR.out];unfold BV;simp[h103]
  clear HR h103 h121 h98 h110 h113 h105 h117 h120 h116 h100 h115 h111;go_enter Tryz.func138,Tryz.ntmps138;go_wp2_with fail;go_ret;exact⟨rfl,rfl⟩
 have t103:(c==103)=false:=by simp[h103]
 by_cases h104:c=104
 .have t104:(c==104)=true:=by simp[h104]
  obtain rfl:R=true:=by rw[<-HR.out];unfold BV;simp[h104]
  clear HR h104 h121 h98 h110 h113 h105 h117 h120 h116 h100 h115 h111 h103;go_enter Tryz.func138,Tryz.ntmps138;go_wp2_with fail;go_ret;exact⟨rfl,rfl⟩
 have t104:(c==104)=false:=by simp[h104]
 obtain rfl:R=false:=by rw[<-HR.out];unfold BV;simp[h121,h98,h110,h113,h105,h117,h120,h116,h100,h115,h111,h103,h104]
 clear HR h121 h98 h110 h113 h105 h117 h120 h116 h100 h115 h111 h103 h104;go_enter Tryz.func138,Tryz.ntmps138;go_wp2_with fail;go_ret;exact⟨rfl,rfl⟩
theorem BC(s:ByteArray)(k i:Nat):AA (s.extract k s.size) i=AA s (k+i):=by
 have h:(s.extract k s.size).data.toList=s.data.toList.drop k:=by simp[ByteArray.data_extract,List.extract_eq_take_drop];rw[List.take_of_length_le Sm]
 unfold AA;rw[h,List.getD_eq_getElem?_getD,List.getD_eq_getElem?_getD,List.getElem?_drop]
theorem AU(s:ByteArray)(a:Nat)(h:a<=s.size):(s.extract a s.size).size=s.size-a:=by simp[ByteArray.size_extract]
def BI(s:ByteArray)(a e:Int):Nat:=
 if s.size=0\/a<0\/e<0 then 0
 else if BV (AA s 0)||decide (AA s 0=118) then 1
 else if AA s 0=97 then
  if h:1<s.size/\AA s 1=123 then
   if s.size<4\/BV (AA s 2)=false then 0
   else
    let n:=BI (s.extract 3 s.size) (a-1) (e-1)
    if n=0\/s.size<n+4\/AA s (n+3)≠125 then 0 else n+4
  else
   let n:=BI (s.extract 1 s.size) (a-1) e
   if 0<n then n+1 else 0
 else 0
 termination_by s.size
 decreasing_by
 all_goals (simp only[ByteArray.size_extract];omega)
def EU(s:ByteArray):Prop:=∀i,i<s.size->AA s i≠40
theorem LY{s:ByteArray}(h:EU s)(a:Nat)(ha:a<=s.size):EU (s.extract a s.size):=by intro i hi;rw[AU s a ha]at hi;rw[BC];exact h _ Om
def AM4(s:ByteArray)(a b e:Int)(w:World)(en:Ending)(w':World):Prop:=
 ∃n:Nat,en=.returned (.int .i64 n)/\n<=s.size/\(EU s/\0<=b->n=BI s a e)/\w=w'
theorem N7{s:ByteArray}(h:0<s.size):s.toList.isEmpty=false/\¬s.toList=[]/\¬s=ByteArray.empty:=by
 have h1:s.toList.isEmpty=false:=by rw[<-decide_eq_emptyBytes];exact decide_eq_false (λe=>by rw[e]at h;exact absurd h De)
 exact⟨h1,λe=>by rw[e]at h1;simp at h1,by rintro rfl;simp at h⟩
theorem DA{s:ByteArray}{a e:Int}(h:s.size=0\/a<0\/e<0):BI s a e=0:=by unfold BI;rw[if_pos h]
theorem IR{s:ByteArray}{a e:Int}(h:¬(s.size=0\/a<0\/e<0))(h1:(BV (AA s 0)||decide (AA s 0=118))=true):BI s a e=1:=by unfold BI;rw[if_neg h,if_pos h1]
theorem G6{s:ByteArray}{a e:Int}(h:¬(s.size=0\/a<0\/e<0))(h0:AA s 0=97)(h1:1<s.size/\AA s 1=123):BI s a e=if s.size<4\/BV (AA s 2)=false then 0 else(if BI (s.extract 3 s.size) (a-1) (e-1)=0\/s.size<BI (s.extract 3 s.size) (a-1) (e-1)+4\/AA s (BI (s.extract 3 s.size) (a-1) (e-1)+3)≠125 then 0 else BI (s.extract 3 s.size) (a-1) (e-1)+4):=by
 conv=>lhs;unfold BI
 rw[if_neg h,if_neg (by rw[h0];decide),if_pos h0,dif_pos h1]
theorem KO{s:ByteArray}{a e:Int}(h:¬(s.size=0\/a<0\/e<0))(h0:AA s 0=97)(h1:¬(1<s.size/\AA s 1=123)):BI s a e=if 0<BI (s.extract 1 s.size) (a-1) e then BI (s.extract 1 s.size) (a-1) e+1 else 0:=by
 conv=>lhs;unfold BI
 rw[if_neg h,if_neg (by rw[h0];decide),if_pos h0,dif_neg h1]
theorem LU{s:ByteArray}{a e:Int}(h:¬(s.size=0\/a<0\/e<0))(h1:(BV (AA s 0)||decide (AA s 0=118))=false)(h2:AA s 0≠97):BI s a e=0:=by unfold BI;rw[if_neg h,if_neg (by rw[h1];simp),if_neg h2]
theorem V3:∀(N:Nat) (s:ByteArray),s.size<=N->s.size<=100000->∀(a b e:Int),-1<=a->a<=32->-1<=b->b<=32->-1<=e->e<=32->∀(w:World),
 Calls Tryz.prog 114 #[.string s,.int .i64 a,.int .i64 b,.int .i64 e] w (AM4 s a b e w):=by
 intro N
 induction N with
 |zero=>
  intro s hN hs a b e ha0 ha1 hb0 hb1 he0 he1 w
  obtain rfl:s=ByteArray.empty:=by simpa using hN
  go_enter Tryz.func114,Tryz.ntmps114
  go_wp2_with fail
  go_ret
  exact⟨0,rfl,Om,λ_=>(DA Sm).symm,rfl⟩
 |succ N ih=>
  intro s hN hs a b e ha0 ha1 hb0 hb1 he0 he1 w
  by_cases hz:s.size=0
  .obtain rfl:s=ByteArray.empty:=by simpa using hz
   go_enter Tryz.func114,Tryz.ntmps114;go_wp2_with fail;go_ret;exact⟨0,rfl,Om,λ_=>(DA Sm).symm,rfl⟩
  have hp:0<s.size:=Om
  obtain⟨n1,n2,n3⟩:=N7 hp
  by_cases ha:a<0
  .have HC:=Hd (DA (s:=s) (e:=e) (.inr (.inl ha)))
   clear ih;go_enter Tryz.func114,Tryz.ntmps114;go_wp2_with (fail);go_ret;exact⟨0,rfl,Om,λ_=>HC.out.symm,rfl⟩
  by_cases hb:b<0
  .clear ih
   go_enter Tryz.func114,Tryz.ntmps114;go_wp2_with (fail);go_ret;exact⟨0,rfl,Om,λhq=>absurd hq.2 Om,rfl⟩
  by_cases he:e<0
  .have HC:=Hd (DA (s:=s) (a:=a) (.inr (.inr he)))
   clear ih;go_enter Tryz.func114,Tryz.ntmps114;go_wp2_with (fail);go_ret;exact⟨0,rfl,Om,λ_=>HC.out.symm,rfl⟩
  have HZ:=Hd (show ¬(s.size=0\/a<0\/e<0) by omega)
  clear hz
  have e0:=AJ hp
  have hpi:(0:Int)<(s.size:Int):=Om
  have hB0:=@Hd
  clear hB0
  cases hb0:BV (AA s 0) with
  |true=>
   have HC:=Hd (IR HZ.out (by rw[hb0];rfl))
   have HB0:=Hd hb0
   clear hb0 ih
   generalize AA s 0=c at *
   go_enter Tryz.func114,Tryz.ntmps114
   go_wp2_with (go_at_call 138;refine(EN _ _).mono ?_;rintro e' w' ⟨rfl,rfl⟩;first|rw[HB0.out]|rw[HB2.out])
   go_ret
   exact⟨1,rfl,Om,λ_=>HC.out.symm,rfl⟩
  |false=>
   by_cases h118:AA s 0=118
   .have HC:=Hd (IR HZ.out (by rw[h118];rfl))
    have HB0:=Hd hb0;have t1:(AA s 0==118)=true:=by simp[h118]
    clear hb0 h118 ih;generalize AA s 0=c at *;go_enter Tryz.func114,Tryz.ntmps114;go_wp2_with (go_at_call 138;refine(EN _ _).mono ?_;rintro e' w' ⟨rfl,rfl⟩;first|rw[HB0.out]|rw[HB2.out]);go_ret;exact⟨1,rfl,Om,λ_=>HC.out.symm,rfl⟩
   have t1:(AA s 0==118)=false:=by simp[h118]
   by_cases h97:AA s 0=97
   .have t2:(AA s 0==97)=true:=by simp[h97]
    by_cases h1:1<s.size/\AA s 1=123
    .have hcd:=G6 HZ.out h97 h1
     obtain⟨h1s,h123⟩:=h1;have h1i:(1:Int)<(s.size:Int):=Om;have e1:=AJ h1s;have t3:(AA s 1==123)=true:=by simp[h123]
     by_cases h4:s.size<4
     .have HC:=Hd (hcd.trans (if_pos (.inl h4)))
      have HB0:=Hd hb0;have h4i:(s.size:Int)<4:=Om;clear hcd hb0 h118 h97 h123 ih;generalize AA s 0=c at *;generalize AA s 1=c1 at *;go_enter Tryz.func114,Tryz.ntmps114;go_wp2_with (go_at_call 138;refine(EN _ _).mono ?_;rintro e' w' ⟨rfl,rfl⟩;first|rw[HB0.out]|rw[HB2.out]);go_ret;exact⟨0,rfl,Om,λ_=>HC.out.symm,rfl⟩
     have h4i:¬(s.size:Int)<4:=Om;have h2s:2<s.size:=Om;have h2i:(2:Int)<(s.size:Int):=Om;have e2:=AJ h2s
     cases hb2:BV (AA s 2) with
     |false=>have HC:=Hd (hcd.trans (if_pos (.inr hb2)));have HB0:=Hd hb0;have HB2:=Hd hb2;clear hcd hb0 hb2 h118 h97 h123 ih h4;generalize AA s 0=c at *;generalize AA s 1=c1 at *;generalize AA s 2=c2 at *;go_enter Tryz.func114,Tryz.ntmps114;go_wp2_with (go_at_call 138;refine(EN _ _).mono ?_;rintro e' w' ⟨rfl,rfl⟩;first|rw[HB0.out]|rw[HB2.out]);go_ret;exact⟨0,rfl,Om,λ_=>HC.out.symm,rfl⟩
     |true=>
      have HC:=Hd (hcd.trans (if_neg (by rw[hb2];simp;omega)));have HB0:=Hd hb0;have HB2:=Hd hb2;have HNP:=Hd (λh:EU s=>LY h 3 Om);have hx3:(s.extract 3 s.size).size=s.size-3:=by simp
      have HX:=Hd hx3;have HP:=Hd (λ(n:Nat) (h:n+3<s.size)=>AJ h);clear hcd hb0 hb2 h118 h97 h123 h4 hx3;generalize AA s 0=c at *;generalize AA s 1=c1 at *;generalize AA s 2=c2 at *;go_enter Tryz.func114,Tryz.ntmps114;go_upto_region 9 with(first|(go_at_call 138;refine(EN _ _).mono ?_;rintro e' w' ⟨rfl,rfl⟩;first|rw[HB0.out]|rw[HB2.out])|(go_at_call 114;refine(ih _ (by simp only[ByteArray.size_extract];omega) (by simp only[ByteArray.size_extract];omega) _ _ _ Om Om Om Om Om Om _).mono ?_;rintro e' w' ⟨n,rfl,hn,hq,rfl⟩;clear ih));have hn3:n<=s.size-3:=by rw[<-HX.out];exact hn
      have HQ:=Hd hq;clear hq hn;by_cases hn0:n=0
      .subst hn0
       go_wp2_with fail;go_ret;exact⟨0,rfl,Om,λh=>by rw[HC.out,<-HQ.out ⟨HNP.out h.1,Om⟩];simp,rfl⟩
      have q1:((n:Int)==0)=false:=Bq;by_cases hn4:s.size<n+4
      .have q2:(s.size:Int)<(n:Int)+4:=Om
       go_wp2_with fail;go_ret;exact⟨0,rfl,Om,λh=>by rw[HC.out,<-HQ.out ⟨HNP.out h.1,Om⟩,if_pos (.inr (.inl hn4))],rfl⟩
      have q2:¬(s.size:Int)<(n:Int)+4:=Om;have hn5:n+3<s.size:=Om;have hn5i:(n:Int)+3<(s.size:Int):=Om;have e3:=HP.out n hn5;by_cases h125:AA s (n+3)=125
      .have q3:(AA s (n+3)!=125)=false:=by simp[h125]
       have H125:=Hd h125;clear h125;generalize hc3:AA s (n+3)=c3 at *;have HC3:=Hd hc3;clear hc3;go_wp2_with fail;go_ret;exact⟨n+4,rfl,Om,λh=>by rw[HC.out,<-HQ.out ⟨HNP.out h.1,Om⟩,if_neg (by rw[HC3.out,H125.out];simp;omega)],rfl⟩
      have q3:(AA s (n+3)!=125)=true:=by simp[h125]
      have H125:=Hd h125;clear h125;generalize hc3:AA s (n+3)=c3 at *;have HC3:=Hd hc3;clear hc3;go_wp2_with fail;go_ret;exact⟨0,rfl,Om,λh=>by rw[HC.out,<-HQ.out ⟨HNP.out h.1,Om⟩,if_pos (.inr (.inr (by rw[HC3.out];exact H125.out)))],rfl⟩
    have hca:=KO HZ.out h97 h1;by_cases h1s:1<s.size
    .have h123:¬AA s 1=123:=λx=>h1 ⟨h1s,x⟩
     clear h1;have h1i:(1:Int)<(s.size:Int):=Om;have e1:=AJ h1s;have t3:(AA s 1==123)=false:=by simp[h123]
     have HC:=Hd hca;have HB0:=Hd hb0;have HNP:=Hd (λh:EU s=>LY h 1 Om);have hx3:(s.extract 1 s.size).size=s.size-1:=by simp
     have HX:=Hd hx3;clear hca hb0 h118 h97 hx3 h123;generalize AA s 0=c at *;generalize AA s 1=c1 at *;go_enter Tryz.func114,Tryz.ntmps114;go_upto_region 14 with(first|(go_at_call 138;refine(EN _ _).mono ?_;rintro e' w' ⟨rfl,rfl⟩;first|rw[HB0.out]|rw[HB2.out])|(go_at_call 114;refine(ih _ (by simp only[ByteArray.size_extract];omega) (by simp only[ByteArray.size_extract];omega) _ _ _ Om Om Om Om Om Om _).mono ?_;rintro e' w' ⟨n,rfl,hn,hq,rfl⟩;clear ih));have hn3:n<=s.size-1:=by rw[<-HX.out];exact hn
     have HQ:=Hd hq;clear hq hn;by_cases hn0:n=0
     .subst hn0
      go_wp2_with fail;go_ret;exact⟨0,rfl,Om,λh=>by rw[HC.out,<-HQ.out ⟨HNP.out h.1,Om⟩];simp,rfl⟩
     have q1:(0:Int)<(n:Int):=Om;go_wp2_with fail;go_ret;exact⟨n+1,rfl,Om,λh=>by rw[HC.out,<-HQ.out ⟨HNP.out h.1,Om⟩,if_pos Om],rfl⟩
    clear h1;have h1i:¬(1:Int)<(s.size:Int):=Om;have HC:=Hd hca;have HB0:=Hd hb0;have HNP:=Hd (λh:EU s=>LY h 1 Om);have hx3:(s.extract 1 s.size).size=s.size-1:=by simp
    have HX:=Hd hx3;clear hca hb0 h118 h97 hx3;generalize AA s 0=c at *;go_enter Tryz.func114,Tryz.ntmps114;go_upto_region 14 with(first|(go_at_call 138;refine(EN _ _).mono ?_;rintro e' w' ⟨rfl,rfl⟩;first|rw[HB0.out]|rw[HB2.out])|(go_at_call 114;refine(ih _ (by simp only[ByteArray.size_extract];omega) (by simp only[ByteArray.size_extract];omega) _ _ _ Om Om Om Om Om Om _).mono ?_;rintro e' w' ⟨n,rfl,hn,hq,rfl⟩;clear ih));have hn3:n<=s.size-1:=by rw[<-HX.out];exact hn
    have HQ:=Hd hq;clear hq hn;by_cases hn0:n=0
    .subst hn0
     go_wp2_with fail;go_ret;exact⟨0,rfl,Om,λh=>by rw[HC.out,<-HQ.out ⟨HNP.out h.1,Om⟩];simp,rfl⟩
    exfalso;omega
   have t2:(AA s 0==97)=false:=by simp[h97]
   by_cases h40:AA s 0=40
   .have t3:(AA s 0==40)=true:=by simp[h40]
    have HB0:=Hd hb0;have HNP:=Hd (show ¬EU s from λh=>h 0 hp h40);clear hb0 h118 h97 h40;have HS:=Hd (λ(k:Nat) (h:k<s.size)=>AJ h);generalize AA s 0=c at *;have HR:=Hd ih;clear ih;go_enter Tryz.func114,Tryz.ntmps114;go_upto_block 1 with(go_at_call 138;refine(EN _ _).mono ?_;rintro e' w' ⟨rfl,rfl⟩;first|rw[HB0.out]|rw[HB2.out]);go_cut [11] from 104 to 126 (λv wx=>∃k:Nat,k<=s.size/\v=.int .i64 k/\wx=w)
    case first=>
     go_wp2_with fail;go_loop [11] (λv=>∃k:Nat,1<=k/\k<=s.size/\v=.int .i64 k) (λv=>s.size-(intOf v).toNat)
     case atStart=>exact⟨1,Om,Om,rfl⟩
     obtain⟨k,hk1,hk,rfl⟩:=hrel;by_cases hlt:(k:Int)<(s.size:Int)
     .have hks:k<s.size:=Om
      have ek:=HS.out k hks;by_cases h41:AA s k=41
      .have q1:(AA s k !=41)=false:=by simp[h41]
       clear h41;generalize AA s k=d at *;go_wp2_with fail;go_meet;exact⟨k,hk,rfl,rfl⟩
      have q1:(AA s k !=41)=true:=by simp[h41]
      clear h41;generalize AA s k=d at *;have hx:(s.extract k s.size).size=s.size-k:=by simp
      have HX:=Hd hx;clear hx;go_upto_region 20 with(go_at_call 114;refine(HR.out _ (by simp only[ByteArray.size_extract];omega) (by simp only[ByteArray.size_extract];omega) _ _ _ Om Om Om Om Om Om _).mono ?_;rintro e' w' ⟨n,rfl,hn,_,rfl⟩);have hn3:n<=s.size-k:=by rw[<-HX.out];exact hn
      clear hn;by_cases hn0:n=0
      .subst hn0
       go_wp2_with fail;go_ret;exact⟨0,rfl,Om,λh=>absurd h.1 HNP.out,rfl⟩
      have q2:((n:Int)==0)=false:=Bq;go_wp2_with fail;go_round
      case rel=>exact⟨k+n,Om,Om,by go_num⟩
      simp[intOf];omega
     go_wp2_with fail;go_meet;exact⟨k,hk,rfl,rfl⟩
    obtain⟨k,hk,rfl,rfl⟩:=hcut;by_cases hk1:(1:Int)<(k:Int)
    .by_cases hk2:(k:Int)<(s.size:Int)
     .go_wp2_with fail
      go_ret;exact⟨k+1,rfl,Om,λh=>absurd h.1 HNP.out,rfl⟩
     go_wp2_with fail;go_ret;exact⟨0,rfl,Om,λh=>absurd h.1 HNP.out,rfl⟩
    go_wp2_with fail;go_ret;exact⟨0,rfl,Om,λh=>absurd h.1 HNP.out,rfl⟩
   have t3:(AA s 0==40)=false:=by simp[h40]
   have HC:=Hd (LU (a:=a) (e:=e) HZ.out (by rw[hb0];simp[h118]) h97)
   have HB0:=Hd hb0
   clear hb0 h118 h97 h40 ih
   generalize AA s 0=c at *
   go_enter Tryz.func114,Tryz.ntmps114
   go_wp2_with (go_at_call 138;refine(EN _ _).mono ?_;rintro e' w' ⟨rfl,rfl⟩;first|rw[HB0.out]|rw[HB2.out])
   go_ret
   exact⟨0,rfl,Om,λ_=>HC.out.symm,rfl⟩
mutual
def MY:Ph->Bool
 |.mk k _ kids _=>((decide (k=5)||decide (k=7))&&kids.isEmpty)||J4 kids
def J4:List Ph->Bool
 |[]=>false
 |p::l=>MY p||J4 l
end
theorem ZF(l:List Ph)(i:Nat)(h:i<l.length):J4 (l.drop i)=(MY l[i]||J4 (l.drop (i+1))):=by rw[List.drop_eq_getElem_cons h];simp[J4]
theorem J9:∀(N:Nat) (p:Ph),p.sz<=N->∀(w:World) (k:Nat) (x:ByteArray) (A:Option Addr) (n c:Nat) (b:Bool) (t:ByteArray),PhAt w (λ_=>True) (NX k x A n c b t) p->
 Calls Tryz.prog 24 #[.agg #[.int .i64 k,.string x,.slice A n c,.bool b,.string t]] w λe w'=>e=.returned (.bool (MY p))/\Below w.heap.size w w':=by
 intro N
 induction N with
 |zero=>intro p hp;have:=p.sz_pos;omega
 |succ N ih=>
  intro p hp w k x A n c b t hat
  cases hat with
  |mk k x A n c kids ty rows hn hrow hP hA hkid=>
  generalize ty.isSome=b
  generalize ZV ty=t
  generalize hR:MY (.mk k x kids ty)=R
  have hR2:R=(((decide (k=5)||decide (k=7))&&kids.isEmpty)||J4 kids):=by rw[<-hR];simp[MY]
  clear hR
  have hsz:K8 kids<=N:=by simp[Ph.sz]at hp;omega
  clear hp
  have hb5:((k:Int)==5)=decide (k=5):=by rw[Bool.eq_iff_iff];simp;omega
  have hb7:((k:Int)==7)=decide (k=7):=by rw[Bool.eq_iff_iff];simp;omega
  generalize decide (k=5)=q5 at *
  generalize decide (k=7)=q7 at *
  have he:kids.isEmpty=((n:Int)==0):=by rw[hn,Bool.eq_iff_iff];cases kids<;>simp<;>omega
  rw[he]at hR2
  have HR:=Hd hR2
  clear hR2 he
  by_cases hq:((q5||q7)&&((n:Int)==0))=true
  .obtain rfl:R=true:=by rw[HR.out,hq];rfl
   clear HR ih hA hrow hP hkid hsz;simp only[Bool.and_eq_true]at hq;obtain⟨hq1,hq2⟩:=hq
   cases q5
   .cases q7
    .simp at hq1
    go_enter Tryz.func24,Tryz.ntmps24;go_wp2_with fail;go_ret;exact⟨rfl,Bl.alloc Nl _⟩
   go_enter Tryz.func24,Tryz.ntmps24;go_wp2_with fail;go_ret;exact⟨rfl,Bl.alloc Nl _⟩
  have HR2:=Hd (show R=J4 (kids.drop 0) by rw[HR.out,Bool.eq_false_iff.2 hq];simp)
  have HQ:=Hd (Bool.eq_false_iff.2 hq)
  clear HR hq
  have hn63:=SU hrow
  have HA:=Hd hA
  have HN:=Hd hn
  have HS:=Hd hsz
  have HIH:=Hd ih
  have HRow:=Hd hrow
  have HK:=Hd hkid
  clear hA hn hsz ih hrow hkid
  go_enter Tryz.func24,Tryz.ntmps24
  go_upto_region 1 with fail
  go_cut [18] from 5 to 17 (λv wx=>v=.bool false/\wx=w.alloc (.cells #[.int .i64 k,.string x,.slice A n c,.bool b,.string t] 37))
  case first=>
   have hq:=HQ.out;clear HQ HR2
   cases q5
   .cases q7
    .clear hq
     go_wp2_with fail;go_meet;exact⟨rfl,rfl⟩
    have h0:((n:Int)==0)=false:=hq;clear hq;go_wp2_with fail;go_meet;exact⟨rfl,rfl⟩
   have h0:((n:Int)==0)=false:=hq;clear hq;go_wp2_with fail;go_meet;exact⟨rfl,rfl⟩
  obtain⟨rfl,rfl⟩:=hcut
  clear HQ hb5 hb7
  go_wp2_with fail
  go_loopw [22] (λi wr=>∃m:Nat,m<=n/\i=.int .i64 m/\Hid (R=J4 (kids.drop m))/\Below w.heap.size w wr) (λi _=>n-(intOf i).toNat)
  case atStart=>exact⟨0,Nat.zero_le _,rfl,HR2,Bl.alloc Nl _⟩
  obtain⟨m,hm,rfl,HM,hbel⟩:=hrel
  by_cases hlt:(m:Int)<(n:Int)
  .have hmn:m<kids.length:=by have:=HN.out;omega
   have hsz1:=CW kids m hmn;obtain⟨g,hg,hgl⟩:=HA.out Om;subst hg;have hrow1:=AD HRow.out hbel;obtain⟨k1,x1,A1,n1,cc1,b1,t1,hat1,c0,c1,c2,c3,c4⟩:=PhAt.kid HN.out hrow1 (λi h=>(HK.out i h).keep hbel) m hmn;have hd:=ZF kids m hmn;have HC:=Hd (λ(W:World) (hW:Below wr.heap.size wr W)=>HIH.out kids[m] (by have:=HS.out;omega) W k1 x1 A1 n1 cc1 b1 t1 (hat1.keep hW));clear hrow1 hat1 hsz1 HRow HK HIH HS;generalize MY kids[m]=y at *;rw[hd]at HM;clear hd
   cases y with
   |true=>obtain rfl:R=true:=HM.out;clear HM HR2;go_wp2_with (go_at_call 24;refine(HC.out _ (Bl.alloc Nl _)).mono ?_;rintro e w' ⟨rfl,hbw⟩);go_ret;exact⟨rfl,(hbel.alloc hbel.size _).trans (hbw.mono (by have:=hbel.size;simp;omega))⟩
   |false=>
    have HM2:=Hd (show R=J4 (kids.drop (m+1)) from HM.out);clear HM HR2;go_wp2_with (go_at_call 24;refine(HC.out _ (Bl.alloc Nl _)).mono ?_;rintro e w' ⟨rfl,hbw⟩);go_roundw
    case rel=>exact⟨m+1,Om,by go_num,HM2,(hbel.alloc hbel.size _).trans (hbw.mono (by have:=hbel.size;simp;omega))⟩
    simp[intOf];omega
  obtain rfl:R=false:=by have:=HM.out;rw[List.drop_eq_nil_of_le (by have:=HN.out;omega)]at this;exact this
  clear HM HR2 HK HRow HIH HA
  go_wp2_with fail
  go_ret
  exact⟨rfl,hbel⟩
theorem VT(s:ByteArray)(hs:s.size<=100000)(w:World):Calls Tryz.prog 94 #[.string s] w (AM4 s 32 32 32 w):=by go_enter Tryz.func94,Tryz.ntmps94;go_wp2_with (go_at_call 114;refine(V3 s.size s Nl hs 32 32 32 Om Om Om Om Om Om _).mono ?_;rintro e' w' ⟨n,rfl,hn,hq,rfl⟩);go_ret;exact⟨n,rfl,hn,hq,rfl⟩
def FY(s:ByteArray):Option Nat:=
 if s.size=0 then some 0
 else if h:BI s 32 32=0\/s.size<BI s 32 32 then none
 else(FY (s.extract (BI s 32 32) s.size)).map (·+1)
 termination_by s.size
 decreasing_by simp only[ByteArray.size_extract];omega
def K3(s:ByteArray):Option Nat:=if 255<s.size then none else FY s
def N5(s:ByteArray):Bool:=(K3 s).isSome
def GQ(s:ByteArray):Bool:=decide (K3 s=some 1)
theorem P7{s:ByteArray}(h:s.size=0):FY s=some 0:=by unfold FY;rw[if_pos h]
theorem JD{s:ByteArray}(h:s.size≠0)(h1:BI s 32 32=0):FY s=none:=by unfold FY;rw[if_neg h,dif_pos (.inl h1)]
theorem JC{s:ByteArray}(h:s.size≠0)(h1:BI s 32 32≠0)(h2:BI s 32 32<=s.size):FY s=(FY (s.extract (BI s 32 32) s.size)).map (·+1):=by
 conv=>lhs;unfold FY
 rw[if_neg h,dif_neg Om]
def AOe(s:ByteArray)(w:World)(en:Ending)(w':World):Prop:=
 ∃(A:Option Addr) (n c:Nat) (ok:Bool),en=.returned (.tuple #[.slice A n c,.bool ok])/\n<=255/\(EU s->K3 s=if ok then some n else none)/\Below w.heap.size w w'
theorem Tryz.info9:(Tryz.prog.info? 9).map (λi=>(i.zero,i.size,i.bytes))=some (some (.string ⟨#[]⟩),1,16):=Kr
theorem S9(s:ByteArray)(hs:s.size<=100000)(w:World):Calls Tryz.prog 60 #[.string s] w (AOe s w):=by
 obtain⟨i0,hi,hz0,hz1,hz2⟩:=info_parts Tryz.info9;by_cases h255:(255:Int)<(s.size:Int)
 .have HT:=Hd (show K3 s=none by unfold K3;rw[if_pos Om])
  go_enter Tryz.func60,Tryz.ntmps60;go_wp2_with fail;go_ret2;exact⟨none,0,0,false,rfl,Om,λ_=>HT.out,Bl⟩
 have HT:=Hd (show K3 s=FY s by unfold K3;rw[if_neg Om]);go_enter Tryz.func60,Tryz.ntmps60;go_wp2_with fail;go_loopw [0,4,5] (λv0 v4 v5 wr=>∃(r:ByteArray) (A:Option Addr) (n c:Nat) (xs:List Value),r.size+n<=s.size/\v0=.string r/\v4=.slice A n c/\wr.ownsRow w.heap.size 9 1 (.slice A n c) n xs/\Below w.heap.size w wr/\Hid (EU s->EU r/\K3 s=(FY r).map (·+n))) (λv0 _ _ _=>match v0 with | .string r=>r.size|_=>0)
 case atStart=>exact⟨s,none,0,0,[],Om,rfl,rfl,⟨rfl,.inl ⟨rfl,rfl⟩⟩,Bl,λh=>⟨h,by rw[HT.out];simp⟩⟩
 obtain⟨r,A,n,c,xs,hrn,rfl,rfl,hown,hbel,HM⟩:=hrel;have hn255:n<=255:=Om;by_cases hz:r.size=0
 .obtain rfl:r=ByteArray.empty:=by simpa using hz
  go_wp2_with fail;go_ret2;exact⟨A,n,c,true,rfl,hn255,λh=>by rw[(HM.out h).2,P7 rfl];simp,hbel⟩
 have hp:0<r.size:=Om;obtain⟨n1,n2,n3⟩:=N7 hp;have hrs:r.size<=100000:=Om;have CC:=Hd (λW=>VT r hrs W);clear hz;go_upto_region 6 with(go_at_call 94;refine(CC.out _).mono ?_;rintro e' w' ⟨m,rfl,hm,hq,rfl⟩);have HQ:=Hd (show EU r->m=BI r 32 32 from λh=>hq ⟨h,Om⟩);clear hq CC;by_cases hm0:m=0
 .subst hm0
  go_wp2_with fail;go_ret2;exact⟨none,0,0,false,rfl,Om,λh=>by rw[(HM.out h).2,JD Om (HQ.out (HM.out h).1).symm];rfl,hbel⟩
 have q1:((m:Int)==0)=false:=Bq;have HM2:=Hd (show EU s->EU (r.extract m r.size)/\K3 s=(FY (r.extract m r.size)).map (·+(n+1)) from λh=>by have h1:=HM.out h;have h2:=HQ.out h1.1;refine⟨LY h1.1 m Om,?_⟩;rw[h1.2,JC Om Om Om,<-h2,Option.map_map];congr 1;funext x;simp;omega)
 have hx:(r.extract m r.size).size=r.size-m:=by simp
 have HX:=Hd hx;clear hx HM HQ;have hbs:=hbel.size;go_wp2_with (at_builtin;refine wpList_append_own _ rfl _ _ 29 rfl w.heap.size 9 i0 (.string ⟨#[]⟩) 1 16 Tryz.underlying29 hi hz0 hz1 hz2 rfl De _ _ _ rfl (AD hown (Bl.alloc Nl _)) ⟨wr.heap.size,0,none⟩ 1 1 [.string (r.extract 0 m)] rfl rfl ?c1 ?c2 ?c3 ?c4 ?c5 ?_)
 case c1=>exact cell_one_new _ _ _
 case c2=>intro u hu;obtain rfl:=(by simpa using hu);rfl
 case c3=>unfold maxLen;omega
 case c4=>omega
 case c5=>simp;omega
 intro v' w1 hown1 hgrow hnil;clear hnil;have hbel1:=(hbel.alloc hbs (.cells #[.string (r.extract 0 m)] 9)).grown hgrow (by simp;omega) (AG hown);obtain⟨A1,c1,rfl,_⟩:=AF hown1;clear hgrow hown hbel hi hz0 hz1 hz2;go_wp2_with fail;go_roundw
 case rel=>exact⟨_,A1,n+1,c1,_,by rw[HX.out];omega,rfl,rfl,hown1,hbel1,HM2.out⟩
 show (r.extract m r.size).size<r.size;rw[HX.out];omega
def ID(P:Bool->Prop)(w:World)(en:Ending)(w':World):Prop:=∃b,en=.returned (.bool b)/\P b/\Below w.heap.size w w'
theorem SO(s:ByteArray)(hs:s.size<=100000)(w:World) :
 Calls Tryz.prog 37 #[.string s] w (ID (λb=>EU s->b=N5 s) w):=by
 go_enter Tryz.func37,Tryz.ntmps37
 go_wp2_with (go_at_call 60;refine(S9 s hs _).mono ?_;rintro e' w' ⟨A,n,c,ok,rfl,hn,hq,hb⟩;have HQ:=Hd hq;clear hq)
 go_ret
 exact⟨ok,rfl,λh=>by unfold N5;rw[HQ.out h];cases ok<;>rfl,hb⟩
theorem M8(s:ByteArray)(hs:s.size<=100000)(w:World) :
 Calls Tryz.prog 36 #[.string s] w (ID (λb=>EU s->b=GQ s) w):=by
 go_enter Tryz.func36,Tryz.ntmps36
 go_upto_region 2 with(go_at_call 60;refine(S9 s hs _).mono ?_;rintro e' w' ⟨A,n,c,ok,rfl,hn,hq,hb⟩;have HQ:=Hd hq;clear hq)
 cases ok with
 |false=>
  go_wp2_with fail
  go_ret
  exact⟨false,rfl,λh=>by unfold GQ;rw[HQ.out h];simp,hb⟩
 |true=>
  by_cases h1:n=1
  .have q1:((n:Int)==1)=true:=by rw[beq_iff_eq];omega
   have H1:=Hd h1;clear h1;go_wp2_with fail;go_ret;exact⟨true,rfl,λh=>by unfold GQ;rw[HQ.out h,H1.out];simp,hb⟩
  have q1:((n:Int)==1)=false:=Bq
  have H1:=Hd h1
  clear h1
  go_wp2_with fail
  go_ret
  exact⟨false,rfl,λh=>by unfold GQ;rw[HQ.out h];simp;exact H1.out,hb⟩
