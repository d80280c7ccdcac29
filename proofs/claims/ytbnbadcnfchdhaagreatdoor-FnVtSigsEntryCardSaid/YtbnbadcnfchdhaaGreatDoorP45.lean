/- Lemmas for FnVtSigsEntry; no conditions. -/
import Derived.Test.YtbnbadcnfchdhaaGreatDoorP25
import Derived.Test.YtbnbadcnfchdhaaGreatDoorP43
import Derived.Test.YtbnbadcnfchdhaaGreatDoorP44
set_option maxRecDepth 100000
set_option maxHeartbeats 16000000
set_option linter.all false
namespace Go.Proofs.YtbnbadcnfchdhaaGreatDoor
open Go.RowKit
theorem G7(c:UInt8):(⟨#[c]⟩:ByteArray).size=1:=rfl
theorem AMp(u:ByteArray):(⟨#[]⟩:ByteArray)++u=u:=by apply B8;rw[JE];rfl
theorem AE0(c:UInt8)(u:ByteArray):((⟨#[c]⟩:ByteArray)++u).extract 1 ((⟨#[c]⟩:ByteArray)++u).size=u:=by
 rw[AJa (s:=⟨#[c]⟩) (n:=1) (by rw[G7];exact Nl)];have:(⟨#[c]⟩:ByteArray).extract 1 (⟨#[c]⟩:ByteArray).size=⟨#[]⟩:=by apply B8;rw[B6];rfl
 rw[this,AMp]
theorem RZ{c:UInt8}{k:Nat}(hk:k<8)(h:GJ (AA ⟨#[c]⟩ 0)=some k)(hb:AX (AA ⟨#[c]⟩ 0)=false)(u:ByteArray):BO (⟨#[c]⟩++u)=(BO u).map ((5+k,⟨#[c]⟩)::·):=by
 have hz:=ByteArray.size_append (a:=(⟨#[c]⟩:ByteArray)) (b:=u);rw[G7]at hz;have h0:AA (⟨#[c]⟩++u) 0=AA ⟨#[c]⟩ 0:=EE (by rw[G7];omega);have hv:TV (⟨#[c]⟩++u) 1 (5+k):=.sign k hk (by rw[h0];exact h);have ht:=AEa hv;rw[GW Om (by rw[h0];exact hb) (by rw[ht]) (by rw[ht];show 5+k≠1;omega) (by rw[ht];exact⟨Nl,by show 1<=_;omega⟩),ht];simp only;rw[AE0];have:(⟨#[c]⟩++u:ByteArray).extract 0 1=⟨#[c]⟩:=by rw[WB (by rw[G7];exact Nl)];exact JK ⟨#[c]⟩
 rw[this]
theorem WA(u:ByteArray):BO (⟨#[32]⟩++u)=BO u:=by have hz:=ByteArray.size_append (a:=(⟨#[32]⟩:ByteArray)) (b:=u);rw[G7]at hz;rw[F2 Om (by rw[EE (by rw[G7];omega)];rfl),AE0]
theorem ADs:BO ⟨#[125]⟩=some [(8,⟨#[125]⟩),(0,⟨#[]⟩)]:=by
 have:=RZ (c:=125) (k:=3) De De De ⟨#[]⟩;rw[GZ (s:=⟨#[]⟩) rfl]at this;have e:(⟨#[125]⟩++⟨#[]⟩:ByteArray)=⟨#[125]⟩:=by apply B8;rw[JE];rfl
 rw[e]at this;exact this
theorem ACk{key value:ByteArray}{tk tv:List AW}(hk:BO key=some (tk++[(0,⟨#[]⟩)]))(hv:BO value=some (tv++[(0,⟨#[]⟩)]))(h1:∀t∈tk,t.1≠0/\t.1≠1)(h2:∀t∈tv,t.1≠0/\t.1≠1)(hl:∀x l',tv≠l'++[(13,x)]) :
 BO (⟨#[123]⟩++key++⟨#[32,58,32]⟩++value++⟨#[125]⟩)=some ((7,⟨#[123]⟩)::(tk++(12,⟨#[58]⟩)::(tv++[(8,⟨#[125]⟩),(0,⟨#[]⟩)]))):=by
 have e:(⟨#[32,58,32]⟩:ByteArray)=⟨#[32]⟩++(⟨#[58]⟩++⟨#[32]⟩):=rfl
 rw[e]
 simp only[ByteArray.append_assoc]
 have s0:∀w:ByteArray,AA (⟨#[32]⟩++w) 0=32:=λw=>by rw[EE (by rw[G7];omega)];rfl
 have z0:∀w:ByteArray,0<((⟨#[32]⟩:ByteArray)++w).size:=λw=>by rw[ByteArray.size_append,G7];omega
 rw[RZ (c:=123) (k:=2) De De De,O3 (.inl (s0 _)) (z0 _) _ key Nl tk hk h1 (.inl (s0 _)),WA,RZ (c:=58) (k:=7) De De De,WA,O3 (.inr rfl) De _ value Nl tv hv h2 (.inr hl),ADs]
 rfl
theorem AIi{b:Bool}{ts rr:List AW}{p:Ph}(h:D7 b ts p rr):∃ts0,ts=ts0++rr/\∀r',D7 b (ts0++r') p r':=by
 induction h using D7.rec (motive_2:=λk ts l rr _=>∃ts0,ts=ts0++rr/\∀r',IU k (ts0++r') l r') with
 |leaf hk=>rename_i k x r;exact⟨[(k,x)],rfl,λr'=>.leaf hk⟩
 |typ hn h ih=>rename_i x sig r r' k y kids;obtain⟨ts0,h1,h2⟩:=ih;exact⟨(13,x)::ts0,by rw[h1];rfl,λr'=>.typ hn (h2 r')⟩
 |vrt h ih=>rename_i b x y r r' p;obtain⟨ts0,h1,h2⟩:=ih;refine⟨(9,x)::(ts0++[(10,y)]),by rw[h1];simp,λr'=>.vrt (y:=y) ?_⟩;have:=h2 ((10,y)::r');simpa using this
 |nil hk=>rename_i b k x y r;exact⟨[(k,x),(k+1,y)],rfl,λr'=>.nil hk⟩
 |lst hk h ih=>rename_i b k x r r' kids;obtain⟨ts0,h1,h2⟩:=ih;exact⟨(k,x)::ts0,by rw[h1];rfl,λr'=>.lst hk (h2 r')⟩
 |one5 h ih=>rename_i y r r' p;obtain⟨ts0,h1,h2⟩:=ih;refine⟨ts0++[(6,y)],by rw[h1];simp,λr'=>.one5 (y:=y) ?_⟩;have:=h2 ((6,y)::r');simpa using this
 |cons5 h h2 ih ih2=>rename_i y r r1 r' p kids;obtain⟨ts0,h1,h2⟩:=ih;obtain⟨ts1,h3,h4⟩:=ih2;refine⟨ts0++(11,y)::ts1,by rw[h1,h3];simp,λr'=>.cons5 (y:=y) (r1:=ts1++r') ?_ (h4 r')⟩;have:=h2 ((11,y)::(ts1++r'));simpa using this
 |one7 h h2 ih ih2=>rename_i y z r r1 r' p q;obtain⟨ts0,h1,h2⟩:=ih;obtain⟨ts1,h3,h4⟩:=ih2;refine⟨ts0++(12,y)::(ts1++[(8,z)]),by rw[h1,h3];simp,λr'=>.one7 (y:=y) (z:=z) (r1:=ts1++(8,z)::r') ?_ (h4 _)⟩;have:=h2 ((12,y)::(ts1++(8,z)::r'));simpa using this
 |cons7 h h2 h3 ih ih2 ih3=>rename_i y z r r1 r2 r' p q kids;obtain⟨ts0,h1,h2⟩:=ih;obtain⟨ts1,h3,h4⟩:=ih2;obtain⟨ts2,h5,h6⟩:=ih3;refine⟨ts0++(12,y)::(ts1++(11,z)::ts2),by rw[h1,h3,h5];simp,λr'=>.cons7 (y:=y) (z:=z) (r1:=ts1++(11,z)::(ts2++r')) (r2:=ts2++r') ?_ (h4 _) (h6 r')⟩;have:=h2 ((12,y)::(ts1++(11,z)::(ts2++r')));simpa using this
structure ANp(s:ByteArray)(tk:List AW)(p:Ph):Prop where
 toks:BO s=some (tk++[(0,⟨#[]⟩)])
 pt:∀t∈tk,PT t/\t.1≠0/\t.1≠1
 len:tk.length+1<=5000
 term:∀r',D7 true (tk++r') p r'
theorem AI3{s:ByteArray}{ts:List AW}(h:EJ s=some ts):EW s 0=true/\BO s=some ts:=by
 unfold EJ at h;split at h
 .cases h
 rename_i hn;refine⟨?_,h⟩
 cases hu:ABd s with
 |true=>exact hu
 |false=>exact absurd (.inl hu) hn
theorem AF1{a b r:List AW}{k:Nat}{x:ByteArray}(h:a++r=b++[(k,x)])(hk:k=0\/k=1)(ha:∀t∈a,t.1≠0/\t.1≠1)(hb:∀t∈b,t.1≠0/\t.1≠1)(hr:AZ r 0=0):a=b/\k=0:=by
 cases r with
 |nil=>exfalso;rw[List.append_nil]at h;have:=ha (k,x) (by rw[h];simp);have e:k≠0/\k≠1:=this;omega
 |cons t r=>
  have ht:t.1=0:=hr;rcases List.eq_nil_or_concat r with rfl|⟨r2,u,rfl⟩
  .obtain⟨h1,h2⟩:=List.append_inj' h rfl
   simp only[List.cons.injEq,and_true]at h2;subst h2;exact⟨h1,ht⟩
  exfalso;have h':(a++t::r2)++[u]=b++[(k,x)]:=by rw[<-h];simp
  obtain⟨h1,_⟩:=List.append_inj' h' rfl;exact(hb t (by rw[<-h1];simp)).1 ht
theorem ALy{ts0:List AW}{k:Nat}{x:ByteArray}(h:LT ts0)(hk:2<=k/\k≠13):LT ((k,x)::ts0):=by
 obtain⟨l,t,h1,h2⟩:=h.last;refine⟨λt ht=>?_,(k,x)::l,t,by rw[h1];rfl,h2⟩;rcases List.mem_cons.1 ht with rfl|ht
 .exact⟨by show k≠0;omega,by show k≠1;omega,λe=>absurd e hk.2⟩
 exact h.all t ht
theorem AL2{b:Bool}{ts rr:List AW}{p:Ph}(h:D7 b ts p rr):∃ts0,ts=ts0++rr/\LT ts0:=by
 induction h using D7.rec (motive_2:=λk ts l rr _=>∃ts0,ts=ts0++rr/\LT ts0) with
 |leaf hk=>rename_i k x r;exact⟨[(k,x)],rfl,AJb Om Om⟩
 |typ hn h ih=>
  rename_i x sig r r' k y kids;obtain⟨ts0,h1,h2⟩:=ih;obtain⟨l,t,h3,h4⟩:=h2.last;refine⟨(13,x)::ts0,by rw[h1];rfl,λt ht=>?_,(13,x)::l,t,by rw[h3];rfl,h4⟩;rcases List.mem_cons.1 ht with rfl|ht
  .exact⟨by show (13:Nat)≠0;omega,by show (13:Nat)≠1;omega,λ_=>by rw[hn]⟩
  exact h2.all t ht
 |vrt h ih=>rename_i b x y r r' p;obtain⟨ts0,h1,h2⟩:=ih;exact⟨(9,x)::(ts0++[(10,y)]),by rw[h1];simp,TY h2.all De De⟩
 |nil hk=>rename_i b k x y r;exact⟨[(k,x),(k+1,y)],rfl,TY (l:=[]) Sm Om Om⟩
 |lst hk h ih=>rename_i b k x r r' kids;obtain⟨ts0,h1,h2⟩:=ih;exact⟨(k,x)::ts0,by rw[h1];rfl,ALy h2 Om⟩
 |one5 h ih=>rename_i y r r' p;obtain⟨ts0,h1,h2⟩:=ih;exact⟨ts0++[(6,y)],by rw[h1];simp,YK h2 De⟩
 |cons5 h h2 ih ih2=>rename_i y r r1 r' p kids;obtain⟨ts0,h1,h2⟩:=ih;obtain⟨ts1,h3,h4⟩:=ih2;exact⟨ts0++(11,y)::ts1,by rw[h1,h3];simp,OI h2 De h4⟩
 |one7 h h2 ih ih2=>rename_i y z r r1 r' p q;obtain⟨ts0,h1,h2⟩:=ih;obtain⟨ts1,h3,h4⟩:=ih2;exact⟨ts0++(12,y)::(ts1++[(8,z)]),by rw[h1,h3];simp,OI h2 De (YK h4 De)⟩
 |cons7 h h2 h3 ih ih2 ih3=>rename_i y z r r1 r2 r' p q kids;obtain⟨ts0,h1,h2⟩:=ih;obtain⟨ts1,h3,h4⟩:=ih2;obtain⟨ts2,h5,h6⟩:=ih3;exact⟨ts0++(12,y)::(ts1++(11,z)::ts2),by rw[h1,h3,h5];simp,OI h2 De (OI h4 De h6)⟩
theorem AA6{T F:Nat->Nat}{s:ByteArray}(h:M9 T F s):∃tk p,ANp s tk p/\LT tk:=by obtain⟨hs,ts,p,r,typ,hts,hterm,hr,hdd,hf,hv⟩:=h;obtain⟨hu,ht⟩:=AI3 hts;obtain⟨hlen,l,k,e1,e2,e3⟩:=ZQ _ s Nl Om hu ts ht;obtain⟨ts0,h1,h2⟩:=AIi hterm;obtain⟨ts1,h3,h4⟩:=AL2 hterm;obtain rfl:ts1=ts0:=List.append_cancel_right (h3.symm.trans h1);obtain⟨rfl,rfl⟩:=AF1 (h1.symm.trans e1) e2 (λt ht=>⟨(h4.all t ht).1,(h4.all t ht).2.1⟩) (λt ht=>(e3 t ht).2) hr;refine⟨ts1,p,⟨by rw[ht,e1],e3,?_,h2⟩,h4⟩;rw[e1]at hlen;simp at hlen;omega
theorem ABb(S:ByteArray->Prop):GE S (DY ⟨#[]⟩)=S:=by
 funext t;apply propext;constructor
 .rintro (⟨_,h,_⟩|⟨_,h,_⟩)
  .exact absurd rfl h
  exact h
 intro h;exact .inr ⟨⟨t,h⟩,h,λ⟨s,h,_⟩=>absurd rfl h⟩
theorem ABh{tk:List AW}(h:LT tk):LI (tk++[(0,⟨#[]⟩)]):=λt ht=>by
 simp only[List.mem_append,List.mem_cons,List.not_mem_nil,or_false]at ht;rcases ht with ht|rfl
 .exact(h.all t ht).2
 exact⟨by show (0:Nat)≠1;omega,λe=>by have e':(0:Nat)=13:=e;omega⟩
def US(w0:World)(s:ByteArray)(S:ByteArray->Prop):Prop:=∃All i',BO s=some All/\LI All/\All.length<=100000/\∀(r:Nat) (A:Option Addr) (n c:Nat),w0.heap.size<=r->KP (GB w0) w0.heap.size r A n c All 0 i' S
theorem AAr{T F:Nat->Nat}{N:Nat}{w0:World}(h0:W0 T F N w0){key value:ByteArray}(hk:M9 T F key)(hv:M9 T F value)(ht:XK T F (⟨#[123]⟩++key++⟨#[32,58,32]⟩++value++⟨#[125]⟩)) :
 ∃S1 S2 e1 e2,US w0 key S1/\US w0 value S2/\US w0 (⟨#[123]⟩++key++⟨#[32,58,32]⟩++value++⟨#[125]⟩) (P9 S1 S2)/\SP S1 e1 8 1/\SP S2 e2 4096 400:=by
 obtain⟨tk,pk,ak,lk⟩:=AA6 hk
 obtain⟨tv,pv,av,lv⟩:=AA6 hv
 obtain⟨ts,p,r,typ,hts,hterm,⟨hdd,hdp⟩,hf,hvl⟩:=ht
 obtain⟨_,htx⟩:=AI3 hts
 have hlast:∀x l',tv≠l'++[(13,x)]:=λx l' e=>by obtain⟨l,t,h1,h2⟩:=lv.last;rw[e]at h1;obtain⟨_,h3⟩:=List.append_inj' h1 rfl;simp only[List.cons.injEq,and_true]at h3;rw[<-h3]at h2;exact h2 rfl
 have hall:=ACk ak.toks av.toks (λt h=>(ak.pt t h).2) (λt h=>(av.pt t h).2) hlast
 obtain rfl:=Option.some.inj (hall.symm.trans htx)
 have hwhole:D7 true ((7,⟨#[123]⟩)::(tk++(12,⟨#[58]⟩)::(tv++[(8,⟨#[125]⟩),(0,⟨#[]⟩)]))) (.mk 7 ⟨#[]⟩ [pk,pv] none) [(0,⟨#[]⟩)]:=.lst (.inr rfl) (.one7 (ak.term _) (av.term _))
 obtain⟨rfl,rfl⟩:=ABp hwhole _ _ hterm
 obtain⟨h5,hdw,hkv⟩:=(GL hf).2.2.2.2.2.2.2 rfl
 have hvv:=(AAd hvl).2 rfl
 simp only[D1]at hkv
 simp only[K4]at hvv
 have ed:(Ph.mk 7 ⟨#[]⟩ [pk,pv] none).dd=1+max pk.dd (max pv.dd 0):=rfl
 have ep:(Ph.mk 7 ⟨#[]⟩ [pk,pv] none).dp=1+max pk.dp (max pv.dp 0):=rfl
 have hks:(typ.extract 2 3).size=1:=by simp[ByteArray.size_extract];omega
 have hptk:∀t∈tk++[(0,(⟨#[]⟩:ByteArray))],PT t:=λt ht=>by
  rcases List.mem_append.1 ht with ht|ht
  .exact(ak.pt t ht).1
  rw[List.mem_singleton.1 ht];exact AI4 0 (.inl rfl)
 have hptv:∀t∈tv++[(0,(⟨#[]⟩:ByteArray))],PT t:=λt ht=>by
  rcases List.mem_append.1 ht with ht|ht
  .exact(av.pt t ht).1
  rw[List.mem_singleton.1 ht];exact AI4 0 (.inl rfl)
 have hlk:=ak.len
 have hlv:=av.len
 obtain⟨ts1,S1,a1,a2,a3,a4,a5,a6⟩:=AA3 (U9 h0 (ak.term [(0,⟨#[]⟩)])) hptk (by simp;omega) Om Om hkv.1 hvv.1
 obtain⟨ts2,S2,b1,b2,b3,b4,b5,b6⟩:=AA3 (U9 h0 (av.term [(0,⟨#[]⟩)])) hptv (by simp;omega) Om Om hkv.2.1 hvv.2.1
 obtain rfl:=List.append_cancel_right a1
 obtain rfl:=List.append_cancel_right b1
 have hB:=L5 (show pv.dd<=2 by omega)
 have sp1:=a5 hks
 have sp2:SP S2 (F9 (typ.extract 3 (typ.size-1))) 4096 400:=b4.up hB.2 Om
 refine⟨S1,S2,_,_,⟨_,_,ak.toks,ABh lk,by simp;omega,λr A n c hr=>a6 r A n c _ 0 _ hr rfl⟩,⟨_,_,av.toks,ABh lv,by simp;omega,λr A n c hr=>b6 r A n c _ 0 _ hr rfl⟩,⟨_,0+1+tk.length+1+tv.length+1,hall,?_,by simp;omega,λr A n c hr=>?_⟩,sp1,sp2⟩
 .intro t ht
  simp only[List.mem_cons,List.mem_append,List.not_mem_nil,or_false]at ht;have hc:∀k:Nat,∀x:ByteArray,k≠1->k≠13->(k,x).1≠1/\((k,x).1=13->(CA (k,x).2).2=true):=λk x h1 h2=>⟨h1,λe=>absurd e h2⟩;rcases ht with rfl|ht|rfl|ht|rfl|rfl
  .exact hc _ _ De De
  .exact(lk.all t ht).2
  .exact hc _ _ De De
  .exact(lv.all t ht).2
  .exact hc _ _ De De
  exact hc _ _ De De
 have d0:List.drop 0 ((7,(⟨#[123]⟩:ByteArray))::(tk++(12,⟨#[58]⟩)::(tv++[(8,⟨#[125]⟩),(0,⟨#[]⟩)])))=[(7,⟨#[123]⟩)]++(tk++(12,⟨#[58]⟩)::(tv++[(8,⟨#[125]⟩),(0,⟨#[]⟩)])):=rfl
 have d1:=C0 d0
 have d2:=C0 d1
 have d3:=C0 (a:=[(12,(⟨#[58]⟩:ByteArray))]) (b:=tv++[(8,⟨#[125]⟩),(0,⟨#[]⟩)]) d2
 have d4:=C0 d3
 refine .inl (.dict d0 λW hP hG hB2=>?_)
 have he:EOk [(S1,S2)] (typ.extract 2 3) (F9 (typ.extract 3 (typ.size-1))):=λS hS=>by rw[List.mem_singleton.1 hS];exact⟨⟨sp1.few Om Om,sp1.2.1⟩,sp2.few Om Om,sp2.2.1⟩
 have:=J2 (JF w0) hr hP hG (.inl (.one (a6 r A n c _ _ _ hr d1) (SZ a3 d1) d2 (b6 r A n c _ _ _ hr d3) (SZ b3 d3) d4)) (.inl ⟨rfl,rfl,rfl⟩) Sm he
 have e1:PI (DY ⟨#[]⟩) [(S1,S2)]=S1:=ABb S1
 have e2:PN (DY ⟨#[]⟩) [(S1,S2)]=S2:=ABb S2
 rw[e1,e2]at this
 exact this
theorem AFu(X Z Y:List ByteArray):EF (X++Z) Y=EF X Y++EF Z Y:=by unfold EF;rw[List.flatMap_append]
theorem AFm(x:ByteArray)(Y:List ByteArray):EF [x] Y=Y.map (D5 x):=by simp[EF]
theorem ZP{T F:Nat->Nat}{N:Nat}{w0 W:World}(h0:W0 T F N w0)(hw:GB w0 W){s:ByteArray}{S:ByteArray->Prop}(hs:s.size<=100000)(hm:US w0 s S)(hf:Few S 50000):Calls Tryz.prog 6 #[.string s] W (UG S (.bool true) W):=by obtain⟨All,i',h1,h2,h3,h4⟩:=hm;have h8:=h0.eight;have hsz:=hw.size;exact YO (UQ (JF w0) (L4 h0.utf hw h8) Om hs h1 h2 h3 hw hw.size h4 hf)
structure OC(W:World)(A:Option Addr)(n c:Nat)(xs:List ByteArray):Prop where
 len:n=(I1 xs).length
 row:W.ownsRow 0 9 1 (.slice A n c) n (AQ (I1 xs))
theorem OC.below{W W':World}{A:Option Addr}{n c:Nat}{xs:List ByteArray}(h:OC W A n c xs)(hb:Below W.heap.size W W'):OC W' A n c xs:=⟨h.len,AD h.row hb⟩
theorem OC.at{W:World}{A:Option Addr}{n c:Nat}{xs:List ByteArray}(h:OC W A n c xs){i:Nat}(hi:i<n):∃g s,A=some ⟨g,0,none⟩/\W.cell? ⟨g,i,none⟩=some (.string s)/\s∈xs/\(I1 xs).take (i+1)=(I1 xs).take i++[s]:=by
 have hl:=h.len;obtain⟨A',c',he,hA⟩:=AF h.row;simp only[Value.slice.injEq]at he;obtain⟨rfl,_,rfl⟩:=he;obtain⟨g,rfl,hg⟩:=hA Om;have hit:i<(I1 xs).length:=Om;refine⟨g,(I1 xs)[i],rfl,?_,MS.1 (List.getElem_mem hit),?_⟩
 .rw[AV h.row g _ rfl _ Om];simp[AQ,hit]
 rw[List.take_add_one,List.getElem?_eq_getElem hit];rfl
theorem AP3(key value:ByteArray){w:World}(hk:(2147483647:Int)<(key.size:Int)) :
 Calls Tryz.prog 3 #[.string key,.string value] w λe w'=>e=.returned (.bool true)/\Below w.heap.size w w':=by
 go_enter Tryz.func3,Tryz.ntmps3
 go_wp2_with fail
 go_ret
 exact⟨rfl,(by first|exact Bl|exact Bl.drew)⟩
theorem AQd(key value:ByteArray){w:World}(hk:¬(2147483647:Int)<(key.size:Int))(hv:(2147483647:Int)<(value.size:Int)) :
 Calls Tryz.prog 3 #[.string key,.string value] w λe w'=>e=.returned (.bool true)/\Below w.heap.size w w':=by
 go_enter Tryz.func3,Tryz.ntmps3
 go_wp2_with fail
 go_ret
 exact⟨rfl,(by first|exact Bl|exact Bl.drew)⟩
theorem APs(key value:ByteArray){w:World}(hk:¬(2147483647:Int)<(key.size:Int))(hv:¬(2147483647:Int)<(value.size:Int))(hsum:(2048:Int)<(key.size:Int)+(value.size:Int)) :
 Calls Tryz.prog 3 #[.string key,.string value] w λe w'=>e=.returned (.bool true)/\Below w.heap.size w w':=by
 have hwr:IntKind.i64.wrap ((key.size:Int)+(value.size:Int))=(key.size:Int)+(value.size:Int):=CF Om Om
 go_enter Tryz.func3,Tryz.ntmps3
 go_wp2_with fail
 go_ret
 exact⟨rfl,(by first|exact Bl|exact Bl.drew)⟩
theorem AAp(xs:List ByteArray):(I1 xs).Perm xs:=by
 unfold I1;have h:=(List.mergeSort_perm (xs.map λs=>s.data.toList) λx y=>decide (x<=y)).map (λl=>(⟨l.toArray⟩:ByteArray));rw[List.map_map]at h;have e:(xs.map ((λl=>(⟨l.toArray⟩:ByteArray))∘λs=>s.data.toList))=xs:=by rw[show ((λl=>(⟨l.toArray⟩:ByteArray))∘λs:ByteArray=>s.data.toList)=id from funext λs=>by cases s;simp];simp
 rw[e]at h;exact h
theorem ADb{T F:Nat->Nat}{N:Nat}{w0:World}(h0:W0 T F N w0){key value text:ByteArray}(ht:(⟨#[123]⟩++key++⟨#[32,58,32]⟩++value++⟨#[125]⟩:ByteArray)=text)(h1:M9 T F key)(h2:M9 T F value)(h3:XK T F text) :
 ∃S1 S2 e1 e2,US w0 key S1/\US w0 value S2/\US w0 text (P9 S1 S2)/\SP S1 e1 8 1/\SP S2 e2 4096 400:=by
 subst ht
 exact AAr h0 h1 h2 h3
theorem AJl(T F:Nat->Nat)(hT8:∀i,T i<18446744073709551616)(hPl:∀i,i<23->GO (F i)=true)(key value:ByteArray){w:World}{N:Nat}(h0:W0 T F N w)(hk:¬(2147483647:Int)<(key.size:Int))(hv:¬(2147483647:Int)<(value.size:Int))(hsum:¬(2048:Int)<(key.size:Int)+(value.size:Int)) :
 Calls Tryz.prog 3 #[.string key,.string value] w λe w'=>e=.returned (.bool true)/\Below w.heap.size w w':=by
 have hwr:IntKind.i64.wrap ((key.size:Int)+(value.size:Int))=(key.size:Int)+(value.size:Int):=CF Om Om
 have HAK:=Hd (λ(W:World) (hW:Below w.heap.size w W)=>PM T F hT8 hPl key (D2 h0.tabs hW) (BH h0.errs hW))
 have HAV:=Hd (λ(W:World) (hW:Below w.heap.size w W)=>PM T F hT8 hPl value (D2 h0.tabs hW) (BH h0.errs hW))
 have htz:(⟨#[123]⟩++key++⟨#[32,58,32]⟩++value++⟨#[125]⟩:ByteArray).size<=4096:=by simp only[ByteArray.size_append];show 1+key.size+3+value.size+1<=4096;omega
 obtain⟨text,htext⟩:∃text,(⟨#[123]⟩++key++⟨#[32,58,32]⟩++value++⟨#[125]⟩:ByteArray)=text:=⟨_,rfl⟩
 rw[htext]at htz
 have HRT:=Hd (λ(W:World) (hW:Below w.heap.size w W)=>N9 T F hT8 hPl text htz (D2 h0.tabs hW) (BH h0.errs hW))
 have HEF:=Hd (λ(h1:M9 T F key) (h2:M9 T F value) (h3:XK T F text)=>ADb h0 htext h1 h2 h3)
 have HKZ:=Hd (show key.size<=100000/\value.size<=100000/\text.size<=100000 from⟨Om,Om,Om⟩)
 have H0:=Hd h0
 clear h0 hT8 hPl
 go_enter Tryz.func3,Tryz.ntmps3
 go_upto_if 44 with(first
  |(go_at_call 4;have h:=HB1;clear h;refine(HAV.out _ (by first|exact HB1.out|exact HB1.out.drew)).mono ?_;rintro e w2 ⟨b2,rfl,hb2,hbl2⟩;have HV:=Hd hb2;have HB2:=Hd (show Below w.heap.size w w2 from(by first|exact HB1.out.trans (hbl2.mono HB1.out.size)|exact HB1.out.drew.trans (hbl2.mono HB1.out.size)));clear hb2 hbl2;cases b2)
  |(go_at_call 4;refine(HAK.out _ (by first|exact Bl|exact Bl.drew)).mono ?_;rintro e w1 ⟨b1,rfl,hb1,hbl1⟩;have HK:=Hd hb1;have HB1:=Hd (show Below w.heap.size w w1 from(by first|exact hbl1|exact(Bl.drew).trans hbl1));clear hb1 hbl1;cases b1))
 .go_wp2_with fail
  go_ret;exact⟨rfl,HB1.out⟩
 .go_wp2_with fail
  go_ret;exact⟨rfl,HB2.out⟩
 have HE2:=Hd (HEF.out (HK.out (by first|exact trivial|rfl)) (HV.out (by first|exact trivial|rfl)))
 clear HEF HK HV HAK HAV hsum hwr
 go_upto_region 7 with(go_at_call 5;refine(HRT.out _ (by first|exact HB2.out|exact HB2.out.drew)).mono ?_;rintro e w3 ⟨K,NN,SS,A0,n0,c0,typ,ok,said,rfl,hok,hb3⟩;have HOK:=Hd hok;have HB3:=Hd (show Below w.heap.size w w3 from(by first|exact HB2.out.trans (hb3.mono HB2.out.size)|exact HB2.out.drew.trans (hb3.mono HB2.out.size)));clear hok hb3)
 have HB4:=Hd (HB3.out.alloc HB3.out.size (.cells #[.int .u8 K,.int .u64 NN,.string SS,.slice A0 n0 c0] 26))
 generalize w3.alloc (.cells #[.int .u8 K,.int .u64 NN,.string SS,.slice A0 n0 c0] 26)=w4 at *
 cases said with
 |false=>
  go_wp2_with fail
  go_ret
  exact⟨rfl,HB4.out⟩
 |true=>
  cases ok with
  |false=>
   go_wp2_with fail
   go_ret
   exact⟨rfl,HB4.out⟩
  |true=>
   obtain⟨S1,S2,e1,e2,m1,m2,m3,sp1,sp2⟩:=HE2.out (HOK.out (by first|exact trivial|rfl))
   have sp3:=X4 sp1 sp2
   have HM:=Hd (λ(W:World) (hW:Below w.heap.size w W)=>(⟨ZP H0.out hW HKZ.out.1 m1 (sp1.few Om Om),ZP H0.out hW HKZ.out.2.1 m2 (sp2.few Om Om),ZP H0.out hW HKZ.out.2.2 m3 (sp3.few Om Om)⟩:Calls Tryz.prog 6 #[.string key] W (UG S1 (.bool true) W)/\Calls Tryz.prog 6 #[.string value] W (UG S2 (.bool true) W)/\Calls Tryz.prog 6 #[.string text] W (UG (P9 S1 S2) (.bool true) W)))
   have HSP:=Hd (⟨sp1,sp2⟩:SP S1 e1 8 1/\SP S2 e2 4096 400)
   clear HE2 HOK HRT H0 HKZ m1 m2 m3 sp1 sp2 sp3 HB1 HB2 HB3 htext htz
   go_upto_block 0 with(first
    |(go_at_call 6;have h:=HB6;clear h;refine(HM.out _ (HB4.out.trans (HB6.out.mono HB4.out.size))).2.2.mono ?_;rintro e w7 ⟨A3,n3,c3,zs,rfl,hnd,hx,hn,hr,hb⟩;have HZ:=Hd (⟨hnd,hx⟩:zs.Nodup/\∀t,t∈zs↔P9 S1 S2 t);have HR3:=Hd (⟨by rw[I9];exact hn,BF hr (Nat.zero_le _)⟩:OC w7 A3 n3 c3 zs);have HB7:=Hd (HB6.out.trans (hb.mono HB6.out.size));have HR17:=Hd (HR16.out.below hb);have HR27:=Hd (HR26.out.below hb);clear hnd hx hn hr hb)
    |(go_at_call 6;have h:=HB5;clear h;refine(HM.out _ (HB4.out.trans (HB5.out.mono HB4.out.size))).2.1.mono ?_;rintro e w6 ⟨A2,n2,c2,ys,rfl,hnd,hx,hn,hr,hb⟩;have HY:=Hd (⟨hnd,hx⟩:ys.Nodup/\∀t,t∈ys↔S2 t);have HR26:=Hd (⟨by rw[I9];exact hn,BF hr (Nat.zero_le _)⟩:OC w6 A2 n2 c2 ys);have HB6:=Hd (HB5.out.trans (hb.mono HB5.out.size));have HR16:=Hd (HR15.out.below hb);clear hnd hx hn hr hb)
    |(go_at_call 6;refine(HM.out _ HB4.out).1.mono ?_;rintro e w5 ⟨A1,n1,c1,xs,rfl,hnd,hx,hn,hr,hb⟩;have HX:=Hd (⟨hnd,hx⟩:xs.Nodup/\∀t,t∈xs↔S1 t);have HR15:=Hd (⟨by rw[I9];exact hn,BF hr (Nat.zero_le _)⟩:OC w5 A1 n1 c1 xs);have HB5:=Hd hb;clear hnd hx hn hr hb))
   have HC:=Hd (λ(W:World) (hW:Below w7.heap.size w7 W)=>(⟨HR17.out.below hW,HR27.out.below hW,HR3.out.below hW⟩:OC W A1 n1 c1 xs/\OC W A2 n2 c2 ys/\OC W A3 n3 c3 zs))
   have hxl:n1<=8:=by obtain⟨⟨l,h1,h2⟩,_⟩:=HSP.out.1;have h3:=HR17.out.len;rw[I9]at h3;rw[h3];exact Nat.le_trans (EY HX.out.1 λt ht=>h2 t ((HX.out.2 t).1 ht)) h1
   have hyl:n2<=4096:=by obtain⟨⟨l,h1,h2⟩,_⟩:=HSP.out.2;have h3:=HR27.out.len;rw[I9]at h3;rw[h3];exact Nat.le_trans (EY HY.out.1 λt ht=>h2 t ((HY.out.2 t).1 ht)) h1
   have HLX:=Hd (show (I1 xs).length=n1/\(I1 ys).length=n2 from⟨HR17.out.len.symm,HR27.out.len.symm⟩)
   have HPL:=Hd (λ(i:Nat)=>(show (EF ((I1 xs).take i) (I1 ys)).length<=32768 by rw[Q1,List.length_take,HLX.out.1,HLX.out.2];exact Nat.le_trans (Nat.mul_le_mul (Nat.le_trans (Nat.min_le_right _ _) hxl) hyl) De))
   go_wp2_with fail
   go_loopg [16,81] n1 (λg v16 v81 wr=>∃(A:Option Addr) (n c i:Nat),v16=.slice A n c/\v81=.int .i64 i/\i+g=n1/\Hid (n=(EF ((I1 xs).take i) (I1 ys)).length)/\Hid (wr.ownsRow w7.heap.size 9 1 (.slice A n c) n (AQ (EF ((I1 xs).take i) (I1 ys))))/\Hid (Below w7.heap.size w7 wr))
   case atStart=>exact⟨none,0,0,0,rfl,rfl,Om,(by show _=_;simp[EF]),⟨by simp[EF,AQ],.inl ⟨rfl,rfl⟩⟩,Bl⟩
   obtain⟨A,n,c,i,rfl,rfl,hig,HN,HO,HB⟩:=hrel
   by_cases hlt:(i:Int)<(n1:Int)
   .have hii:i<n1:=Om
    obtain⟨g1,k,hA1,hc0,hkm,htk⟩:=(HC.out _ HB.out).1.at hii;subst hA1;have HKM:=Hd (show k.size<=1 from((HSP.out.1.2.2 k ((HX.out.2 k).1 hkm)).2));have HTK:=Hd htk;have HIG:=Hd hig;clear hkm htk;go_upto_block 2 with fail;go_wp2_with fail;go_loopg [16,87] n2 (λg v16 v87 wx=>∃(A:Option Addr) (n c j:Nat),v16=.slice A n c/\v87=.int .i64 j/\j+g=n2/\Hid (n=(EF ((I1 xs).take i) (I1 ys)++((I1 ys).take j).map (D5 k)).length)/\Hid (wx.ownsRow w7.heap.size 9 1 (.slice A n c) n (AQ (EF ((I1 xs).take i) (I1 ys)++((I1 ys).take j).map (D5 k))))/\Hid (Below w7.heap.size w7 wx))
    case atStart=>exact⟨A,n,c,0,rfl,rfl,Om,(by show _=_;rw[HN.out];simp),(by have:=HO.out;show World.ownsRow _ _ _ _ _ _ _;simpa using this),HB⟩
    obtain⟨B,m,d,j,rfl,rfl,hjg,HN2,HO2,HB2⟩:=hrel;have HM2:=Hd (show m<=1000000 by have h1:=HN2.out;have h2:=HPL.out i;have h3:=HLX.out.2;rw[h1,List.length_append,List.length_map,List.length_take];omega)
    by_cases hlt2:(j:Int)<(n2:Int)
    .have hjj:j<n2:=Om
     obtain⟨g2,v,hA2,hc2,hvm,htv⟩:=(HC.out _ HB2.out).2.1.at hjj;subst hA2;have hks:=HKM.out;have hvs:=(HSP.out.2.2.2 v ((HY.out.2 v).1 hvm)).2;have HJG:=Hd hjg;have HTV:=Hd htv;have HS7:=Hd HB2.out.size;clear hvm htv hc0 hjg;go_wp2_with (at_builtin;refine ABi rfl _ _ rfl B m d (D5 k v) rfl rfl rfl HO2.out HS7.out HM2.out ?_;intro B' d' w9 ho9 hb9)
     all_goals try (exfalso;(try simp only[ByteArray.size_append]at *);omega)
     go_roundg (n2-(j+1))
     case rel=>exact⟨B',m+1,d',j+1,rfl,by go_num,by have:=HJG.out;omega,(by have:=HN2.out;have:=HTV.out;show _=_;rw[HTV.out,List.map_append,<-List.append_assoc,List.length_append,<-HN2.out];rfl),(by have:=ho9;show World.ownsRow _ _ _ _ _ _ _;rw[HTV.out,List.map_append,<-List.append_assoc];exact this),HB2.out.trans (hb9.mono Nl)⟩
     have:=HJG.out;omega
    have hj2:j=n2:=Om;have HJ2:=Hd hj2;clear hj2 hc0;go_wp2_with fail;go_roundg (n1-(i+1))
    case rel=>
     have e1:(I1 ys).take j=I1 ys:=List.take_of_length_le (by rw[HLX.out.2,HJ2.out];exact Nl);have e2:EF ((I1 xs).take i) (I1 ys)++((I1 ys).take j).map (D5 k)=EF ((I1 xs).take (i+1)) (I1 ys):=by rw[e1,HTK.out,AFu,AFm]
     exact⟨B,m,d,i+1,rfl,by go_num,by have:=HIG.out;omega,(by have:=HN2.out;show _=_;rw[<-e2];exact this),(by have:=HO2.out;show World.ownsRow _ _ _ _ _ _ _;rw[<-e2];exact this),HB2⟩
    have:=HIG.out;omega
   have hi2:i=n1:=Om
   have HOW:=Hd (show wr.ownsRow w7.heap.size 9 1 (.slice A n c) n (AQ (EF (I1 xs) (I1 ys)))/\n=(EF (I1 xs) (I1 ys)).length by have e1:(I1 xs).take i=I1 xs:=List.take_of_length_le (by rw[HLX.out.1,hi2];exact Nl);have h1:=HO.out;have h2:=HN.out;rw[e1]at h1 h2;exact⟨h1,h2⟩)
   have HNN:=Hd (show n<=1000000 by have h1:=HN.out;have h2:=HPL.out i;omega)
   have hsame:I1 (EF (I1 xs) (I1 ys))=I1 zs:=by
    refine ANl (ST ((AAp ys).nodup_iff.2 HY.out.1) ((AAp xs).nodup_iff.2 HX.out.1) λa ha b hb=>?_) HZ.out.1 λt=>?_
    .rw[(HSP.out.1.2.2 a ((HX.out.2 a).1 (MS.1 ha))).1,(HSP.out.1.2.2 b ((HX.out.2 b).1 (MS.1 hb))).1]
    rw[KF,HZ.out.2];exact⟨λ⟨k,hk,v,hv,e⟩=>⟨k,v,(HX.out.2 k).1 (MS.1 hk),(HY.out.2 v).1 (MS.1 hv),e⟩,λ⟨k,v,hk,hv,e⟩=>⟨k,MS.2 ((HX.out.2 k).2 hk),v,MS.2 ((HY.out.2 v).2 hv),e⟩⟩
   obtain rfl:n=n3:=by rw[HOW.out.2,HR3.out.len,<-hsame,I9]
   have HSM:=Hd hsame
   clear hi2 hig hsame
   go_wp2_with (first
    |(go_at_call 7;refine(PJ HOW.out.1 HOW.out.2 HNN.out).mono ?_;rintro e w9 ⟨rfl,ho9,hg9⟩;have HO9:=Hd ho9;have HB9:=Hd (HB.out.trans ((show Below w7.heap.size wr wr from Bl).grown hg9 HB.out.size (λq hq=>AG HOW.out.1 q hq)));clear ho9 hg9)
    |(go_at_call 8;refine(VG (HR3.out.len) HNN.out (HC.out _ HB9.out).2.2.row (by rw[<-HSM.out];exact BF HO9.out (Nat.zero_le _))).mono ?_;rintro e w10 ⟨rfl,hb10⟩;have HBF:=Hd (HB4.out.trans ((HB7.out.trans ((HB9.out.trans (hb10.mono HB9.out.size)).mono HB7.out.size)).mono HB4.out.size));clear hb10))
   first|(rw[Exit.noGoto_ret];go_ret)|go_ret
   exact⟨rfl,HBF.out⟩
theorem AGq(T F:Nat->Nat)(hT8:∀i,T i<18446744073709551616)(hPl:∀i,i<23->GO (F i)=true)(key value:ByteArray){w:World}{N:Nat}(h0:W0 T F N w) :
 Calls Tryz.prog 3 #[.string key,.string value] w λe w'=>e=.returned (.bool true)/\Below w.heap.size w w':=by
 by_cases hk:(2147483647:Int)<(key.size:Int)
 .exact AP3 key value hk
 by_cases hv:(2147483647:Int)<(value.size:Int)
 .exact AQd key value hk hv
 by_cases hsum:(2048:Int)<(key.size:Int)+(value.size:Int)
 .exact APs key value hk hv hsum
 exact AJl T F hT8 hPl key value h0 hk hv hsum
end Go.Proofs.YtbnbadcnfchdhaaGreatDoor
namespace Go.Proofs.YtbnbadcnfchdhaaGreatDoor
section
open Go.ChangeShapes Go.WideShapes Go.ChangeAt Go.RowKit Go.Lib
open Go.ChangeMaps (open_string shut_string)
theorem own:ownKnob Tryz.prog.godebug=none:=Kr
theorem AJq(os:Os):(World.holding Tryz.prog os ⟨#[],#[],[]⟩).layFits Tryz.prog FF []=true:=Kr
theorem AC8(os:Os):(World.holding Tryz.prog os ⟨#[],#[],[]⟩).layIfaces Tryz.prog FF (World.laidAll Tryz.prog os FF)=true:=Kr
theorem XF(w:World):laidMetH Tryz.prog FF w=laidMet Tryz.prog FF w:=MakeChecks.laidMetH_plain _ _ _ Kr
theorem AKh(w w':World)(_:Array Value)(hh:w.heap=w'.heap)(h:laidMetH Tryz.prog FF w):laidMetH Tryz.prog FF w':=h.of_heap hh
theorem Z8(os:Os)(args:Array Value):((World.laidAll Tryz.prog os FF).forCall (λ_ _=>0) ⟨#[],args,[]⟩).Shaped Tryz.checked.prog:=
 World.shaped_of_ZipB Kr Kr
theorem AM2(os:Os)(args:Array Value):laidMetH Tryz.prog FF ((World.laidAll Tryz.prog os FF).forCall (λ_ _=>0) ⟨#[],args,[]⟩).memory:=by rw[XF];exact laidMet_laidAll _ (AJq os) (AC8 os)
theorem AN1(os:Os)(started:os.Started)(H:Type)(enc:TypeId×Value->H) :
 ReturnsInHanded {} Tryz.checked os 3 .any (λw args=>(Rows.fnVtSigsEntrySpec.pre enc Tryz.prog Tryz.f3 [] false w args/\laidMetH Tryz.prog FF w)/\sizedMet enc Tryz.prog Tryz.f3 (OpenSpec.ofChange Rows.fnVtSigsEntrySpec) false w args)
  (Rows.fnVtSigsEntrySpec.post enc Tryz.prog Tryz.f3 false true false false):=by
 refine returnsInHanded_of_change_and (C:=Tryz.checked) (X:=λw _=>laidMetH Tryz.prog FF w) (AKh) own started Kr Tryz.func3
  (ChangeSpec.witness_shaped (enc:=enc) (C:=Tryz.checked) (os:=os) (X:=λw _=>laidMetH Tryz.prog FF w) false (World.laidAll Tryz.prog os FF) #[.string ⟨#[]⟩,.string ⟨#[]⟩] 8 (World.laidAll_os _ _ _)
   (Z8 os _) Kr Kr Kr (AM2 os _)) ?_
 intro W base args ds gs before hval0 hW _ _ hL _
 have hval:∀(j:Nat) t v,Tryz.f3.params[j]?=some t->args[j]?=some v->Value.okWide Tryz.prog W .any base t v:=hval0
 have hW':=hW
 obtain⟨p,q,hA0,hV,rfl,_,_⟩:=hW
 have hA:DataW.TrodAll enc Tryz.prog W 0 (λ_=>true) true Tryz.f3.params.toList args.toList ds p:=hA0
 rw[Tryz.params3]at hA hval
 obtain⟨v0,v1,d0,d1,p0,p1,rfl,rfl,rfl,h0,h1⟩:=trodAll_two hA
 obtain⟨rfl,rfl⟩:=trodVars_none hV
 obtain⟨s,rfl,rfl,rfl,ws⟩:=open_string Tryz.underlying9 (hval 0 9 v0 rfl rfl) h0
 obtain⟨x,rfl,rfl,rfl,wx⟩:=open_string Tryz.underlying9 (hval 1 9 v1 rfl rfl) h1
 simp only[List.append_nil]at hW'
 rw[XF]at hL
 obtain⟨hT,hE,hU,h8⟩:=tables hL
 refine(AGq AGr P0 U2 YG s x ⟨hT,hE,hU,h8⟩).mono λe W' ⟨he,hb⟩=>?_
 subst he
 exact⟨_,rfl,_,_,_,[],[],[],hW',trodAll_mk1 (shut_bool Tryz.underlying4 _),trodAll_mk2 (shut_string Tryz.underlying9 ws) (shut_string Tryz.underlying9 wx),rfl,hb.frame _,λh=>by cases h⟩
theorem holds:Rows.FnVtSigsEntrySaid:=
 OpenClaim.holds_of_wide 3 Tryz.f3 rfl rfl rfl rfl rfl rfl rfl ⟨rfl,rfl,rfl,rfl,rfl⟩ rfl rfl rfl rfl rfl Kr Tryz.func3 Kr
  (of_decide_eq_true Kr) (by unfold Func.isWrapper;first|(rw[if_pos (by decide +kernel)];kernel_rfl)|(rw[if_neg (by decide +kernel)];exact⟨rfl,rfl⟩))
  (λos started H enc _=>AN1 os started H enc)
end
end Go.Proofs.YtbnbadcnfchdhaaGreatDoor
