/- Lemmas for FnVtSigsEntry; no conditions. -/
import Derived.Test.YtbnbadcnfchdhaaGreatDoorP40
import Derived.Test.YtbnbadcnfchdhaaGreatDoorP42
set_option maxRecDepth 100000
set_option maxHeartbeats 16000000
set_option linter.all false
namespace Go.Proofs.YtbnbadcnfchdhaaGreatDoor
open Go.RowKit
section
def GB(w0:World)(W:World):Prop:=Below w0.heap.size w0 W
theorem JF(w0:World):DC (GB w0) w0.heap.size:=λ_ _ h k=>h.trans k
structure W0(T F:Nat->Nat)(N:Nat)(w0:World):Prop where
 tabs:MX T F w0 N
 errs:FN w0
 utf:Lib.Utf8Tabs 7 8 w0
 eight:8<w0.heap.size
theorem AJv{T F:Nat->Nat}{N:Nat}{w0:World}(h0:W0 T F N w0){x typ:ByteArray}(hx:EO x)(hr:ADa x)(ht:typ∈TT)(hv:RX T F x (AA typ 0)):AD7 (GB w0) typ x:=by
 intro W hW;have hE:=BH h0.errs hW;have hT:=D2 h0.tabs hW;obtain⟨v1,v2,v3,v4,v5,v6,v7,v8⟩:=hv;simp only[TT,List.mem_cons,List.not_mem_nil,or_false]at ht;rcases ht with rfl|rfl|rfl|rfl|rfl|rfl|rfl|rfl
 .exact MR hx hr .y (v5 rfl) W hE
 .exact RI hx hr .n (v2 rfl) W hE
 .exact MR hx hr .q (v6 rfl) W hE
 .exact RI hx hr .i (v3 rfl) W hE
 .exact MR hx hr .u (v7 rfl) W hE
 .exact RI hx hr .x (v4 rfl) W hE
 .exact MR hx hr .t (v8 rfl) W hE
 exact AMz (v1 rfl) W hT hE
theorem AJm{T F:Nat->Nat}{N:Nat}{w0:World}(h0:W0 T F N w0){x:ByteArray}(hx:ACd x)(hs:x.size<=100000)(hq:Y0 x=true):AEo (GB w0) x:=
 λW hW=>QA hx.1 hs (AOt hx hq) W (L4 h0.utf hW h0.eight) (by have:=hW.size;have:=h0.eight;omega) (BH h0.errs hW)
theorem AIu{T F:Nat->Nat}{N:Nat}{w0:World}(h0:W0 T F N w0){x:ByteArray}(hx:ADi x)(hs:x.size<=100000)(hq:ABl x=true):AEx (GB w0) x:=
 λW hW=>R5 hx.1 hs (APh hx hq) W (BH h0.errs hW)
structure PT(t:AW):Prop where
 len:t.2.size<=100000
 num:t.1=2->EO t.2/\ADa t.2/\∀i,i<t.2.size->AA t.2 i<128
 str:t.1=3->ACd t.2
 tru:t.1=4->t.2=⟨#[116,114,117,101]⟩\/t.2=⟨#[102,97,108,115,101]⟩
 byt:t.1=14->ADi t.2
 typ:t.1=13->1<=t.2.size
def GR(ts:List AW):Prop:=∃k x l,ts=(k,x)::l/\2<=k/\k<=14/\k≠6/\k≠8
structure LT(ts:List AW):Prop where
 all:∀t∈ts,t.1≠0/\t.1≠1/\(t.1=13->(CA t.2).2=true)
 last:∃l t,ts=l++[t]/\t.1≠13
def Ph.wt(p:Ph)(sg:ByteArray):Ph:=match p with | .mk k x l ty=>.mk k x l (if sg.size=0 then ty else some sg)
def AG4(sg typ:ByteArray):Prop:=sg=⟨#[]⟩\/(sg=typ/\sg.size≠0/\sg.size<=255/\IP sg)
theorem C0{All a b:List AW}{i:Nat}(h:All.drop i=a++b):All.drop (i+a.length)=b:=by rw[<-List.drop_drop,h,List.drop_left]
section
variable{T F:Nat->Nat}{N:Nat}{w0:World}
def PhR(ts0:List AW)(S:ByteArray->Prop)(ts rr:List AW)(p:Ph)(typ:ByteArray):Prop:=
 ts=ts0++rr/\LT ts0/\GR ts0/\SP S (F9 typ) (Bd p.dd) (255+4*p.dp)/\(typ.size=1->SP S typ 8 1)
variable(T F w0) in
def M1(ts:List AW)(p:Ph)(rr:List AW):Prop:=(∀t∈ts,PT t)->ts.length<=100000->p.dd<=2->p.dp<=30->∀sg typ,AG4 sg typ->CO (p.wt sg) typ->NU T F p typ->
 (p.ty=none->∃ts0 S,PhR ts0 S ts rr p typ/\∀(r:Nat) (A:Option Addr) (n c:Nat) All i r',w0.heap.size<=r->All.drop i=ts0++r'->R3 (GB w0) w0.heap.size r A n c All sg i (i+ts0.length) S)/\
 (sg=⟨#[]⟩->∃ts0 S,PhR ts0 S ts rr p typ/\∀(r:Nat) (A:Option Addr) (n c:Nat) All i r',w0.heap.size<=r->All.drop i=ts0++r'->KP (GB w0) w0.heap.size r A n c All i (i+ts0.length) S)
variable(T F w0) in
def M2(k:Nat)(ts:List AW)(l:List Ph)(rr:List AW):Prop:=(∀t∈ts,PT t)->ts.length<=100000->H8 l<=2->P8 l<=30->
 (k=5->∀typ,FI l typ->GH T F l typ->∃ts0 Ss,ts=ts0++rr/\LT ts0/\Ss.length<=ts0.length/\(∀S∈Ss,SP S (F9 typ) (Bd (H8 l)) (255+4*P8 l))/\∀(r:Nat) (A:Option Addr) (n c:Nat) All i r',w0.heap.size<=r->All.drop i=ts0++r'->Els (GB w0) w0.heap.size r A n c All i Ss (i+ts0.length))/\
 (k=7->∀a b,a.size=1->D1 l a b->K4 T F l a b->∃ts0 Ss,ts=ts0++rr/\LT ts0/\Ss.length<=ts0.length/\(∀S∈Ss,SP S.1 a 8 1/\SP S.2 (F9 b) (Bd (H8 l)) (255+4*P8 l))/\∀(r:Nat) (A:Option Addr) (n c:Nat) All i r',w0.heap.size<=r->All.drop i=ts0++r'->V6 (GB w0) w0.heap.size r A n c All i Ss (i+ts0.length))
theorem AE4{ts rr:List AW}{k:Nat}{x:ByteArray}{l:List Ph}(h:(∀t∈ts,PT t)->ts.length<=100000->(Ph.mk k x l none).dd<=2->(Ph.mk k x l none).dp<=30->∀sg typ,AG4 sg typ->CO ((Ph.mk k x l none).wt sg) typ->NU T F (.mk k x l none) typ->∃ts0 S,PhR ts0 S ts rr (.mk k x l none) typ/\∀(r:Nat) (A:Option Addr) (n c:Nat) All i r',w0.heap.size<=r->All.drop i=ts0++r'->R3 (GB w0) w0.heap.size r A n c All sg i (i+ts0.length) S):M1 T F w0 ts (.mk k x l none) rr:=by intro h1 h2 h3 h4 sg typ h5 h6 h7;obtain⟨ts0,S,k1,k2⟩:=h h1 h2 h3 h4 sg typ h5 h6 h7;refine⟨λ_=>⟨ts0,S,k1,k2⟩,?_⟩;rintro rfl;exact⟨ts0,S,k1,λr A n c All i r' hr hd=>.inl (k2 r A n c All i r' hr hd)⟩
theorem SF{sg typ:ByteArray}(h:AG4 sg typ):sg.size<=1000:=by
 rcases h with rfl|⟨_,_,h,_⟩
 .decide
 omega
theorem AJb{k:Nat}{x:ByteArray}(h:2<=k)(h2:k≠13):LT [(k,x)]:=⟨λt ht=>by rw[List.mem_singleton.1 ht];exact⟨by show k≠0;omega,by show k≠1;omega,λe=>absurd e h2⟩,[],_,rfl,h2⟩
theorem YV{k:Nat}{x sg typ:ByteArray}{l:List Ph}(hs:AG4 sg typ)(hf:CO ((Ph.mk k x l none).wt sg) typ):CO (.mk k x l none) typ\/(sg=typ/\sg.size≠0/\sg.size<=255/\IP sg/\CO (.mk k x l (some sg)) typ):=by
 rcases hs with rfl|⟨h1,h2,h3,h4⟩
 .exact .inl hf
 refine .inr ⟨h1,h2,h3,h4,?_⟩;unfold Ph.wt at hf;simp only at hf;rw[if_neg h2]at hf;exact hf
theorem GL{k:Nat}{x:ByteArray}{kids:List Ph}{ty:Option ByteArray}{sig:ByteArray}(h:CO (.mk k x kids ty) sig):(ty=none\/ty=some sig)/\(k=2->if ty=none/\NV x=true then sig=dW else sig.size=1/\BT (AA sig 0) QJ=true)/\
 (k=3->sig.size=1/\BT (AA sig 0) RB=true)/\(k=4->sig=bW)/\(k=14->sig=ayW)/\(k=9->sig=vW)/\
 (k=5->2<=sig.size/\AA sig 0=97/\AA sig 1≠123/\FI kids (sig.extract 1 sig.size))/\
 (k=7->5<=sig.size/\sig.extract 0 2=NT/\D1 kids (sig.extract 2 3) (sig.extract 3 (sig.size-1))):=by simpa only [CO] using h
theorem T3{T F:Nat->Nat}{k:Nat}{x:ByteArray}{kids:List Ph}{ty:Option ByteArray}{sig:ByteArray}(h:NU T F (.mk k x kids ty) sig):(k=2->RX T F x (AA sig 0))/\(k=3->Y0 x=true)/\(k=14->ABl x=true)/\
 (k=9->AL1 T F kids)/\(k=5->GH T F kids (sig.extract 1 sig.size))/\(k=7->K4 T F kids (sig.extract 2 3) (sig.extract 3 (sig.size-1))):=by simpa only [NU] using h
theorem AGv(h0:W0 T F N w0){k:Nat}{x:ByteArray}{rr:List AW}(hk:k=2\/k=3\/k=4\/k=14):M1 T F w0 ((k,x)::rr) (.mk k x [] none) rr:=by
 refine AE4 λhp _ _ _ sg typ hs hf hv=>?_;have hpt:=hp (k,x) Sm;have hdp:(Ph.mk k x [] none).dd=0:=by rcases hk with rfl|rfl|rfl|rfl<;>simp[Ph.dd,H8]
 have hdp2:(Ph.mk k x [] none).dp=0:=by rcases hk with rfl|rfl|rfl|rfl<;>simp[Ph.dp,P8]
 have hsz:=SF hs;have hlt:LT [(k,x)]:=AJb Om Om;have hhd:GR [(k,x)]:=⟨k,x,[],rfl,Om,Om,Om,Om⟩;have hB:Bd 0=8:=rfl;have mk:∀S,SP S typ 8 1/\typ.size=1\/(SP S typ 8 2/\typ=ayW)->PhR [(k,x)] S ((k,x)::rr) rr (.mk k x [] none) typ:=λS h=>by
  refine⟨rfl,hlt,hhd,?_,λh1=>?_⟩
  .rw[hdp,hdp2,hB]
   rcases h with⟨h,h1⟩|⟨h,rfl⟩
   .rw[LV Om];exact h.up Om Om
   rw[show F9 ayW=ayW from by rw[Q2 De,LV De];rfl]
   exact h.up Om Om
  rcases h with⟨h,_⟩|⟨h,rfl⟩
  .exact h
  exact absurd h1 De
 have hf2:=YV hs hf;obtain⟨v2,v3,v14,_⟩:=T3 hv;rcases hk with rfl|rfl|rfl|rfl
 .obtain⟨hn,hnr,ha⟩:=hpt.num rfl
  have ht:(sg.size=0/\((NV x=true/\typ=dW)\/(NV x≠true/\typ∈TT)))\/(sg.size≠0/\sg=typ/\typ∈TT):=by
   rcases hf2 with hf|⟨rfl,h2,h3,_,hf⟩
   .have hs0:sg.size=0\/(sg.size≠0/\sg=typ):=by
     rcases hs with rfl|⟨h1,h2,_⟩
     .exact .inl rfl
     exact .inr ⟨h2,h1⟩
    replace hf:=GL hf;have h2:=hf.2.1 rfl;rcases hs0 with h0|⟨h0,h1⟩
    .refine .inl ⟨h0,?_⟩
     split at h2
     .rename_i hd;exact .inl ⟨hd.2,h2⟩
     rename_i hd;exact .inr ⟨λe=>hd ⟨rfl,e⟩,RP h2.1 h2.2⟩
    refine .inr ⟨h0,h1,?_⟩;split at h2
    .rw[h2];simp[TT,dW]
    exact RP h2.1 h2.2
   replace hf:=GL hf;have h3:=hf.2.1 rfl;rw[if_neg Sm]at h3;exact .inr ⟨h2,rfl,RP h3.1 h3.2⟩
  have ht1:typ.size=1:=by
   rcases ht with⟨_,⟨_,h⟩|⟨_,h⟩⟩|⟨_,_,h⟩
   .rw[h];rfl
   .exact R1 _ h
   exact R1 _ h
  refine⟨[(2,x)],λt=>t∈QH sg x,mk _ (.inl ⟨?_,ht1⟩),λr A n c All i r' hr hd=>.num hd (λh=>?_) hsz hpt.len ha⟩
  .unfold QH
   rcases ht with⟨e,⟨hd,rfl⟩|⟨hd,h⟩⟩|⟨e,rfl,h⟩
   .rw[if_pos e,if_pos hd];exact QC De (List.mem_singleton.2 rfl) (λt h=>by rw[List.mem_singleton.1 h];rfl) De
   .rw[if_pos e,if_neg hd];exact QC De h (λt h=>by rw[R1 t h,ht1]) Om
   rw[if_neg e];exact QC Sm Sm Sm Om
  rcases ht with⟨e,_⟩|⟨_,rfl,h1⟩
  .exact absurd e h
  exact AJv h0 hn hnr h1 (v2 rfl)
 .have ht:typ∈AAb:=by
   have h:∃ty,CO (.mk 3 x [] ty) typ:=by
    rcases hf2 with hf|⟨_,_,_,_,hf⟩
    .exact⟨_,hf⟩
    exact⟨_,hf⟩
   obtain⟨ty,hf⟩:=h;replace hf:=GL hf;have:=hf.2.2.1 rfl;exact AFw this.1 this.2
  have ht1:=XI _ ht;have hsg:sg=⟨#[]⟩\/sg=typ:=hs.imp id λh=>h.1;refine⟨[(3,x)],λt=>t∈YS sg,mk _ (.inl ⟨?_,ht1⟩),λr A n c All i r' hr hd=>.str hd (AJm h0 (hpt.str rfl) hpt.len (v3 rfl)) ?_⟩
  .unfold YS
   rcases hsg with rfl|rfl
   .rw[if_pos (show (⟨#[]⟩:ByteArray).size=0 from rfl)];exact QC De ht (λt h=>by rw[XI t h,ht1]) Om
   rw[if_neg Om];exact QC Sm Sm Sm Om
  rcases hsg with rfl|rfl
  .exact .inl rfl
  simp only[AAb,List.mem_cons,List.not_mem_nil,or_false]at ht;exact .inr ht
 .have ht:typ=bW:=by
   rcases hf2 with hf|⟨_,_,_,_,hf⟩<;>exact(GL hf).2.2.2.1 rfl
  subst ht;refine⟨[(4,x)],λt=>t=bW,mk _ (.inl ⟨ADx De De,rfl⟩),λr A n c All i r' hr hd=>.bool hd (hpt.tru rfl) (hs.imp id λh=>h.1)⟩
 have ht:typ=ayW:=by rcases hf2 with hf|⟨_,_,_,_,hf⟩<;>exact(GL hf).2.2.2.2.1 rfl
 subst ht;refine⟨[(14,x)],λt=>t=ayW,mk _ (.inr ⟨ADx De De,rfl⟩),λr A n c All i r' hr hd=>.byt hd (AIu h0 (hpt.byt rfl) hpt.len (v14 rfl)) (hs.imp id λh=>h.1)⟩
theorem AJ4{x sig y:ByteArray}{r1 rr:List AW}{k:Nat}{kids:List Ph}(hn:CA x=(sig,true))(ih:M1 T F w0 r1 (.mk k y kids none) rr):M1 T F w0 ((13,x)::r1) (.mk k y kids (some sig)) rr:=by
 intro hp hl hd hdp sg typ hs hf hv;refine⟨λh=>(by cases h),?_⟩;rintro rfl;obtain⟨hsz,hsh⟩:=NY hn;have h1:sig.size≠0:=by have:=hsh.1;omega
 have hpt:=hp (13,x) Sm;have hty:sig=typ:=by
  have:CO (.mk k y kids (some sig)) typ:=hf;replace this:=GL this;rcases this.1 with h|h
  .cases h
  exact Option.some.inj h
 have hf2:CO ((Ph.mk k y kids none).wt sig) typ:=by unfold Ph.wt;simp only;rw[if_neg h1];exact hf
 obtain⟨ts0,S,⟨e1,e2,e3,e4,e5⟩,hh⟩:=(ih (λt ht=>hp t (by simp[ht])) (by simp at hl;omega) hd hdp sig typ (.inr ⟨hty,h1,hsz,hsh⟩) hf2 (by simpa only [NU] using hv)).1 rfl;refine⟨(13,x)::ts0,S,⟨by rw[e1];rfl,⟨λt ht=>?_,?_⟩,⟨13,x,ts0,rfl,Om,Om,Om,Om⟩,e4,e5⟩,λr A n c All i r' hr hdr=>.inr ⟨x,sig,ts0++r',hdr,hn,hpt.typ rfl,hpt.len,?_⟩⟩
 .rcases List.mem_cons.1 ht with rfl|ht
  .exact⟨by show (13:Nat)≠0;omega,by show (13:Nat)≠1;omega,λ_=>by rw[hn]⟩
  exact e2.all t ht
 .obtain⟨l,t,h1,h2⟩:=e2.last
  exact⟨(13,x)::l,t,by rw[h1];rfl,h2⟩
 have:=hh r A n c All (i+1) r' hr (C0 (a:=[(13,x)]) hdr);rw[show i+((13,x)::ts0).length=i+1+ts0.length by simp;omega];exact this
theorem TY{k1 k2:Nat}{x y:ByteArray}{l:List AW}(h:∀t∈l,t.1≠0/\t.1≠1/\(t.1=13->(CA t.2).2=true))(h1:2<=k1/\k1≠13)(h2:2<=k2/\k2≠13):LT ((k1,x)::(l++[(k2,y)])):=by
 refine⟨λt ht=>?_,(k1,x)::l,(k2,y),rfl,h2.2⟩;simp only[List.mem_cons,List.mem_append,List.not_mem_nil,or_false]at ht;rcases ht with rfl|ht|rfl
 .exact⟨by show k1≠0;omega,by show k1≠1;omega,λe=>absurd e h1.2⟩
 .exact h t ht
 exact⟨by show k2≠0;omega,by show k2≠1;omega,λe=>absurd e h2.2⟩
theorem AJ9{x y:ByteArray}{r1 rr:List AW}{p:Ph}(ih:M1 T F w0 r1 p ((10,y)::rr)):M1 T F w0 ((9,x)::r1) (.mk 9 ⟨#[]⟩ [p] none) rr:=by
 refine AE4 λhp hl hd hdp sg typ hs hf hv=>?_;have hf2:=YV hs hf;have ht:typ=vW:=by rcases hf2 with hf|⟨_,_,_,_,hf⟩<;>exact(GL hf).2.2.2.2.2.1 rfl
 subst ht;obtain⟨inner,hfi,hvi⟩:=(T3 hv).2.2.2.1 rfl;have hdd:p.dd<=2:=by simp[Ph.dd,H8]at hd;omega
 have hdd2:p.dp<=30:=by simp[Ph.dp,P8]at hdp;omega
 obtain⟨ts0,S,⟨e1,e2,e3,e4,e5⟩,hh⟩:=(ih (λt ht=>hp t (by simp[ht])) (by simp at hl;omega) hdd hdd2 ⟨#[]⟩ inner (.inl rfl) (by unfold Ph.wt;cases p;exact hfi) hvi).2 rfl;have hS1:SP (λt=>t=vW) vW 8 1:=ADx De De;refine⟨(9,x)::(ts0++[(10,y)]),λt=>t=vW,⟨by rw[e1];simp,TY e2.all De De,⟨9,x,_,rfl,Om,Om,Om,Om⟩,?_,λ_=>hS1⟩,λr A n c All i r' hr hdr=>?_⟩
 .rw[LV De]
  exact hS1.up (by have:=L5 hd;omega) Om
 have d1:All.drop (i+1)=ts0++((10,y)::r'):=by have:=C0 (a:=[(9,x)]) (b:=ts0++((10,y)::r')) (by rw[hdr];simp);exact this
 have d2:=C0 d1;refine .vrt (x:=x) (rest:=ts0++((10,y)::r')) (by rw[hdr];simp) λW hP hG hB=>?_;have:=TH (JF w0) hr hP hG (hh r A n c All (i+1) _ hr d1) d2 (hs.imp id λh=>h.1);rw[show i+((9,x)::(ts0++[(10,y)])).length=i+1+ts0.length+1 by simp;omega];exact this
theorem AEz{sg typ:ByteArray}{kids:List Ph}(hs:AG4 sg typ)(hf:CO ((Ph.mk 5 ⟨#[]⟩ kids none).wt sg) typ):2<=typ.size/\AA typ 0=97/\AA typ 1≠123/\FI kids (typ.extract 1 typ.size)/\(sg≠⟨#[]⟩->sg=typ/\sg.size<=255/\F9 typ=typ/\F9 (typ.extract 1 typ.size)=typ.extract 1 typ.size):=by
 have hg:∃ty,CO (.mk 5 ⟨#[]⟩ kids ty) typ:=by rcases YV hs hf with hf|⟨_,_,_,_,hf⟩<;>exact⟨_,hf⟩
 obtain⟨ty,hg⟩:=hg;replace hg:=GL hg;obtain⟨h1,h2,h3,h4⟩:=hg.2.2.2.2.2.2.1 rfl;refine⟨h1,h2,h3,h4,λhne=>?_⟩;rcases hs with h|⟨rfl,_,h5,h6⟩
 .exact absurd h hne
 exact⟨rfl,h5,IW _ _ Nl h6,IW _ _ Nl (RF h6 h2 (λe=>h3 e.2)).2⟩
theorem ABj{sg typ:ByteArray}{kids:List Ph}(hs:AG4 sg typ)(hf:CO ((Ph.mk 7 ⟨#[]⟩ kids none).wt sg) typ):5<=typ.size/\typ.extract 0 2=NT/\(typ.extract 2 3).size=1/\D1 kids (typ.extract 2 3) (typ.extract 3 (typ.size-1))/\(sg≠⟨#[]⟩->sg=typ/\sg.size<=255/\F9 typ=typ/\F9 (typ.extract 3 (typ.size-1))=typ.extract 3 (typ.size-1)/\sg=D5 (typ.extract 2 3) (typ.extract 3 (typ.size-1))/\AA (typ.extract 2 3) 0<128):=by
 have hg:∃ty,CO (.mk 7 ⟨#[]⟩ kids ty) typ:=by rcases YV hs hf with hf|⟨_,_,_,_,hf⟩<;>exact⟨_,hf⟩
 obtain⟨ty,hg⟩:=hg;replace hg:=GL hg;obtain⟨h1,h2,h3⟩:=hg.2.2.2.2.2.2.2 rfl;refine⟨h1,h2,by simp[ByteArray.size_extract];omega,h3,λhne=>?_⟩;rcases hs with h|⟨rfl,_,h5,h6⟩
 .exact absurd h hne
 have hd2:=(R2 Om).1 h2;have hl:=VQ h6 hd2.1 ⟨Om,hd2.2⟩;exact⟨rfl,h5,IW _ _ Nl h6,IW _ _ Nl (P4 h6 hd2.1 ⟨Om,hd2.2⟩).2,(XV h1 h2 hl.1).symm,hl.2.2⟩
theorem AAd{k:Nat}{x:ByteArray}{kids:List Ph}{typ:ByteArray}(h:NU T F (.mk k x kids none) typ):(k=5->GH T F kids (typ.extract 1 typ.size))/\(k=7->K4 T F kids (typ.extract 2 3) (typ.extract 3 (typ.size-1))):=by exact⟨(T3 h).2.2.2.2.1,(T3 h).2.2.2.2.2⟩
theorem AKm{k:Nat}{x y:ByteArray}{rr:List AW}(hk:k=5\/k=7):M1 T F w0 ((k,x)::(k+1,y)::rr) (.mk k ⟨#[]⟩ [] none) rr:=by
 refine AE4 λhp hl hd hdp sg typ hs hf hv=>?_;have hlt:LT [(k,x),(k+1,y)]:=TY (l:=[]) Sm Om Om;have hhd:GR [(k,x),(k+1,y)]:=⟨k,x,_,rfl,Om,Om,Om,Om⟩;have hB:=L5 hd;rcases hk with rfl|rfl
 .obtain⟨h1,h2,h3,h4,h5⟩:=AEz hs hf
  have hsz:=SF hs;refine⟨[(5,x),(6,y)],DY sg,⟨rfl,hlt,hhd,OK ?_ Om ?_,λe=>Om⟩,λr A n c All i r' hr hdr=>?_⟩
  .by_cases e:sg=⟨#[]⟩
   .exact .inl e
   exact .inr (by rw[(h5 e).2.2.1];exact(h5 e).1)
  .by_cases e:sg=⟨#[]⟩
   .rw[e];exact Nat.zero_le _
   have:=(h5 e).2.1;omega
  have d1:=C0 (a:=[(5,x)]) (b:=(6,y)::r') hdr;exact .arr hdr λW hP hG hB2=>VM (JF w0) hr hP hG d1 hsz
 obtain⟨h1,h2,h3,h4,h5⟩:=ABj hs hf;have d1:∀{All:List AW} {i:Nat} {r':List AW},All.drop i=[(7,x),(8,y)]++r'->All.drop (i+1)=(8,y)::r':=λhdr=>C0 (a:=[(7,x)]) hdr;by_cases e:sg=⟨#[]⟩
 .subst e
  refine⟨[(7,x),(8,y)],P9 (PI (DY ⟨#[]⟩) []) (PN (DY ⟨#[]⟩) []),⟨rfl,hlt,hhd,ZA ?_,λe=>Om⟩,λr A n c All i r' hr hdr=>?_⟩
  .rintro ⟨s,a,b,⟨ha,_⟩,_⟩;exact ha rfl
  refine .dict hdr λW hP hG hB2=>?_;have GR:=d1 hdr;have h0:EOk [] ⟨#[]⟩ ⟨#[]⟩:=λS hS=>absurd hS (List.not_mem_nil);have:=J2 (Ss:=[]) (i':=i+1+1) (JF w0) hr hP hG (.inr ⟨rfl,y,r',GR,rfl⟩) (.inl ⟨rfl,rfl,rfl⟩) (Nat.zero_le _) h0;exact this
 obtain⟨e1,e2,e3,e4,e5,e6⟩:=h5 e;have hvs:(typ.extract 3 (typ.size-1)).size=typ.size-4:=by simp[ByteArray.size_extract];omega
 have hts:typ.size<=255:=by rw[<-e1];exact e2
 refine⟨[(7,x),(8,y)],P9 (PI (DY (typ.extract 2 3)) []) (PN (DY (typ.extract 3 (typ.size-1))) []),⟨rfl,hlt,hhd,?_,λe=>Om⟩,λr A n c All i r' hr hdr=>?_⟩
 .rw[show F9 typ=D5 (typ.extract 2 3) (typ.extract 3 (typ.size-1)) from e3.trans (e1.symm.trans e5)]
  exact(X4 (m1:=1) (m2:=1) (L1:=1) (L2:=251) (OK (.inr rfl) Om Om) (OK (.inr rfl) Om Om)).up (Nat.le_trans (show 1*1<=8 by decide) hB.1) (Nat.le_trans (show 1+251+3<=255 by decide) (Nat.le_add_right _ _))
 refine .dict hdr λW hP hG hB2=>?_;have GR:=d1 hdr;have h0:EOk [] (typ.extract 2 3) (typ.extract 3 (typ.size-1)):=λS hS=>absurd hS (List.not_mem_nil);have:=J2 (Ss:=[]) (i':=i+1+1) (JF w0) hr hP hG (.inr ⟨rfl,y,r',GR,rfl⟩) (.inr ⟨h3,e6,Om,Om,e5,rfl,rfl⟩) (Nat.zero_le _) h0;exact this
theorem AKo{k:Nat}{x:ByteArray}{r1 rr:List AW}{kids:List Ph}(hk:k=5\/k=7)(ih:M2 T F w0 k r1 kids rr):M1 T F w0 ((k,x)::r1) (.mk k ⟨#[]⟩ kids none) rr:=by
 refine AE4 λhp hl hd hdp sg typ hs hf hv=>?_;have hvv:=AAd hv;have hB:=L5 hd;have hl1:r1.length+1<=100000:=by simpa using hl
 have hltc:∀ts0,LT ts0->LT ((k,x)::ts0):=λts0 h=>by
  obtain⟨l,t,h1,h2⟩:=h.last;refine⟨λt ht=>?_,(k,x)::l,t,by rw[h1];rfl,h2⟩;rcases List.mem_cons.1 ht with rfl|ht
  .exact⟨by show k≠0;omega,by show k≠1;omega,λe=>by have:k=13:=e;omega⟩
  exact h.all t ht
 have hhd:∀ts0,GR ((k,x)::ts0):=λts0=>⟨k,x,ts0,rfl,Om,Om,Om,Om⟩;rcases hk with rfl|rfl
 .obtain⟨h1,h2,h3,h4,h5⟩:=AEz hs hf
  have hdd:H8 kids<=2:=by simp[Ph.dd]at hd;omega
  have hdd2:P8 kids<=29:=by simp[Ph.dp]at hdp;omega
  have edd:(Ph.mk 5 ⟨#[]⟩ kids none).dd=H8 kids:=by simp[Ph.dd]
  have edp:(Ph.mk 5 ⟨#[]⟩ kids none).dp=1+P8 kids:=by simp[Ph.dp]
  obtain⟨ts0,Ss,e1,e2,e3,e4,hh⟩:=(ih (λt ht=>hp t (by simp[ht])) Om hdd Om).1 rfl _ h4 (hvv.1 rfl);have hsz:=SF hs;have hBd:=L5 hdd;have hlen:Ss.length<=100000:=by rw[e1]at hl1;simp at hl1;omega
  obtain⟨ee,he1,he2,he3⟩:∃ee,(sg=⟨#[]⟩\/sg=ET ee)/\ee.size<=900/\∀S∈Ss,(∃s,S s)->S ee:=by
   by_cases hne:sg=⟨#[]⟩
   .by_cases hex:∃S∈Ss,∃s,S s
    .obtain⟨S,hS,s,hs⟩:=hex
     have:=(e4 S hS).2.2 _ ((e4 S hS).2.1 ⟨s,hs⟩);exact⟨F9 (typ.extract 1 typ.size),.inl hne,Om,λS hS=>(e4 S hS).2.1⟩
    exact⟨⟨#[]⟩,.inl hne,De,λS hS hs=>absurd ⟨S,hS,hs⟩ hex⟩
   obtain⟨k1,k2,k3,k4⟩:=h5 hne;refine⟨F9 (typ.extract 1 typ.size),.inr ?_,?_,λS hS=>(e4 S hS).2.1⟩
   .rw[k1,k4];exact(UO Om h2).symm
   rw[k4,AU _ _ Om,<-k1];omega
  refine⟨(5,x)::ts0,FP (DY sg) Ss,⟨by rw[e1];rfl,hltc ts0 e2,hhd ts0,?_,λe=>Om⟩,λr A n c All i r' hr hdr=>?_⟩
  .rw[Q2 ⟨h1,h2,h3⟩,edd,edp]
   refine(ABg (L:=255+4*P8 kids) Ss _ (OK ?_ Om ?_) e4).up Nl Om
   .by_cases hne:sg=⟨#[]⟩
    .exact .inl hne
    obtain⟨k1,k2,k3,k4⟩:=h5 hne;exact .inr (by rw[k4,UO Om h2];exact k1)
   by_cases hne:sg=⟨#[]⟩
   .rw[hne];exact Nat.zero_le _
   have:=(h5 hne).2.1;omega
  have d1:=C0 (a:=[(5,x)]) (b:=ts0++r') hdr;refine .arr hdr λW hP hG hB2=>?_;have:=ABy (JF w0) hr hP hG (hh r A n c All (i+1) r' hr d1) he1 he2 hlen λS hS=>⟨(e4 S hS).few Om Om,he3 S hS⟩;rw[show i+((5,x)::ts0).length=i+1+ts0.length by simp;omega];exact this
 obtain⟨h1,h2,h3,h4,h5⟩:=ABj hs hf;have hdd:H8 kids<=1:=by simp[Ph.dd]at hd;omega
 have hdd2:P8 kids<=29:=by simp[Ph.dp]at hdp;omega
 have edd:(Ph.mk 7 ⟨#[]⟩ kids none).dd=1+H8 kids:=by simp[Ph.dd]
 have edp:(Ph.mk 7 ⟨#[]⟩ kids none).dp=1+P8 kids:=by simp[Ph.dp]
 obtain⟨ts0,Ss,e1,e2,e3,e4,hh⟩:=(ih (λt ht=>hp t (by simp[ht])) Om Om Om).2 rfl _ _ h3 h4 (hvv.2 rfl);have hBd:=L5 (show H8 kids<=2 by omega);have hlen:Ss.length<=100000:=by rw[e1]at hl1;simp at hl1;omega
 have hvs:(typ.extract 3 (typ.size-1)).size=typ.size-4:=by simp[ByteArray.size_extract];omega
 have hE:EOk Ss (typ.extract 2 3) (F9 (typ.extract 3 (typ.size-1))):=λS hS=>⟨⟨(e4 S hS).1.few Om Om,(e4 S hS).1.2.1⟩,(e4 S hS).2.few Om Om,(e4 S hS).2.2.1⟩;obtain⟨a1,a2,ha,hs1,hs2⟩:∃a1 a2,((sg=⟨#[]⟩/\a1=⟨#[]⟩/\a2=⟨#[]⟩)\/((typ.extract 2 3).size=1/\AA (typ.extract 2 3) 0<128/\1<=(F9 (typ.extract 3 (typ.size-1))).size/\(F9 (typ.extract 3 (typ.size-1))).size<=900/\sg=D5 (typ.extract 2 3) (F9 (typ.extract 3 (typ.size-1)))/\a1=typ.extract 2 3/\a2=F9 (typ.extract 3 (typ.size-1))))/\SP (DY a1) (typ.extract 2 3) 8 1/\SP (DY a2) (F9 (typ.extract 3 (typ.size-1))) (Bd (H8 kids)) (255+4*P8 kids):=by
  by_cases hne:sg=⟨#[]⟩
  .exact⟨⟨#[]⟩,⟨#[]⟩,.inl ⟨hne,rfl,rfl⟩,OK (.inl rfl) Om De,OK (.inl rfl) Om (Nat.zero_le _)⟩
  obtain⟨k1,k2,k3,k4,k5,k6⟩:=h5 hne;have hts:typ.size<=255:=by rw[<-k1];exact k2
  rw[k4];exact⟨_,_,.inr ⟨h3,k6,Om,Om,k5,rfl,rfl⟩,OK (.inr rfl) Om Om,OK (.inr rfl) Om Om⟩
 refine⟨(7,x)::ts0,P9 (PI (DY a1) Ss) (PN (DY a2) Ss),⟨by rw[e1];rfl,hltc ts0 e2,hhd ts0,?_,λe=>Om⟩,λr A n c All i r' hr hdr=>?_⟩
 .rw[RH ⟨h1,h2⟩,edd,edp]
  refine(X4 (AB4 Ss _ hs1 λS hS=>(e4 S hS).1) (ABf Ss _ hs2 λS hS=>(e4 S hS).2)).up ?_ Om;rw[show 1+H8 kids=H8 kids+1 by omega];exact Nat.mul_le_mul_right _ Om
 have d1:=C0 (a:=[(7,x)]) (b:=ts0++r') hdr;refine .dict hdr λW hP hG hB2=>?_;have:=J2 (JF w0) hr hP hG (.inl (hh r A n c All (i+1) r' hr d1)) ha hlen hE;rw[show i+((7,x)::ts0).length=i+1+ts0.length by simp;omega];exact this
theorem SZ{ts0 r':List AW}{All:List AW}{i:Nat}(h:GR ts0)(hd:All.drop i=ts0++r'):∃k x l,All.drop i=(k,x)::l/\2<=k/\k<=14/\k≠6/\k≠8:=by obtain⟨k,x,l,rfl,h1,h2,h3,h4⟩:=h;exact⟨k,x,l++r',hd,h1,h2,h3,h4⟩
theorem OI{a b:List AW}{k:Nat}{y:ByteArray}(h:LT a)(hk:2<=k/\k≠13)(g:LT b):LT (a++(k,y)::b):=by
 obtain⟨l,t,h1,h2⟩:=g.last;refine⟨λt ht=>?_,a++(k,y)::l,t,by rw[h1];simp,h2⟩;simp only[List.mem_append,List.mem_cons]at ht;rcases ht with ht|rfl|ht
 .exact h.all t ht
 .exact⟨by show k≠0;omega,by show k≠1;omega,λe=>absurd e hk.2⟩
 exact g.all t ht
theorem YK{a:List AW}{k:Nat}{y:ByteArray}(h:LT a)(hk:2<=k/\k≠13):LT (a++[(k,y)]):=
 ⟨λt ht=>by
  simp only[List.mem_append,List.mem_cons,List.not_mem_nil,or_false]at ht;rcases ht with ht|rfl
  .exact h.all t ht
  exact⟨by show k≠0;omega,by show k≠1;omega,λe=>absurd e hk.2⟩,a,_,rfl,hk.2⟩
theorem ANg(p:Ph):p.wt ⟨#[]⟩=p:=by cases p;rfl
theorem AA3{ts rr:List AW}{p:Ph}(ih:M1 T F w0 ts p rr)(hp:∀t∈ts,PT t)(hl:ts.length<=100000)(hd:p.dd<=2)(hdp:p.dp<=30){typ:ByteArray}(hf:CO p typ)(hv:NU T F p typ) :
 ∃ts0 S,ts=ts0++rr/\LT ts0/\GR ts0/\SP S (F9 typ) (Bd p.dd) (255+4*p.dp)/\(typ.size=1->SP S typ 8 1)/\∀(r:Nat) (A:Option Addr) (n c:Nat) All i r',w0.heap.size<=r->All.drop i=ts0++r'->KP (GB w0) w0.heap.size r A n c All i (i+ts0.length) S:=by
 obtain⟨ts0,S,⟨e1,e2,e3,e4,e5⟩,hh⟩:=(ih hp hl hd hdp ⟨#[]⟩ typ (.inl rfl) (by rw[ANg];exact hf) hv).2 rfl
 exact⟨ts0,S,e1,e2,e3,e4,e5,hh⟩
theorem AGo{y:ByteArray}{ts rr:List AW}{p:Ph}(ih:M1 T F w0 ts p ((6,y)::rr)):M2 T F w0 5 ts [p] rr:=by
 intro hp hl hd hdp;refine⟨λ_ typ hf hv=>?_,Om⟩;simp only[H8]at hd;simp only[P8]at hdp;simp only[FI]at hf;simp only[GH]at hv;obtain⟨ts0,S,e1,e2,e3,e4,e5,hh⟩:=AA3 ih hp hl Om Om hf.1 hv.1;refine⟨ts0++[(6,y)],[S],by rw[e1];simp,YK e2 De,by simp,λS' hS=>?_,λr A n c All i r' hr hdr=>?_⟩
 .rw[List.mem_singleton.1 hS]
  exact e4.up (JZ (by simp[H8]) (by simp[H8];omega)) (by simp[P8])
 have hdr':All.drop i=ts0++((6,y)::r'):=by rw[hdr];simp
 have d2:=C0 hdr';rw[show i+(ts0++[(6,y)]:List AW).length=i+ts0.length+1 by simp;omega];exact .one (hh r A n c All i _ hr hdr') (SZ e3 hdr') d2
theorem ACo{y:ByteArray}{ts r1 rr:List AW}{p:Ph}{kids:List Ph}(ih:M1 T F w0 ts p ((11,y)::r1))(ih2:M2 T F w0 5 r1 kids rr):M2 T F w0 5 ts (p::kids) rr:=by
 intro hp hl hd hdp;refine⟨λ_ typ hf hv=>?_,Om⟩;have ed:H8 (p::kids)=max p.dd (H8 kids):=rfl;have ep:P8 (p::kids)=max p.dp (P8 kids):=rfl;simp only[FI]at hf;simp only[GH]at hv;obtain⟨ts0,S,e1,e2,e3,e4,e5,hh⟩:=AA3 ih hp hl Om Om hf.1 hv.1;have hl2:ts0.length+(r1.length+1)<=100000:=by rw[e1]at hl;simpa using hl
 obtain⟨ts1,Ss,f1,f2,f3,f4,hh2⟩:=(ih2 (λt ht=>hp t (by rw[e1];simp[ht])) Om Om Om).1 rfl typ hf.2 hv.2;refine⟨ts0++(11,y)::ts1,S::Ss,by rw[e1,f1];simp,OI e2 De f2,by simp;omega,λS' hS=>?_,λr A n c All i r' hr hdr=>?_⟩
 .rcases List.mem_cons.1 hS with rfl|hS
  .exact e4.up (JZ Om Om) Om
  exact(f4 S' hS).up (JZ Om Om) Om
 have hdr':All.drop i=ts0++((11,y)::(ts1++r')):=by rw[hdr];simp
 have d2:=C0 hdr';have d3:=C0 (a:=[(11,y)]) (b:=ts1++r') d2;rw[show i+(ts0++(11,y)::ts1:List AW).length=i+ts0.length+1+ts1.length by simp;omega];exact .cons (hh r A n c All i _ hr hdr') (SZ e3 hdr') d2 (hh2 r A n c All _ r' hr d3)
theorem AF8{y z:ByteArray}{ts r1 rr:List AW}{p q:Ph}(ih:M1 T F w0 ts p ((12,y)::r1))(ih2:M1 T F w0 r1 q ((8,z)::rr)):M2 T F w0 7 ts [p,q] rr:=by
 intro hp hl hd hdp;refine⟨Om,λ_ a b ha hf hv=>?_⟩;have ed:H8 [p,q]=max p.dd (max q.dd 0):=rfl;have ep:P8 [p,q]=max p.dp (max q.dp 0):=rfl;simp only[D1]at hf;simp only[K4]at hv;obtain⟨ts0,S,e1,e2,e3,e4,e5,hh⟩:=AA3 ih hp hl Om Om hf.1 hv.1;have hl2:ts0.length+(r1.length+1)<=100000:=by rw[e1]at hl;simpa using hl
 obtain⟨ts1,S2,f1,f2,f3,f4,f5,hh2⟩:=AA3 ih2 (λt ht=>hp t (by rw[e1];simp[ht])) Om Om Om hf.2.1 hv.2.1;refine⟨ts0++(12,y)::(ts1++[(8,z)]),[(S,S2)],by rw[e1,f1];simp,OI e2 De (YK f2 De),by simp;omega,λS' hS=>?_,λr A n c All i r' hr hdr=>?_⟩
 .rw[List.mem_singleton.1 hS]
  exact⟨e5 ha,f4.up (JZ Om Om) Om⟩
 have hdr':All.drop i=ts0++((12,y)::(ts1++((8,z)::r'))):=by rw[hdr];simp
 have d2:=C0 hdr';have d3:=C0 (a:=[(12,y)]) (b:=ts1++((8,z)::r')) d2;have d4:=C0 d3;rw[show i+(ts0++(12,y)::(ts1++[(8,z)]):List AW).length=i+ts0.length+1+ts1.length+1 by simp;omega];exact .one (hh r A n c All i _ hr hdr') (SZ e3 hdr') d2 (hh2 r A n c All _ _ hr d3) (SZ f3 d3) d4
theorem ADw{y z:ByteArray}{ts r1 r2 rr:List AW}{p q:Ph}{kids:List Ph}(ih:M1 T F w0 ts p ((12,y)::r1))(ih2:M1 T F w0 r1 q ((11,z)::r2))(ih3:M2 T F w0 7 r2 kids rr):M2 T F w0 7 ts (p::q::kids) rr:=by
 intro hp hl hd hdp;refine⟨Om,λ_ a b ha hf hv=>?_⟩;have ed:H8 (p::q::kids)=max p.dd (max q.dd (H8 kids)):=rfl;have ep:P8 (p::q::kids)=max p.dp (max q.dp (P8 kids)):=rfl;simp only[D1]at hf;simp only[K4]at hv;obtain⟨ts0,S,e1,e2,e3,e4,e5,hh⟩:=AA3 ih hp hl Om Om hf.1 hv.1;have hl2:ts0.length+(r1.length+1)<=100000:=by rw[e1]at hl;simpa using hl
 obtain⟨ts1,S2,f1,f2,f3,f4,f5,hh2⟩:=AA3 ih2 (λt ht=>hp t (by rw[e1];simp[ht])) Om Om Om hf.2.1 hv.2.1;have hl3:ts1.length+(r2.length+1)<=100000:=by have h9:r1.length<=100000:=Om;rw[f1]at h9;simpa using h9
 obtain⟨ts2,Ss,g1,g2,g3,g4,hh3⟩:=(ih3 (λt ht=>hp t (by rw[e1,f1];simp[ht])) Om Om Om).2 rfl a b ha hf.2.2 hv.2.2;refine⟨ts0++(12,y)::(ts1++(11,z)::ts2),(S,S2)::Ss,by rw[e1,f1,g1];simp,OI e2 De (OI f2 De g2),by simp;omega,λS' hS=>?_,λr A n c All i r' hr hdr=>?_⟩
 .rcases List.mem_cons.1 hS with rfl|hS
  .exact⟨e5 ha,f4.up (JZ Om Om) Om⟩
  exact⟨(g4 S' hS).1,(g4 S' hS).2.up (JZ Om Om) Om⟩
 have hdr':All.drop i=ts0++((12,y)::(ts1++((11,z)::(ts2++r')))):=by rw[hdr];simp
 have d2:=C0 hdr';have d3:=C0 (a:=[(12,y)]) (b:=ts1++((11,z)::(ts2++r'))) d2;have d4:=C0 d3;have d5:=C0 (a:=[(11,z)]) (b:=ts2++r') d4;rw[show i+(ts0++(12,y)::(ts1++(11,z)::ts2):List AW).length=i+ts0.length+1+ts1.length+1+ts2.length by simp;omega];exact .cons (hh r A n c All i _ hr hdr') (SZ e3 hdr') d2 (hh2 r A n c All _ _ hr d3) (SZ f3 d3) d4 (hh3 r A n c All _ r' hr d5)
theorem U9(h0:W0 T F N w0){b:Bool}{ts:List AW}{p:Ph}{rr:List AW}(h:D7 b ts p rr):M1 T F w0 ts p rr:=by
 induction h using D7.rec (motive_2:=λk ts l rr _=>M2 T F w0 k ts l rr) with
 |leaf hk=>exact AGv h0 hk
 |typ hn h ih=>exact AJ4 hn ih
 |vrt h ih=>exact AJ9 ih
 |nil hk=>exact AKm hk
 |lst hk h ih=>exact AKo hk ih
 |one5 h ih=>exact AGo ih
 |cons5 h h2 ih ih2=>exact ACo ih ih2
 |one7 h h2 ih ih2=>exact AF8 ih ih2
 |cons7 h h2 h3 ih ih2 ih3=>exact ADw ih ih2 ih3
end
end
theorem YJ{x:ByteArray}(h:EO x):∀i,i<x.size->AA x i<128:=by
 intro i hi;rcases h with h|⟨i0,i1,i2,neg,eneg,h⟩
 .by_cases h0:i=0
  .subst h0;rw[h.zero];decide
  by_cases h1:i=1
  .subst h1;rw[h.x];decide
  have:=h.digit i Om hi;omega
 have hsg:=h.sign;have hso:=h.some;have hf:=h.fits;by_cases hm:i0<=i
 .by_cases hm1:i<i1
  .have:=h.mant i hm hm1;omega
  rcases h.tail with ht|⟨t1,t2,t3,t4⟩
  .omega
  by_cases e:i=i1
  .subst e;omega
  by_cases e2:i<i2
  .have:i=i1+1:=Om
   subst this;omega
  have:=t4 i Om hi;omega
 have:i=0:=Om;subst this;omega
theorem AMq{x:ByteArray}{i:Nat}(h:x.size<=i):AA x i=0:=by unfold AA;rw[List.getD_eq_getElem?_getD,List.getElem?_eq_none (show x.data.toList.length<=i from h)];rfl
theorem MC{s:ByteArray}{n i:Nat}{v:Int}(hv:v≠0)(hn:n<=s.size)(h:AA (s.extract 0 n) i=v):i<n/\AA s i=v:=by
 by_cases hi:i<n
 .rw[BU s n i hi]at h;exact⟨hi,h⟩
 rw[AMq (by rw[D6 hn];omega)]at h;exact absurd h.symm hv
theorem ALa{s:ByteArray}{n:Nat}(hn:n<=s.size)(h:CT s=(n,true)):ADa (s.extract 0 n):=by
 have hz:=D6 hn;rw[FX]at h;refine⟨λh0 h1=>?_,λh0 h1=>?_⟩
 .obtain⟨k0,g0⟩:=MC De hn h0
  obtain⟨k1,g1⟩:=MC De hn h1;have hs:DL s=false:=by unfold DL;rw[g0];rfl
  have hi:DV s=0:=by unfold DV;rw[hs];rfl
  rw[hi,if_pos ⟨Om,g0⟩,hs]at h;unfold ntZ at h;rw[if_pos ⟨Om,g1⟩]at h;simp only[Prod.mk.injEq,Bool.not_false,Bool.true_and,Bool.or_eq_true,Bool.and_eq_true,decide_eq_true_eq]at h;obtain⟨h2,h3⟩:=h;rw[hz];by_cases e:n=3
  .exact .inl e
  right;have e2:(0+1+1:Nat)=2:=rfl;rw[e2]at h2 h3;rcases h3 with h3|⟨h3,h4⟩
  .omega
  rw[BU s n 2 Om];exact h4
 have g0:AA s 0=43\/AA s 0=45:=by
  rcases h0 with h0|h0
  .exact .inl (MC De hn h0).2
  exact .inr (MC De hn h0).2
 obtain⟨k1,g1⟩:=MC De hn h1;have hs:DL s=true:=by unfold DL;rcases g0 with e|e<;>rw[e]<;>rfl
 have hi:DV s=1:=by unfold DV;rw[hs];rfl
 rw[hi,if_pos ⟨Om,g1⟩,hs]at h;unfold ntZ at h;rw[hz];split at h
 .simp at h
 split at h
 .rename_i hd
  simp only[Prod.mk.injEq,Bool.and_eq_true,decide_eq_true_eq]at h;obtain⟨h2,h3,_⟩:=h;have e2:(1+1:Nat)=2:=rfl;rw[e2]at h2 h3 hd;right;rw[BU s n 2 Om];exact hd.2
 simp only[Prod.mk.injEq,Bool.and_eq_true,Bool.or_eq_true,decide_eq_true_eq,Bool.not_true,Bool.false_eq_true,or_false]at h;left;omega
theorem OZ{s:ByteArray}{q:Int}{k n:Nat}(h:CV s q k=some n):AA s (n-1)=q:=by
 by_cases hk:k<s.size
 .by_cases h1:AA s k=92
  .rw[EH hk h1]at h
   exact OZ h
  by_cases h2:AA s k=q
  .rw[FO hk h1 h2]at h
   cases h
   exact h2
  rw[DU hk h1 h2]at h;exact OZ h
 rw[GM hk]at h;cases h
 termination_by s.size-k
theorem SH{s:ByteArray}{q:Int}{k n:Nat}(h:CV s q k=some n):CV (s.extract 0 n) q k=some n:=by
 have hl:=IJ h;have hz:=D6 hl.2;by_cases hk:k<s.size
 .by_cases h1:AA s k=92
  .rw[EH hk h1]at h
   rw[EH Om (by rw[BU s n k hl.1];exact h1)];exact SH h
  by_cases h2:AA s k=q
  .rw[FO hk h1 h2]at h
   rw[FO Om (by rw[BU s n k hl.1];exact h1) (by rw[BU s n k hl.1];exact h2)];exact h
  rw[DU hk h1 h2]at h;rw[DU Om (by rw[BU s n k hl.1];exact h1) (by rw[BU s n k hl.1];exact h2)];exact SH h
 rw[GM hk]at h;cases h
 termination_by s.size-k
theorem AMe{s:ByteArray}{n:Nat}(h1:1<=n)(hn:n<=s.size):(s.extract 0 n).extract 1 ((s.extract 0 n).size-1)=(s.extract 0 (n-1)).extract 1 (s.extract 0 (n-1)).size:=by apply B8;simp only[B6,List.drop_zero];rw[D6 hn,D6 (show n-1<=s.size by omega),List.take_take,List.take_take,Nat.min_eq_left Om,Nat.min_self]
theorem AQe{s:ByteArray}{n k:Nat}(hs:s.size<=100000)(hu:EW s 0=true)(hp:0<s.size)(h:TV s n k)(h1:1<=n)(hn:n<=s.size):PT (k,s.extract 0 n)/\AA s (n-1)<128:=by
 have hz:=D6 hn;have hlen:(s.extract 0 n).size<=100000:=Om
 cases h with
 |sign i hi h=>
  have:=AAa h;have hall:∀k,k<8->FZ.getD k 0<128:=De;refine⟨⟨hlen,λe=>?_,λe=>?_,λe=>?_,λe=>?_,λe=>?_⟩,by have:=hall i hi;show AA s 0<128;omega⟩
  all_goals (have e':5+i=_:=e;omega)
 |num _ hx h0 h _ _=>
  have hT:=W9 hs hp h;have ha:=YJ hT;refine⟨⟨hlen,λ_=>⟨hT,ALa hn h,ha⟩,λe=>?_,λe=>?_,λe=>?_,λe=>?_⟩,?_⟩
  all_goals first|(have e':(2:Nat)=_:=e;omega)|skip
  have:=ha (n-1) Om;rw[BU s n _ Om]at this;exact this
 |str _ hx h0 h2 h=>
  have hq:AA s 0<128:=by rcases h2 with e|e<;>omega
  have hlast:=OZ h;have hl:=IJ h;have hu1:=KI hu hp hq;refine⟨⟨hlen,λe=>?_,λ_=>⟨by show 2<=(s.extract 0 n).size;omega,?_⟩,λe=>?_,λe=>?_,λe=>?_⟩,Om⟩
  all_goals first|(have e':(3:Nat)=_:=e;omega)|skip
  show EW ((s.extract 0 n).extract 1 ((s.extract 0 n).size-1)) 0=true;rw[AMe h1 hn,PB _ _ (by rw[D6 Om];omega) _ _ Nl];exact XN Om (λ_=>by omega) _ _ Nl Om hu1
 |byt _ hx h0 h2 h3 h=>
  have hlast:=OZ h;have hl:=IJ h;have h13:=h3.2.2;have e1:AA (s.extract 0 n) 1=AA s 1:=BU s n 1 Om;refine⟨⟨hlen,λe=>?_,λe=>?_,λe=>?_,λ_=>⟨by show 3<=(s.extract 0 n).size;omega,?_,?_⟩,λe=>?_⟩,Om⟩
  all_goals first|(have e':(14:Nat)=_:=e;omega)|skip
  .show AA (s.extract 0 n) 1=34\/AA (s.extract 0 n) 1=39
   rw[e1];exact h13
  show CV (s.extract 0 n) (AA (s.extract 0 n) 1) 2=some (s.extract 0 n).size;rw[e1,hz];exact SH h
 |tru hx h0 h2 h3 h4 h=>
  refine⟨⟨hlen,λe=>?_,λe=>?_,λ_=>.inl h4.2.2,λe=>?_,λe=>?_⟩,?_⟩
  all_goals first|(have e':(4:Nat)=_:=e;omega)|skip
  have:=BU s 4 3 Om;rw[h4.2.2]at this;show AA s 3<128;rw[<-this];decide
 |fal hx h0 h2 h3 h4 h5 h=>
  refine⟨⟨hlen,λe=>?_,λe=>?_,λ_=>.inr h5.2.2,λe=>?_,λe=>?_⟩,?_⟩
  all_goals first|(have e':(4:Nat)=_:=e;omega)|skip
  have:=BU s 5 4 Om;rw[h5.2.2]at this;show AA s 4<128;rw[<-this];decide
 |word _ hx h0 h2 h3 h4 h5 h hw=>
  refine⟨⟨hlen,λe=>?_,λe=>?_,λe=>?_,λe=>?_,λ_=>by show 1<=(s.extract 0 n).size;omega⟩,?_⟩
  all_goals first|(have e':(13:Nat)=_:=e;omega)|skip
  exact((U5 (Nat.zero_le _) h).2.2.1 (n-1) (Nat.zero_le _) Om).1
theorem AI4(k:Nat)(hk:k=0\/k=1):PT (k,⟨#[]⟩):=by
 refine⟨Nat.zero_le _,λe=>?_,λe=>?_,λe=>?_,λe=>?_,λe=>?_⟩
 all_goals (have e':k=_:=e;omega)
theorem ZQ:∀(N:Nat) (s:ByteArray),s.size<=N->s.size<=100000->EW s 0=true->∀ts,BO s=some ts->ts.length<=s.size+1/\∃l k,ts=l++[(k,⟨#[]⟩)]/\(k=0\/k=1)/\∀t∈l,PT t/\t.1≠0/\t.1≠1
 |N,s,hN,hs,hu,ts,h=>by
  by_cases h0:s.size=0
  .rw[GZ h0]at h
   cases h
   exact⟨by simp,[],0,rfl,.inl rfl,by simp⟩
  cases N with
  |zero=>omega
  |succ N=>
   cases hb:AX (AA s 0) with
   |true=>
    rw[F2 h0 hb]at h;have hbl:AA s 0<128:=by unfold AX at hb;simp at hb;omega
    have hz:=AU s 1 Om;obtain⟨h2,h3⟩:=ZQ N _ Om Om (by rw[PB s 1 Om _ 0 Nl];exact KI hu Om hbl) ts h;exact⟨Om,h3⟩
   |false=>
    cases h1:(B3 s).2.2 with
    |false=>rw[KT h0 hb h1]at h;cases h
    |true=>
     by_cases h2:(B3 s).2.1=1
     .rw[L9 h0 hb h1 h2]at h
      cases h
      exact⟨by simp,[],1,rfl,.inr rfl,by simp⟩
     have hl:=ML Om hb h1 h2;rw[GW h0 hb h1 h2 ⟨hl.1,hl.2.1⟩]at h;have hok:=AEf hs Om hb h1 h2;obtain⟨hpt,hlast⟩:=AQe hs hu Om (ABe h1 h2) hl.1 hl.2.1
     cases ht:BO (s.extract (B3 s).1 s.size) with
     |none=>rw[ht]at h;cases h
     |some l2=>
      rw[ht]at h;simp only[Option.map_some,Option.some.injEq]at h;subst h;have hz:=AU s _ hl.2.1;have hu2:EW (s.extract (B3 s).1 s.size) 0=true:=by rw[PB s _ hl.2.1 _ 0 Nl,Nat.add_zero];have:=KI (Y8 _ 0 Nl hu ((B3 s).1-1) (Nat.zero_le _) Om hlast) Om hlast;rw[show (B3 s).1-1+1=(B3 s).1 by omega]at this;exact this
      obtain⟨g1,l,k,g2,g3,g4⟩:=ZQ N _ Om Om hu2 l2 ht;refine⟨by simp;omega,((B3 s).2.1,s.extract 0 (B3 s).1)::l,k,by rw[g2];rfl,g3,λt hm=>?_⟩;rcases List.mem_cons.1 hm with rfl|hm
      .exact⟨hpt,hok.2.2,h2⟩
      exact g4 t hm
