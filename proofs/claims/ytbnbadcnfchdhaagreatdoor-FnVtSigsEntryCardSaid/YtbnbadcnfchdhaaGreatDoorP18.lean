/- Lemmas for FnVtSigsEntry; no conditions. -/
import Derived.Test.YtbnbadcnfchdhaaGreatDoorP17
set_option maxRecDepth 100000
set_option maxHeartbeats 16000000
set_option linter.all false
namespace Go.Proofs.YtbnbadcnfchdhaaGreatDoor
open Go.RowKit
def AI5(P:List ByteArray->Prop)(w:World)(en:Ending)(w':World):Prop:=
 ∃(A:Option Addr) (n c:Nat) (zs:List ByteArray),en=.returned (.slice A n c)/\n=zs.length/\P zs/\w'.ownsRow w.heap.size 9 1 (.slice A n c) n (AQ zs)/\Below w.heap.size w w'
theorem UA{base:Nat}{W:World}(xs:List ByteArray)(arr:Array Value)(harr:arr.toList=AQ xs)(hb:base<=W.heap.size)(hl:xs.length<=1000) :
 (W.alloc (.cells arr 9)).ownsRow base 9 1 (.slice (some ⟨W.heap.size,0,none⟩) xs.length xs.length) xs.length (AQ xs):=by
 have h1:(AQ xs).length=xs.length:=by simp[AQ]
 have h2:arr.size=xs.length:=by rw[<-h1,<-harr];simp
 refine⟨by rw[h1];omega,.inr ⟨_,_,arr,rfl,hb,heap_alloc_new W _,Nl,by unfold maxLen;omega,Om,?_⟩⟩
 rw[harr,List.take_of_length_le Om]
theorem KZ{P:List ByteArray->Prop}{w W:World}{g m:Nat}(xs:List ByteArray)(arr:Array Value)(harr:arr.toList=AQ xs)(hg:g=W.heap.size)(hm:m=xs.length)(hb:Below w.heap.size w W)(hP:P xs)(hl:xs.length<=1000) :
 AI5 P w (.returned (.slice (some ⟨g,0,none⟩) m m)) (W.alloc (.cells arr 9)):=by
 subst hg hm
 exact⟨_,_,_,xs,rfl,rfl,hP,UA xs arr harr hb.size hl,hb.alloc hb.size _⟩
theorem GP:∀(l:List Ph),l.length<=K8 l
 |[]=>by simp
 |p::l=>by simp only[K8,List.length_cons];have:=GP l;have:=p.sz_pos;omega
def tyP(p:Ph)(zs:List ByteArray):Prop:=
 zs.length<=Bd p.dd/\(∀z,z∈zs->z.size<=Lm p.sz p.dd)/\(p.ty≠none\/p.k=4\/p.k=14\/p.k=9->zs≠[])/\(p.ty=none->(p.k=2\/p.k=3\/p.k=4\/p.k=14\/p.k=9\/p.k=5)\/zs=[]\/1<p.kids.length)
def TyH(N:Nat):Prop:=∀(p:Ph),p.sz<=N->p.sz<=5000->p.dd<=2->p.good->∀(w:World) (k:Nat) (x:ByteArray) (A:Option Addr) (n c:Nat) (b:Bool) (t:ByteArray),PhAt w (λ_=>True) (NX k x A n c b t) p->
 Calls Tryz.prog 38 #[.agg #[.int .i64 k,.string x,.slice A n c,.bool b,.string t]] w (AI5 (tyP p) w)
def APw(kids:List Ph)(a:Nat)(zs:List ByteArray):Prop:=zs.length<=Bd (H8 kids)/\∀z,z∈zs->∃h:a<kids.length,z.size<=Lm kids[a].sz kids[a].dd
theorem QO{N:Nat}(ih:TyH N){w:World}{A:Option Addr}{n c:Nat}{kids:List Ph}{rows:Nat->List Value}(hsz:K8 kids<=N)(h5:K8 kids<=5000)(hdd:H8 kids<=2)(hg:FB kids)(hn:n=kids.length)
 (hrow:w.ownsRow 0 37 5 (.slice A n c) n ((List.range n).flatMap rows)) (hkid:∀(i:Nat) (h:i<kids.length),PhAt w (λ_=>True) (rows i) kids[i]) (a s:Nat) (ha:a<=1) (hs1:1<=s) (hs2:s<=2) :
 Calls Tryz.prog 61 #[.slice A n c,.int .i64 a,.int .i64 s] w (AI5 (APw kids a) w):=by
 have hn5:n<=5000:=by have:=GP kids;omega
 have HN:=Hd hn
 have HRow:=Hd hrow
 have HK:=Hd hkid
 have HIH:=Hd ih
 have HS:=Hd hsz
 have HS5:=Hd h5
 have HD:=Hd hdd
 have HG:=Hd hg
 clear hn hrow hkid ih hsz h5 hdd hg
 go_enter Tryz.func61,Tryz.ntmps61
 go_wp2_with fail
 go_loopw [7,8] (λv7 v8 wr=>∃(C:Option Addr) (q e k:Nat) (zs:List ByteArray),v7=.slice C q e/\v8=.int .i64 k/\a<=k/\k<=n+2/\Hid (q=zs.length)/\Hid (APw kids a zs)/\wr.ownsRow w.heap.size 9 1 (.slice C q e) q (AQ zs)/\Below w.heap.size w wr) (λ_ v _=>n+2-(intOf v).toNat)
 case atStart=>exact⟨none,0,0,a,[],rfl,rfl,Nl,Om,rfl,⟨Nat.zero_le _,by simp⟩,⟨rfl,.inl ⟨rfl,rfl⟩⟩,Bl⟩
 obtain⟨C,q,e,k,zs,rfl,rfl,hak,hkn,HQ,HP,hown,hbel⟩:=hrel
 by_cases hlt:(k:Int)<(n:Int)
 .have hkl:k<kids.length:=by have:=HN.out;omega
  have hrow1:=AD HRow.out hbel;obtain⟨A',c',he,hA⟩:=AF hrow1;simp only[Value.slice.injEq]at he;obtain⟨rfl,_,rfl⟩:=he;obtain⟨g,rfl,hgl⟩:=hA Om;obtain⟨k1,x1,A1,n1,cc1,b1,t1,hat1,c0,c1,c2,c3,c4⟩:=PhAt.kid HN.out hrow1 (λi h=>(HK.out i h).keep hbel) k hkl;have hsz1:=CW kids k hkl;have hdd1:=DF kids k hkl;have HC:=Hd (λ(W:World) (hW:Below wr.heap.size wr W)=>HIH.out kids[k] (by have:=HS.out;omega) (by have:=HS5.out;omega) (by have:=HD.out;omega) (BD kids k hkl HG.out) W k1 x1 A1 n1 cc1 b1 t1 (hat1.keep hW));have HDD:=Hd hdd1;have hbs:=hbel.size;have HOW:=Hd hown;clear hrow1 hat1 hA hsz1 hdd1 hown;by_cases hka:k=a
  .have q1:((k:Int)==(a:Int))=true:=by rw[beq_iff_eq];omega
   have HKA:=Hd hka;clear hka;go_wp2_with (go_at_call 38;refine(HC.out _ (by first|exact Bl|exact Bl.drew)).mono ?_;rintro e w' ⟨A2,n2,c2,ys,rfl,hn2,hp2,hown2,hb2⟩;have HN2:=Hd hn2;have HP2:=Hd hp2;clear hn2 hp2);go_roundw
   case rel=>refine⟨A2,n2,c2,k+s,ys,rfl,by go_num,Om,Om,HN2.out,?_,BF hown2 hbs,hbel.trans (hb2.mono hbs)⟩;have h1:=HP2.out;refine⟨Nat.le_trans h1.1 (JZ HDD.out HD.out),λz hz=>?_⟩;have hk2:=h1.2.1 z hz;have he:=HKA.out;subst he;exact⟨hkl,hk2⟩
   simp[intOf];omega
  have q1:((k:Int)==(a:Int))=false:=Bq;clear hka;go_wp2_with (first|(go_at_call 38;refine(HC.out _ (by first|exact Bl|exact Bl.drew)).mono ?_;rintro e w2 ⟨A2,n2,c2,ys,rfl,hn2,hp2,hown2,hb2⟩;have HN2:=Hd hn2;have HP2:=Hd hp2;have HOWN2:=Hd hown2;clear hn2 hp2 hown2)|(go_at_call 40;refine(MU (xs:=zs) (ys:=ys) HQ.out HN2.out (by have:=HQ.out;have:=HP.out.1;have:=(L5 HD.out).2;omega) (by have:=HN2.out;have:=HP2.out.1;have:=JZ HDD.out HD.out;have:=(L5 HD.out).2;omega) (AD (BF (AD HOW.out hb2) (Nat.zero_le _)) (by first|exact Bl|exact Bl.drew)) (AD (BF HOWN2.out (Nat.zero_le _)) (by first|exact Bl|exact Bl.drew))).mono ?_;rintro e w3 ⟨A3,n3,c3,us,rfl,hle3,hn3,hsub3,hown3,hb3⟩;have HN3:=Hd hn3;have HLE3:=Hd hle3;have HSUB:=Hd hsub3;clear hn3 hle3 hsub3));have hbs2:=hb2.size;go_roundw
  case rel=>refine⟨A3,n3,c3,k+s,us,rfl,by go_num,Om,Om,HN3.out,?_,BF hown3 Om,(hbel.trans (hb2.mono hbs)).trans (hb3.mono Om)⟩;have h1:=HP.out;exact⟨by have:=HLE3.out;have:=HN3.out;have:=h1.1;omega,λz hz=>h1.2 z (HSUB.out z hz)⟩
  simp[intOf];omega
 go_wp2_with fail
 go_ret
 exact⟨C,q,e,zs,rfl,HQ.out,HP.out,hown,hbel⟩
theorem AC2(N:Nat)(ih:TyH N):TyH (N+1):=by
 intro p hp hp5 hpd hgood w k x A n c b t hat;have HFIT:=Hd (λ(W:World) (hW:Below w.heap.size w W) (sig:ByteArray) (hs:sig.size<=100000)=>NH _ p Nl W k x A n c b t sig (M4 p hgood) hs (hat.keep hW));generalize hTP:tyP p=TP at *
 cases hat with
 |mk k x A n c kids ty rows hn hrow hP hA hkid=>
 have hsz:K8 kids<=N:=by simp[Ph.sz]at hp;omega
 have hs5:K8 kids<=5000:=by simp[Ph.sz]at hp5;omega
 have hddk:H8 kids<=2:=by simp only[Ph.dd]at hpd;omega
 have hgk:FB kids:=by simp only[Ph.good]at hgood;exact hgood.2.2
 have hty:∀u,ty=some u->u.size<=255:=λu hu=>by simp only[Ph.good]at hgood;exact(hgood.2.1 u hu).1
 have HT1:=Hd (show ∀z,ty≠none->z.size<=255->TP [z] from λz h hz=>by
  rw[<-hTP];refine⟨?_,λy hy=>?_,λ_=>by simp,λh2=>absurd h2 h⟩
  .have:=(L5 hpd).1;simp;omega
  obtain rfl:=List.mem_singleton.1 hy;have:=ADn (Ph.mk k x kids ty).sz (Ph.mk k x kids ty).dd;omega)
 have HT2:=Hd (show ∀zs:List ByteArray,ty=none->zs.length<=8->zs≠[]->(∀z,z∈zs->z.size<=255)->(k=2\/k=3\/k=4\/k=14\/k=9)->TP zs from λzs h hl h0 hz hk=>by
  rw[<-hTP];refine⟨?_,λy hy=>?_,λ_=>h0,λh2=>.inl (by simp only[Ph.k];omega)⟩
  .have:=(L5 hpd).1;omega
  have:=hz y hy;have:=ADn (Ph.mk k x kids ty).sz (Ph.mk k x kids ty).dd;omega)
 have HT5:=Hd (show ∀zs:List ByteArray,ty=none->k=5->zs.length<=Bd (H8 kids)->(∀z,z∈zs->∃y,z.size=1+y/\∃h:0<kids.length,y<=Lm kids[0].sz kids[0].dd)->TP zs from λzs h hk hl hz=>by
  rw[<-hTP];subst hk;refine⟨?_,λz hy=>?_,λh2=>by rcases h2 with h2|h2|h2|h2<;>first|exact absurd h h2|exact absurd h2 (by show ¬5=_;omega),λh2=>.inl (by simp[Ph.k])⟩
  .simpa[Ph.dd] using hl
  obtain⟨y,hy1,h0,hy2⟩:=hz z hy;have h3:=CW kids 0 h0;have h4:=DF kids 0 h0;have:=AHo (show kids[0].sz<(Ph.mk 5 x kids ty).sz by simp only[Ph.sz];omega) (show kids[0].dd<=(Ph.mk 5 x kids ty).dd by simp[Ph.dd];omega);omega)
 have HT7:=Hd (show ∀zs:List ByteArray,ty=none->¬(k=2\/k=3\/k=4\/k=14\/k=9\/k=5)->H8 kids<=1/\(zs.length<=Bd (H8 kids)*Bd (H8 kids)->(∀z,z∈zs->∃y y',z.size=3+y+y'/\∃(h:0<kids.length) (h':1<kids.length),y<=Lm kids[0].sz kids[0].dd/\y'<=Lm kids[1].sz kids[1].dd)->TP zs) from λzs h hk=>by
  have hd:(Ph.mk k x kids ty).dd=H8 kids+1:=by simp only[Ph.dd];rw[if_neg Om];omega
  refine⟨by rw[hd]at hpd;omega,λhl hz=>?_⟩;rw[<-hTP];refine⟨by rw[hd];exact hl,λz hy=>?_,λh2=>by rcases h2 with h2|h2|h2|h2<;>first|exact absurd h h2|exact absurd h2 (by show ¬k=_;omega),λ_=>?_⟩
  .obtain⟨y,y',hy1,h0,h1,hy2,hy3⟩:=hz z hy
   have h4:=DF kids 0 h0;have h5:=DF kids 1 h1;have h01:kids[0].sz+kids[1].sz<=K8 kids:=by
    match kids,h1 with
    |a::b::l,_=>simp[K8]
   have hp1:=kids[0].sz_pos;have hp2:=kids[1].sz_pos;have:=AEc (show kids[0].sz<(Ph.mk k x kids ty).sz by simp only[Ph.sz];omega) (show kids[1].sz<(Ph.mk k x kids ty).sz by simp only[Ph.sz];omega) (show kids[0].dd+1<=(Ph.mk k x kids ty).dd by rw[hd];omega) (show kids[1].dd+1<=(Ph.mk k x kids ty).dd by rw[hd];omega);omega
  refine .inr ?_
  cases zs with
  |nil=>exact .inl rfl
  |cons z zs=>obtain⟨y,y',_,_,h1,_⟩:=hz z (List.mem_cons_self ..);exact .inr h1)
 have HCOM:=Hd (λ(W:World) (hW:Below w.heap.size w W) (a s:Nat) (ha:a<=1) (hs1:1<=s) (hs2:s<=2)=>QO ih hsz hs5 hddk hgk hn (AD hrow hW) (λi h=>(hkid i h).keep hW) a s ha hs1 hs2);have HLM:=Hd (show ∀(i:Nat) (h:i<kids.length),Lm kids[i].sz kids[i].dd<=70000 from λi h=>SY (by have:=CW kids i h;omega) (by have:=DF kids i h;omega));have HBD:=Hd (L5 hddk);clear hp hp5 hpd hgood hP hTP hn hrow hA hkid ih hsz hs5 hddk hgk;generalize hb:ty.isSome=b at *;generalize ht:ZV ty=t at *;have hBT:b=true->ty=some t:=by
  intro h;rw[h]at hb;cases ty with
  |none=>simp at hb
  |some y=>simp[ZV]at ht;rw[ht]
 have hBF:b=false->ty=none:=by
  intro h;rw[h]at hb;cases ty with
  |none=>rfl
  |some y=>simp at hb
 clear hb ht;have HBT:=Hd hBT;have HBF:=Hd hBF;have HTY:=Hd hty;clear hBT hBF hty;obtain⟨i0,hi,hz0,hz1,hz2⟩:=info_parts Tryz.info9;go_enter Tryz.func38,Tryz.ntmps38
 cases b with
 |true=>go_wp2_with fail;go_ret;exact KZ [t] _ rfl Sm rfl (BB _ _) (HT1.out t (by rw[HBT.out (by first|exact trivial|rfl)];simp) (HTY.out t (HBT.out (by first|exact trivial|rfl)))) Sm
 |false=>
  have HNO:=Hd (HBF.out (by first|exact trivial|rfl));clear HBT HBF HTY HT1;by_cases h2:k=2
  .subst h2
   go_upto_if 20 with(go_at_call 26;refine(HFIT.out _ (BB _ _) _ De).mono ?_;rintro e w2 ⟨rb,rfl,_,hb2⟩);have hb3:Below w.heap.size w w2:=(AK _ _).trans (hb2.mono Sm)
   cases rb with
   |true=>go_wp2_with fail;go_ret;exact KZ [⟨#[100]⟩,⟨#[105]⟩,⟨#[110]⟩,⟨#[113]⟩,⟨#[116]⟩,⟨#[117]⟩,⟨#[120]⟩,⟨#[121]⟩] _ rfl Sm rfl hb3 (HT2.out _ HNO.out De Sm De Sm) De
   |false=>go_wp2_with fail;go_ret;exact KZ [⟨#[100]⟩] _ rfl Sm rfl hb3 (HT2.out _ HNO.out De Sm De Sm) De
  by_cases h3:k=3
  .subst h3
   go_wp2_with fail;go_ret;exact KZ [⟨#[103]⟩,⟨#[111]⟩,⟨#[115]⟩] _ rfl Sm rfl (BB _ _) (HT2.out _ HNO.out De Sm De Sm) De
  by_cases h4:k=4
  .subst h4
   go_wp2_with fail;go_ret;exact KZ [⟨#[98]⟩] _ rfl Sm rfl (BB _ _) (HT2.out _ HNO.out De Sm De Sm) De
  by_cases h14:k=14
  .subst h14
   go_wp2_with fail;go_ret;exact KZ [⟨#[97,121]⟩] _ rfl Sm rfl (BB _ _) (HT2.out _ HNO.out De Sm De Sm) De
  by_cases h9:k=9
  .subst h9
   go_wp2_with fail;go_ret;exact KZ [⟨#[118]⟩] _ rfl Sm rfl (BB _ _) (HT2.out _ HNO.out De Sm De Sm) De
  have u2:((k:Int)==2)=false:=Bq;have u3:((k:Int)==3)=false:=Bq;have u4:((k:Int)==4)=false:=Bq;have u14:((k:Int)==14)=false:=Bq;have u9:((k:Int)==9)=false:=Bq;by_cases h5:k=5
  .have u5:((k:Int)==5)=true:=by rw[beq_iff_eq];omega
   have HT5':=Hd (λzs hl hz=>HT5.out zs HNO.out h5 hl hz);clear HT5 HT2 HT7 HFIT h2 h3 h4 h14 h9 h5;go_wp2_with (go_at_call 61;refine(HCOM.out _ (BB _ _) 0 1 Om Om Om).mono ?_;rintro e w2 ⟨A2,n2,c2,ys,rfl,hn2,hp2,hown2,hb2⟩;have HN2:=Hd hn2;have HP2:=Hd hp2;have HOW2:=Hd hown2;clear hn2 hp2 hown2);have hb3:Below w.heap.size w w2:=(AK _ _).trans (hb2.mono Sm);have hn4:n2<=4096:=by have:=HN2.out;have:=HP2.out.1;have:=HBD.out;omega
   have HB3:=Hd hb3;clear hb2 hb3;go_loopw [3,42] (λv3 v42 wr=>∃(C:Option Addr) (q e i:Nat) (zs:List ByteArray),v3=.slice C q e/\v42=.int .i64 i/\i<=n2/\q<=i/\Hid (q=zs.length)/\Hid (∀z,z∈zs->∃y,z.size=1+y/\∃h:0<kids.length,y<=Lm kids[0].sz kids[0].dd)/\wr.ownsRow w2.heap.size 9 1 (.slice C q e) q (AQ zs)/\Below w2.heap.size w2 wr) (λ_ v _=>n2-(intOf v).toNat)
   case atStart=>exact⟨none,0,0,0,[],rfl,rfl,Om,Om,rfl,Hd Sm,⟨rfl,.inl ⟨rfl,rfl⟩⟩,Bl⟩
   obtain⟨C,q,e,i,zs,rfl,rfl,hin,hqi,HQ,HZ,hown,hbel⟩:=hrel;have hbs2:=hbel.size;have hbs3:=HB3.out.size;by_cases hlt:(i:Int)<(n2:Int)
   .have hit:i<ys.length:=by have:=HN2.out;omega
    have hrow2:=AD HOW2.out hbel;obtain⟨A',c',he,hA⟩:=AF hrow2;simp only[Value.slice.injEq]at he;obtain⟨rfl,_,rfl⟩:=he;obtain⟨g,rfl,hg⟩:=hA Om;have c0:wr.cell? ⟨g,i,none⟩=some (.string ys[i]):=by rw[AV hrow2 g _ rfl _ Om];simp[AQ,hit]
    have hmem:ys[i]∈ys:=List.getElem_mem hit;obtain⟨h0,hy⟩:=HP2.out.2 _ hmem;have hy7:=HLM.out 0 h0;have HY:=Hd (show ∃h:0<kids.length,ys[i].size<=Lm kids[0].sz kids[0].dd from⟨h0,hy⟩);have hys:ys[i].size<=70000:=Om;clear hrow2 hA hmem hy hy7;generalize ys[i]=y at *;go_wp2_with (at_builtin;refine wpList_append_own _ rfl _ _ 29 rfl w2.heap.size 9 i0 (.string ⟨#[]⟩) 1 16 Tryz.underlying29 hi hz0 hz1 hz2 rfl De _ _ _ rfl (AD hown (Bl.alloc Nl _)) ⟨wr.heap.size,0,none⟩ 1 1 [.string (⟨#[97]⟩++y)] rfl rfl ?c1 ?c2 ?c3 ?c4 ?c5 ?_)
    case c1=>exact cell_one_new _ _ _
    case c2=>intro u hu;obtain rfl:=(by simpa using hu);rfl
    case c3=>unfold maxLen;omega
    case c4=>omega
    case c5=>simp;omega
    intro v' w1 hown1 hgrow hnil;clear hnil;have hbel1:=(hbel.alloc hbs2 (.cells #[.string (⟨#[97]⟩++y)] 9)).grown hgrow (by simp;omega) (AG hown);obtain⟨A1,c1,rfl,_⟩:=AF hown1;clear hgrow hown;go_wp2_with fail;go_roundw
    case rel=>exact⟨A1,q+1,c1,i+1,zs++[⟨#[97]⟩++y],rfl,by go_num,Om,Om,(by have:=HQ.out;show _=_;simp;omega),(by intro z hz;rcases List.mem_append.1 hz with h|h;exact HZ.out z h;obtain rfl:=List.mem_singleton.1 h;obtain⟨h0,h1⟩:=HY.out;exact⟨y.size,by rw[ByteArray.size_append];rfl,h0,h1⟩),(by simpa[AQ] using hown1),hbel1⟩
    simp[intOf];omega
   go_wp2_with fail;go_ret;exact⟨C,q,e,zs,rfl,HQ.out,HT5'.out zs (by have:=HQ.out;have:=HN2.out;have:=HP2.out.1;omega) HZ.out,BF hown Om,HB3.out.trans (hbel.mono Om)⟩
  have u5:((k:Int)==5)=false:=Bq;have HK:=Hd (show ¬(k=2\/k=3\/k=4\/k=14\/k=9\/k=5) by omega);have HT7':=Hd (λzs=>(HT7.out zs HNO.out HK.out).2);have hB64:Bd (H8 kids)<=64:=JZ (HT7.out [] HNO.out HK.out).1 (show 1<=2 by decide);clear HT5 HT2 HT7 HFIT h2 h3 h4 h14 h9 h5;go_wp2_with (go_at_call 61;refine(HCOM.out _ (BB _ _) 0 2 Om Om Om).mono ?_;rintro e w2 ⟨A2,n2,c2,ys,rfl,hn2,hp2,hown2,hb2⟩;have HN2:=Hd hn2;have HP2:=Hd hp2;have HOW2:=Hd hown2;clear hn2 hp2 hown2);have hb3:Below w.heap.size w w2:=(AK _ _).trans (hb2.mono Sm);have hb2c:w2.cell? ⟨w.heap.size,0,none⟩=some (.int .i64 k)/\w2.cell? ⟨w.heap.size,1,none⟩=some (.string x)/\w2.cell? ⟨w.heap.size,2,none⟩=some (.slice A n c):=by have h:=(hb2.block w.heap.size Sm).trans (heap_alloc_new w (.cells #[.int .i64 k,.string x,.slice A n c,.bool false,.string t] 37));obtain⟨q0,q1,q2,_,_⟩:=AL h;exact⟨q0,q1,q2⟩
  obtain⟨q0,q1,q2⟩:=hb2c;have hlt0:w.heap.size<w2.heap.size:=by have:=hb2.size;simp at this;omega
  have hn4:n2<=Bd (H8 kids):=by have:=HN2.out;have:=HP2.out.1;omega
  have HB3:=Hd hb3;clear hb2 hb3;generalize hB:Bd (H8 kids)=B at *;have HBB:=Hd hB;clear hB;go_loopw [3,57] (λv3 v57 wr=>∃(C:Option Addr) (q e i:Nat) (zs:List ByteArray),v3=.slice C q e/\v57=.int .i64 i/\i<=n2/\Hid (q<=i*B)/\Hid (q=zs.length)/\Hid (∀z,z∈zs->∃y y',z.size=3+y+y'/\∃(h:0<kids.length) (h':1<kids.length),y<=Lm kids[0].sz kids[0].dd/\y'<=Lm kids[1].sz kids[1].dd)/\wr.ownsRow w2.heap.size 9 1 (.slice C q e) q (AQ zs)/\Below w2.heap.size w2 wr) (λ_ v _=>n2-(intOf v).toNat)
  case atStart=>exact⟨none,0,0,0,[],rfl,rfl,Om,Nat.zero_le _,rfl,Hd Sm,⟨rfl,.inl ⟨rfl,rfl⟩⟩,Bl⟩
  obtain⟨C,q,e,i,zs,rfl,rfl,hin,HQB,HQ,HZ,hown,hbel⟩:=hrel;have hbs2:=hbel.size;have hbs3:=HB3.out.size;by_cases hlt:(i:Int)<(n2:Int)
  .have hit:i<ys.length:=by have:=HN2.out;omega
   have hrow2:=AD HOW2.out hbel;obtain⟨A',c',he,hA⟩:=AF hrow2;simp only[Value.slice.injEq]at he;obtain⟨rfl,_,rfl⟩:=he;obtain⟨g,rfl,hg⟩:=hA Om;have c0:wr.cell? ⟨g,i,none⟩=some (.string ys[i]):=by rw[AV hrow2 g _ rfl _ Om];simp[AQ,hit]
   have hmem:ys[i]∈ys:=List.getElem_mem hit;obtain⟨h0,hy⟩:=HP2.out.2 _ hmem;have hy7:=HLM.out 0 h0;have HY:=Hd (show ∃h:0<kids.length,ys[i].size<=Lm kids[0].sz kids[0].dd from⟨h0,hy⟩);have hys:ys[i].size<=70000:=Om;have hq4:q<=4096:=by have:=HQB.out;have h1:i*B<=64*64:=Nat.mul_le_mul Om hB64;omega
   have p0:=(hbel.cell (p:=⟨w.heap.size,0,none⟩) hlt0).trans q0;have p1:=(hbel.cell (p:=⟨w.heap.size,1,none⟩) hlt0).trans q1;have p2:=(hbel.cell (p:=⟨w.heap.size,2,none⟩) hlt0).trans q2;clear hrow2 hA hmem hy hy7;generalize ys[i]=y at *;go_upto_block 5 with(go_at_call 61;refine(HCOM.out _ (by first|exact HB3.out.trans (hbel.mono hbs3)|exact(HB3.out.trans (hbel.mono hbs3)).drew) 1 2 Om Om Om).mono ?_;rintro e w3 ⟨A3,n3,c3,us,rfl,hn3,hp3,hown3,hb3⟩;have HN3:=Hd hn3;have HP3:=Hd hp3;have HOW3:=Hd hown3;clear hn3 hp3 hown3);have hn5:n3<=B:=by have:=HN3.out;have:=HP3.out.1;have:=HBB.out;omega
   have hbel3:Below w2.heap.size w2 w3:=hbel.trans (hb3.mono Om);have hown3:=AD hown hb3;have HNE0:Hid ((Value.slice C q e).ownBlock≠(Value.slice A3 n3 c3).ownBlock\/n3=0):=by
    by_cases h0:n3=0
    .exact .inr h0
    refine .inl λe=>?_;obtain⟨A',c',he,hA⟩:=AF HOW3.out;simp only[Value.slice.injEq]at he;obtain⟨rfl,_,rfl⟩:=he;obtain⟨g3,rfl,_⟩:=hA Om;have h1:=AG HOW3.out g3 rfl;have h2:=(World.ownsRow.lt hown g3 e).2
    try simp at h1
    omega
   have hws3:=hb3.size;have HHB3:=Hd hb3;clear hb3 hown hbel;go_wp2_with fail;go_loopw [3,65] (λv3 v65 wx=>∃(C:Option Addr) (q' e j:Nat) (zs:List ByteArray),v3=.slice C q' e/\v65=.int .i64 j/\j<=n3/\q'<=q+j/\Hid (q'=zs.length)/\Hid (∀z,z∈zs->∃y y',z.size=3+y+y'/\∃(h:0<kids.length) (h':1<kids.length),y<=Lm kids[0].sz kids[0].dd/\y'<=Lm kids[1].sz kids[1].dd)/\wx.ownsRow w2.heap.size 9 1 (.slice C q' e) q' (AQ zs)/\Below w2.heap.size w2 wx/\Hid (wx.ownsRow 0 9 1 (.slice A3 n3 c3) n3 (AQ us))/\Hid ((Value.slice C q' e).ownBlock≠(Value.slice A3 n3 c3).ownBlock\/n3=0)) (λ_ v _=>n3-(intOf v).toNat)
   case atStart=>exact⟨C,q,e,0,zs,rfl,rfl,Om,Om,HQ,HZ,hown3,hbel3,BF HOW3.out (Nat.zero_le _),HNE0⟩
   obtain⟨C4,q4,e4,j,zs4,rfl,rfl,hj,hq4',HQ4,HZ4,hown4,hbel4,HUS,HNE⟩:=hrel;have hbs4:=hbel4.size;by_cases hl4:(j:Int)<(n3:Int)
   .have hjt:j<us.length:=by have:=HN3.out;omega
    have hrow4:=HUS.out;have HNE:=Hd (HNE.out.resolve_right Om);obtain⟨A',c',he,hA⟩:=AF hrow4;simp only[Value.slice.injEq]at he;obtain⟨rfl,_,rfl⟩:=he;obtain⟨g4,rfl,hg4⟩:=hA Om;have c4:wr.cell? ⟨g4,j,none⟩=some (.string us[j]):=by rw[AV hrow4 g4 _ rfl _ Om];simp[AQ,hjt]
    have hmem:us[j]∈us:=List.getElem_mem hjt;obtain⟨h1,hu⟩:=HP3.out.2 _ hmem;have hu7:=HLM.out 1 h1;have HU:=Hd (show ∃h:1<kids.length,us[j].size<=Lm kids[1].sz kids[1].dd from⟨h1,hu⟩);have hus:us[j].size<=70000:=Om;clear hrow4 hA hmem hu hu7;generalize us[j]=u at *;go_wp2_with (at_builtin;refine wpList_append_own_at _ rfl _ _ 29 rfl w2.heap.size 9 i0 (.string ⟨#[]⟩) 1 16 Tryz.underlying29 hi hz0 hz1 hz2 rfl De _ _ _ rfl (AD hown4 (Bl.alloc Nl _)) ⟨wr.heap.size,0,none⟩ 1 1 [.string (⟨#[97,123]⟩++y++u++⟨#[125]⟩)] rfl rfl ?c1 ?c2 ?c3 ?c4 ?c5 ?_)
    case c1=>exact cell_one_new _ _ _
    case c2=>intro u hu;obtain rfl:=(by simpa using hu);rfl
    case c3=>unfold maxLen;omega
    case c4=>omega
    case c5=>simp;omega
    intro v' w4 hown5 hgrow hnil hblk;clear hnil;have hbel6:=(hbel4.alloc hbs4 (.cells #[.string (⟨#[97,123]⟩++y++u++⟨#[125]⟩)] 9)).grown hgrow (by simp;omega) (AG hown4);have hus5:w4.ownsRow 0 9 1 (.slice (some ⟨g4,0,none⟩) n3 c3) n3 (AQ us)/\v'.ownBlock≠some g4:=by
     have hg4:=GV HUS.out g4 rfl;refine⟨AR (AD HUS.out (Bl.alloc Nl _)) (λb hb hlt=>hgrow.block b hlt λe=>HNE.out (by rw[<-e,<-hb])),λe=>?_⟩;rcases hblk with h|h
     .exact HNE.out (by rw[<-h,e];rfl)
     rw[h]at e;simp at e;omega
    have HUS5:=Hd hus5.1;have HNE5:=Hd (show v'.ownBlock≠(Value.slice (some ⟨g4,0,none⟩) n3 c3).ownBlock from hus5.2);clear hus5 hblk;obtain⟨A1,c1,rfl,_⟩:=AF hown5;clear hgrow hown4;go_wp2_with fail;go_roundw
    case rel=>exact⟨A1,q4+1,c1,j+1,zs4++[⟨#[97,123]⟩++y++u++⟨#[125]⟩],rfl,by go_num,Om,Om,(by have:=HQ4.out;show _=_;simp;omega),(by intro z hz;rcases List.mem_append.1 hz with h|h;exact HZ4.out z h;obtain rfl:=List.mem_singleton.1 h;obtain⟨h0,h1⟩:=HY.out;obtain⟨h2,h3⟩:=HU.out;exact⟨y.size,u.size,(by have e1:(⟨#[97,123]⟩:ByteArray).size=2:=rfl;have e2:(⟨#[125]⟩:ByteArray).size=1:=rfl;simp only[ByteArray.size_append];omega),h0,h2,h1,h3⟩),(by simpa[AQ] using hown5),hbel6,HUS5,.inl HNE5.out⟩
    simp[intOf];omega
   go_wp2_with fail;go_roundw
   case rel=>exact⟨C4,q4,e4,i+1,zs4,rfl,by go_num,Om,(by have:=HQB.out;show _<=_;rw[Nat.succ_mul];omega),HQ4,HZ4,hown4,hbel4⟩
   simp[intOf];omega
  go_wp2_with fail;go_ret;exact⟨C,q,e,zs,rfl,HQ.out,HT7'.out zs (by have:=HQ.out;have:=HQB.out;have h1:i*B<=B*B:=Nat.mul_le_mul Om Nl;omega) HZ.out,BF hown Om,HB3.out.trans (hbel.mono Om)⟩
theorem OS:∀N,TyH N
 |0=>λp hp=>by have:=p.sz_pos;omega
 |N+1=>AC2 N (OS N)
def VJ(k:Nat)(s:ByteArray):Prop:=(k=5->1<s.size/\AA s 0=97/\AA s 1≠123)/\(k=7->1<s.size/\AA s 0=97/\AA s 1=123)
theorem AG1{s:ByteArray}(h:s.extract 0 2=NT):AA s 0=97/\AA s 1=123:=by have h0:=KA s 2 0 Om;have h1:=KA s 2 1 Om;rw[h]at h0 h1;exact⟨by rw[<-h0];decide,by rw[<-h1];decide⟩
theorem S6(s:ByteArray)(hs:s.size<=100000)(k:Nat)(x:ByteArray)(w:World):Calls Tryz.prog 14 #[.string s,.agg #[.int .i64 k,.string x]] w (ID (λr=>r=true->VJ k s) w):=by
 go_enter Tryz.func14,Tryz.ntmps14
 cases k5:((k:Int)==5) with
 |true=>
  have hk:k=5:=by rw[beq_iff_eq]at k5;omega
  have HK:=Hd hk;clear hk;by_cases h1:(1:Int)<(s.size:Int)
  .have hk0:0<s.size:=Om
   have hk1:1<s.size:=Om;have hk0i:(0:Int)<(s.size:Int):=Om;have hk0e:¬s=ByteArray.empty:=by rintro rfl;simp at hk0
   have e0:=AJ hk0;have e1:=AJ hk1
   cases h97:(AA s 0==97) with
   |true=>have H97:=Hd (beq_iff_eq.1 h97);have HF:Hid (∀r:Bool,r=(AA s 1 !=123)->r=true->VJ k s):=λr hr h=>⟨λ_=>⟨hk1,H97.out,by rw[hr]at h;simpa using h⟩,λh7=>by have:=HK.out;omega⟩;clear H97;generalize AA s 0=d at *;generalize AA s 1=d1 at *;go_wp2_with fail;go_ret;exact⟨_,rfl,HF.out _ rfl,AK _ _⟩
   |false=>generalize AA s 0=d at *;generalize AA s 1=d1 at *;go_wp2_with fail;go_ret;exact⟨_,rfl,λh=>by simp at h,AK _ _⟩
  go_wp2_with fail;go_ret;exact⟨_,rfl,λh=>by simp at h,AK _ _⟩
 |false=>
  cases k7:((k:Int)==7) with
  |true=>
   have hk:k=7:=by rw[beq_iff_eq]at k7;omega
   have HK:=Hd hk;clear hk;by_cases h1:(1:Int)<(s.size:Int)
   .have h2:(2:Int)<=(s.size:Int):=Om
    have HF:Hid (∀r:Bool,r=((s.extract 0 2).toList==[97,123])->r=true->VJ k s):=λr hr h=>⟨λh7=>by have:=HK.out;omega,λ_=>by rw[hr,AE]at h;obtain⟨z0,z1⟩:=AG1 (of_decide_eq_true h);exact⟨Om,z0,z1⟩⟩
    go_wp2_with fail;go_ret;exact⟨_,rfl,HF.out _ rfl,AK _ _⟩
   go_wp2_with fail;go_ret;exact⟨_,rfl,λh=>by simp at h,AK _ _⟩
  |false=>have HK5:=Hd (show k≠5 by intro h;subst h;simp at k5);have HK7:=Hd (show k≠7 by intro h;subst h;simp at k7);go_wp2_with fail;go_ret;exact⟨_,rfl,λ_=>⟨λh=>absurd h HK5.out,λh=>absurd h HK7.out⟩,AK _ _⟩
def TD(s:ByteArray):Prop:=s.size<=100000/\(s.size<=1\/IP s)
theorem AF0{s:ByteArray}(h:TD s)(ha:VJ 5 s):TD (s.extract 1 s.size):=by
 obtain⟨h1,h2,h3⟩:=ha.1 rfl;rcases h.2 with h4|h4
 .omega
 exact⟨by simp[ByteArray.size_extract];have:=h.1;omega,.inr (RF h4 h2 Om).2⟩
theorem ACt{s:ByteArray}(h:TD s)(ha:VJ 7 s):5<=s.size/\TD (s.extract 2 3)/\TD (s.extract 3 (s.size-1)):=by
 obtain⟨h1,h2,h3⟩:=ha.2 rfl;rcases h.2 with h4|h4
 .omega
 obtain⟨h5,h6⟩:=P4 h4 h2 ⟨h1,h3⟩;have:=h.1;exact⟨h5,⟨by simp[ByteArray.size_extract];omega,.inl (by simp[ByteArray.size_extract];omega)⟩,by simp[ByteArray.size_extract];omega,.inr h6⟩
def APa(N:Nat):Prop:=∀(p:Ph),p.sz<=N->p.sz<=5000->p.dd<=2->p.good->∀(w:World) (k:Nat) (x:ByteArray) (A:Option Addr) (n c:Nat) (b:Bool) (t:ByteArray) (sig:ByteArray),TD sig->PhAt w (λ_=>True) (NX k x A n c b t) p->
 Calls Tryz.prog 20 #[.agg #[.int .i64 k,.string x,.slice A n c,.bool b,.string t],.string sig] w (ID (λ_=>True) w)
theorem AK0(N:Nat)(ih:APa N):APa (N+1):=by
 intro p hp hp5 hpd hgood w k x A n c b t sig hsg hat;have HAT:=Hd (λ(W:World) (hW:Below w.heap.size w W)=>hat.keep hW);have HPN:=Hd hp;have HP5:=Hd hp5;have HPD:=Hd hpd;have HGOOD:=Hd hgood
 cases hat with
 |mk k x A n c kids ty rows hn hrow hP hA hkid=>
 have hsz:K8 kids<=N:=by simp[Ph.sz]at hp;omega
 have hs5:K8 kids<=5000:=by simp[Ph.sz]at hp5;omega
 have hddk:H8 kids<=2:=by simp only[Ph.dd]at hpd;omega
 have hgk:FB kids:=by simp only[Ph.good]at hgood;exact hgood.2.2
 have hn63:n<=5000:=by have:=GP kids;omega
 have HTY:=Hd (show ∀u,ty=some u->u.size<=255/\IP u from λu hu=>by simp only[Ph.good]at hgood;exact hgood.2.1 u hu);have HN:=Hd hn;have HA:=Hd hA;have HRow:=Hd hrow;have HK:=Hd hkid;have HIH:=Hd ih;have HS:=Hd hsz;have HS5:=Hd hs5;have HDD:=Hd hddk;have HG:=Hd hgk;clear hp hp5 hpd hgood hP hn hrow hA hkid ih hsz hs5 hddk hgk;generalize hb:ty.isSome=b at *;generalize ht:ZV ty=t at *;have HBT:=Hd (show b=true->ty=some t by
  intro h;rw[h]at hb;cases ty with
  |none=>simp at hb
  |some y=>simp[ZV]at ht;rw[ht])
 have HBF:=Hd (show b=false->ty=none by
  intro h;rw[h]at hb;cases ty with
  |none=>rfl
  |some y=>simp at hb)
 clear hb ht;have HSG:=Hd hsg;clear hsg HAT HPN HP5 HPD HGOOD;go_enter Tryz.func20,Tryz.ntmps20;go_upto_region 1 with fail;have hlt0:w.heap.size<(w.alloc (.cells #[.int .i64 k,.string x,.slice A n c,.bool b,.string t] 37)).heap.size:=by simp
 have hbx:Below w.heap.size w (w.alloc (.cells #[.int .i64 k,.string x,.slice A n c,.bool b,.string t] 37)):=Bl.alloc Nl _;obtain⟨q0,q1,q2,q3,q4⟩:=AL (heap_alloc_new w (.cells #[.int .i64 k,.string x,.slice A n c,.bool b,.string t] 37));generalize w.alloc (.cells #[.int .i64 k,.string x,.slice A n c,.bool b,.string t] 37)=wb at *;have hbxs:=hbx.size;have HBX:=Hd hbx;clear hbx;go_upto_if 11 with fail;go_cut [1,12,13] from 61 to 61 (λv1 _ _ wx=>∃sg,v1=.string sg/\Hid (TD sg)/\wx=wb)
 case first=>
  cases b with
  |true=>have HS1:Hid (TD t):=⟨by have:=(HTY.out t (HBT.out (by first|exact trivial|rfl))).1;omega,.inr (HTY.out t (HBT.out (by first|exact trivial|rfl))).2⟩;go_wp2_with fail;go_meet;exact⟨t,rfl,HS1,rfl⟩
  |false=>go_wp2_with fail;go_meet;exact⟨sig,rfl,HSG,rfl⟩
 obtain⟨sg,rfl,HG1,rfl⟩:=hcut;have hsg5:sg.size<=100000:=HG1.out.1;by_cases h5:k=5
 .subst h5
  have hag:=Hd (λW=>S6 sg hsg5 5 ⟨#[]⟩ W);go_upto_if 21 with(go_at_call 14;refine(hag.out _).mono ?_;rintro e w2 ⟨rb,rfl,ha,hb2⟩;have HAH:=Hd ha;clear ha);have hb3:Below wc.heap.size wc w2:=by first|exact hb2|exact(Bl.drew).trans hb2
  cases rb with
  |false=>go_wp2_with fail;go_ret;exact⟨_,rfl,trivial,HBX.out.trans (hb3.mono hbxs)⟩
  |true=>
   simp only[Bool.not_true];have HSA:=Hd (AF0 HG1.out (HAH.out (by first|exact trivial|rfl)));have hs1:(1:Int)<=(sg.size:Int):=by have:=((HAH.out (by first|exact trivial|rfl)).1 rfl).1;omega
   have r2:w2.cell? ⟨w.heap.size,2,none⟩=some (.slice A n c):=(hb3.cell (p:=⟨w.heap.size,2,none⟩) hlt0).trans q2;clear HAH hag q0 q1 q2 q3 q4;have HB3:=Hd (HBX.out.trans (hb3.mono hbxs));clear hb3 hb2;go_wp2_with fail;go_loopw [25] (λv8 wr=>∃m:Nat,m<=n/\v8=.int .i64 m/\Below w2.heap.size w2 wr) (λi _=>n-(intOf i).toNat)
   case atStart=>exact⟨0,Nat.zero_le _,rfl,Bl⟩
   obtain⟨m,hm,rfl,hbel⟩:=hrel;have hbs:=hbel.size;have hbw0:Below w.heap.size w wr:=HB3.out.trans (hbel.mono HB3.out.size);by_cases hlt:(m:Int)<(n:Int)
   .have hmn:m<kids.length:=by have:=HN.out;omega
    have hsz1:=CW kids m hmn;have hdd1:=DF kids m hmn;obtain⟨g,hg,hgl⟩:=HA.out Om;subst hg;have hrow1:=AD HRow.out hbw0;obtain⟨k1,x1,A1,n1,cc1,b1,t1,hat1,c0,c1,c2,c3,c4⟩:=PhAt.kid HN.out hrow1 (λi h=>(HK.out i h).keep hbw0) m hmn;have HAT1:=Hd (λ(W:World) (hW:Below wr.heap.size wr W)=>hat1.keep hW);have HC:=Hd (λ(W:World) (hW:Below wr.heap.size wr W)=>HIH.out kids[m] (by have:=HS.out;omega) (by have:=HS5.out;omega) (by have:=HDD.out;omega) (BD kids m hmn HG.out) W k1 x1 A1 n1 cc1 b1 t1 (sg.extract 1 sg.size) HSA.out (hat1.keep hW));have HKP:=Hd (show kids[m].sz<=5000/\kids[m].dd<=2/\kids[m].good from⟨by have:=HS5.out;omega,by have:=HDD.out;omega,BD kids m hmn HG.out⟩);clear hrow1 hat1 hsz1 hdd1;go_upto_region 10 with fail;have hlk:wr.heap.size<(wr.alloc (.cells #[.int .i64 k1,.string x1,.slice A1 n1 cc1,.bool b1,.string t1] 37)).heap.size:=by simp
    have hbk:Below wr.heap.size wr (wr.alloc (.cells #[.int .i64 k1,.string x1,.slice A1 n1 cc1,.bool b1,.string t1] 37)):=Bl.alloc Nl _;obtain⟨q0,q1,q2,q3,q4⟩:=AL (heap_alloc_new wr (.cells #[.int .i64 k1,.string x1,.slice A1 n1 cc1,.bool b1,.string t1] 37));generalize wr.alloc (.cells #[.int .i64 k1,.string x1,.slice A1 n1 cc1,.bool b1,.string t1] 37)=wk at *;go_region_held3 (λW=>W.cell? ⟨wr.heap.size,0,none⟩=some (.int .i64 k1)/\W.cell? ⟨wr.heap.size,1,none⟩=some (.string x1)/\W.cell? ⟨wr.heap.size,2,none⟩=some (.slice A1 n1 cc1)/\W.cell? ⟨wr.heap.size,3,none⟩=some (.bool b1)/\W.cell? ⟨wr.heap.size,4,none⟩=some (.string t1)/\Below wk.heap.size wk W) (first|exact⟨q0,q1,q2,q3,q4,Bl.drew⟩|exact⟨(hbw.cell (p:=⟨wr.heap.size,0,none⟩) hlk).trans q0,(hbw.cell (p:=⟨wr.heap.size,1,none⟩) hlk).trans q1,(hbw.cell (p:=⟨wr.heap.size,2,none⟩) hlk).trans q2,(hbw.cell (p:=⟨wr.heap.size,3,none⟩) hlk).trans q3,(hbw.cell (p:=⟨wr.heap.size,4,none⟩) hlk).trans q4,(Bl.drew).trans hbw⟩) ((go_at_call 20;refine(HC.out _ hbk.drew).mono ?_;rintro e w' ⟨rb,rfl,hq,hbw⟩));have hwb:Below w2.heap.size w2 w':=(hbel.trans (hbk.mono hbs)).trans (((Bl.drew).trans hbw).mono (by have:=hbk.size;have e5:wk.drew.heap.size=wk.heap.size:=rfl;omega))
    cases rb with
    |true=>go_wp2_with fail;go_ret;exact⟨_,rfl,trivial,HB3.out.trans (hwb.mono HB3.out.size)⟩
    |false=>
     go_wp2_with fail;go_roundw
     case rel=>exact⟨m+1,Om,by go_num,hwb⟩
     simp[intOf];omega
   go_wp2_with fail;go_ret;exact⟨_,rfl,trivial,hbw0⟩
 have u5:((k:Int)==5)=false:=Bq;clear h5;by_cases h7:k=7
 .subst h7
  have hag:=Hd (λW=>S6 sg hsg5 7 ⟨#[]⟩ W);go_upto_if 39 with(go_at_call 14;refine(hag.out _).mono ?_;rintro e w2 ⟨rb,rfl,ha,hb2⟩;have HAH:=Hd ha;clear ha);have hb3:Below wc.heap.size wc w2:=by first|exact hb2|exact(Bl.drew).trans hb2
  cases rb with
  |false=>go_wp2_with fail;go_ret;exact⟨_,rfl,trivial,HBX.out.trans (hb3.mono hbxs)⟩
  |true=>
   simp only[Bool.not_true];obtain⟨hs5,hsA,hsB⟩:=ACt HG1.out (HAH.out (by first|exact trivial|rfl));have HSA:=Hd hsA;have HSB:=Hd hsB;clear hsA hsB;have hs2:(2:Int)<=(sg.size:Int):=Om;have hs3:(3:Int)<=(sg.size:Int):=Om;have hs4:(3:Int)<=(sg.size:Int)-1:=Om;have hsN:(((sg.size:Int)-1).toNat)=sg.size-1:=Om;have r2:w2.cell? ⟨w.heap.size,2,none⟩=some (.slice A n c):=(hb3.cell (p:=⟨w.heap.size,2,none⟩) hlt0).trans q2;clear HAH hag q0 q1 q2 q3 q4;have HB3:=Hd (HBX.out.trans (hb3.mono hbxs));clear hb3 hb2;go_wp2_with fail;go_loopw [43] (λv8 wr=>∃m:Nat,m<=n/\v8=.int .i64 m/\Below w2.heap.size w2 wr) (λi _=>n-(intOf i).toNat)
   case atStart=>exact⟨0,Nat.zero_le _,rfl,Bl⟩
   obtain⟨m,hm,rfl,hbel⟩:=hrel;have hbs:=hbel.size;have hbw0:Below w.heap.size w wr:=HB3.out.trans (hbel.mono HB3.out.size);by_cases hlt:(m:Int)<(n:Int)
   .by_cases hpar:m%2=1
    .have q5:((m:Int)%2==1)=true:=by rw[beq_iff_eq];omega
     clear hpar;have hmn:m<kids.length:=by have:=HN.out;omega
     have hsz1:=CW kids m hmn;have hdd1:=DF kids m hmn;obtain⟨g,hg,hgl⟩:=HA.out Om;subst hg;have hrow1:=AD HRow.out hbw0;obtain⟨k1,x1,A1,n1,cc1,b1,t1,hat1,c0,c1,c2,c3,c4⟩:=PhAt.kid HN.out hrow1 (λi h=>(HK.out i h).keep hbw0) m hmn;have HAT1:=Hd (λ(W:World) (hW:Below wr.heap.size wr W)=>hat1.keep hW);have HC:=Hd (λ(W:World) (hW:Below wr.heap.size wr W)=>HIH.out kids[m] (by have:=HS.out;omega) (by have:=HS5.out;omega) (by have:=HDD.out;omega) (BD kids m hmn HG.out) W k1 x1 A1 n1 cc1 b1 t1 (sg.extract 3 (sg.size-1)) HSB.out (hat1.keep hW));have HKP:=Hd (show kids[m].sz<=5000/\kids[m].dd<=2/\kids[m].good from⟨by have:=HS5.out;omega,by have:=HDD.out;omega,BD kids m hmn HG.out⟩);clear hrow1 hat1 hsz1 hdd1;go_upto_if 60 with(go_at_call 20;refine(HC.out _ (AK _ _)).mono ?_;rintro e w' ⟨rb,rfl,_,hbw⟩);have hwb:Below w2.heap.size w2 w':=hbel.trans (((AK _ _).trans (hbw.mono Sm)).mono hbs)
     cases rb with
     |true=>go_wp2_with fail;go_ret;exact⟨_,rfl,trivial,HB3.out.trans (hwb.mono HB3.out.size)⟩
     |false=>
      go_wp2_with fail;go_roundw
      case rel=>exact⟨m+1,Om,by go_num,hwb⟩
      simp[intOf];omega
    have q5:((m:Int)%2==1)=false:=Bq;clear hpar;have hmn:m<kids.length:=by have:=HN.out;omega
    have hsz1:=CW kids m hmn;have hdd1:=DF kids m hmn;obtain⟨g,hg,hgl⟩:=HA.out Om;subst hg;have hrow1:=AD HRow.out hbw0;obtain⟨k1,x1,A1,n1,cc1,b1,t1,hat1,c0,c1,c2,c3,c4⟩:=PhAt.kid HN.out hrow1 (λi h=>(HK.out i h).keep hbw0) m hmn;have HAT1:=Hd (λ(W:World) (hW:Below wr.heap.size wr W)=>hat1.keep hW);have HC:=Hd (λ(W:World) (hW:Below wr.heap.size wr W)=>HIH.out kids[m] (by have:=HS.out;omega) (by have:=HS5.out;omega) (by have:=HDD.out;omega) (BD kids m hmn HG.out) W k1 x1 A1 n1 cc1 b1 t1 (sg.extract 2 3) HSA.out (hat1.keep hW));have HKP:=Hd (show kids[m].sz<=5000/\kids[m].dd<=2/\kids[m].good from⟨by have:=HS5.out;omega,by have:=HDD.out;omega,BD kids m hmn HG.out⟩);clear hrow1 hat1 hsz1 hdd1;go_upto_if 60 with(go_at_call 20;refine(HC.out _ (AK _ _)).mono ?_;rintro e w' ⟨rb,rfl,_,hbw⟩);have hwb:Below w2.heap.size w2 w':=hbel.trans (((AK _ _).trans (hbw.mono Sm)).mono hbs)
    cases rb with
    |true=>go_wp2_with fail;go_ret;exact⟨_,rfl,trivial,HB3.out.trans (hwb.mono HB3.out.size)⟩
    |false=>
     go_wp2_with fail;go_roundw
     case rel=>exact⟨m+1,Om,by go_num,hwb⟩
     simp[intOf];omega
   go_wp2_with fail;go_ret;exact⟨_,rfl,trivial,hbw0⟩
 have u7:((k:Int)==7)=false:=Bq;clear h7;go_wp2_with fail;go_ret;exact⟨_,rfl,trivial,HBX.out⟩
theorem AEe:∀N,APa N
 |0=>λp hp=>by have:=p.sz_pos;omega
 |N+1=>AK0 N (AEe N)
def AO3(N:Nat):Prop:=∀(p:Ph),p.sz<=N->p.sz<=5000->p.dd<=2->p.good->∀(w:World) (k:Nat) (x:ByteArray) (A:Option Addr) (n c:Nat) (b:Bool) (t:ByteArray),PhAt w (λ_=>True) (NX k x A n c b t) p->
 Calls Tryz.prog 19 #[.agg #[.int .i64 k,.string x,.slice A n c,.bool b,.string t]] w (ID (λ_=>True) w)
theorem AH3(N:Nat)(ih:AO3 N):AO3 (N+1):=by
 intro p hp hp5 hpd hgood w k x A n c b t hat;have HAT:=Hd (λ(W:World) (hW:Below w.heap.size w W)=>hat.keep hW);have HPN:=Hd hp;have HP5:=Hd hp5;have HPD:=Hd hpd;have HGOOD:=Hd hgood
 cases hat with
 |mk k x A n c kids ty rows hn hrow hP hA hkid=>
 have hsz:K8 kids<=N:=by simp[Ph.sz]at hp;omega
 have hs5:K8 kids<=5000:=by simp[Ph.sz]at hp5;omega
 have hddk:H8 kids<=2:=by simp only[Ph.dd]at hpd;omega
 have hgk:FB kids:=by simp only[Ph.good]at hgood;exact hgood.2.2
 have hn63:n<=5000:=by have:=GP kids;omega
 have HTY:=Hd (show ∀u,ty=some u->u.size<=255/\IP u from λu hu=>by simp only[Ph.good]at hgood;exact hgood.2.1 u hu);have HN:=Hd hn;have HA:=Hd hA;have HRow:=Hd hrow;have HK:=Hd hkid;have HIH:=Hd ih;have HS:=Hd hsz;have HS5:=Hd hs5;have HDD:=Hd hddk;have HG:=Hd hgk;clear hp hp5 hpd hgood hP hn hrow hA hkid ih hsz hs5 hddk hgk;generalize hb:ty.isSome=b at *;generalize ht:ZV ty=t at *;have HBT:=Hd (show b=true->ty=some t by
  intro h;rw[h]at hb;cases ty with
  |none=>simp at hb
  |some y=>simp[ZV]at ht;rw[ht])
 have HBF:=Hd (show b=false->ty=none by
  intro h;rw[h]at hb;cases ty with
  |none=>rfl
  |some y=>simp at hb)
 clear hb ht;have HCLA:=Hd (λ(W:World) (hW:Below w.heap.size w W) (hbt:b=true)=>AEe _ _ Nl HP5.out HPD.out HGOOD.out W k x A n c b t t ⟨by have:=(HTY.out t (HBT.out hbt)).1;omega,.inr (HTY.out t (HBT.out hbt)).2⟩ (HAT.out W hW));clear HAT HPN HP5 HPD HGOOD HTY HBT HBF;go_enter Tryz.func19,Tryz.ntmps19;go_upto_region 1 with fail;have hlt0:w.heap.size<(w.alloc (.cells #[.int .i64 k,.string x,.slice A n c,.bool b,.string t] 37)).heap.size:=by simp
 have hbx:Below w.heap.size w (w.alloc (.cells #[.int .i64 k,.string x,.slice A n c,.bool b,.string t] 37)):=Bl.alloc Nl _;obtain⟨q0,q1,q2,q3,q4⟩:=AL (heap_alloc_new w (.cells #[.int .i64 k,.string x,.slice A n c,.bool b,.string t] 37));generalize w.alloc (.cells #[.int .i64 k,.string x,.slice A n c,.bool b,.string t] 37)=wb at *;have hbxs:=hbx.size;have HBX:=Hd hbx;clear hbx
 cases b with
 |true=>
  go_upto_if 12 with(go_at_call 20;refine(HCLA.out _ (by first|exact HBX.out|exact HBX.out.drew) (by first|exact trivial|rfl)).mono ?_;rintro e w2 ⟨rb,rfl,_,hb2⟩);have HB3:=Hd (show Below w.heap.size w w2 from HBX.out.trans (hb2.mono (by first|exact hbxs|(simp;omega))));have r2:w2.cell? ⟨w.heap.size,2,none⟩=some (.slice A n c):=(hb2.cell (p:=⟨w.heap.size,2,none⟩) hlt0).trans q2;clear hb2 q0 q1 q2 q3 q4
  cases rb with
  |true=>go_wp2_with fail;go_ret;exact⟨_,rfl,trivial,HB3.out⟩
  |false=>
   go_wp2_with fail;go_loopw [16] (λv8 wr=>∃m:Nat,m<=n/\v8=.int .i64 m/\Below w2.heap.size w2 wr) (λi _=>n-(intOf i).toNat)
   case atStart=>exact⟨0,Nat.zero_le _,rfl,Bl⟩
   obtain⟨m,hm,rfl,hbel⟩:=hrel;have hbs:=hbel.size;have hbw0:Below w.heap.size w wr:=HB3.out.trans (hbel.mono HB3.out.size);by_cases hlt:(m:Int)<(n:Int)
   .have hmn:m<kids.length:=by have:=HN.out;omega
    have hsz1:=CW kids m hmn;have hdd1:=DF kids m hmn;obtain⟨g,hg,hgl⟩:=HA.out Om;subst hg;have hrow1:=AD HRow.out hbw0;obtain⟨k1,x1,A1,n1,cc1,b1,t1,hat1,c0,c1,c2,c3,c4⟩:=PhAt.kid HN.out hrow1 (λi h=>(HK.out i h).keep hbw0) m hmn;have HAT1:=Hd (λ(W:World) (hW:Below wr.heap.size wr W)=>hat1.keep hW);have HC:=Hd (λ(W:World) (hW:Below wr.heap.size wr W)=>HIH.out kids[m] (by have:=HS.out;omega) (by have:=HS5.out;omega) (by have:=HDD.out;omega) (BD kids m hmn HG.out) W k1 x1 A1 n1 cc1 b1 t1 (hat1.keep hW));have HKP:=Hd (show kids[m].sz<=5000/\kids[m].dd<=2/\kids[m].good from⟨by have:=HS5.out;omega,by have:=HDD.out;omega,BD kids m hmn HG.out⟩);clear hrow1 hat1 hsz1 hdd1;go_upto_if 21 with(go_at_call 19;refine(HC.out _ (AK _ _)).mono ?_;rintro e w' ⟨rb,rfl,_,hbw⟩);have hwb:Below w2.heap.size w2 w':=hbel.trans (((AK _ _).trans (hbw.mono Sm)).mono hbs)
    cases rb with
    |true=>go_wp2_with fail;go_ret;exact⟨_,rfl,trivial,HB3.out.trans (hwb.mono HB3.out.size)⟩
    |false=>
     go_wp2_with fail;go_roundw
     case rel=>exact⟨m+1,Om,by go_num,hwb⟩
     simp[intOf];omega
   go_wp2_with fail;go_ret;exact⟨_,rfl,trivial,hbw0⟩
 |false=>
  go_upto_region 3 with fail;have HB3:=HBX;have r2:=q2;go_wp2_with fail;go_loopw [16] (λv8 wr=>∃m:Nat,m<=n/\v8=.int .i64 m/\Below wb.heap.size wb wr) (λi _=>n-(intOf i).toNat)
  case atStart=>exact⟨0,Nat.zero_le _,rfl,Bl⟩
  obtain⟨m,hm,rfl,hbel⟩:=hrel;have hbs:=hbel.size;have hbw0:Below w.heap.size w wr:=HB3.out.trans (hbel.mono HB3.out.size);by_cases hlt:(m:Int)<(n:Int)
  .have hmn:m<kids.length:=by have:=HN.out;omega
   have hsz1:=CW kids m hmn;have hdd1:=DF kids m hmn;obtain⟨g,hg,hgl⟩:=HA.out Om;subst hg;have hrow1:=AD HRow.out hbw0;obtain⟨k1,x1,A1,n1,cc1,b1,t1,hat1,c0,c1,c2,c3,c4⟩:=PhAt.kid HN.out hrow1 (λi h=>(HK.out i h).keep hbw0) m hmn;have HAT1:=Hd (λ(W:World) (hW:Below wr.heap.size wr W)=>hat1.keep hW);have HC:=Hd (λ(W:World) (hW:Below wr.heap.size wr W)=>HIH.out kids[m] (by have:=HS.out;omega) (by have:=HS5.out;omega) (by have:=HDD.out;omega) (BD kids m hmn HG.out) W k1 x1 A1 n1 cc1 b1 t1 (hat1.keep hW));have HKP:=Hd (show kids[m].sz<=5000/\kids[m].dd<=2/\kids[m].good from⟨by have:=HS5.out;omega,by have:=HDD.out;omega,BD kids m hmn HG.out⟩);clear hrow1 hat1 hsz1 hdd1;go_upto_if 21 with(go_at_call 19;refine(HC.out _ (AK _ _)).mono ?_;rintro e w' ⟨rb,rfl,_,hbw⟩);have hwb:Below wb.heap.size wb w':=hbel.trans (((AK _ _).trans (hbw.mono Sm)).mono hbs)
   cases rb with
   |true=>go_wp2_with fail;go_ret;exact⟨_,rfl,trivial,HB3.out.trans (hwb.mono HB3.out.size)⟩
   |false=>
    go_wp2_with fail;go_roundw
    case rel=>exact⟨m+1,Om,by go_num,hwb⟩
    simp[intOf];omega
  go_wp2_with fail;go_ret;exact⟨_,rfl,trivial,hbw0⟩
theorem AEq:∀N,AO3 N
 |0=>λp hp=>by have:=p.sz_pos;omega
 |N+1=>AH3 N (AEq N)
