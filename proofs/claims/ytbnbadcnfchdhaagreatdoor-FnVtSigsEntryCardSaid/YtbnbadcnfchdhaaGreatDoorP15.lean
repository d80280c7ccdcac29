/- Lemmas for FnVtSigsEntry; no conditions. -/
import Derived.Test.YtbnbadcnfchdhaaGreatDoorP14
set_option maxRecDepth 100000
set_option maxHeartbeats 16000000
set_option linter.all false
namespace Go.Proofs.YtbnbadcnfchdhaaGreatDoor
open Go.RowKit
theorem Tryz.info5:(Tryz.prog.info? 5).map (λi=>(i.zero,i.size,i.bytes))=some (some (.int .u8 0),1,1):=Kr
def CG(w:World)(base:Nat)(A:Option Addr)(n c:Nat):Prop:=∃xs:List Int,w.ownsRow base 5 1 (.slice A n c) n (xs.map (Value.int .u8))
theorem CG.nil(w:World)(base:Nat):CG w base none 0 0:=⟨[],rfl,.inl ⟨rfl,rfl⟩⟩
theorem CG.text{w:World}{base:Nat}{A:Option Addr}{n c:Nat}(h:CG w base A n c):∃s:ByteArray,(convert 109 9 (.slice A n c)).run Tryz.prog w=.ok (.string s) w:=by
 obtain⟨xs,hrow⟩:=h;obtain⟨A',c',he,hA⟩:=AF hrow;simp only[Value.slice.injEq]at he;obtain⟨rfl,_,rfl⟩:=he;by_cases h0:0<n
 .obtain⟨g,rfl,_⟩:=hA h0
  have hl:xs.length=n:=by have:=hrow.1;simpa using this
  refine⟨_,run_convert_bytes_arg w 109 5 Tryz.underlying109 Tryz.underlying5 g 0 n _ xs hl (λi hi=>?_) 9 Tryz.underlying9⟩;rw[Nat.zero_add,AV hrow g _ rfl i Om];rw[List.getElem?_map,List.getElem?_eq_getElem Om,List.getD_eq_getElem?_getD,List.getElem?_eq_getElem Om];rfl
 obtain rfl:n=0:=Om;rcases hrow.2 with⟨h1,_⟩|⟨g,cap,cur,h1,_⟩
 .simp only[Value.slice.injEq]at h1
  obtain⟨rfl,_,rfl⟩:=h1;exact⟨_,run_convert_bytes_nil w 109 5 Tryz.underlying109 Tryz.underlying5 0 0 9 Tryz.underlying9⟩
 simp only[Value.slice.injEq]at h1;obtain⟨rfl,_⟩:=h1;exact⟨_,run_convert_bytes_arg w 109 5 Tryz.underlying109 Tryz.underlying5 g 0 0 _ [] rfl (λi hi=>absurd hi Om) 9 Tryz.underlying9⟩
theorem CG.below{w w':World}{base:Nat}{A:Option Addr}{n c:Nat}(h:CG w base A n c)(hb:Below w.heap.size w w'):CG w' base A n c:=by obtain⟨xs,hx⟩:=h;exact⟨xs,AD hx hb⟩
def U8R(w:World)(en:Ending)(w':World):Prop:=∃d:Int,en=.returned (.int .u8 d)/\w=w'
theorem NP(c:Int)(w:World):Calls Tryz.prog 68 #[.int .u8 c] w (U8R w):=by
 go_enter Tryz.func68,Tryz.ntmps68;go_wp2_with fail;go_loop [3] (λv=>∃k:Nat,k<=6/\v=.int .i64 k) (λv=>6-(intOf v).toNat)
 case atStart=>exact⟨0,Om,rfl⟩
 obtain⟨k,hk,rfl⟩:=hrel;by_cases hlt:(k:Int)<6
 .have hk6:k<6:=Om
  have ek:=AJ (s:=⟨#[97,98,102,110,114,116]⟩) (i:=k) hk6;have ej:=AJ (s:=⟨#[7,8,12,10,13,9]⟩) (i:=k) hk6;generalize AA ⟨#[97,98,102,110,114,116]⟩ k=d at *;generalize AA ⟨#[7,8,12,10,13,9]⟩ k=d2 at *
  cases hq:(c==d) with
  |true=>go_wp2_with fail;go_ret;exact⟨d2,rfl,rfl⟩
  |false=>
   go_wp2_with fail;go_round
   case rel=>exact⟨k+1,Om,by go_num⟩
   simp[intOf];omega
 go_wp2_with fail;go_ret;exact⟨c,rfl,rfl⟩
def AQi(w:World)(base n:Nat)(en:Ending)(w':World):Prop:=
 ∃(A':Option Addr) (n' c':Nat),en=.returned (.slice A' n' c')/\n<=n'/\n'<=n+4/\CG w' base A' n' c'/\Below base w w'
theorem MP{w W w1:World}{base n m:Nat}{v:Value}{A':Option Addr}{c':Nat}{xs:List Value}{ys:List Int}(hb:Below base w W)(hB:base<=W.heap.size)(hv:∀k,v.ownBlock=some k->base<=k)(hg:W.grownBy w1 v.ownBlock)
 (ho:w1.ownsRow base 5 1 (.slice A' (n+m) c') (n+m) xs) (hx:xs=ys.map (Value.int .u8)) (hm:m<=4):AQi w base n (.returned (.slice A' (n+m) c')) w1:=
 ⟨A',n+m,c',rfl,Om,Om,⟨ys,by rw[<-hx];exact ho⟩,hb.grown hg hB hv⟩
theorem AK(w:World)(o:Obj):Below w.heap.size w (w.alloc o):=Bl.alloc Nl _
theorem EM(w:World)(o:Obj)(base:Nat)(h:base<=w.heap.size):Below base w (w.alloc o):=Bl.alloc h _
theorem C8(w:World)(base:Nat)(A:Option Addr)(n c:Nat)(hB:CG w base A n c)(hbase:base<=w.heap.size)(hn:n<=1000000)(u:Int)(hu1:u<=1114111) :
 Calls Tryz.prog 67 #[.slice A n c,.int .i64 u] w (AQi w base n):=by
 obtain⟨i0,hi,hz0,hz1,hz2⟩:=info_parts Tryz.info5
 obtain⟨xs,hrow⟩:=hB
 by_cases hu0:u<0
 .have h1:u<128:=Om
  go_enter Tryz.func67,Tryz.ntmps67;go_wp2_with (first|(at_builtin;refine wpList_append_own _ rfl _ _ 109 rfl base 5 i0 (.int .u8 0) 1 1 Tryz.underlying109 hi hz0 hz1 hz2 rfl De _ _ _ rfl (AD hrow (AK _ _)) ⟨w.heap.size,0,none⟩ 1 1 [.int .u8 (u%256)] rfl rfl ?c1a ?c2a ?c3a ?c4a ?c5a ?_))
  try case c1a=>exact World.news_of_block (cs:=#[.int .u8 (u%256)]) (t:=5) (fr:=(0,0)) (heap_alloc_new w _)
  case c2a=>simp[Value.oneCell']
  case c3a=>unfold maxLen;omega
  case c4a=>omega
  case c5a=>first|omega|(simp;omega)
  intro v' w1 hown1 hgrow hnil;clear hnil;obtain⟨A1,c1,rfl,_⟩:=AF hown1;have HO:=Hd hown1;have HG:=Hd hgrow;clear hown1 hgrow hi hz0 hz1 hz2;go_wp2_with fail;go_ret;exact MP (ys:=xs++[(u%256)]) (EM _ _ _ hbase) (by simp;omega) (AG hrow) HG.out HO.out Sm Om
 have hu0':0<=u:=Om
 clear hu0
 by_cases h1:u<128
 .go_enter Tryz.func67,Tryz.ntmps67
  go_wp2_with (first|(at_builtin;refine wpList_append_own _ rfl _ _ 109 rfl base 5 i0 (.int .u8 0) 1 1 Tryz.underlying109 hi hz0 hz1 hz2 rfl De _ _ _ rfl (AD hrow (AK _ _)) ⟨w.heap.size,0,none⟩ 1 1 [.int .u8 u] rfl rfl ?c1b ?c2b ?c3b ?c4b ?c5b ?_))
  try case c1b=>exact World.news_of_block (cs:=#[.int .u8 u]) (t:=5) (fr:=(0,0)) (heap_alloc_new w _)
  case c2b=>simp[Value.oneCell']
  case c3b=>unfold maxLen;omega
  case c4b=>omega
  case c5b=>first|omega|(simp;omega)
  intro v' w1 hown1 hgrow hnil;clear hnil;obtain⟨A1,c1,rfl,_⟩:=AF hown1;have HO:=Hd hown1;have HG:=Hd hgrow;clear hown1 hgrow hi hz0 hz1 hz2;go_wp2_with fail;go_ret;exact MP (ys:=xs++[u]) (EM _ _ _ hbase) (by simp;omega) (AG hrow) HG.out HO.out Sm Om
 by_cases h2:u<2048
 .go_enter Tryz.func67,Tryz.ntmps67
  go_wp2_with (first|(at_builtin;refine wpList_append_own _ rfl _ _ 109 rfl base 5 i0 (.int .u8 0) 1 1 Tryz.underlying109 hi hz0 hz1 hz2 rfl De _ _ _ rfl (AD hrow (AK _ _)) ⟨w.heap.size,0,none⟩ 2 2 [.int .u8 (192+u/64),.int .u8 (128+u%64)] rfl rfl ?c1c ?c2c ?c3c ?c4c ?c5c ?_))
  try case c1c=>exact World.news_of_block (cs:=#[.int .u8 (192+u/64),.int .u8 (128+u%64)]) (t:=5) (fr:=(0,0)) (heap_alloc_new w _)
  case c2c=>simp[Value.oneCell']
  case c3c=>unfold maxLen;omega
  case c4c=>omega
  case c5c=>first|omega|(simp;omega)
  intro v' w1 hown1 hgrow hnil;clear hnil;obtain⟨A1,c1,rfl,_⟩:=AF hown1;have HO:=Hd hown1;have HG:=Hd hgrow;clear hown1 hgrow hi hz0 hz1 hz2;go_wp2_with fail;go_ret;exact MP (ys:=xs++[(192+u/64),(128+u%64)]) (EM _ _ _ hbase) (by simp;omega) (AG hrow) HG.out HO.out Sm Om
 have HH:=Hd (λW=>WE u W)
 have HLo:=Hd (λW=>XJ u W)
 cases hh:(decide (55296<=u)&&decide (u<=56319)) with
 |true=>
  have HQ:=Hd hh
  clear hh
  go_enter Tryz.func67,Tryz.ntmps67
  go_wp2_with (first|(at_builtin;refine wpList_append_own _ rfl _ _ 109 rfl base 5 i0 (.int .u8 0) 1 1 Tryz.underlying109 hi hz0 hz1 hz2 rfl De _ _ _ rfl (AD hrow (AK _ _)) ⟨w.heap.size,0,none⟩ 3 3 [.int .u8 239,.int .u8 191,.int .u8 189] rfl rfl ?c1d ?c2d ?c3d ?c4d ?c5d ?_)|(go_at_call 91;refine(HH.out _).mono ?_;rintro e w' ⟨rfl,rfl⟩;rw[HQ.out]))
  try case c1d=>exact World.news_of_block (cs:=#[.int .u8 239,.int .u8 191,.int .u8 189]) (t:=5) (fr:=(0,0)) (heap_alloc_new w _)
  case c2d=>simp[Value.oneCell']
  case c3d=>unfold maxLen;omega
  case c4d=>omega
  case c5d=>first|omega|(simp;omega)
  intro v' w1 hown1 hgrow hnil
  clear hnil
  obtain⟨A1,c1,rfl,_⟩:=AF hown1
  have HO:=Hd hown1
  have HG:=Hd hgrow
  clear hown1 hgrow hi hz0 hz1 hz2
  go_wp2_with fail
  go_ret
  exact MP (ys:=xs++[239,191,189]) (EM _ _ _ hbase) (by simp;omega) (AG hrow) HG.out HO.out Sm Om
 |false=>
  have HQ:=Hd hh
  clear hh
  cases hl:(decide (56320<=u)&&decide (u<=57343)) with
  |true=>
   have HQ2:=Hd hl
   clear hl
   go_enter Tryz.func67,Tryz.ntmps67
   go_wp2_with (first|(at_builtin;refine wpList_append_own _ rfl _ _ 109 rfl base 5 i0 (.int .u8 0) 1 1 Tryz.underlying109 hi hz0 hz1 hz2 rfl De _ _ _ rfl (AD hrow (AK _ _)) ⟨w.heap.size,0,none⟩ 3 3 [.int .u8 239,.int .u8 191,.int .u8 189] rfl rfl ?c1e ?c2e ?c3e ?c4e ?c5e ?_)|(go_at_call 91;refine(HH.out _).mono ?_;rintro e w' ⟨rfl,rfl⟩;rw[HQ.out])|(go_at_call 92;refine(HLo.out _).mono ?_;rintro e w' ⟨rfl,rfl⟩;rw[HQ2.out]))
   try case c1e=>exact World.news_of_block (cs:=#[.int .u8 239,.int .u8 191,.int .u8 189]) (t:=5) (fr:=(0,0)) (heap_alloc_new w _)
   case c2e=>simp[Value.oneCell']
   case c3e=>unfold maxLen;omega
   case c4e=>omega
   case c5e=>first|omega|(simp;omega)
   intro v' w1 hown1 hgrow hnil
   clear hnil
   obtain⟨A1,c1,rfl,_⟩:=AF hown1
   have HO:=Hd hown1
   have HG:=Hd hgrow
   clear hown1 hgrow hi hz0 hz1 hz2
   go_wp2_with fail
   go_ret
   exact MP (ys:=xs++[239,191,189]) (EM _ _ _ hbase) (by simp;omega) (AG hrow) HG.out HO.out Sm Om
  |false=>
   have HQ2:=Hd hl
   clear hl
   by_cases h3:u<65536
   .go_enter Tryz.func67,Tryz.ntmps67
    go_wp2_with (first|(at_builtin;refine wpList_append_own _ rfl _ _ 109 rfl base 5 i0 (.int .u8 0) 1 1 Tryz.underlying109 hi hz0 hz1 hz2 rfl De _ _ _ rfl (AD hrow (AK _ _)) ⟨w.heap.size,0,none⟩ 3 3 [.int .u8 (224+u/4096),.int .u8 (128+u/64%64),.int .u8 (128+u%64)] rfl rfl ?c1f ?c2f ?c3f ?c4f ?c5f ?_)|(go_at_call 91;refine(HH.out _).mono ?_;rintro e w' ⟨rfl,rfl⟩;rw[HQ.out])|(go_at_call 92;refine(HLo.out _).mono ?_;rintro e w' ⟨rfl,rfl⟩;rw[HQ2.out]))
    try case c1f=>exact World.news_of_block (cs:=#[.int .u8 (224+u/4096),.int .u8 (128+u/64%64),.int .u8 (128+u%64)]) (t:=5) (fr:=(0,0)) (heap_alloc_new w _)
    case c2f=>simp[Value.oneCell']
    case c3f=>unfold maxLen;omega
    case c4f=>omega
    case c5f=>first|omega|(simp;omega)
    intro v' w1 hown1 hgrow hnil;clear hnil;obtain⟨A1,c1,rfl,_⟩:=AF hown1;have HO:=Hd hown1;have HG:=Hd hgrow;clear hown1 hgrow hi hz0 hz1 hz2;go_wp2_with fail;go_ret;exact MP (ys:=xs++[(224+u/4096),(128+u/64%64),(128+u%64)]) (EM _ _ _ hbase) (by simp;omega) (AG hrow) HG.out HO.out Sm Om
   go_enter Tryz.func67,Tryz.ntmps67
   go_wp2_with (first|(at_builtin;refine wpList_append_own _ rfl _ _ 109 rfl base 5 i0 (.int .u8 0) 1 1 Tryz.underlying109 hi hz0 hz1 hz2 rfl De _ _ _ rfl (AD hrow (AK _ _)) ⟨w.heap.size,0,none⟩ 4 4 [.int .u8 (240+u/262144),.int .u8 (128+u/4096%64),.int .u8 (128+u/64%64),.int .u8 (128+u%64)] rfl rfl ?c1g ?c2g ?c3g ?c4g ?c5g ?_)|(go_at_call 91;refine(HH.out _).mono ?_;rintro e w' ⟨rfl,rfl⟩;rw[HQ.out])|(go_at_call 92;refine(HLo.out _).mono ?_;rintro e w' ⟨rfl,rfl⟩;rw[HQ2.out]))
   try case c1g=>exact World.news_of_block (cs:=#[.int .u8 (240+u/262144),.int .u8 (128+u/4096%64),.int .u8 (128+u/64%64),.int .u8 (128+u%64)]) (t:=5) (fr:=(0,0)) (heap_alloc_new w _)
   case c2g=>simp[Value.oneCell']
   case c3g=>unfold maxLen;omega
   case c4g=>omega
   case c5g=>first|omega|(simp;omega)
   intro v' w1 hown1 hgrow hnil
   clear hnil
   obtain⟨A1,c1,rfl,_⟩:=AF hown1
   have HO:=Hd hown1
   have HG:=Hd hgrow
   clear hown1 hgrow hi hz0 hz1 hz2
   go_wp2_with fail
   go_ret
   exact MP (ys:=xs++[(240+u/262144),(128+u/4096%64),(128+u/64%64),(128+u%64)]) (EM _ _ _ hbase) (by simp;omega) (AG hrow) HG.out HO.out Sm Om
def OH(s:ByteArray)(i:Nat):Bool:=if h:i<s.size then(if AA s i=46\/AA s i=101 then true else OH s (i+1)) else false
 termination_by s.size-i
theorem VK{s:ByteArray}{i:Nat}(h:¬i<s.size):OH s i=false:=by unfold OH;rw[dif_neg h]
theorem QE{s:ByteArray}{i:Nat}(h:i<s.size)(e:AA s i=46\/AA s i=101):OH s i=true:=by unfold OH;rw[dif_pos h,if_pos e]
theorem O7{s:ByteArray}{i:Nat}(h:i<s.size)(e:¬(AA s i=46\/AA s i=101)):OH s i=OH s (i+1):=by
 conv=>lhs;unfold OH
 rw[dif_pos h,if_neg e]
def NV(s:ByteArray):Bool:=OH s 0
def QJ:ByteArray:=⟨#[121,110,113,105,117,120,116,100]⟩
def RB:ByteArray:=⟨#[115,111,103]⟩
def dW:ByteArray:=⟨#[100]⟩
def bW:ByteArray:=⟨#[98]⟩
def ayW:ByteArray:=⟨#[97,121]⟩
def vW:ByteArray:=⟨#[118]⟩
def NT:ByteArray:=⟨#[97,123]⟩
mutual
def CO:Ph->ByteArray->Prop
 |.mk k x kids ty,sig=>(ty=none\/ty=some sig)/\
  (k=2->if ty=none/\NV x=true then sig=dW else sig.size=1/\BT (AA sig 0) QJ=true)/\
  (k=3->sig.size=1/\BT (AA sig 0) RB=true)/\(k=4->sig=bW)/\(k=14->sig=ayW)/\(k=9->sig=vW)/\
  (k=5->2<=sig.size/\AA sig 0=97/\AA sig 1≠123/\FI kids (sig.extract 1 sig.size))/\
  (k=7->5<=sig.size/\sig.extract 0 2=NT/\D1 kids (sig.extract 2 3) (sig.extract 3 (sig.size-1)))
def FI:List Ph->ByteArray->Prop
 |[],_=>True
 |p::l,sig=>CO p sig/\FI l sig
def D1:List Ph->ByteArray->ByteArray->Prop
 |[],_,_=>True
 |p::l,a,b=>CO p a/\D1 l b a
end
mutual
def Ph.ok:Ph->Prop | .mk _ x l ty=>x.size<=100000/\(∀t,ty=some t->t.size<=100000)/\okL l
def okL:List Ph->Prop | []=>True|p::l=>p.ok/\okL l
end
theorem UB:∀(l:List Ph) (i:Nat) (h:i<l.length),okL l->l[i].ok
 |[],i,h,_=>absurd h Sm
 |p::l,0,_,hl=>by simp only[okL]at hl;exact hl.1
 |p::l,i+1,h,hl=>by simp only[okL]at hl;exact UB l i (by simpa using h) hl.2
theorem ZR(l:List Ph)(sig:ByteArray)(i:Nat)(h:i<l.length)(h1:CO l[i] sig)(h2:FI (l.drop (i+1)) sig):FI (l.drop i) sig:=by rw[List.drop_eq_getElem_cons h];exact⟨h1,h2⟩
theorem S4(l:List Ph)(a b:ByteArray)(i:Nat)(h:i<l.length)(h1:CO l[i] a)(h2:D1 (l.drop (i+1)) b a):D1 (l.drop i) a b:=by rw[List.drop_eq_getElem_cons h];exact⟨h1,h2⟩
def AOz(N:Nat):Prop:=∀(p:Ph),p.sz<=N->∀(w:World) (k:Nat) (x:ByteArray) (A:Option Addr) (n c:Nat) (b:Bool) (t:ByteArray) (sig:ByteArray),p.ok->sig.size<=100000->PhAt w (λ_=>True) (NX k x A n c b t) p->
 Calls Tryz.prog 26 #[.agg #[.int .i64 k,.string x,.slice A n c,.bool b,.string t],.string sig] w (ID (λr=>r=true->CO p sig) w)
theorem CI{P:Prop}{w w':World}(hb:Below w.heap.size w w'):ID (λr=>r=true->P) w (.returned (.bool false)) w':=⟨false,rfl,λh=>by simp at h,hb⟩
theorem II{P:Prop}{w w':World}(b:Bool)(h:b=true->P)(hb:Below w.heap.size w w'):ID (λr=>r=true->P) w (.returned (.bool b)) w':=⟨b,rfl,h,hb⟩
theorem BB(w:World)(o:Obj):Below w.heap.size w (w.alloc o):=Bl.alloc Nl _
theorem AL7{s t:ByteArray}:(s.toList !=t.toList)=!decide (s=t):=by unfold bne;rw[AE];congr 1;rw[ByteArray.toList_eq]
theorem AG2(N:Nat)(ih:AOz N):AOz (N+1):=by
 intro p hp w k x A n c b t sig hok hsig hat
 cases hat with
 |mk k x A n c kids ty rows hn hrow hP hA hkid=>
 have hsz:K8 kids<=N:=by simp[Ph.sz]at hp;omega
 simp only[Ph.ok]at hok;obtain⟨hx,hoty,hokl⟩:=hok;have HOKL:=Hd hokl;clear hp hP hoty hokl;have hn63:=SU hrow;generalize hb:ty.isSome=b;generalize ht:ZV ty=t;have hBT:b=true->ty=some t:=by
  intro h;rw[h]at hb;cases ty with
  |none=>simp at hb
  |some y=>simp[ZV]at ht;rw[ht]
 have hBF:b=false->ty=none:=by
  intro h;rw[h]at hb;cases ty with
  |none=>rfl
  |some y=>simp at hb
 clear hb ht;have HBT:=Hd hBT;have HBF:=Hd hBF;have HN:=Hd hn;have HA:=Hd hA;have HS:=Hd hsz;have HRow:=Hd hrow;have HK:=Hd hkid;have HIH:=Hd ih;have HX:=Hd (λ(i:Nat) (h:i<x.size)=>AJ h);clear hn hA hsz hrow hkid ih hBT hBF;go_enter Tryz.func26,Tryz.ntmps26;go_upto_region 1 with fail;go_cut [18] from 11 to 17 (λv wx=>∃nb,v=.bool nb/\Hid (nb=false->ty=none\/ty=some sig)/\wx=w.alloc (.cells #[.int .i64 k,.string x,.slice A n c,.bool b,.string t] 37))
 case first=>
  cases b with
  |false=>have HF:Hid (false=false->ty=none\/ty=some sig):=λ_=>.inl (HBF.out rfl);have hF:∀(P:Prop),Hid P->Hid P:=λ_ h=>h;clear hF;go_wp2_with fail;go_meet;exact⟨false,rfl,λ_=>.inl (HBF.out (by first|exact trivial|rfl)),rfl⟩
  |true=>
   by_cases hts:t=sig
   .subst hts
    have q1:(t.toList !=t.toList)=false:=by simp
    have q2:(t.toList==t.toList)=true:=by simp
    go_wp2_with fail;go_meet;exact⟨false,rfl,λ_=>.inr (HBT.out (by first|exact trivial|rfl)),rfl⟩
   have q1:(t.toList !=sig.toList)=true:=by rw[AL7];simp[hts]
   have q2:=ADu hts;go_wp2_with fail;go_meet;exact⟨true,rfl,λh=>by simp at h,rfl⟩
 obtain⟨nb,rfl,HT,rfl⟩:=hcut
 cases nb with
 |true=>go_wp2_with fail;go_ret;exact CI (BB _ _)
 |false=>
  have HT2:=Hd (HT.out (by first|exact trivial|rfl));clear HT;by_cases h2:k=2
  .subst h2
   have HFd:Hid (ty=none->NV x=true->sig=dW->CO (.mk 2 x kids ty) sig):=λh0 h1 h4=>⟨HT2.out,λ_=>by rw[if_pos ⟨h0,h1⟩];exact h4,Om,Om,Om,Om,Om,Om⟩;have HFn:Hid (¬(ty=none/\NV x=true)->sig.size=1->BT (AA sig 0) QJ=true->CO (.mk 2 x kids ty) sig):=λh0 h1 h4=>⟨HT2.out,λ_=>by rw[if_neg h0];exact⟨h1,h4⟩,Om,Om,Om,Om,Om,Om⟩;go_upto_block 1 with fail;go_cut [] from 5 to 48 (λwx=>wx=w.alloc (.cells #[.int .i64 2,.string x,.slice A n c,.bool b,.string t] 37)/\Hid (¬(ty=none/\NV x=true)))
   case first=>
    cases b with
    |true=>
     have HND:Hid (¬(ty=none/\NV x=true)):=λh=>by have:=HBT.out (by first|exact trivial|rfl);rw[h.1]at this;simp at this
     go_wp2_with fail;go_loop [5] (λi=>i=.int .i64 0) (λ_=>0)
     case atStart=>exact rfl
     subst hrel;by_cases hx0:(0:Int)<(x.size:Int)
     .go_wp2_with fail
      go_meet;exact⟨rfl,HND⟩
     go_wp2_with fail;go_meet;exact⟨rfl,HND⟩
    |false=>
     have HTY:=Hd (HBF.out (by first|exact trivial|rfl));go_wp2_with fail;go_loop [5] (λi=>∃m:Nat,m<=x.size/\i=.int .i64 m/\Hid (NV x=OH x m)) (λi=>x.size-(intOf i).toNat)
     case atStart=>exact⟨0,Om,rfl,rfl⟩
     obtain⟨m,hm,rfl,HM⟩:=hrel;by_cases hlt:(m:Int)<(x.size:Int)
     .have hmx:m<x.size:=Om
      have em:=HX.out m hmx;by_cases hd:AA x m=46\/AA x m=101
      .have HDT:=Hd (HM.out.trans (QE hmx hd))
       by_cases hsd:sig=dW
       .have q3:(sig.toList==[100])=true:=by rw[AE];exact decide_eq_true hsd
        have HFF:=Hd (HFd.out HTY.out HDT.out hsd);by_cases h46:AA x m=46
        .have t1:(AA x m==46)=true:=by simp[h46]
         clear hd h46 hsd;generalize AA x m=d at *;go_wp2_with fail;go_ret;exact II _ (λ_=>HFF.out) (BB _ _)
        have t1:(AA x m==46)=false:=by simp[h46]
        have t2:(AA x m==101)=true:=by simp[hd.resolve_left h46]
        clear hd h46 hsd;generalize AA x m=d at *;go_wp2_with fail;go_ret;exact II _ (λ_=>HFF.out) (BB _ _)
       have q3:(sig.toList==[100])=false:=by rw[AE];exact decide_eq_false hsd
       by_cases h46:AA x m=46
       .have t1:(AA x m==46)=true:=by simp[h46]
        clear hd h46 hsd;generalize AA x m=d at *;go_wp2_with fail;go_ret;exact CI (BB _ _)
       have t1:(AA x m==46)=false:=by simp[h46]
       have t2:(AA x m==101)=true:=by simp[hd.resolve_left h46]
       clear hd h46 hsd;generalize AA x m=d at *;go_wp2_with fail;go_ret;exact CI (BB _ _)
      have t1:(AA x m==46)=false:=by rw[Bn];exactλh=>hd (.inl h)
      have t2:(AA x m==101)=false:=by rw[Bn];exactλh=>hd (.inr h)
      have HM2:=Hd (HM.out.trans (O7 hmx hd));clear hd HM;generalize AA x m=d at *;go_wp2_with fail;go_round
      case rel=>exact⟨m+1,Om,by go_num,HM2⟩
      simp[intOf];omega
     have HND:Hid (¬(ty=none/\NV x=true)):=λh=>by rw[HM.out,VK Om]at h;simp at h
     clear HM;go_wp2_with fail;go_meet;exact⟨rfl,HND⟩
   obtain⟨rfl,HND⟩:=hcut;by_cases h1:sig.size=1
   .have q1:((sig.size:Int)==1)=true:=by rw[beq_iff_eq];omega
    have hs0:(0:Int)<(sig.size:Int):=Om;have hp0:0<sig.size:=Om;have e0:=AJ hp0;have H1:=Hd h1;clear h1;go_wp2_with (go_at_call 31;refine(B4 _ _ De _).mono ?_;rintro e w' ⟨rfl,rfl⟩);go_ret;exact II _ (λh=>HFn.out HND.out H1.out h) (BB _ _)
   have q1:((sig.size:Int)==1)=false:=Bq;clear h1;go_wp2_with fail;go_ret;exact CI (BB _ _)
  by_cases h3:k=3
  .subst h3
   have HF:sig.size=1->BT (AA sig 0) RB=true->CO (.mk 3 x kids ty) sig:=λh1 h4=>⟨HT2.out,Om,λ_=>⟨h1,h4⟩,Om,Om,Om,Om,Om⟩;have HFF:=Hd HF;clear HF;by_cases h1:sig.size=1
   .have q1:((sig.size:Int)==1)=true:=by rw[beq_iff_eq];omega
    have hs0:(0:Int)<(sig.size:Int):=Om;have hp0:0<sig.size:=Om;have e0:=AJ hp0;have H1:=Hd h1;clear h1;go_wp2_with (go_at_call 31;refine(B4 _ _ De _).mono ?_;rintro e w' ⟨rfl,rfl⟩);go_ret;exact II _ (λh=>HFF.out H1.out h) (BB _ _)
   have q1:((sig.size:Int)==1)=false:=Bq;clear h1;go_wp2_with fail;go_ret;exact CI (BB _ _)
  by_cases h4:k=4
  .subst h4
   by_cases h1:sig=bW
   .have q1:(sig.toList==[98])=true:=by rw[AE];exact decide_eq_true h1
    have HFF:=Hd (show CO (.mk 4 x kids ty) sig from⟨HT2.out,Om,Om,λ_=>h1,Om,Om,Om,Om⟩);clear h1;go_wp2_with fail;go_ret;exact II _ (λ_=>HFF.out) (BB _ _)
   have q1:(sig.toList==[98])=false:=by rw[AE];exact decide_eq_false h1
   clear h1;go_wp2_with fail;go_ret;exact CI (BB _ _)
  by_cases h14:k=14
  .subst h14
   by_cases h1:sig=ayW
   .have q1:(sig.toList==[97,121])=true:=by rw[AE];exact decide_eq_true h1
    have HFF:=Hd (show CO (.mk 14 x kids ty) sig from⟨HT2.out,Om,Om,Om,λ_=>h1,Om,Om,Om⟩);clear h1;go_wp2_with fail;go_ret;exact II _ (λ_=>HFF.out) (BB _ _)
   have q1:(sig.toList==[97,121])=false:=by rw[AE];exact decide_eq_false h1
   clear h1;go_wp2_with fail;go_ret;exact CI (BB _ _)
  by_cases h9:k=9
  .subst h9
   by_cases h1:sig=vW
   .have q1:(sig.toList==[118])=true:=by rw[AE];exact decide_eq_true h1
    have HFF:=Hd (show CO (.mk 9 x kids ty) sig from⟨HT2.out,Om,Om,Om,Om,λ_=>h1,Om,Om⟩);clear h1;go_wp2_with fail;go_ret;exact II _ (λ_=>HFF.out) (BB _ _)
   have q1:(sig.toList==[118])=false:=by rw[AE];exact decide_eq_false h1
   clear h1;go_wp2_with fail;go_ret;exact CI (BB _ _)
  by_cases h5:k=5
  .subst h5
   by_cases hg5:2<=sig.size/\AA sig 0=97/\AA sig 1≠123
   .obtain⟨g1,g2,g3⟩:=hg5
    have hs0:¬(sig.size:Int)<2:=Om;have hp0:0<sig.size:=Om;have hp1:1<sig.size:=Om;have hi0:(0:Int)<(sig.size:Int):=Om;have hi1:(1:Int)<(sig.size:Int):=Om;have hi2:(1:Int)<=(sig.size:Int):=Om;have e0:=AJ hp0;have e1:=AJ hp1;have t0:(AA sig 0 !=97)=false:=by simp[g2]
    have t2:(AA sig 1==123)=false:=by rw[Bn];exact g3
    have HFF:Hid (FI kids (sig.extract 1 sig.size)->CO (.mk 5 x kids ty) sig):=λh=>⟨HT2.out,Om,Om,Om,Om,Om,λ_=>⟨g1,g2,g3,h⟩,Om⟩;have hxs:(sig.extract 1 sig.size).size<=100000:=by simp;omega
    have HXS:=Hd hxs;clear g2 g3 hxs;generalize AA sig 0=d0 at *;generalize AA sig 1=d1 at *;go_wp2_with fail;go_loopw [97] (λi wr=>∃m:Nat,m<=n/\i=.int .i64 m/\Below w.heap.size w wr/\Hid (FI (kids.drop m) (sig.extract 1 sig.size)->FI kids (sig.extract 1 sig.size))) (λi _=>n-(intOf i).toNat)
    case atStart=>exact⟨0,Nat.zero_le _,rfl,BB _ _,λh=>h⟩
    obtain⟨m,hm,rfl,hbel,HM⟩:=hrel;by_cases hlt:(m:Int)<(n:Int)
    .have hmn:m<kids.length:=by have:=HN.out;omega
     have hsz1:=CW kids m hmn;obtain⟨g,hg,hgl⟩:=HA.out Om;subst hg;have hrow1:=AD HRow.out hbel;obtain⟨k1,x1,A1,n1,cc1,b1,t1,hat1,c0,c1,c2,c3,c4⟩:=PhAt.kid HN.out hrow1 (λi h=>(HK.out i h).keep hbel) m hmn;have HC:=Hd (λ(W:World) (hW:Below wr.heap.size wr W)=>HIH.out kids[m] (by have:=HS.out;omega) W k1 x1 A1 n1 cc1 b1 t1 (sig.extract 1 sig.size) (UB kids m hmn HOKL.out) HXS.out (hat1.keep hW));clear hrow1 hat1 hsz1 HRow HK HIH HS;have hbs:=hbel.size;go_upto_region 25 with fail;have hlk:wr.heap.size<(wr.alloc (.cells #[.int .i64 k1,.string x1,.slice A1 n1 cc1,.bool b1,.string t1] 37)).heap.size:=by simp
     have hbk:Below wr.heap.size wr (wr.alloc (.cells #[.int .i64 k1,.string x1,.slice A1 n1 cc1,.bool b1,.string t1] 37)):=Bl.alloc Nl _;obtain⟨q0,q1,q2,q3,q4⟩:=AL (heap_alloc_new wr (.cells #[.int .i64 k1,.string x1,.slice A1 n1 cc1,.bool b1,.string t1] 37));generalize wr.alloc (.cells #[.int .i64 k1,.string x1,.slice A1 n1 cc1,.bool b1,.string t1] 37)=wk at *;go_region_held3 (λW=>W.cell? ⟨wr.heap.size,0,none⟩=some (.int .i64 k1)/\W.cell? ⟨wr.heap.size,1,none⟩=some (.string x1)/\W.cell? ⟨wr.heap.size,2,none⟩=some (.slice A1 n1 cc1)/\W.cell? ⟨wr.heap.size,3,none⟩=some (.bool b1)/\W.cell? ⟨wr.heap.size,4,none⟩=some (.string t1)/\Below wk.heap.size wk W) (first|exact⟨q0,q1,q2,q3,q4,Bl.drew⟩|exact⟨(hbw.cell (p:=⟨_,0,none⟩) hlk).trans q0,(hbw.cell (p:=⟨_,1,none⟩) hlk).trans q1,(hbw.cell (p:=⟨_,2,none⟩) hlk).trans q2,(hbw.cell (p:=⟨_,3,none⟩) hlk).trans q3,(hbw.cell (p:=⟨_,4,none⟩) hlk).trans q4,(Bl.drew).trans hbw⟩) ((go_at_call 26;refine(HC.out _ hbk.drew).mono ?_;rintro e w' ⟨rb,rfl,hq,hbw⟩));have hwb:Below w.heap.size w w':=(hbel.trans (hbk.mono hbs)).trans (((Bl.drew).trans hbw).mono (by have:=hbk.size;have e5:wk.drew.heap.size=wk.heap.size:=rfl;omega));have HQ:=Hd hq
     cases rb with
     |false=>go_wp2_with fail;go_ret;exact CI hwb
     |true=>
      have HM2:=Hd (λh=>HM.out (ZR kids _ m hmn (HQ.out (by first|exact trivial|rfl)) h));clear HM HQ hq;go_wp2_with fail;go_roundw
      case rel=>exact⟨m+1,Om,by go_num,hwb,HM2⟩
      simp[intOf];omega
    have HM2:=Hd (HFF.out (HM.out (by rw[List.drop_eq_nil_of_le (by have:=HN.out;omega)];exact trivial)));clear HM HRow HK HIH HA;go_wp2_with fail;go_ret;exact II _ (λ_=>HM2.out) hbel
   clear HRow HK HIH HA;by_cases g1:2<=sig.size
   .have hs0:¬(sig.size:Int)<2:=Om
    have hp0:0<sig.size:=Om;have hp1:1<sig.size:=Om;have hi0:(0:Int)<(sig.size:Int):=Om;have hi1:(1:Int)<(sig.size:Int):=Om;have e0:=AJ hp0;have e1:=AJ hp1;by_cases g2:AA sig 0=97
    .have t0:(AA sig 0 !=97)=false:=by simp[g2]
     have t2:(AA sig 1==123)=true:=by rw[beq_iff_eq];exact Classical.byContradiction λh=>hg5 ⟨g1,g2,h⟩
     clear hg5 g2;generalize AA sig 0=d0 at *;generalize AA sig 1=d1 at *;go_wp2_with fail;go_ret;exact CI (BB _ _)
    have t0:(AA sig 0 !=97)=true:=by simp[g2]
    clear hg5 g2;generalize AA sig 0=d0 at *;go_wp2_with fail;go_ret;exact CI (BB _ _)
   have hs0:(sig.size:Int)<2:=Om;go_wp2_with fail;go_ret;exact CI (BB _ _)
  have HNK:Hid (k≠2/\k≠3/\k≠4/\k≠14/\k≠9/\k≠5):=⟨h2,h3,h4,h14,h9,h5⟩;have u2:((k:Int)==2)=false:=Bq;have u3:((k:Int)==3)=false:=Bq;have u4:((k:Int)==4)=false:=Bq;have u14:((k:Int)==14)=false:=Bq;have u9:((k:Int)==9)=false:=Bq;have u5:((k:Int)==5)=false:=Bq;clear h2 h3 h4 h14 h9 h5;by_cases hg7:5<=sig.size/\sig.extract 0 2=NT
  .obtain⟨g1,g2⟩:=hg7
   have hs0:¬(sig.size:Int)<5:=Om;have hs2:(2:Int)<=(sig.size:Int):=Om;have hs3:(3:Int)<=(sig.size:Int):=Om;have hs4:(3:Int)<=(sig.size:Int)-1:=Om;have hsN:(((sig.size:Int)-1).toNat)=sig.size-1:=Om;have t0:((sig.extract 0 2).toList==[97,123])=true:=by rw[AE];exact decide_eq_true g2
   have t2:((sig.extract 0 2).toList != [97,123])=false:=by unfold bne;rw[t0];rfl
   have HFF:Hid (D1 kids (sig.extract 2 3) (sig.extract 3 (sig.size-1))->CO (.mk k x kids ty) sig):=λh=>⟨HT2.out,λe=>absurd e HNK.out.1,λe=>absurd e HNK.out.2.1,λe=>absurd e HNK.out.2.2.1,λe=>absurd e HNK.out.2.2.2.1,λe=>absurd e HNK.out.2.2.2.2.1,λe=>absurd e HNK.out.2.2.2.2.2,λ_=>⟨g1,g2,h⟩⟩;have HXS0:=Hd (show (sig.extract 2 3).size<=100000 by simp;omega);have HXS1:=Hd (show (sig.extract 3 (sig.size-1)).size<=100000 by simp;omega);clear g2;go_wp2_with fail;go_loopw [118] (λi wr=>∃m:Nat,m<=n/\i=.int .i64 m/\Below w.heap.size w wr/\Hid (D1 (kids.drop m) (if m%2=0 then sig.extract 2 3 else sig.extract 3 (sig.size-1)) (if m%2=0 then sig.extract 3 (sig.size-1) else sig.extract 2 3)->D1 kids (sig.extract 2 3) (sig.extract 3 (sig.size-1)))) (λi _=>n-(intOf i).toNat)
   case atStart=>exact⟨0,Nat.zero_le _,rfl,BB _ _,λh=>h⟩
   obtain⟨m,hm,rfl,hbel,HM⟩:=hrel;by_cases hlt:(m:Int)<(n:Int)
   .by_cases hpar:m%2=1
    .have q5:((m:Int)%2==1)=true:=by rw[beq_iff_eq];omega
     have hmn:m<kids.length:=by have:=HN.out;omega
     have hsz1:=CW kids m hmn;obtain⟨g,hg,hgl⟩:=HA.out Om;subst hg;have hrow1:=AD HRow.out hbel;obtain⟨k1,x1,A1,n1,cc1,b1,t1,hat1,c0,c1,c2,c3,c4⟩:=PhAt.kid HN.out hrow1 (λi h=>(HK.out i h).keep hbel) m hmn;have HC:=Hd (λ(W:World) (hW:Below wr.heap.size wr W)=>HIH.out kids[m] (by have:=HS.out;omega) W k1 x1 A1 n1 cc1 b1 t1 (sig.extract 3 (sig.size-1)) (UB kids m hmn HOKL.out) HXS1.out (hat1.keep hW));clear hrow1 hat1 hsz1 HRow HK HIH HS;have hbs:=hbel.size;have hm2:m%2=1:=Om;have HM':=Hd (show D1 (kids.drop m) (sig.extract 3 (sig.size-1)) (sig.extract 2 3)->D1 kids (sig.extract 2 3) (sig.extract 3 (sig.size-1)) by have h:=HM.out;rw[hm2]at h;exact h);have hm3:(m+1)%2=0:=Om;have HM3:=Hd hm3;clear HM hm2 hm3 hpar;go_upto_if 136 with(go_at_call 26;refine(HC.out _ (Bl.alloc Nl _)).mono ?_;rintro e w' ⟨rb,rfl,hq,hbw⟩;have HQ:=Hd hq;clear hq);have hwb:Below w.heap.size w w':=(hbel.alloc hbs _).trans (hbw.mono (by simp;omega))
     cases rb with
     |false=>go_wp2_with fail;go_ret;exact CI hwb
     |true=>
      have HM2:=Hd (show D1 (kids.drop (m+1)) (if (m+1)%2=0 then sig.extract 2 3 else sig.extract 3 (sig.size-1)) (if (m+1)%2=0 then sig.extract 3 (sig.size-1) else sig.extract 2 3)->D1 kids (sig.extract 2 3) (sig.extract 3 (sig.size-1)) from λh=>HM'.out (S4 kids _ _ m hmn (HQ.out (by first|exact trivial|rfl)) (by rw[HM3.out]at h;exact h)));clear HM' HQ HM3;go_wp2_with fail;go_roundw
      case rel=>exact⟨m+1,Om,by go_num,hwb,HM2⟩
      simp[intOf];omega
    have q5:((m:Int)%2==1)=false:=Bq;have hmn:m<kids.length:=by have:=HN.out;omega
    have hsz1:=CW kids m hmn;obtain⟨g,hg,hgl⟩:=HA.out Om;subst hg;have hrow1:=AD HRow.out hbel;obtain⟨k1,x1,A1,n1,cc1,b1,t1,hat1,c0,c1,c2,c3,c4⟩:=PhAt.kid HN.out hrow1 (λi h=>(HK.out i h).keep hbel) m hmn;have HC:=Hd (λ(W:World) (hW:Below wr.heap.size wr W)=>HIH.out kids[m] (by have:=HS.out;omega) W k1 x1 A1 n1 cc1 b1 t1 (sig.extract 2 3) (UB kids m hmn HOKL.out) HXS0.out (hat1.keep hW));clear hrow1 hat1 hsz1 HRow HK HIH HS;have hbs:=hbel.size;have hm2:m%2=0:=Om;have HM':=Hd (show D1 (kids.drop m) (sig.extract 2 3) (sig.extract 3 (sig.size-1))->D1 kids (sig.extract 2 3) (sig.extract 3 (sig.size-1)) by have h:=HM.out;rw[hm2]at h;exact h);have hm3:(m+1)%2=1:=Om;have HM3:=Hd hm3;clear HM hm2 hm3 hpar;go_upto_if 136 with(go_at_call 26;refine(HC.out _ (Bl.alloc Nl _)).mono ?_;rintro e w' ⟨rb,rfl,hq,hbw⟩;have HQ:=Hd hq;clear hq);have hwb:Below w.heap.size w w':=(hbel.alloc hbs _).trans (hbw.mono (by simp;omega))
    cases rb with
    |false=>go_wp2_with fail;go_ret;exact CI hwb
    |true=>
     have HM2:=Hd (show D1 (kids.drop (m+1)) (if (m+1)%2=0 then sig.extract 2 3 else sig.extract 3 (sig.size-1)) (if (m+1)%2=0 then sig.extract 3 (sig.size-1) else sig.extract 2 3)->D1 kids (sig.extract 2 3) (sig.extract 3 (sig.size-1)) from λh=>HM'.out (S4 kids _ _ m hmn (HQ.out (by first|exact trivial|rfl)) (by rw[HM3.out]at h;exact h)));clear HM' HQ HM3;go_wp2_with fail;go_roundw
     case rel=>exact⟨m+1,Om,by go_num,hwb,HM2⟩
     simp[intOf];omega
   have hnil:kids.drop m=[]:=List.drop_eq_nil_of_le (by have:=HN.out;omega);have HM2:=Hd (HFF.out (HM.out (by rw[hnil];exact trivial)));clear HM HRow HK HIH HA hnil;go_wp2_with fail;go_ret;exact II _ (λ_=>HM2.out) hbel
  clear HRow HK HIH HA;by_cases g1:5<=sig.size
  .have hs0:¬(sig.size:Int)<5:=Om
   have hs2:(2:Int)<=(sig.size:Int):=Om;have t0:((sig.extract 0 2).toList==[97,123])=false:=by rw[AE];exact decide_eq_false λh=>hg7 ⟨g1,h⟩
   have t2:((sig.extract 0 2).toList != [97,123])=true:=by unfold bne;rw[t0];rfl
   clear hg7;go_wp2_with fail;go_ret;exact CI (BB _ _)
  have hs0:(sig.size:Int)<5:=Om;clear hg7;go_wp2_with fail;go_ret;exact CI (BB _ _)
theorem NH:∀N,AOz N
 |0=>λp hp=>by have:=p.sz_pos;omega
 |N+1=>AG2 N (NH N)
