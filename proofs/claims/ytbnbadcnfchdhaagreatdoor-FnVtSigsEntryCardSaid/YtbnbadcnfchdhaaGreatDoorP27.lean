/- Lemmas for FnVtSigsEntry; no conditions. -/
import Derived.Test.YtbnbadcnfchdhaaGreatDoorP23
import Derived.Test.YtbnbadcnfchdhaaGreatDoorP26
set_option maxRecDepth 100000
set_option maxHeartbeats 16000000
set_option linter.all false
namespace Go.Proofs.YtbnbadcnfchdhaaGreatDoor
open Go.RowKit
theorem O9{w w':World}{l:Nat}{s s':ByteArray}{st p wd st' p' wd':Nat}{ts:List AW}{A:Option Addr}{n c:Nat}(h1:GF w' l s' st' p' wd' A n c)(hg:w.grownBy w' (some l))(hl:l<w.heap.size)(hn:n=ts.length)(hr:w.ownsRow (l+1) 118 2 (.slice A n c) n (FH ts)):JI w' l s' st' p' wd' ts:=
 ⟨A,n,c,h1,hn,AR hr λg hg' hlt'=>hg.block g hlt' (by intro e;simp at e;have:=AG hr g hg';omega)⟩
theorem ABo{w:World}{l:Nat}{s:ByteArray}{st p wd:Nat}{ts:List AW}(h:JI w l s st p wd ts)(hwd:wd<=p)(hp:p<=s.size)(hs:s.size<=100000)(hU:Lib.Utf8Tabs 7 8 w)(hl8:8<l) :
 Calls Tryz.prog 128 #[.pointer (some ⟨l,0,none⟩)] w (AAj (.tuple #[]) w l s st (p-wd) wd ts):=by
 have hlt:=MT h
 obtain⟨A,n,c,hl,hn,hr⟩:=h
 refine(NL hl hwd Om).mono ?_
 rintro e w' ⟨he,h1,hg⟩
 exact⟨he,O9 (st:=st) (p:=p) (wd:=wd) (s:=s) h1 hg hlt hn hr,F4 hg hlt,GU hU hg Om Om⟩
theorem AAv{w:World}{l:Nat}{s:ByteArray}{st p wd:Nat}{ts:List AW}(h:JI w l s st p wd ts)(hU:Lib.Utf8Tabs 7 8 w)(hl8:8<l) :
 Calls Tryz.prog 132 #[.pointer (some ⟨l,0,none⟩)] w (AAj (.tuple #[]) w l s p p wd ts):=by
 have hlt:=MT h
 obtain⟨A,n,c,hl,hn,hr⟩:=h
 refine(YH hl).mono ?_
 rintro e w' ⟨he,h1,hg⟩
 exact⟨he,O9 (st:=st) (p:=p) (wd:=wd) (s:=s) h1 hg hlt hn hr,F4 hg hlt,GU hU hg Om Om⟩
theorem AG5{w:World}{l:Nat}{s:ByteArray}{st p wd:Nat}{ts:List AW}(h:JI w l s st p wd ts)(hs:s.size<=100000)(hp:p<=s.size)(hU:Lib.Utf8Tabs 7 8 w)(hl8:8<l) :
 Calls Tryz.prog 135 #[.pointer (some ⟨l,0,none⟩)] w (AAj (.int .i32 (AP s p).1) w l s st p (AP s p).2 ts):=by
 have hlt:=MT h
 obtain⟨A,n,c,hl,hn,hr⟩:=h
 refine(ACw hl hs hp hU Om Om).mono ?_
 rintro e w' ⟨he,h1,hg⟩
 exact⟨he,O9 (st:=st) (p:=p) (wd:=wd) (s:=s) h1 hg hlt hn hr,F4 hg hlt,GU hU hg Om Om⟩
def tk(s:ByteArray)(p:Nat)(v:ByteArray):Bool:=decide (p<s.size)&&BT (AA s p) v
theorem WI{c:Int}{v:ByteArray}{i:Nat}(h:∀j,i<=j->j<v.size->AA v j≠c):F3 c v i=false:=by
 by_cases hi:i<v.size
 .rw[GY hi (h i Nl hi)]
  exact WI λj hj h2=>h j Om h2
 exact KU hi
 termination_by v.size-i
theorem RG{c:Int}{v:ByteArray}(h:∀j,j<v.size->AA v j≠c):BT c v=false:=WI λj _ h2=>h j h2
theorem PR{c:Int}{v:ByteArray}{i:Nat}(h:F3 c v i=true):∃j,i<=j/\j<v.size/\AA v j=c:=by
 by_cases hi:i<v.size
 .by_cases hc:AA v i=c
  .exact⟨i,Nl,hi,hc⟩
  rw[GY hi hc]at h;obtain⟨j,h1,h2,h3⟩:=PR h;exact⟨j,Om,h2,h3⟩
 rw[KU hi]at h;cases h
 termination_by v.size-i
theorem AEp(s:ByteArray)(p:Nat)(v:ByteArray)(ha:∀i,i<v.size->AA v i<128):AHa s p v=tk s p v:=by
 unfold AHa tk;by_cases hp:p<s.size
 .by_cases hc:AA s p<128
  .rw[AN hp hc];simp[hp]
  have h1:=F8 hp Om;rw[RG (v:=v) λj hj e=>by have:=ha j hj;omega,RG (v:=v) λj hj e=>by have:=ha j hj;omega];simp
 rw[KS hp];rw[RG (v:=v) λj hj e=>by have:=(CJ v j).1;omega];simp[hp]
theorem AJc{s:ByteArray}{p:Nat}{v:ByteArray}(ha:∀i,i<v.size->AA v i<128)(h:tk s p v=true):p<s.size/\AA s p<128/\(AP s p)=(AA s p,1):=by unfold tk at h;simp only[Bool.and_eq_true,decide_eq_true_eq]at h;obtain⟨h1,h2⟩:=h;obtain⟨j,_,h3,h4⟩:=PR h2;have:=ha j h3;exact⟨h1,Om,AN h1 Om⟩
theorem AB3{w:World}{l:Nat}{s:ByteArray}{st p wd:Nat}{ts:List AW}(h:JI w l s st p wd ts)(hs:s.size<=100000)(hp:p<=s.size)(hU:Lib.Utf8Tabs 7 8 w)(hl8:8<l)(v:ByteArray)(hv:v.size<=1000)(ha:∀i,i<v.size->AA v i<128) :
 Calls Tryz.prog 149 #[.pointer (some ⟨l,0,none⟩),.string v] w λe w'=>∃wd',AAj (.bool (tk s p v)) w l s st (if tk s p v=true then p+1 else p) wd' ts e w':=by
 have hlt:=MT h
 obtain⟨A,n,c,hl,hn,hr⟩:=h
 refine(Y5 hl hs hp hU Om Om v hv ha).mono ?_
 rintro e w' ⟨he,h1,hg⟩
 rw[AEp s p v ha]at he h1
 refine⟨(AP s p).2,he,?_,F4 hg hlt,GU hU hg Om Om⟩
 have e1:(if tk s p v=true then p+(AP s p).2 else p)=(if tk s p v=true then p+1 else p):=by
  split
  .rename_i ht;rw[(AJc ha ht).2.2]
  rfl
 rw[e1]at h1
 exact O9 (st:=st) (p:=p) (wd:=wd) (s:=s) h1 hg hlt hn hr
def JJ(s v:ByteArray)(p:Nat):Nat:=if h:tk s p v=true then JJ s v (p+1) else p
 termination_by s.size-p
 decreasing_by
 unfold tk at h
 simp only[Bool.and_eq_true,decide_eq_true_eq]at h
 omega
theorem GD{s v:ByteArray}{p:Nat}(h:tk s p v=true):JJ s v p=JJ s v (p+1):=by
 conv=>lhs;unfold JJ
 rw[dif_pos h]
theorem FS{s v:ByteArray}{p:Nat}(h:tk s p v=false):JJ s v p=p:=by unfold JJ;rw[dif_neg (by simp[h])]
theorem JY{s v:ByteArray}{p:Nat}(h:tk s p v=true):p<s.size:=by unfold tk at h;simp only[Bool.and_eq_true,decide_eq_true_eq]at h;exact h.1
theorem TZ{s v:ByteArray}{p:Nat}(hp:p<=s.size):p<=JJ s v p/\JJ s v p<=s.size:=by
 by_cases h:tk s p v=true
 .have:=JY h
  rw[GD h];have:=TZ (v:=v) (show p+1<=s.size by omega);omega
 rw[FS (by simpa using h)];omega
 termination_by s.size-p
section
def MF(v:ByteArray):Prop:=v.size<=1000/\∀i,i<v.size->AA v i<128
structure LX(l:Nat)(s:ByteArray)(w0:World)(ts:List AW)(w:World)(st p wd:Nat):Prop where
 S:JI w l s st p wd ts
 B:Below l w0 w
 U:Lib.Utf8Tabs 7 8 w
 hs:s.size<=100000
 hl:8<l
 le:st<=p
 fit:p<=s.size
 nt:ts.length<=st
variable{l:Nat}{s:ByteArray}{w0:World}{ts:List AW}{w:World}{st p wd:Nat}
theorem LX.lt(h:LX l s w0 ts w st p wd):l<w.heap.size:=MT h.S
theorem LX.next(h:LX l s w0 ts w st p wd):Calls Tryz.prog 126 #[.pointer (some ⟨l,0,none⟩)] w λe w'=>e=.returned (.int .i32 (AP s p).1)/\LX l s w0 ts w' st (p+(AP s p).2) (AP s p).2:=
 (SB h.S h.hs h.fit h.U h.hl).mono λ_ _ ⟨h1,h2,h3,h4⟩=>⟨h1,h2,h.B.trans h3,h4,h.hs,h.hl,by have:=h.le;omega,KJ s p h.fit,h.nt⟩
theorem LX.nextAt(h:LX l s w0 ts w st p wd){r:Int}{k:Nat}(hr:AP s p=(r,k)):Calls Tryz.prog 126 #[.pointer (some ⟨l,0,none⟩)] w λe w'=>e=.returned (.int .i32 r)/\LX l s w0 ts w' st (p+k) k:=by have:=h.next;rw[hr]at this;exact this
theorem LX.backup{k:Nat}(h:LX l s w0 ts w st (p+k) k)(hst:st<=p):Calls Tryz.prog 128 #[.pointer (some ⟨l,0,none⟩)] w λe w'=>e=.returned (.tuple #[])/\LX l s w0 ts w' st p k:=
 (ABo h.S Om h.fit h.hs h.U h.hl).mono λ_ _ ⟨h1,h2,h3,h4⟩=>by rw[show p+k-k=p by omega]at h2;exact⟨h1,h2,h.B.trans h3,h4,h.hs,h.hl,hst,by have:=h.fit;omega,h.nt⟩
theorem LX.peek(h:LX l s w0 ts w st p wd){r:Int}{k:Nat}(hr:AP s p=(r,k)):Calls Tryz.prog 135 #[.pointer (some ⟨l,0,none⟩)] w λe w'=>e=.returned (.int .i32 r)/\LX l s w0 ts w' st p k:=
 (AG5 h.S h.hs h.fit h.U h.hl).mono λ_ _ ⟨h1,h2,h3,h4⟩=>by rw[hr]at h1 h2;exact⟨h1,h2,h.B.trans h3,h4,h.hs,h.hl,h.le,h.fit,h.nt⟩
theorem LX.ignore(h:LX l s w0 ts w st p wd):Calls Tryz.prog 132 #[.pointer (some ⟨l,0,none⟩)] w λe w'=>e=.returned (.tuple #[])/\LX l s w0 ts w' p p wd:=
 (AAv h.S h.U h.hl).mono λ_ _ ⟨h1,h2,h3,h4⟩=>⟨h1,h2,h.B.trans h3,h4,h.hs,h.hl,Nl,h.fit,Nat.le_trans h.nt h.le⟩
theorem LX.accept(h:LX l s w0 ts w st p wd)(v:ByteArray)(ha:MF v){b:Bool}(hb:tk s p v=b):Calls Tryz.prog 149 #[.pointer (some ⟨l,0,none⟩),.string v] w λe w'=>e=.returned (.bool b)/\∃wd',LX l s w0 ts w' st (if b=true then p+1 else p) wd':=
 (AB3 h.S h.hs h.fit h.U h.hl v ha.1 ha.2).mono λ_ _ ⟨wd',h1,h2,h3,h4⟩=>by
  rw[hb]at h1 h2;refine⟨h1,wd',h2,h.B.trans h3,h4,h.hs,h.hl,?_,?_,h.nt⟩
  .have:=h.le;split<;>omega
  have:=h.fit;split
  .rename_i hc;have:=JY (hb.trans hc);omega
  omega
theorem LX.emit(h:LX l s w0 ts w st p wd)(k:Nat)(hk:k<=255)(hlt:st<p):Calls Tryz.prog 127 #[.pointer (some ⟨l,0,none⟩),.int .u8 k] w λe w'=>e=.returned (.tuple #[])/\LX l s w0 (ts++[(k,s.extract st p)]) w' p p wd:=
 (OQ h.S k hk h.le h.fit h.hs (by have:=h.nt;have:=h.fit;have:=h.hs;omega) h.U h.hl).mono λ_ _ ⟨h1,h2,h3,h4⟩=>⟨h1,h2,h.B.trans h3,h4,h.hs,h.hl,Nl,h.fit,by have:=h.nt;simp;omega⟩
theorem ADv{w':World}(h:JI w l s st p wd ts)(hb:Below w.heap.size w w'):JI w' l s st p wd ts:=by have hlt:=MT h;obtain⟨A,n,c,hl,hn,hr⟩:=h;exact⟨A,n,c,(hb.block l hlt).trans hl,hn,AD hr hb⟩
theorem LX.keep{w':World}(h:LX l s w0 ts w st p wd)(hb:Below w.heap.size w w'):LX l s w0 ts w' st p wd:=
 have hl:=h.lt
 ⟨ADv h.S hb,h.B.trans (hb.mono Om),L4 h.U (hb.mono Om) h.hl,h.hs,h.hl,h.le,h.fit,h.nt⟩
theorem LX.has(h:LX l s w0 ts w st p wd)(v:ByteArray)(ha:MF v){q:Nat}{b:Bool}(hb:tk s q v=b){r:Int}{k:Nat}(hr:AP s q=(r,k)):Calls Tryz.prog 151 #[.string v,.int .i32 r] w λe w'=>e=.returned (.bool b)/\LX l s w0 ts w' st p wd:=
 (JQ v ha.1 ha.2 r (by have:=XL s q;rw[hr]at this;exact this) w).mono λ_ _ ⟨h1,h2⟩=>by have:=AEp s q v ha.2;unfold AHa at this;rw[hr,hb]at this;rw[this]at h1;exact⟨h1,h.keep h2⟩
theorem YM{s:ByteArray}{p:Nat}{v:ByteArray}(ha:MF v)(h:tk s p v=true){r:Int}{k:Nat}(hr:AP s p=(r,k)):k=1:=by have:=(AJc ha.2 h).2.2;rw[hr]at this;simp only[Prod.mk.injEq]at this;exact this.2
end
def N4:ByteArray:=⟨#[48,49,50,51,52,53,54,55,56,57]⟩
def WW:ByteArray:=⟨#[48,49,50,51,52,53,54,55]⟩
def AA5:ByteArray:=⟨#[48,49,50,51,52,53,54,55,56,57,97,98,99,100,101,102,65,66,67,68,69,70]⟩
def VA:ByteArray:=⟨#[48]⟩
def exW:ByteArray:=⟨#[120]⟩
def YU:ByteArray:=⟨#[43,45]⟩
def AD1:ByteArray:=⟨#[46]⟩
def eeW:ByteArray:=⟨#[101,69]⟩
theorem O4:MF N4:=⟨De,De⟩
theorem AG3:MF WW:=⟨De,De⟩
theorem AF5:MF AA5:=⟨De,De⟩
theorem ADt:MF VA:=⟨De,De⟩
theorem AA7:MF exW:=⟨De,De⟩
theorem AA4:MF YU:=⟨De,De⟩
theorem AFh:MF AD1:=⟨De,De⟩
theorem AH5:MF eeW:=⟨De,De⟩
def JX(s v:ByteArray)(p:Nat):Nat:=if tk s p v=true then p+1 else p
def K7(s:ByteArray)(p:Nat):ByteArray×Nat:=if tk s p VA=true then(if tk s (p+1) exW=true then(AA5,p+2) else(WW,p+1)) else(N4,p)
def PH(s v:ByteArray)(p:Nat):Nat:=if tk s p AD1=true then JJ s v (p+1) else p
def RV(s:ByteArray)(p:Nat):Nat:=if tk s p eeW=true then JJ s N4 (JX s YU (p+1)) else p
def NM(s:ByteArray)(p:Nat):Nat:=RV s (PH s (K7 s (JX s YU p)).1 (JJ s (K7 s (JX s YU p)).1 (K7 s (JX s YU p)).2))
theorem AG6(s:ByteArray)(p:Nat):MF (K7 s p).1:=by
 unfold K7;split
 .split
  .exact AF5
  exact AG3
 exact O4
theorem VR{s v:ByteArray}{p:Nat}(hp:p<=s.size):p<=JX s v p/\JX s v p<=s.size:=by
 unfold JX;split
 .rename_i h;have:=JY h;omega
 omega
theorem ALu{s:ByteArray}{p:Nat}(hp:p<=s.size):p<=(K7 s p).2/\(K7 s p).2<=s.size:=by
 unfold K7;split
 .rename_i h
  have:=JY h;split
  .rename_i h2;have:=JY h2;simp only;omega
  simp only;omega
 simp only;omega
theorem ALd{s v:ByteArray}{p:Nat}(hp:p<=s.size):p<=PH s v p/\PH s v p<=s.size:=by
 unfold PH;split
 .rename_i h;have:=JY h;have:=TZ (v:=v) (show p+1<=s.size by omega);omega
 omega
theorem ALi{s:ByteArray}{p:Nat}(hp:p<=s.size):p<=RV s p/\RV s p<=s.size:=by
 unfold RV;split
 .rename_i h
  have:=JY h;have h1:=VR (v:=YU) (show p+1<=s.size by omega);have:=TZ (v:=N4) h1.2;omega
 omega
theorem TO{l:Nat}{s:ByteArray}{w0 w:World}{ts:List AW}{st p wd:Nat}(h:LX l s w0 ts w st p wd){p1 p2 p3 p4 p5:Nat}{v:ByteArray}(hp1:JX s YU p=p1)(hv:K7 s p1=(v,p2))(hp3:JJ s v p2=p3)(hp4:PH s v p3=p4)(hp5:RV s p4=p5)(hlt:st<p5)(hc:p5<s.size->AA s p5<128/\B9 (AA s p5)=false) :
 Calls Tryz.prog 134 #[.pointer (some ⟨l,0,none⟩)] w λe w'=>e=.returned (.func (.func 107) #[] #[])/\∃wd',LX l s w0 (ts++[(2,s.extract st p5)]) w' p5 p5 wd':=by
 have hav:=AG6 s p1
 have hst:=h.le
 have l1:=VR (v:=YU) h.fit
 rw[hp1]at l1
 have l2:=ALu l1.2
 rw[hv]at hav l2
 simp only at hav l2
 have l3:=TZ (v:=v) l2.2
 rw[hp3]at l3
 have l4:=ALd (v:=v) l3.2
 rw[hp4]at l4
 have l5:=ALi l4.2
 rw[hp5]at l5
 have HAV:=Hd hav
 obtain⟨r5,k5,hr5,hpr⟩:∃r k,AP s p5=(r,k)/\B9 r=false/\-1<=r/\r<128:=by
  refine⟨(AP s p5).1,(AP s p5).2,rfl,?_⟩;by_cases hlt:p5<s.size
  .have h1:=hc hlt
   rw[AN hlt h1.1];have:=(CJ s p5).1;exact⟨h1.2,by simp only;omega,h1.1⟩
  rw[KS hlt];exact⟨De,De,De⟩
 have HLT:=Hd (λ(W:World)=>by have:=UP r5 hpr.2.1 hpr.2.2 W;rw[hpr.1]at this;exact this)
 have HR5:=Hd hr5
 have H:=Hd h
 have E1:=Hd hp1
 have E2:=Hd hv
 have E3:=Hd hp3
 have E4:=Hd hp4
 have E5:=Hd hp5
 clear h hp1 hv hp3 hp4 hp5 hc hpr hav hr5
 go_enter Tryz.func134,Tryz.ntmps134
 go_upto_region 2 with(go_at_call 149;refine(H.out.accept YU AA4 rfl).mono ?_;rintro e w1 ⟨he,wd1,hx⟩;subst he;rw[show (if tk s p YU=true then p+1 else p)=p1 from E1.out]at hx;have H1:=Hd hx;clear hx)
 generalize hz:tk s p1 VA=bz
 have HZ:=Hd hz
 clear hz
 go_upto_if 8 with(go_at_call 149;refine(H1.out.accept VA ADt HZ.out).mono ?_;rintro e w2 ⟨he,wd2,hx⟩;subst he;have H2:=Hd hx;clear hx)
 go_cut [3,9,10] from 5 to 8 (λv3 _ _ wx=>v3=.string v/\∃wd2:Nat,Hid (LX l s w0 ts wx st p2 wd2))
 case first=>
  cases bz with
  |true=>
   rw[if_pos rfl]at H2
   cases hx:tk s (p1+1) exW with
   |true=>
    obtain⟨e1,e2⟩:AA5=v/\p1+2=p2:=by have h:=E2.out;unfold K7 at h;rw[if_pos HZ.out,if_pos hx]at h;simpa using h
    subst e2;go_wp2_with (go_at_call 149;refine(H2.out.accept exW AA7 hx).mono ?_;rintro e w3 ⟨he,wd3,hy⟩;subst he;rw[if_pos rfl]at hy;have H3:=Hd hy;clear hy);go_meet;exact⟨by rw[<-e1];rfl,wd3,H3⟩
   |false=>
    obtain⟨e1,e2⟩:WW=v/\p1+1=p2:=by have h:=E2.out;unfold K7 at h;rw[if_pos HZ.out,if_neg (by simp[hx])]at h;simpa using h
    subst e2;go_wp2_with (go_at_call 149;refine(H2.out.accept exW AA7 hx).mono ?_;rintro e w3 ⟨he,wd3,hy⟩;subst he;rw[if_neg Sm]at hy;have H3:=Hd hy;clear hy);go_meet;exact⟨by rw[<-e1];rfl,wd3,H3⟩
  |false=>
   rw[if_neg Sm]at H2;obtain⟨e1,e2⟩:N4=v/\p1=p2:=by have h:=E2.out;unfold K7 at h;rw[if_neg (by simp[HZ.out])]at h;simpa using h
   subst e2;go_wp2_with fail;go_meet;exact⟨by rw[<-e1];rfl,wd2,H2⟩
 obtain⟨rfl,wd2,H2⟩:=hcut
 clear HZ H1 E1 E2
 go_wp2_with fail
 go_loopg [] (s.size-p2) (λg wr=>∃q wd1:Nat,q+g=s.size/\p2<=q/\Hid (LX l s w0 ts wr st q wd1)/\Hid (JJ s v q=p3))
 case atStart=>exact⟨p2,_,Om,Nl,H2,E3⟩
 obtain⟨q,wd1,hg,hq,HQ,EQ⟩:=hrel
 generalize hrn:AP s q=RN
 obtain⟨r,k⟩:=RN
 have HRN:=Hd hrn
 clear hrn
 cases ht:tk s q v with
 |true=>
  have hql:=JY ht
  obtain rfl:=YM HAV.out ht HRN.out
  have EQ2:=Hd (show JJ s v (q+1)=p3 by rw[<-GD ht];exact EQ.out)
  have HTK:=Hd ht
  clear ht
  go_wp2_with (first|(go_at_call 151;refine(H11.out.has v HAV.out HTK.out HRN.out).mono ?_;rintro e w12 ⟨he,hx⟩;subst he;have H12:=Hd hx;clear hx)|(go_at_call 126;refine(HQ.out.nextAt HRN.out).mono ?_;rintro e w11 ⟨he,hx⟩;subst he;have H11:=Hd hx;clear hx))
  go_roundg (s.size-(q+1))
  case rel=>exact⟨q+1,1,Om,Om,H12,EQ2⟩
  omega
 |false=>
  obtain rfl:p3=q:=by rw[<-FS ht];exact EQ.out.symm
  have HTK:=Hd ht
  clear ht EQ
  generalize hz:tk s p3 AD1=bd
  have HZ:=Hd hz
  clear hz
  go_upto_if 18 with(first|(go_at_call 151;refine(H11.out.has v HAV.out HTK.out HRN.out).mono ?_;rintro e w12 ⟨he,hx⟩;subst he;have H12:=Hd hx;clear hx)|(go_at_call 126;refine(HQ.out.nextAt HRN.out).mono ?_;rintro e w11 ⟨he,hx⟩;subst he;have H11:=Hd hx;clear hx)|(go_at_call 128;refine(H12.out.backup Om).mono ?_;rintro e w13 ⟨he,hx⟩;subst he;have H13:=Hd hx;clear hx)|(go_at_call 149;refine(H13.out.accept AD1 AFh HZ.out).mono ?_;rintro e w14 ⟨he,wd14,hx⟩;subst he;have H14:=Hd hx;clear hx))
  go_cut [] from 5 to 18 (λwx=>∃wd4:Nat,Hid (LX l s w0 ts wx st p4 wd4))
  case first=>
   cases bd with
   |false=>
    rw[if_neg Sm]at H14;obtain rfl:p3=p4:=by have h:=E4.out;unfold PH at h;rw[if_neg (by simp[HZ.out])]at h;exact h
    go_wp2_with fail;go_meet;exact⟨wd14,H14⟩
   |true=>
    rw[if_pos rfl]at H14;have E4b:=Hd (show JJ s v (p3+1)=p4 by have h:=E4.out;unfold PH at h;rw[if_pos HZ.out]at h;exact h);have hl3:=JY HZ.out;clear E4 HZ;go_wp2_with fail;go_loopg [] (s.size-(p3+1)) (λg wr=>∃q wd1:Nat,q+g=s.size/\(p3+1)<=q/\Hid (LX l s w0 ts wr st q wd1)/\Hid (JJ s v q=p4))
    case atStart=>exact⟨(p3+1),_,Om,Nl,H14,E4b⟩
    obtain⟨q,wd1,hg,hq,HQ,EQ⟩:=hrel;generalize hrn:AP s q=RN;obtain⟨r,k⟩:=RN;have HRN:=Hd hrn;clear hrn
    cases ht:tk s q v with
    |true=>
     have hql:=JY ht;obtain rfl:=YM HAV.out ht HRN.out;have EQ2:=Hd (show JJ s v (q+1)=p4 by rw[<-GD ht];exact EQ.out);have HTK:=Hd ht;clear ht;go_wp2_with (first|(go_at_call 151;refine(H21.out.has v HAV.out HTK.out HRN.out).mono ?_;rintro e w22 ⟨he,hx⟩;subst he;have H22:=Hd hx;clear hx)|(go_at_call 126;refine(HQ.out.nextAt HRN.out).mono ?_;rintro e w21 ⟨he,hx⟩;subst he;have H21:=Hd hx;clear hx));go_roundg (s.size-(q+1))
     case rel=>exact⟨q+1,1,Om,Om,H22,EQ2⟩
     omega
    |false=>
     obtain rfl:p4=q:=by rw[<-FS ht];exact EQ.out.symm
     have HTK:=Hd ht;clear ht EQ;go_wp2_with (first|(go_at_call 151;refine(H21.out.has v HAV.out HTK.out HRN.out).mono ?_;rintro e w22 ⟨he,hx⟩;subst he;have H22:=Hd hx;clear hx)|(go_at_call 126;refine(HQ.out.nextAt HRN.out).mono ?_;rintro e w21 ⟨he,hx⟩;subst he;have H21:=Hd hx;clear hx)|(go_at_call 128;refine(H22.out.backup Om).mono ?_;rintro e w23 ⟨he,hx⟩;subst he;have H23:=Hd hx;clear hx));go_meet;exact⟨_,H23⟩
  obtain⟨wd4,H4⟩:=hcut
  clear HZ H14 E4 HTK HRN
  generalize hz:tk s p4 eeW=be
  have HZ:=Hd hz
  clear hz
  go_upto_if 26 with(go_at_call 149;refine(H4.out.accept eeW AH5 HZ.out).mono ?_;rintro e w30 ⟨he,wd30,hx⟩;subst he;have H30:=Hd hx;clear hx)
  go_cut [] from 5 to 26 (λwx=>∃wd5:Nat,Hid (LX l s w0 ts wx st p5 wd5))
  case first=>
   cases be with
   |false=>
    rw[if_neg Sm]at H30;obtain rfl:p4=p5:=by have h:=E5.out;unfold RV at h;rw[if_neg (by simp[HZ.out])]at h;exact h
    go_wp2_with fail;go_meet;exact⟨wd30,H30⟩
   |true=>
    rw[if_pos rfl]at H30;have hl4:=JY HZ.out;obtain⟨p6,hp6⟩:∃x,JX s YU (p4+1)=x:=⟨_,rfl⟩;have l6:=VR (v:=YU) (show p4+1<=s.size by omega);rw[hp6]at l6;have E6:=Hd hp6;have E5b:=Hd (show JJ s N4 p6=p5 by have h:=E5.out;unfold RV at h;rw[if_pos HZ.out,hp6]at h;exact h);clear E5 HZ hp6;go_wp2_with (go_at_call 149;refine(H30.out.accept YU AA4 rfl).mono ?_;rintro e w31 ⟨he,wd31,hx⟩;subst he;rw[show (if tk s (p4+1) YU=true then p4+1+1 else p4+1)=p6 from E6.out]at hx;have H31:=Hd hx;clear hx);go_loopg [] (s.size-p6) (λg wr=>∃q wd1:Nat,q+g=s.size/\p6<=q/\Hid (LX l s w0 ts wr st q wd1)/\Hid (JJ s N4 q=p5))
    case atStart=>exact⟨p6,_,Om,Nl,H31,E5b⟩
    obtain⟨q,wd1,hg,hq,HQ,EQ⟩:=hrel;generalize hrn:AP s q=RN;obtain⟨r,k⟩:=RN;have HRN:=Hd hrn;clear hrn
    cases ht:tk s q N4 with
    |true=>
     have hql:=JY ht;obtain rfl:=YM O4 ht HRN.out;have EQ2:=Hd (show JJ s N4 (q+1)=p5 by rw[<-GD ht];exact EQ.out);have HTK:=Hd ht;clear ht;go_wp2_with (first|(go_at_call 151;refine(H41.out.has N4 O4 HTK.out HRN.out).mono ?_;rintro e w42 ⟨he,hx⟩;subst he;have H42:=Hd hx;clear hx)|(go_at_call 126;refine(HQ.out.nextAt HRN.out).mono ?_;rintro e w41 ⟨he,hx⟩;subst he;have H41:=Hd hx;clear hx));go_roundg (s.size-(q+1))
     case rel=>exact⟨q+1,1,Om,Om,H42,EQ2⟩
     omega
    |false=>
     obtain rfl:p5=q:=by rw[<-FS ht];exact EQ.out.symm
     have HTK:=Hd ht;clear ht EQ;go_wp2_with (first|(go_at_call 151;refine(H41.out.has N4 O4 HTK.out HRN.out).mono ?_;rintro e w42 ⟨he,hx⟩;subst he;have H42:=Hd hx;clear hx)|(go_at_call 126;refine(HQ.out.nextAt HRN.out).mono ?_;rintro e w41 ⟨he,hx⟩;subst he;have H41:=Hd hx;clear hx)|(go_at_call 128;refine(H42.out.backup Om).mono ?_;rintro e w43 ⟨he,hx⟩;subst he;have H43:=Hd hx;clear hx));go_meet;exact⟨_,H43⟩
  obtain⟨wd5,H5⟩:=hcut
  clear HZ H30 E5
  go_wp2_with (first|(go_at_call 135;refine(H5.out.peek HR5.out).mono ?_;rintro e w51 ⟨he,hx⟩;subst he;have H51:=Hd hx;clear hx)|(go_at_call 152;refine(HLT.out _).mono ?_;rintro e w52 ⟨he,rfl⟩;subst he)|(go_at_call 127;refine(H51.out.emit 2 Om hlt).mono ?_;rintro e w53 ⟨he,hx⟩;subst he;have H53:=Hd hx;clear hx))
  go_ret
  exact⟨rfl,_,H53.out⟩
theorem XE{c:Int}{v:ByteArray}{j:Nat}(hj:j<v.size)(e:AA v j=c)(i:Nat)(hi:i<=j):F3 c v i=true:=by
 by_cases h:AA v i=c
 .exact MZ Om h
 rw[GY Om h];exact XE hj e (i+1) (by have:i≠j:=(λh2=>h (h2▸e));omega)
 termination_by v.size-i
theorem ABk{v:ByteArray}{j:Nat}(hj:j<v.data.toList.length):AA v j=((v.data.toList[j].toNat:Nat):Int):=by unfold AA;rw[List.getD_eq_getElem?_getD,List.getElem?_eq_getElem hj,Option.getD_some]
theorem E9(c:Int)(v:ByteArray):BT c v=true↔∃b∈v.data.toList,((b.toNat:Nat):Int)=c:=by
 constructor
 .intro h
  obtain⟨j,_,h2,h3⟩:=PR h;have hj:j<v.data.toList.length:=by simpa using h2
  exact⟨v.data.toList[j],List.getElem_mem ..,by rw[<-ABk hj,h3]⟩
 rintro ⟨b,hb,hc⟩;obtain⟨j,hj,rfl⟩:=List.getElem_of_mem hb;exact XE (by simpa using hj) (by rw[ABk hj,hc]) 0 (Nat.zero_le _)
theorem D4{s v:ByteArray}{p:Nat}:tk s p v=true↔p<s.size/\BT (AA s p) v=true:=by unfold tk;simp
theorem ACm{c:Int}:BT c N4=true↔48<=c/\c<=57:=by rw[E9];simp[N4];omega
theorem Y2{c:Int}:BT c WW=true↔48<=c/\c<=55:=by rw[E9];simp[WW];omega
theorem AHr{c:Int}:BT c AA5=true↔DD c=true:=by rw[E9];simp[AA5,DD];omega
theorem AEb{c:Int}:BT c VA=true↔c=48:=by rw[E9];simp[VA];omega
theorem AM5{c:Int}:BT c exW=true↔c=120:=by rw[E9];simp[exW];omega
theorem AEj{c:Int}:BT c YU=true↔c=43\/c=45:=by rw[E9];simp[YU];omega
theorem YY{c:Int}:BT c AD1=true↔c=46:=by rw[E9];simp[AD1];omega
theorem AM6{c:Int}:BT c eeW=true↔c=101\/c=69:=by rw[E9];simp[eeW];omega
theorem QN{s:ByteArray}{p:Nat}:JJ s N4 p=BG s 57 p:=by
 by_cases h:tk s p N4=true
 .have h2:=D4.1 h
  have:=JY h;rw[GD h,G9 ⟨h2.1,(ACm.1 h2.2).1,(ACm.1 h2.2).2⟩];exact QN
 rw[FS (by simpa using h),GC];intro h2;exact h (D4.2 ⟨h2.1,ACm.2 h2.2⟩)
 termination_by s.size-p
theorem U8{s:ByteArray}{p:Nat}:JJ s WW p=BG s 55 p:=by
 by_cases h:tk s p WW=true
 .have h2:=D4.1 h
  have:=JY h;rw[GD h,G9 ⟨h2.1,(Y2.1 h2.2).1,(Y2.1 h2.2).2⟩];exact U8
 rw[FS (by simpa using h),GC];intro h2;exact h (D4.2 ⟨h2.1,Y2.2 h2.2⟩)
 termination_by s.size-p
theorem AAq{s:ByteArray}{p:Nat}:JJ s AA5 p=JP s p:=by
 by_cases h:tk s p AA5=true
 .have h2:=D4.1 h
  have:=JY h;rw[GD h,I0 ⟨h2.1,AHr.1 h2.2⟩];exact AAq
 rw[FS (by simpa using h),G1];intro h2;exact h (D4.2 ⟨h2.1,AHr.2 h2.2⟩)
 termination_by s.size-p
theorem P6(s:ByteArray)(a p:Nat)(ha:a<=s.size)(v:ByteArray):tk (s.extract a s.size) p v=tk s (a+p) v:=by unfold tk;rw[AU _ _ ha,BC];congr 1;simp;omega
theorem QB(s:ByteArray)(a p:Nat)(ha:a<=s.size)(v:ByteArray):JJ s v (a+p)=a+JJ (s.extract a s.size) v p:=by
 by_cases h:tk s (a+p) v=true
 .have:=JY h
  rw[GD h,GD (s:=s.extract a s.size) (v:=v) (p:=p) (by rw[P6 _ _ _ ha];exact h),<-QB s a (p+1) ha v];rfl
 rw[FS (by simpa using h),FS (by rw[P6 _ _ _ ha];simpa using h)]
 termination_by s.size-p
theorem XU(s:ByteArray)(a p:Nat)(ha:a<=s.size)(v:ByteArray):JX s v (a+p)=a+JX (s.extract a s.size) v p:=by unfold JX;rw[P6 _ _ _ ha];split<;>omega
theorem AIc(s:ByteArray)(a p:Nat)(ha:a<=s.size):K7 s (a+p)=((K7 (s.extract a s.size) p).1,a+(K7 (s.extract a s.size) p).2):=by
 unfold K7;rw[P6 _ _ _ ha,P6 _ _ _ ha,<-Nat.add_assoc];split
 .split<;>rfl
 rfl
theorem AHm(s:ByteArray)(a p:Nat)(ha:a<=s.size)(v:ByteArray):PH s v (a+p)=a+PH (s.extract a s.size) v p:=by unfold PH;rw[P6 _ _ _ ha,Nat.add_assoc,QB _ _ _ ha];split<;>rfl
theorem AJt(s:ByteArray)(a p:Nat)(ha:a<=s.size):RV s (a+p)=a+RV (s.extract a s.size) p:=by unfold RV;rw[P6 _ _ _ ha,Nat.add_assoc,XU _ _ _ ha,QB _ _ _ ha];split<;>rfl
theorem AFr(s:ByteArray)(a:Nat)(ha:a<=s.size):NM s a=a+NM (s.extract a s.size) 0:=by have h:=XU s a 0 ha YU;rw[Nat.add_zero]at h;unfold NM;rw[h];simp only[AIc s a _ ha,QB s a _ ha,AHm s a _ ha,AJt s a _ ha]
theorem QY(s:ByteArray)(q:Int)(a k n:Nat)(ha:a<=s.size)(h:CV (s.extract a s.size) q k=some n):CV s q (a+k)=some (a+n):=by
 have hz:=AU s a ha;by_cases hk:k<(s.extract a s.size).size
 .have hk2:a+k<s.size:=Om
  have he:=BC s a k;by_cases h1:AA s (a+k)=92
  .rw[EH hk (he.trans h1)]at h
   rw[EH hk2 h1];exact QY s q a (k+2) n ha h
  by_cases h2:AA s (a+k)=q
  .rw[FO hk (by rw[he];exact h1) (he.trans h2)]at h
   rw[FO hk2 h1 h2];simp at h;simp;omega
  rw[DU hk (by rw[he];exact h1) (by rw[he];exact h2)]at h;rw[DU hk2 h1 h2];exact QY s q a (k+1) n ha h
 rw[GM hk]at h;simp at h
 termination_by s.size-k
def LF(s:ByteArray)(i n:Nat):Prop:=i<=n/\n<=s.size/\(∀j,i<=j->j<n->AA s j<128/\AX (AA s j)=false)/\(n<s.size->AX (AA s n)=true)
theorem U5{s:ByteArray}{i n:Nat}(hi:i<=s.size)(h:T8 s i=some n):LF s i n:=by
 by_cases h1:i<s.size/\AX (AA s i)=false
 .by_cases h2:128<=AA s i
  .rw[OX h1 h2]at h;simp at h
  rw[KY h1 h2]at h;obtain⟨g1,g2,g3,g4⟩:=U5 Om h;exact⟨Om,g2,λj j1 j2=>by
   by_cases e:j=i
   .rw[e];exact⟨Om,h1.2⟩
   exact g3 j Om j2,g4⟩
 rw[MO h1]at h;simp at h;subst h;exact⟨Nl,hi,λj j1 j2=>Om,λhlt=>by rw[<-Bool.not_eq_false];exactλhf=>h1 ⟨hlt,hf⟩⟩
 termination_by s.size-i
theorem AFf{s:ByteArray}{a i n:Nat}(ha:a<=s.size)(h:LF (s.extract a s.size) i n):LF s (a+i) (a+n):=by
 obtain⟨g1,g2,g3,g4⟩:=h;rw[AU _ _ ha]at g2 g4;refine⟨Om,Om,λj j1 j2=>?_,λhlt=>?_⟩
 .have:=g3 (j-a) Om Om
  rw[BC,show a+(j-a)=j by omega]at this;exact this
 have:=g4 Om;rwa [BC]at this
theorem AIj{s v:ByteArray}{p:Nat}(h:p<s.size->BT (AA s p) v=false):tk s p v=false:=by rw[<-Bool.not_eq_true,D4];rintro ⟨h1,h2⟩;rw[h h1]at h2;cases h2
theorem AJr{s:ByteArray}(hs:0<s.size){n:Nat}(h:CT s=(n,true))(hst:n<s.size->B9 (AA s n)=false/\AA s n≠46):NM s 0=n:=by
 have e1:JX s YU 0=DV s:=by
  unfold JX DV;by_cases hsg:DL s=true
  .rw[if_pos hsg,if_pos (D4.2 ⟨hs,AEj.2 (by simpa[DL] using hsg)⟩)]
  rw[if_neg hsg,if_neg (λhc=>hsg (by have:=AEj.1 (D4.1 hc).2;simpa[DL] using this))]
 have hdot:tk s n AD1=false:=AIj λhlt=>by rw[<-Bool.not_eq_true,YY];exact(hst hlt).2
 have hee:tk s n eeW=false:=AIj λhlt=>by rw[<-Bool.not_eq_true,AM6];intro hc;have:=(hst hlt).1;rcases hc with hc|hc<;>rw[hc]at this<;>revert this<;>decide
 have hexp:RV s n=n:=by unfold RV;rw[if_neg (by simp[hee])]
 have hdotn:∀v,PH s v n=n:=λv=>by unfold PH;rw[if_neg (by simp[hdot])]
 rw[FX]at h;unfold NM;rw[e1];split at h
 .rename_i h0
  have hz:tk s (DV s) VA=true:=D4.2 ⟨h0.1,AEb.2 h0.2⟩;unfold ntZ at h;split at h
  .rename_i hx
   have hsg:DL s=false:=by simp only[Prod.mk.injEq,Bool.and_eq_true,Bool.not_eq_true']at h;exact h.2.1
   simp only[Prod.mk.injEq]at h;have hv:K7 s (DV s)=(AA5,DV s+2):=by unfold K7;rw[if_pos hz,if_pos (D4.2 ⟨hx.1,AM5.2 hx.2⟩)]
   rw[hv];simp only;rw[AAq,show DV s+2=DV s+1+1 from rfl,h.1,hdotn,hexp]
  rename_i hx;have hv:K7 s (DV s)=(WW,DV s+1):=by unfold K7;rw[if_pos hz,if_neg (λhc=>hx ⟨(D4.1 hc).1,AM5.1 (D4.1 hc).2⟩)]
  rw[hv];simp only;split at h
  .rename_i hd
   simp only[Prod.mk.injEq]at h;have h1:JJ s WW (DV s+1)=DV s+1:=FS (AIj λ_=>by rw[<-Bool.not_eq_true,Y2];omega);have h2:PH s WW (DV s+1)=n:=by unfold PH;rw[if_pos (D4.2 ⟨hd.1,YY.2 hd.2⟩),U8];exact h.1
   rw[h1,h2,hexp]
  simp only[Prod.mk.injEq]at h;rw[U8,h.1,hdotn,hexp]
 rename_i h0;have hv:K7 s (DV s)=(N4,DV s):=by unfold K7;rw[if_neg (λhc=>h0 ⟨(D4.1 hc).1,AEb.1 (D4.1 hc).2⟩)]
 rw[hv];simp only;rw[QN];unfold ntD at h;split at h
 .simp at h
 have h1:PH s N4 (BG s 57 (DV s))=(if BG s 57 (DV s)<s.size/\AA s (BG s 57 (DV s))=46 then BG s 57 (BG s 57 (DV s)+1) else BG s 57 (DV s)):=by
  unfold PH;by_cases hd:BG s 57 (DV s)<s.size/\AA s (BG s 57 (DV s))=46
  .rw[if_pos hd,if_pos (D4.2 ⟨hd.1,YY.2 hd.2⟩),QN]
  rw[if_neg hd,if_neg (λhc=>hd ⟨(D4.1 hc).1,YY.1 (D4.1 hc).2⟩)]
 rw[h1];generalize (if BG s 57 (DV s)<s.size/\AA s (BG s 57 (DV s))=46 then BG s 57 (BG s 57 (DV s)+1) else BG s 57 (DV s))=e2 at *;unfold ntT at h;split at h
 .rename_i he
  have hsat:=CJ s e2;have hE:=AEg hsat.1 hsat.2 he.2;unfold RV;rw[if_pos (D4.2 ⟨he.1,AM6.2 hE⟩),QN];have h3:JX s YU (e2+1)=(if e2+1<s.size/\(AA s (e2+1)=43\/AA s (e2+1)=45) then e2+2 else e2+1):=by
   unfold JX;by_cases hc:e2+1<s.size/\(AA s (e2+1)=43\/AA s (e2+1)=45)
   .rw[if_pos hc,if_pos (D4.2 ⟨hc.1,AEj.2 hc.2⟩)]
   rw[if_neg hc,if_neg (λh4=>hc ⟨(D4.1 h4).1,AEj.1 (D4.1 h4).2⟩)]
  rw[h3];generalize (if e2+1<s.size/\(AA s (e2+1)=43\/AA s (e2+1)=45) then e2+2 else e2+1)=e4 at *;unfold ntE at h;split at h
  .simp at h
  simpa using h
 simp only[Prod.mk.injEq,and_true]at h;subst h;exact hexp
theorem IZ(A B E:Int)(h0:0<=A)(h1:A<=100)(w:World):Calls Tryz.prog 190 #[.agg #[.int .i64 A,.int .i64 B,.int .i64 E]] w λe w'=>
 e=.returned (.pointer (some ⟨w.heap.size,0,none⟩))/\w'.heap[w.heap.size]?=some (.cells #[.int .i64 (A+1),.int .i64 B,.int .i64 E] 254 (0,0))/\w'.heap.size=w.heap.size+1/\Below w.heap.size w w':=by
 have hw:IntKind.i64.wrap (A+1)=A+1:=CF Om Om;go_enter Tryz.func190,Tryz.ntmps190;go_wp2_with fail;go_ret;exact⟨rfl,heap_alloc_new w _,by simp,BB w _⟩
theorem NO(A B E:Int)(h0:0<=E)(h1:E<=100)(w:World):Calls Tryz.prog 191 #[.agg #[.int .i64 A,.int .i64 B,.int .i64 E]] w λe w'=>
 e=.returned (.pointer (some ⟨w.heap.size,0,none⟩))/\w'.heap[w.heap.size]?=some (.cells #[.int .i64 A,.int .i64 B,.int .i64 (E+1)] 254 (0,0))/\w'.heap.size=w.heap.size+1/\Below w.heap.size w w':=by
 have hw:IntKind.i64.wrap (E+1)=E+1:=CF Om Om;go_enter Tryz.func191,Tryz.ntmps191;go_wp2_with fail;go_ret;exact⟨rfl,heap_alloc_new w _,by simp,BB w _⟩
theorem DT{wx:World}{b:Nat}{v0 v1 v2:Value}{t:TypeId}(h:wx.heap[b]?=some (.cells #[v0,v1,v2] t (0,0))) :
 wx.cell? ⟨b,0,none⟩=some v0/\wx.cell? ⟨b,1,none⟩=some v1/\wx.cell? ⟨b,2,none⟩=some v2:=by
 simp[World.cell?,h]
theorem I8(A E:Int)(hA:A<=32)(hE:E<=32){w:World}{b:Nat}(h:w.heap[b]?=some (.cells #[.int .i64 A,.int .i64 0,.int .i64 E] 254 (0,0))):Calls Tryz.prog 188 #[.pointer (some ⟨b,0,none⟩)] w λe w'=>e=.returned (.bool true)/\w=w':=by obtain⟨c0,c1,c2⟩:=DT h;go_enter Tryz.func188,Tryz.ntmps188;go_wp2_with fail;go_ret;exact⟨rfl,rfl⟩
def ZD(s:ByteArray)(i:Nat)(d:Int):Option Nat:=
 if h:i<s.size/\AA s i<128 then
  (if AA s i=123 then(if d+1=0 then some i else ZD s (i+1) (d+1)) else if AA s i=125 then(if d-1=0 then some i else ZD s (i+1) (d-1)) else if d=0 then some i else ZD s (i+1) d) else none
 termination_by s.size-i
theorem APi{s:ByteArray}{i:Nat}{d:Int}(h:¬(i<s.size/\AA s i<128)):ZD s i d=none:=by unfold ZD;rw[dif_neg h]
theorem ZJ{s:ByteArray}{i:Nat}{d:Int}(h:i<s.size)(hc:AA s i=123):ZD s i d=if d+1=0 then some i else ZD s (i+1) (d+1):=by
 conv=>lhs;unfold ZD
 rw[dif_pos ⟨h,Om⟩,if_pos hc]
theorem VY{s:ByteArray}{i:Nat}{d:Int}(h:i<s.size)(hc:AA s i=125):ZD s i d=if d-1=0 then some i else ZD s (i+1) (d-1):=by
 conv=>lhs;unfold ZD
 rw[dif_pos ⟨h,Om⟩,if_neg Om,if_pos hc]
theorem LZ{s:ByteArray}{i:Nat}{d:Int}(h:i<s.size)(h1:AA s i<128)(hc:AA s i≠123)(hc2:AA s i≠125):ZD s i d=if d=0 then some i else ZD s (i+1) d:=by
 conv=>lhs;unfold ZD
 rw[dif_pos ⟨h,h1⟩,if_neg hc,if_neg hc2]
theorem PY(s:ByteArray)(hs:s.size<=100000){k:Nat}(hk:ZD s 0 0=some k)(w:World) :
 Calls Tryz.prog 189 #[.string s,.int .i32 123,.int .i32 125] w λe w'=>e=.returned (.int .i64 k)/\Below w.heap.size w w':=by
 have hx:=Hd (λ(i:Nat) (h:i<s.size)=>AJ h)
 have HNX:=Hd (λ(i:Nat) (hi:i<s.size) (h:(s[i]'hi).toNat<128) (ty:TypeId)=>run_next_ascii (P:=Tryz.prog) w s i ty hi h)
 have HK:=Hd hk
 clear hk
 go_enter Tryz.func189,Tryz.ntmps189
 go_wp2_with fail
 go_loopw [7] (λv7 wr=>∃(i:Nat) (d:Int),i<=s.size/\-(i:Int)<=d/\d<=i/\v7=.int .i64 d/\wr=World.iter w s i/\Hid (ZD s i d=some k)) (λ_ wr=>s.size-World.iterPos wr w.heap.size)
 case atStart=>exact⟨0,0,Nat.zero_le _,Om,Om,rfl,rfl,HK⟩
 obtain⟨i,d,hi,GR,hd2,rfl,rfl,HM⟩:=hrel
 obtain⟨hls,hla⟩:i<s.size/\AA s i<128:=by
  by_cases h:i<s.size/\AA s i<128
  .exact h
  have:=HM.out;rw[APi h]at this;cases this
 have em:=hx.out i hls
 have h128:(s[i]'hls).toNat<128:=Om
 have hnx:=HNX.out i hls h128
 clear HNX HK
 by_cases hq:AA s i=123
 .have u1:(((s[i]'hls).toNat:Int)==123)=true:=by rw[beq_iff_eq];omega
  have hw:IntKind.i64.wrap (d+1)=d+1:=CF Om Om;have hM:=HM.out;rw[ZJ hls hq]at hM;clear HM hq em hla;by_cases hz:d+1=0
  .rw[if_pos hz]at hM
   obtain rfl:i=k:=by simpa using hM
   have u2:((d+1:Int)==0)=true:=by rw[beq_iff_eq];exact hz
   clear hz hM;go_wp2_with fail;go_ret;exact⟨rfl,Bl.alloc Nl _⟩
  rw[if_neg hz]at hM;have HM2:=Hd hM;have u2:((d+1:Int)==0)=false:=by rw[Bn];exact hz
  clear hz hM;go_wp2_with fail;go_roundw
  case rel=>exact⟨i+1,d+1,Om,Om,Om,rfl,rfl,HM2⟩
  simp;omega
 by_cases hq2:AA s i=125
 .have u1:(((s[i]'hls).toNat:Int)==123)=false:=Bq
  have u3:(((s[i]'hls).toNat:Int)==125)=true:=by rw[beq_iff_eq];omega
  have hw:IntKind.i64.wrap (d-1)=d-1:=CF Om Om;have hM:=HM.out;rw[VY hls hq2]at hM;clear HM hq hq2 em hla;by_cases hz:d-1=0
  .rw[if_pos hz]at hM
   obtain rfl:i=k:=by simpa using hM
   have u2:((d-1:Int)==0)=true:=by rw[beq_iff_eq];exact hz
   clear hz hM;go_wp2_with fail;go_ret;exact⟨rfl,Bl.alloc Nl _⟩
  rw[if_neg hz]at hM;have HM2:=Hd hM;have u2:((d-1:Int)==0)=false:=by rw[Bn];exact hz
  clear hz hM;go_wp2_with fail;go_roundw
  case rel=>exact⟨i+1,d-1,Om,Om,Om,rfl,rfl,HM2⟩
  simp;omega
 have u1:(((s[i]'hls).toNat:Int)==123)=false:=Bq
 have u3:(((s[i]'hls).toNat:Int)==125)=false:=Bq
 have hM:=HM.out
 rw[LZ hls hla hq hq2]at hM
 clear HM hq hq2 em hla
 by_cases hz:d=0
 .rw[if_pos hz]at hM
  obtain rfl:i=k:=by simpa using hM
  have u2:((d:Int)==0)=true:=by rw[beq_iff_eq];exact hz
  clear hz hM;go_wp2_with fail;go_ret;exact⟨rfl,Bl.alloc Nl _⟩
 rw[if_neg hz]at hM
 have HM2:=Hd hM
 have u2:((d:Int)==0)=false:=by rw[Bn];exact hz
 clear hz hM
 go_wp2_with fail
 go_roundw
 case rel=>exact⟨i+1,d,Om,Om,Om,rfl,rfl,HM2⟩
 simp;omega
structure OR(s:ByteArray)(st k e:Nat)(rest rest':List AW):Prop where
 eq:rest=(k,s.extract st e)::rest'
 next:BO (s.extract e s.size)=some rest'
 lt:st<e
 le:e<=s.size
def LI(rest:List AW):Prop:=∀t∈rest,t.1≠1/\(t.1=13->(CA t.2).2=true)
inductive Cls(s:ByteArray)(st:Nat)(rest:List AW):Prop
 |blank (hb:AX (AA s st)=true) (h:BO (s.extract (st+1) s.size)=some rest)
 |sign (k:Nat) (hk:k<8) (hc:AA s st=FZ.getD k 0) (rest':List AW) (h:OR s st (5+k) (st+1) rest rest')
 |num (hc:AA s st=43\/AA s st=45\/BX (AA s st)=true) (e:Nat) (rest':List AW) (h:OR s st 2 e rest rest') (he:NM s st=e) (hx:e<s.size->AA s e<128/\B9 (AA s e)=false)
 |str (hc:AA s st=34\/AA s st=39) (e:Nat) (rest':List AW) (h:OR s st 3 e rest rest') (he:CV s (AA s st) (st+1)=some e)
 |byt (hc:AA s st=98) (h1:st+1<s.size) (h2:AA s (st+1)=34\/AA s (st+1)=39) (e:Nat) (rest':List AW) (h:OR s st 14 e rest rest') (he:CV s (AA s (st+1)) (st+2)=some e)
 |tru (hc:AA s st=116) (h1:st+4<=s.size) (h2:s.extract st (st+4)=PP) (rest':List AW) (h:OR s st 4 (st+4) rest rest')
 |fal (hc:AA s st=102) (h1:st+5<=s.size) (h2:s.extract st (st+5)=LQ) (rest':List AW) (h:OR s st 4 (st+5) rest rest')
 |word (hc:GJ (AA s st)=none/\¬(AA s st=43\/AA s st=45\/BX (AA s st)=true)/\¬(AA s st=34\/AA s st=39)/\AX (AA s st)=false/\AA s st<128)
  (h1:¬(AA s st=98/\st+1<s.size/\(AA s (st+1)=34\/AA s (st+1)=39))) (h2:¬(AA s st=116/\st+4<=s.size/\s.extract st (st+4)=PP)) (h3:¬(AA s st=102/\st+5<=s.size/\s.extract st (st+5)=LQ))
  (e:Nat) (rest':List AW) (h:OR s st 13 e rest rest') (hw:LF s st e) (hn:(CA (s.extract st e)).2=true)
theorem AAa{c:Int}{m k i:Nat}(h:IM c m k=some i):FZ.getD i 0=c:=by
 induction m generalizing k with
 |zero=>simp[IM]at h
 |succ m ih=>
  unfold IM at h;split at h
  .rename_i hc;simp at h;rw[<-h];exact hc
  exact ih h
theorem AGy{s:ByteArray}{st:Nat}{rest:List AW}(hst:st<s.size)(h:BO (s.extract st s.size)=some rest)(hg:LI rest):Cls s st rest:=by
 have hle:st<=s.size:=Om;have hz:=AU s st hle;have hs0:AA (s.extract st s.size) 0=AA s st:=by rw[BC];rfl
 have hs1:AA (s.extract st s.size) 1=AA s (st+1):=BC s st 1;have hne:(s.extract st s.size).size≠0:=Om;have hE:∀n,st+n<=s.size->(s.extract st s.size).extract 0 n=s.extract st (st+n):=λn hn=>ABw s st n hn;by_cases hb:AX (AA s st)=true
 .refine .blank hb ?_
  rw[F2 hne (by rw[hs0];exact hb),M3]at h;exact h
 have hb':AX (AA (s.extract st s.size) 0)=false:=by rw[hs0];simpa using hb
 have h2:(B3 (s.extract st s.size)).2.2=true:=by
  cases h3:(B3 (s.extract st s.size)).2.2 with
  |true=>rfl
  |false=>rw[KT hne hb' h3]at h;cases h
 have h3:(B3 (s.extract st s.size)).2.1≠1:=λh4=>by rw[L9 hne hb' h2 h4]at h;simp only[Option.some.injEq]at h;subst h;exact absurd rfl (hg _ (List.mem_singleton.2 rfl)).1
 have hlen:=ML Om hb' h2 h3;rw[GW hne hb' h2 h3 ⟨hlen.1,hlen.2.1⟩,M3]at h;obtain⟨rest',hr,hrest⟩:=Option.map_eq_some_iff.1 h;have hcut:OR s st (B3 (s.extract st s.size)).2.1 (st+(B3 (s.extract st s.size)).1) rest rest':=
  ⟨by rw[<-hrest,hE _ Om],hr,Om,Om⟩
 obtain⟨n,k,ok,ht⟩:∃n k ok,B3 (s.extract st s.size)=(n,k,ok):=⟨_,_,_,rfl⟩;rw[ht]at h2 h3 hlen hcut;simp only at h2 h3 hlen hcut;subst h2;clear h hr hrest;unfold B3 at ht;rw[hs0,hs1]at ht;split at ht
 .rename_i i hi
  simp only[Prod.mk.injEq]at ht;obtain⟨rfl,rfl,_⟩:=ht;have hi2:=Q6 hi;exact .sign i Om (AAa hi).symm rest' hcut
 rename_i hi;split at ht
 .rename_i hc
  refine .num hc (st+n) rest' ?_ ?_ ?_
  .have:=(WC (s:=s.extract st s.size) Om (by rw[ht]) (by rw[ht];exact h3)).2.2
   rw[ht]at this;simp only at this;rw[<-this];exact hcut
  all_goals
   obtain⟨m,ok,hm⟩:∃m ok,CT (s.extract st s.size)=(m,ok):=⟨_,_,rfl⟩;rw[hm]at ht;unfold PG at ht;split at ht
   .simp at ht
   .rename_i g1
    split at ht
    .simp only[Prod.mk.injEq]at ht;exact absurd ht.2.1.symm h3
    rename_i g2;simp only[Prod.mk.injEq]at ht;obtain⟨rfl,rfl,_⟩:=ht;simp only[not_or,not_and]at g1 g2;have hok:ok=true:=by simpa using g1.1
    subst hok
    first
    |rw[AFr s st hle,AJr Om hm (λhlt=>⟨by simpa using (g2 hlt).1,(g1.2 hlt).2.1⟩)]
    |intro hlt
     have a1:=g1.2 Om
     have a2:=g2 Om
     rw[BC]at a1 a2
     exact⟨Om,by simpa using a2.1⟩
 rename_i hcn;split at ht
 .rename_i hc
  cases hq:CV (s.extract st s.size) (AA s st) 1 with
  |none=>rw[hq]at ht;simp[PE]at ht;exact absurd ht.2.symm h3
  |some m=>rw[hq]at ht;simp only[PE,Prod.mk.injEq]at ht;obtain⟨rfl,rfl,_⟩:=ht;exact .str hc (st+m) rest' hcut (QY s _ st 1 m hle hq)
 rename_i hcq;split at ht
 .rename_i hc
  cases hq:CV (s.extract st s.size) (AA s (st+1)) 2 with
  |none=>rw[hq]at ht;simp[PE]at ht;exact absurd ht.2.symm h3
  |some m=>rw[hq]at ht;simp only[PE,Prod.mk.injEq]at ht;obtain⟨rfl,rfl,_⟩:=ht;exact .byt hc.1 Om hc.2.2 (st+m) rest' hcut (QY s _ st 2 m hle hq)
 rename_i hcb;split at ht
 .rename_i hc
  have h4:=hc.2.1;unfold DJ at ht;split at ht
  .simp at ht
  simp only[Prod.mk.injEq]at ht;obtain⟨rfl,rfl,_⟩:=ht;refine .tru hc.1 Om ?_ rest' hcut;rw[<-hE 4 Om];exact hc.2.2
 rename_i hct;split at ht
 .rename_i hc
  have h4:=hc.2.1;unfold DJ at ht;split at ht
  .simp at ht
  simp only[Prod.mk.injEq]at ht;obtain⟨rfl,rfl,_⟩:=ht;refine .fal hc.1 Om ?_ rest' hcut;rw[<-hE 5 Om];exact hc.2.2
 rename_i hcf;split at ht
 .simp at ht
 rename_i m hm;have hw:=AFf hle (U5 (Nat.zero_le _) hm);have hpos:=X8 Om hb' hm;have hk:n=m/\k=13:=by
  unfold OD at ht;split at ht
  .simp at ht
  split at ht
  .simp only[Prod.mk.injEq]at ht;exact absurd ht.2.1.symm h3
  simp only[Prod.mk.injEq]at ht;exact⟨ht.1.symm,ht.2.1.symm⟩
 obtain⟨rfl,rfl⟩:=hk;have hn:=(hg (13,s.extract st (st+n)) (by rw[hcut.eq];simp)).2 rfl;have h128:=(hw.2.2.1 st Om Om).1;refine .word ⟨hi,hcn,hcq,by simpa using hb,h128⟩ ?_ ?_ ?_ (st+n) rest' hcut hw hn
 .rintro ⟨a1,a2,a3⟩;exact hcb ⟨a1,Om,a3⟩
 .rintro ⟨a1,a2,a3⟩;exact hct ⟨a1,Om,by rw[hE 4 a2];exact a3⟩
 rintro ⟨a1,a2,a3⟩;exact hcf ⟨a1,Om,by rw[hE 5 a2];exact a3⟩
theorem DE{t:AW}{r:List AW}(h:LI (t::r)):LI r:=λx hx=>h x (List.mem_cons_of_mem _ hx)
