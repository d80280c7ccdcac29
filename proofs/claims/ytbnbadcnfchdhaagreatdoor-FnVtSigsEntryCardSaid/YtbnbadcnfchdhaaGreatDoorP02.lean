/- Lemmas for FnVtSigsEntry; no conditions. -/
import Derived.Test.YtbnbadcnfchdhaaGreatDoorP01
import Derived.WalkMore
set_option maxRecDepth 100000
set_option maxHeartbeats 16000000
set_option linter.all false
namespace Go.Proofs.YtbnbadcnfchdhaaGreatDoor
open Go.RowKit
theorem FC{w W:World}{B N m nd:Nat}{z:CM}(hB:B<w.heap.size)(hP:ZI w N)(hN:N<=B)(h14:14<N)(hz:z.Ok nd)(hW:W=dw (w.drewN m) B z) :
 W.cell? ⟨B,800,none⟩=some (.int .i64 nd)/\W.cell? ⟨B,801,none⟩=some (.int .i64 z.dp)/\W.cell? ⟨B,802,none⟩=some (.bool z.neg)/\W.cell? ⟨B,0,none⟩=some (.int .u8 z.d[0]!)/\
  W.cell? ⟨6,0,none⟩=some (.int .u64 52)/\W.cell? ⟨6,1,none⟩=some (.int .u64 11)/\W.cell? ⟨6,2,none⟩=some (.int .i64 (-1023)):=by
 subst hW
 have hB':B<(w.drewN m).heap.size:=hB
 exact⟨by rw[<-hz.many];exact LE hB' hz.size,VO hB' hz.size,AHt hB' hz.size,E0 hB' hz.size 0 Om,by rw[JH Om];exact hP.i0,by rw[JH Om];exact hP.i1,by rw[JH Om];exact hP.i2⟩
theorem AD8{w W:World}{B N m:Nat}{z:CM}(hP:ZI w N)(hN:N<=B)(hW:W=dw (w.drewN m) B z):∃R o cap,W.cell? ⟨11,0,none⟩=some (.slice (some ⟨R,o,none⟩) 9 cap)/\∀i:Nat,i<9->W.cell? ⟨R,o+i,none⟩=some (.int .i64 (AG9.getD i 0:Nat)):=by subst hW;obtain⟨R,o,cap,hR,h14,h0,h1⟩:=hP.ex;exact⟨R,o,cap,by rw[JH Om];exact h0,λi hi=>by rw[JH Om];exact h1 i hi⟩
theorem DB{w W:World}{B m n:Nat}{z:CM}(hW:Hid (W=dw (w.drewN m) B z)):W.drewN n=dw (w.drewN (m+n)) B z:=by rw[hW.out,MG]
theorem CH{w W:World}{B m n k:Nat}{z:CM}(hW:Hid (W=dw (w.drewN m) B z)):(W.drewN n).drewN k=dw (w.drewN (m+n+k)) B z:=by rw[hW.out,MG,MG]
theorem AEr(B:Nat)(x:CM)(w:World)(hB:B<w.heap.size)(nd:Nat)(hx:x.Ok nd)(N:Nat)(hP:ZI w N)(hN:N<=B)(h14:14<N)(h0:nd=0\/0<nd/\x.dp < -330) :
 Calls Tryz.prog 161 #[.pointer (some ⟨B,0,none⟩),.pointer (some ⟨6,0,none⟩)] (dw w B x) λe w'=>∃b:Int,e=.returned (.tuple #[.int .u64 b,.bool false])/\∃m y,w'=dw (w.drewN m) B y:=by
 have HW:=Hd (show dw w B x=dw (w.drewN 0) B x from rfl)
 obtain⟨c1,c2,c3,c4,i0,i1,i2⟩:=FC hB hP hN h14 hx HW.out
 obtain⟨W,hW⟩:∃W,W=dw w B x:=⟨_,rfl⟩
 rw[<-hW]at c1 c2 c3 c4 i0 i1 i2 HW
 rw[<-hW]
 obtain⟨p,hp⟩:∃p,x.dp=p:=⟨_,rfl⟩
 obtain⟨sg,hsg⟩:∃p,x.neg=p:=⟨_,rfl⟩
 rw[hp]at c2 h0
 rw[hsg]at c3
 clear hW hp hsg hx hP c4
 rcases h0 with rfl|⟨hnd,h0⟩
 .go_enter Tryz.func161,Tryz.ntmps161
  go_wp2_with fail;refine J3 rfl rfl (λJ0 J1 g0 g1=>?_);go_wp2_with fail;go_step3;show J0 _ _;refine g0.out _ _ ?_;clear g0 g1;unfold FT;go_wp2_with fail;go_quiet (fail)
  cases sg
  .go_wp2_with fail
   rw[Exit.noGoto_ret];go_ret2;exact⟨_,rfl,_,_,(by first|exact DB HW|exact CH HW|exact fb_end3 HW|exact fb_end4 HW)⟩
  go_wp2_with fail;go_quiet (fail);go_wp2_with fail;rw[Exit.noGoto_ret];go_ret2;exact⟨_,rfl,_,_,(by first|exact DB HW|exact CH HW|exact fb_end3 HW|exact fb_end4 HW)⟩
 have b0:((nd:Int)==0)=false:=Bq
 have b1:¬(310<p):=Om
 go_enter Tryz.func161,Tryz.ntmps161
 go_wp2_with fail
 refine J3 rfl rfl (λJ0 J1 g0 g1=>?_)
 go_wp2_with fail
 go_step3
 show J0 _ _
 refine g0.out _ _ ?_
 clear g0 g1
 unfold FT
 go_wp2_with fail
 go_quiet (fail)
 cases sg
 .go_wp2_with fail
  rw[Exit.noGoto_ret];go_ret2;exact⟨_,rfl,_,_,(by first|exact DB HW|exact CH HW|exact fb_end3 HW|exact fb_end4 HW)⟩
 go_wp2_with fail
 go_quiet (fail)
 go_wp2_with fail
 rw[Exit.noGoto_ret]
 go_ret2
 exact⟨_,rfl,_,_,(by first|exact DB HW|exact CH HW|exact fb_end3 HW|exact fb_end4 HW)⟩
theorem AMr(B:Nat)(x:CM)(w:World)(hB:B<w.heap.size)(nd:Nat)(hx:x.Ok nd)(N:Nat)(hP:ZI w N)(hN:N<=B)(h14:14<N)(h1:1<=nd)(h0:310<x.dp) :
 Calls Tryz.prog 161 #[.pointer (some ⟨B,0,none⟩),.pointer (some ⟨6,0,none⟩)] (dw w B x) λe w'=>∃b:Int,e=.returned (.tuple #[.int .u64 b,.bool true])/\∃m y,w'=dw (w.drewN m) B y:=by
 have HW:=Hd (show dw w B x=dw (w.drewN 0) B x from rfl)
 obtain⟨c1,c2,c3,c4,i0,i1,i2⟩:=FC hB hP hN h14 hx HW.out
 obtain⟨W,hW⟩:∃W,W=dw w B x:=⟨_,rfl⟩
 rw[<-hW]at c1 c2 c3 c4 i0 i1 i2 HW
 rw[<-hW]
 obtain⟨p,hp⟩:∃p,x.dp=p:=⟨_,rfl⟩
 obtain⟨sg,hsg⟩:∃p,x.neg=p:=⟨_,rfl⟩
 rw[hp]at c2 h0
 rw[hsg]at c3
 clear hW hp hsg hx hP c4
 have b0:((nd:Int)==0)=false:=Bq
 go_enter Tryz.func161,Tryz.ntmps161
 go_wp2_with fail
 refine J3 rfl rfl (λJ0 J1 g0 g1=>?_)
 go_wp2_with fail
 go_step3
 show J1 _ _
 refine g1.out _ _ ?_
 clear g0 g1
 unfold FT
 go_wp2_with fail
 go_quiet (fail)
 go_wp2_with fail
 go_step3
 go_wp2_with fail
 go_quiet (fail)
 cases sg
 .go_wp2_with fail
  rw[Exit.noGoto_ret];go_ret2;exact⟨_,rfl,_,_,(by first|exact DB HW|exact CH HW|exact fb_end3 HW|exact fb_end4 HW)⟩
 go_wp2_with fail
 go_quiet (fail)
 go_wp2_with fail
 rw[Exit.noGoto_ret]
 go_ret2
 exact⟨_,rfl,_,_,(by first|exact DB HW|exact CH HW|exact fb_end3 HW|exact fb_end4 HW)⟩
theorem AGj{B:Nat}{y:CM}{w W:World}(hB:B<w.heap.size){nd m:Nat}(hW:W=dw (w.drewN m) B y)(hx:y.Ok nd)(h1:1<=nd)(n:Nat)(hn1:1<=n)(hn:n<=60)(hdp0:-500000<=y.dp)(hdp1:y.dp<=1000000)(k:Nat) :
 Calls Tryz.prog 183 #[.pointer (some ⟨B,0,none⟩),.int .i64 (-(n:Int))] (W.drewN k) λe w'=>e=.returned (.tuple #[])/\∃m nd',w'=dw (w.drewN m) B (y.shr n)/\(y.shr n).Ok nd'/\1<=nd'/\(y.shr n).dp<=y.dp/\y.dp-20<=(y.shr n).dp/\((y.shr n).dp=y.dp->(y.shr n).d[0]! < y.d[0]!):=by
 subst hW
 rw[MG]
 refine(Z9 B y (w.drewN (m+k)) hB nd hx h1 n hn1 hn hdp0 hdp1).mono ?_
 rintro e w' ⟨he,m',nd',hw,h⟩
 exact⟨he,_,nd',by rw[hw,World.drewN_drewN],h⟩
theorem AE8{B:Nat}{y:CM}{w W:World}(hB:B<w.heap.size){nd m:Nat}(hW:W=dw (w.drewN m) B y)(hx:y.Ok nd)(h1:1<=nd)(n:Nat)(hn1:1<=n)(hn:n<=200000)(hdp0:-500000<=y.dp)(hdp1:y.dp<=1000000)(k:Nat) :
 Calls Tryz.prog 183 #[.pointer (some ⟨B,0,none⟩),.int .i64 (-(n:Int))] (W.drewN k) λe w'=>e=.returned (.tuple #[])/\∃m nd',w'=dw (w.drewN m) B (y.shr n)/\(y.shr n).Ok nd'/\1<=nd'/\(y.shr n).dp<=y.dp/\y.dp-(n:Int)-20<=(y.shr n).dp:=by
 subst hW
 rw[MG]
 refine(AFe B y (w.drewN (m+k)) hB nd hx h1 n hn1 hn hdp0 hdp1).mono ?_
 rintro e w' ⟨he,m',nd',hw,h⟩
 exact⟨he,_,nd',by rw[hw,World.drewN_drewN],h⟩
theorem QL{B N:Nat}{y:CM}{w W:World}(hB:B<w.heap.size){nd m:Nat}(hW:W=dw (w.drewN m) B y)(hC:NA w N)(hN:N<=B)(hx:y.Ok nd)(h1:1<=nd)(n:Nat)(hn1:1<=n)(hn:n<=60)(hdp0:-1000000<=y.dp)(hdp1:y.dp<=1000000)(k:Nat) :
 Calls Tryz.prog 183 #[.pointer (some ⟨B,0,none⟩),.int .i64 (n:Int)] (W.drewN k) λe w'=>e=.returned (.tuple #[])/\∃m nd',w'=dw (w.drewN m) B (y.lsh y.nd.toNat n)/\(y.lsh y.nd.toNat n).Ok nd'/\1<=nd'/\y.dp<=(y.lsh y.nd.toNat n).dp/\(y.lsh y.nd.toNat n).dp<=y.dp+20/\((y.lsh y.nd.toNat n).dp=y.dp->y.d[0]! < (y.lsh y.nd.toNat n).d[0]!):=by
 subst hW
 rw[MG]
 have hnat:y.nd.toNat=nd:=by rw[hx.many];rfl
 rw[hnat]
 refine(AF6 B y (w.drewN (m+k)) hB nd hx h1 n hn1 hn hdp0 hdp1 N ⟨hC.ex⟩ hN).mono ?_
 rintro e w' ⟨he,m',nd',hw,h⟩
 exact⟨he,_,nd',by rw[hw,World.drewN_drewN],h⟩
theorem Q5{B:Nat}{y:CM}{w W:World}(hB:B<w.heap.size){nd m:Nat}(hW:W=dw (w.drewN m) B y)(hx:y.Ok nd)(hdp0:-1000000<=y.dp)(hdp1:y.dp<=1000000) :
 Calls Tryz.prog 184 #[.pointer (some ⟨B,0,none⟩)] W λe w'=>e=.returned (.int .u64 (y.rint y.nd.toNat))/\w'=W:=by
 have hnat:y.nd.toNat=nd:=by rw[hx.many];rfl
 rw[hnat]
 subst hW
 exact ACx B y (w.drewN m) hB nd hx hdp0 hdp1
theorem AM0(B:Nat)(x:CM)(w:World)(hB:B<w.heap.size)(nd:Nat)(hx:x.Ok nd)(N:Nat)(hP:ZI w N)(hC:NA w N)(hN:N<=B)(h14:14<N)(h1:1<=nd)(h0:-330<=x.dp)(h0':x.dp<=310) :
 Calls Tryz.prog 161 #[.pointer (some ⟨B,0,none⟩),.pointer (some ⟨6,0,none⟩)] (dw w B x) λe w'=>∃b:Int,e=.returned (.tuple #[.int .u64 b,.bool (SD x)])/\∃m y,w'=dw (w.drewN m) B y:=by
 have hO:SD x=VS (TI 6000 (GK 6000 x 0).1 (GK 6000 x 0).2).1 ((TI 6000 (GK 6000 x 0).1 (GK 6000 x 0).2).2-1):=by unfold SD;rw[if_neg (by rw[hx.many];omega),if_neg Om,if_neg Om]
 have HO:=Hd hO
 have HX:=Hd hx
 have HP:=Hd hP
 have HC:=Hd hC
 generalize SD x=ov at HO ⊢
 have HW:=Hd (show dw w B x=dw (w.drewN 0) B x from rfl)
 obtain⟨c1,c2,c3,c4,i0,i1,i2⟩:=FC hB hP hN h14 hx HW.out
 obtain⟨W,hW⟩:∃W,W=dw w B x:=⟨_,rfl⟩
 rw[<-hW]at c1 c2 c3 c4 i0 i1 i2 HW
 rw[<-hW]
 obtain⟨p,hp⟩:∃p,x.dp=p:=⟨_,rfl⟩
 have HPp:=Hd hp
 rw[hp]at c2 h0 h0'
 have b0:((nd:Int)==0)=false:=Bq
 have b1:¬(310<p):=Om
 have b2:¬(p < -330):=Om
 have hM0:UW x<=6000:=by have:=hx.digit 0 Om;unfold UW;omega
 have HM0:=Hd hM0
 clear hW hp hx hP hC hO hM0
 go_enter Tryz.func161,Tryz.ntmps161
 go_wp2_with fail
 refine J3 rfl rfl (λJ0 J1 g0 g1=>?_)
 go_wp2_with fail
 go_loopg [6] 6000 (λg s wr=>∃(y:CM) (m nd1:Nat) (e:Int),s=.int .i64 e/\wr=dw (w.drewN m) B y/\y.Ok nd1/\1<=nd1/\UW y<=g/\GK g y e=GK 6000 x 0/\0<=e/\e<=27*(6000-(g:Int))/\y.dp<=310/\-330<=y.dp)
 case atStart=>exact⟨x,0,nd,0,rfl,HW.out,HX.out,h1,HM0.out,rfl,Om,Om,by rw[HPp.out];exact h0',by rw[HPp.out];exact h0⟩
 clear c1 c2 c3 c4 i0 i1 i2 HW HX HPp HM0 b0 b1 b2 h0 h0'
 obtain⟨y,m,nd1,e,rfl,hwr,hy,hnd1,hM,hD,he0,he1,hp1,hp0⟩:=hrel
 obtain⟨c1,c2,c3,c4,i0,i1,i2⟩:=FC hB HP.out hN h14 hy hwr
 obtain⟨R,o,cap,t0,t1⟩:=AD8 HP.out hN hwr
 have hd0:=hy.digit 0 Om
 by_cases hpos:0<y.dp
 .cases gk with
  |zero=>exact absurd hM (by have:=hy.lead Om;unfold UW;omega)
  |succ g=>
   obtain⟨q,hq⟩:∃q:Nat,y.dp=(q:Int):=⟨y.dp.toNat,Om⟩;have hn:=AEh q;have CS:=Hd (λk=>AGj hB hwr hy hnd1 (KV q) Om Om Om Om k);have hstep:GK (g+1) y e=GK g (y.shr (KV q)) (e+KV q):=by rw[GK,if_pos hpos,hq,Int.toNat_natCast]
   rw[hstep]at hD;have HD:=Hd hD;have HY:=Hd hy;have HM:=Hd hM;have HWR:=Hd hwr;have HQ:=Hd hq;have HT1:=Hd t1;rw[hq]at c2 hpos hp1;clear hD hy hM hstep hwr hq t1 c1 c3 c4 i0 i1 i2 hd0;by_cases h9:9<=q
   .have e27:KV q=27:=by unfold KV;rw[if_pos h9]
    rw[e27]at CS HD hn;have hb:(9:Int)<=(q:Int):=Om;clear e27;go_wp2_with fail;go_quiet (fail);go_wp2_with fail;refine(CS.out _).mono ?_;rintro e' w' ⟨rfl,hw'⟩;have Hw':=Hd hw';clear hw';go_wp2_with fail;go_roundg g
    case rel=>obtain⟨m',nd',a1,a2,a3,a4,a5,a6⟩:=Hw'.out;have hq:=HQ.out;exact⟨_,m',nd',_,rfl,a1,a2,a3,by have:=XA HY.out hnd1 a2 a3 Om a4 a6;have:=HM.out;omega,HD.out,Om,Om,Om,Om⟩
    omega
   have hcell:=HT1.out q Om;have en:KV q=AG9.getD q 0:=by unfold KV;rw[if_neg h9]
   rw[<-en]at hcell;generalize KV q=v at *;have hb:¬((9:Int)<=(q:Int)):=Om;have hb2:(q:Int)<9:=Om;clear en h9;go_wp2_with fail;go_quiet (fail);go_wp2_with fail;go_quiet (fail);go_wp2_with fail;refine(CS.out _).mono ?_;rintro e' w' ⟨rfl,hw'⟩;have Hw':=Hd hw';clear hw';go_wp2_with fail;go_roundg g
   case rel=>obtain⟨m',nd',a1,a2,a3,a4,a5,a6⟩:=Hw'.out;have hq:=HQ.out;exact⟨_,m',nd',_,rfl,a1,a2,a3,by have:=XA HY.out hnd1 a2 a3 Om a4 a6;have:=HM.out;omega,HD.out,Om,Om,Om,Om⟩
   omega
 have hM2:upM y<=6000:=by unfold upM;omega
 have hdz:GK 6000 x 0=(y,e):=by
  rw[<-hD]
  cases gk with
  |zero=>rfl
  |succ g=>rw[GK,if_neg hpos]
 have ho:=HO.out
 rw[hdz]at ho
 clear HO
 have HO:=Hd ho
 have HY:=Hd hy
 have HM:=Hd hM2
 have HWR:=Hd hwr
 obtain⟨p1,hp1'⟩:∃p1,y.dp=p1:=⟨_,rfl⟩
 have HPp:=Hd hp1'
 rw[hp1']at c2 hpos hp1 hp0
 clear hD hy hM hM2 hdz ho hwr t1 t0 c1 c3 c4 i0 i1 i2 hd0 hp1'
 go_wp2_with fail
 go_loopg [6] 6000 (λg s wr=>∃(z:CM) (m nd1:Nat) (e2:Int),s=.int .i64 e2/\wr=dw (w.drewN m) B z/\z.Ok nd1/\1<=nd1/\upM z<=g/\TI g z e2=TI 6000 y e/\e2<=e/\e-27*(6000-(g:Int))<=e2/\z.dp<=20/\-330<=z.dp)
 case atStart=>exact⟨y,m,nd1,e,rfl,HWR.out,HY.out,hnd1,HM.out,rfl,Om,Om,by rw[HPp.out];omega,by rw[HPp.out];omega⟩
 clear c2 HWR HPp HM hpos hp1 hp0
 obtain⟨z,m2,nd2,e2,rfl,hwr,hz,hnd2,hM,hU,hu0,hu1,hp1,hp0⟩:=hrel
 obtain⟨c1,c2,c3,c4,i0,i1,i2⟩:=FC hB HP.out hN h14 hz hwr
 obtain⟨R,o,cap,t0,t1⟩:=AD8 HP.out hN hwr
 have hd0:=hz.digit 0 Om
 by_cases hgo:z.dp<0\/z.dp=0/\z.d[0]! < 53
 .cases gk with
  |zero=>exact absurd hM (by unfold upM;omega)
  |succ g=>
   obtain⟨q,hq⟩:∃q:Nat,z.dp=-(q:Int):=⟨(-z.dp).toNat,Om⟩;have hn:=AEh q;have CS:=Hd (λk=>QL hB hwr HC.out hN hz hnd2 (KV q) Om Om Om Om k);have hstep:TI (g+1) z e2=TI g (z.lsh z.nd.toNat (KV q)) (e2-KV q):=by rw[TI,if_pos hgo,hq,Int.neg_neg,Int.toNat_natCast]
   rw[hstep]at hU;have HU:=Hd hU;have HZ:=Hd hz;have HM:=Hd hM;have HWR:=Hd hwr;have HQ:=Hd hq;have HT1:=Hd t1;have HGO:=Hd hgo;rw[hq]at c2 hp1 hp0;have hnn:- -(q:Int)=(q:Int):=Int.neg_neg _;clear hU hz hM hstep hwr t1 c1 c3 i0 i1 i2;generalize hdd:z.d[0]! = dd at c4 hd0 hgo;have HDD:=Hd hdd;clear hdd;by_cases h9:9<=q
   .have e27:KV q=27:=by unfold KV;rw[if_pos h9]
    rw[e27]at CS HU hn;have hb:(9:Int)<=(q:Int):=Om;have hlt:-(q:Int)<0:=Om;clear e27 hgo hq;go_wp2_with fail;go_quiet (fail);go_wp2_with fail;refine(CS.out _).mono ?_;rintro e' w' ⟨rfl,hw'⟩;have Hw':=Hd hw';clear hw';go_wp2_with fail;go_roundg g
    case rel=>have hw:=Hw'.out;have hu:=HU.out;have hq:=HQ.out;have hm:=HM.out;generalize z.lsh z.nd.toNat 27=u at hw hu;obtain⟨m',nd',a1,a2,a3,a4,a5,a6⟩:=hw;have hl:=YZ HZ.out hnd2 a2 a3 Om (λ_=>HGO.out.elim (λh=>by omega) (λh=>h.2)) a4 a6;clear a6 CS HU Hw';exact⟨u,m',nd',_,rfl,a1,a2,a3,Om,hu,Om,Om,Om,Om⟩
    omega
   have hcell:=HT1.out q Om;have en:KV q=AG9.getD q 0:=by unfold KV;rw[if_neg h9]
   rw[<-en]at hcell;generalize KV q=v at *;have hb:¬((9:Int)<=(q:Int)):=Om;have hb2:(q:Int)<9:=Om;clear en h9;by_cases hq0:q=0
   .subst hq0
    have hlt:¬(-((0:Nat):Int)<0):=Om;have hd5:dd<53:=Om;have hze:-((0:Nat):Int)=0:=Om;rw[hze]at c2;rw[Nat.add_zero]at hcell;clear hgo hq;go_wp2_with fail;go_quiet (fail);go_wp2_with fail;go_quiet (fail);go_wp2_with fail;refine(CS.out _).mono ?_;rintro e' w' ⟨rfl,hw'⟩;have Hw':=Hd hw';clear hw';go_wp2_with fail;go_roundg g
    case rel=>have hw:=Hw'.out;have hu:=HU.out;have hq:=HQ.out;have hm:=HM.out;generalize z.lsh z.nd.toNat v=u at hw hu;obtain⟨m',nd',a1,a2,a3,a4,a5,a6⟩:=hw;have hl:=YZ HZ.out hnd2 a2 a3 Om (λ_=>HGO.out.elim (λh=>by omega) (λh=>h.2)) a4 a6;clear a6 CS HU Hw';exact⟨u,m',nd',_,rfl,a1,a2,a3,Om,hu,Om,Om,Om,Om⟩
    omega
   have hlt:-(q:Int)<0:=Om;clear hgo hq;go_wp2_with fail;go_quiet (fail);go_wp2_with fail;go_quiet (fail);go_wp2_with fail;refine(CS.out _).mono ?_;rintro e' w' ⟨rfl,hw'⟩;have Hw':=Hd hw';clear hw';go_wp2_with fail;go_roundg g
   case rel=>have hw:=Hw'.out;have hu:=HU.out;have hq:=HQ.out;have hm:=HM.out;generalize z.lsh z.nd.toNat v=u at hw hu;obtain⟨m',nd',a1,a2,a3,a4,a5,a6⟩:=hw;have hl:=YZ HZ.out hnd2 a2 a3 Om (λ_=>HGO.out.elim (λh=>by omega) (λh=>h.2)) a4 a6;clear a6 CS HU Hw';exact⟨u,m',nd',_,rfl,a1,a2,a3,Om,hu,Om,Om,Om,Om⟩
   omega
 have hz2:TI 6000 y e=(z,e2):=by
  rw[<-hU]
  cases gk with
  |zero=>rfl
  |succ g=>rw[TI,if_neg hgo]
 have ho:=HO.out
 rw[hz2]at ho
 clear HO
 have HO:Hid (ov=VS z (e2-1)):=ho
 have HZ:=Hd hz
 have HWR:=Hd hwr
 have HDP0:=Hd (show -330<=z.dp/\z.dp<=20 from⟨hp0,hp1⟩)
 obtain⟨p1,hp1'⟩:∃p1,z.dp=p1:=⟨_,rfl⟩
 rw[hp1']at c2 hp1 hp0 hgo
 obtain⟨sg0,hsg0⟩:∃p1,z.neg=p1:=⟨_,rfl⟩
 rw[hsg0]at c3
 generalize z.d[0]! = dd at c4 hd0 hgo
 clear hz2 ho hz hwr hM hU t0 t1 hp1' hsg0 c1
 by_cases hpz:p1=0
 .subst hpz
  have hdd5:¬dd<53:=λh=>hgo (Or.inr ⟨rfl,h⟩);clear hgo;by_cases hlow:e2-1 < -1022
  .have ho:=HO.out
   rw[VS,if_pos hlow]at ho;obtain⟨n,hn⟩:∃n:Nat,-1022-(e2-1)=n:=⟨(-1022-(e2-1)).toNat,Om⟩;rw[hn,Int.toNat_natCast]at ho;have CS:=Hd (λk=>AE8 hB HWR.out HZ.out hnd2 n Om Om (by have:=HDP0.out;omega) (by have:=HDP0.out;omega) k);have hnA:-1022-(e2-1)<=n:=Om;have hnB:(n:Int)<=-1022-(e2-1):=Om;have HO2:=Hd ho;clear ho HO;go_wp2_with fail;refine(CS.out 0).mono ?_;rintro e' w0 ⟨rfl,hw0⟩;have ho:=HO2.out;generalize z.shr n=zz at hw0 ho;obtain⟨m4,nd4,a1,a2,a3,a4,a5⟩:=hw0;have HDP:=Hd (show -400000<=zz.dp/\zz.dp<=20 from⟨by have:=HDP0.out;omega,by have:=HDP0.out;omega⟩);have CS53:=Hd (λk=>QL hB a1 HC.out hN a2 a3 53 Om Om (by have:=HDP.out;omega) (by have:=HDP.out;omega) k);clear c2 c3 c4 i0 i1 i2 CS HO2 hn;have HWc:=Hd a1;obtain⟨-,-,c3,-,i0,i1,i2⟩:=FC hB HP.out hN h14 a2 a1;obtain⟨sg,hsg⟩:∃p,CM.neg (zz)=p:=⟨_,rfl⟩;rw[hsg]at c3;clear hsg;have HO:Hid (ov=JT zz (-1022)):=ho;clear ho a1 a2 a3 a4 a5;go_wp2_with fail;by_cases hE:(-1022:Int)+1023≥2047
   .exact absurd hE Om
   go_quiet (fail);go_wp2_with fail;refine(CS53.out _).mono ?_;rintro e' w1 ⟨rfl,hw1⟩;clear c3 i0 i1 i2;have ho:=HO.out;rw[JT,if_neg Om]at ho;generalize zz.lsh zz.nd.toNat 53=u at hw1 ho;obtain⟨m5,nd5,a1,a2,a3,a4,a5,-⟩:=hw1;obtain⟨-,-,c3,-,i0,i1,i2⟩:=FC hB HP.out hN h14 a2 a1;obtain⟨sg,hsg⟩:∃p,CM.neg (u)=p:=⟨_,rfl⟩;rw[hsg]at c3;clear hsg;have CR:=Hd (Q5 hB a1 a2 (by have:=HDP.out;omega) (by have:=HDP.out;omega));generalize u.rint u.nd.toNat=mt at ho CR;have HWd:=Hd a1;clear a1 a2 a3 a4 a5 CS53 HO HWc;have HO:=Hd ho;clear ho;go_wp2_with fail;refine CR.out.mono ?_;rintro e' w2 ⟨rfl,rfl⟩;by_cases hmt:mt=9007199254740992
   .subst hmt
    have ho:=HO.out;rw[if_pos rfl]at ho;have HOO:=Hd ho;clear ho;by_cases hE2:(-1022)+1+1023≥2047
    .exact absurd hE2 Om
    have hov:ov=false:=by rw[HOO.out,decide_eq_false Om]
    subst hov;go_wp2_with fail;go_quiet (fail);go_wp2_with fail
    all_goals
     go_step3;show J0 _ _;refine g0.out _ _ ?_;clear g0 g1;unfold FT;go_wp2_with fail;go_quiet (fail)
     cases sg
     .go_wp2_with fail
      rw[Exit.noGoto_ret];go_ret2;exact⟨_,rfl,_,_,(by first|exact DB HWd|exact CH HWd|exact fb_end3 HWd|exact fb_end4 HWd)⟩
     .go_wp2_with fail
      go_quiet (fail);go_wp2_with fail;rw[Exit.noGoto_ret];go_ret2;exact⟨_,rfl,_,_,(by first|exact DB HWd|exact CH HWd|exact fb_end3 HWd|exact fb_end4 HWd)⟩
   have hov:ov=false:=by rw[HO.out,if_neg hmt]
   subst hov;have hmb:(mt==9007199254740992)=false:=by rw[Bn];exact hmt
   clear hmt;go_wp2_with fail
   all_goals
    go_step3;show J0 _ _;refine g0.out _ _ ?_;clear g0 g1;unfold FT;go_wp2_with fail;go_quiet (fail)
    cases sg
    .go_wp2_with fail
     rw[Exit.noGoto_ret];go_ret2;exact⟨_,rfl,_,_,(by first|exact DB HWd|exact CH HWd|exact fb_end3 HWd|exact fb_end4 HWd)⟩
    .go_wp2_with fail
     go_quiet (fail);go_wp2_with fail;rw[Exit.noGoto_ret];go_ret2;exact⟨_,rfl,_,_,(by first|exact DB HWd|exact CH HWd|exact fb_end3 HWd|exact fb_end4 HWd)⟩
  have ho:=HO.out;rw[VS,if_neg hlow]at ho;have hwr:=HWR.out;have hz:=HZ.out;have HDP:=Hd (show -400000<=z.dp/\z.dp<=20 from⟨by have:=HDP0.out;omega,by have:=HDP0.out;omega⟩);generalize z=zz at ho hwr hz HDP;have CS53:=Hd (λk=>QL hB hwr HC.out hN hz hnd2 53 Om Om (by have:=HDP.out;omega) (by have:=HDP.out;omega) k);have HO2:Hid (ov=JT zz (e2-1)):=ho;have HWc:=Hd hwr;clear HO ho c3;obtain⟨-,-,c3,-,-,-,-⟩:=FC hB HP.out hN h14 hz hwr;obtain⟨sg,hsg⟩:∃p,CM.neg (zz)=p:=⟨_,rfl⟩;rw[hsg]at c3;clear hsg;have HO:=HO2;clear HO2 hwr hz HWR HZ HDP0;go_wp2_with fail;by_cases hE:(e2-1)+1023≥2047
  .have hov:ov=true:=by rw[HO.out,JT,if_pos Om]
   subst hov;go_quiet (fail);go_wp2_with fail;go_step3;show J1 _ _;refine g1.out _ _ ?_;clear g0 g1;unfold FT;go_wp2_with fail;go_quiet (fail);go_wp2_with fail;go_step3;go_wp2_with fail;go_quiet (fail)
   cases sg
   .go_wp2_with fail
    rw[Exit.noGoto_ret];go_ret2;exact⟨_,rfl,_,_,(by first|exact DB HWc|exact CH HWc|exact fb_end3 HWc|exact fb_end4 HWc)⟩
   go_wp2_with fail;go_quiet (fail);go_wp2_with fail;rw[Exit.noGoto_ret];go_ret2;exact⟨_,rfl,_,_,(by first|exact DB HWc|exact CH HWc|exact fb_end3 HWc|exact fb_end4 HWc)⟩
  go_quiet (fail);go_wp2_with fail;refine(CS53.out _).mono ?_;rintro e' w1 ⟨rfl,hw1⟩;clear c3 i0 i1 i2;have ho:=HO.out;rw[JT,if_neg Om]at ho;generalize zz.lsh zz.nd.toNat 53=u at hw1 ho;obtain⟨m5,nd5,a1,a2,a3,a4,a5,-⟩:=hw1;obtain⟨-,-,c3,-,i0,i1,i2⟩:=FC hB HP.out hN h14 a2 a1;obtain⟨sg,hsg⟩:∃p,CM.neg (u)=p:=⟨_,rfl⟩;rw[hsg]at c3;clear hsg;have CR:=Hd (Q5 hB a1 a2 (by have:=HDP.out;omega) (by have:=HDP.out;omega));generalize u.rint u.nd.toNat=mt at ho CR;have HWd:=Hd a1;clear a1 a2 a3 a4 a5 CS53 HO HWc;have HO:=Hd ho;clear ho;go_wp2_with fail;refine CR.out.mono ?_;rintro e' w2 ⟨rfl,rfl⟩;by_cases hmt:mt=9007199254740992
  .subst hmt
   have ho:=HO.out;rw[if_pos rfl]at ho;have HOO:=Hd ho;clear ho;by_cases hE2:(e2-1)+1+1023≥2047
   .have hov:ov=true:=by rw[HOO.out,decide_eq_true Om]
    subst hov;go_wp2_with fail;go_quiet (fail);go_wp2_with fail;go_step3;show J1 _ _;refine g1.out _ _ ?_;clear g0 g1;unfold FT;go_wp2_with fail;go_quiet (fail);go_wp2_with fail;go_step3;go_wp2_with fail;go_quiet (fail)
    cases sg
    .go_wp2_with fail
     rw[Exit.noGoto_ret];go_ret2;exact⟨_,rfl,_,_,(by first|exact DB HWd|exact CH HWd|exact fb_end3 HWd|exact fb_end4 HWd)⟩
    go_wp2_with fail;go_quiet (fail);go_wp2_with fail;rw[Exit.noGoto_ret];go_ret2;exact⟨_,rfl,_,_,(by first|exact DB HWd|exact CH HWd|exact fb_end3 HWd|exact fb_end4 HWd)⟩
   have hov:ov=false:=by rw[HOO.out,decide_eq_false Om]
   subst hov;go_wp2_with fail;go_quiet (fail);go_wp2_with fail
   all_goals
    go_step3;show J0 _ _;refine g0.out _ _ ?_;clear g0 g1;unfold FT;go_wp2_with fail;go_quiet (fail)
    cases sg
    .go_wp2_with fail
     rw[Exit.noGoto_ret];go_ret2;exact⟨_,rfl,_,_,(by first|exact DB HWd|exact CH HWd|exact fb_end3 HWd|exact fb_end4 HWd)⟩
    .go_wp2_with fail
     go_quiet (fail);go_wp2_with fail;rw[Exit.noGoto_ret];go_ret2;exact⟨_,rfl,_,_,(by first|exact DB HWd|exact CH HWd|exact fb_end3 HWd|exact fb_end4 HWd)⟩
  have hov:ov=false:=by rw[HO.out,if_neg hmt]
  subst hov;have hmb:(mt==9007199254740992)=false:=by rw[Bn];exact hmt
  clear hmt;go_wp2_with fail
  all_goals
   go_step3;show J0 _ _;refine g0.out _ _ ?_;clear g0 g1;unfold FT;go_wp2_with fail;go_quiet (fail)
   cases sg
   .go_wp2_with fail
    rw[Exit.noGoto_ret];go_ret2;exact⟨_,rfl,_,_,(by first|exact DB HWd|exact CH HWd|exact fb_end3 HWd|exact fb_end4 HWd)⟩
   .go_wp2_with fail
    go_quiet (fail);go_wp2_with fail;rw[Exit.noGoto_ret];go_ret2;exact⟨_,rfl,_,_,(by first|exact DB HWd|exact CH HWd|exact fb_end3 HWd|exact fb_end4 HWd)⟩
 have hp00:(p1==0)=false:=by rw[Bn];exact hpz
 have hp01:¬p1<0:=λh=>hgo (Or.inl h)
 clear hgo hpz
 by_cases hlow:e2-1 < -1022
 .have ho:=HO.out
  rw[VS,if_pos hlow]at ho;obtain⟨n,hn⟩:∃n:Nat,-1022-(e2-1)=n:=⟨(-1022-(e2-1)).toNat,Om⟩;rw[hn,Int.toNat_natCast]at ho;have CS:=Hd (λk=>AE8 hB HWR.out HZ.out hnd2 n Om Om (by have:=HDP0.out;omega) (by have:=HDP0.out;omega) k);have hnA:-1022-(e2-1)<=n:=Om;have hnB:(n:Int)<=-1022-(e2-1):=Om;have HO2:=Hd ho;clear ho HO;go_wp2_with fail;refine(CS.out 0).mono ?_;rintro e' w0 ⟨rfl,hw0⟩;have ho:=HO2.out;generalize z.shr n=zz at hw0 ho;obtain⟨m4,nd4,a1,a2,a3,a4,a5⟩:=hw0;have HDP:=Hd (show -400000<=zz.dp/\zz.dp<=20 from⟨by have:=HDP0.out;omega,by have:=HDP0.out;omega⟩);have CS53:=Hd (λk=>QL hB a1 HC.out hN a2 a3 53 Om Om (by have:=HDP.out;omega) (by have:=HDP.out;omega) k);clear c2 c3 c4 i0 i1 i2 CS HO2 hn;have HWc:=Hd a1;obtain⟨-,-,c3,-,i0,i1,i2⟩:=FC hB HP.out hN h14 a2 a1;obtain⟨sg,hsg⟩:∃p,CM.neg (zz)=p:=⟨_,rfl⟩;rw[hsg]at c3;clear hsg;have HO:Hid (ov=JT zz (-1022)):=ho;clear ho a1 a2 a3 a4 a5;go_wp2_with fail;by_cases hE:(-1022:Int)+1023≥2047
  .exact absurd hE Om
  go_quiet (fail);go_wp2_with fail;refine(CS53.out _).mono ?_;rintro e' w1 ⟨rfl,hw1⟩;clear c3 i0 i1 i2;have ho:=HO.out;rw[JT,if_neg Om]at ho;generalize zz.lsh zz.nd.toNat 53=u at hw1 ho;obtain⟨m5,nd5,a1,a2,a3,a4,a5,-⟩:=hw1;obtain⟨-,-,c3,-,i0,i1,i2⟩:=FC hB HP.out hN h14 a2 a1;obtain⟨sg,hsg⟩:∃p,CM.neg (u)=p:=⟨_,rfl⟩;rw[hsg]at c3;clear hsg;have CR:=Hd (Q5 hB a1 a2 (by have:=HDP.out;omega) (by have:=HDP.out;omega));generalize u.rint u.nd.toNat=mt at ho CR;have HWd:=Hd a1;clear a1 a2 a3 a4 a5 CS53 HO HWc;have HO:=Hd ho;clear ho;go_wp2_with fail;refine CR.out.mono ?_;rintro e' w2 ⟨rfl,rfl⟩;by_cases hmt:mt=9007199254740992
  .subst hmt
   have ho:=HO.out;rw[if_pos rfl]at ho;have HOO:=Hd ho;clear ho;by_cases hE2:(-1022)+1+1023≥2047
   .exact absurd hE2 Om
   have hov:ov=false:=by rw[HOO.out,decide_eq_false Om]
   subst hov;go_wp2_with fail;go_quiet (fail);go_wp2_with fail
   all_goals
    go_step3;show J0 _ _;refine g0.out _ _ ?_;clear g0 g1;unfold FT;go_wp2_with fail;go_quiet (fail)
    cases sg
    .go_wp2_with fail
     rw[Exit.noGoto_ret];go_ret2;exact⟨_,rfl,_,_,(by first|exact DB HWd|exact CH HWd|exact fb_end3 HWd|exact fb_end4 HWd)⟩
    .go_wp2_with fail
     go_quiet (fail);go_wp2_with fail;rw[Exit.noGoto_ret];go_ret2;exact⟨_,rfl,_,_,(by first|exact DB HWd|exact CH HWd|exact fb_end3 HWd|exact fb_end4 HWd)⟩
  have hov:ov=false:=by rw[HO.out,if_neg hmt]
  subst hov;have hmb:(mt==9007199254740992)=false:=by rw[Bn];exact hmt
  clear hmt;go_wp2_with fail
  all_goals
   go_step3;show J0 _ _;refine g0.out _ _ ?_;clear g0 g1;unfold FT;go_wp2_with fail;go_quiet (fail)
   cases sg
   .go_wp2_with fail
    rw[Exit.noGoto_ret];go_ret2;exact⟨_,rfl,_,_,(by first|exact DB HWd|exact CH HWd|exact fb_end3 HWd|exact fb_end4 HWd)⟩
   .go_wp2_with fail
    go_quiet (fail);go_wp2_with fail;rw[Exit.noGoto_ret];go_ret2;exact⟨_,rfl,_,_,(by first|exact DB HWd|exact CH HWd|exact fb_end3 HWd|exact fb_end4 HWd)⟩
 have ho:=HO.out
 rw[VS,if_neg hlow]at ho
 have hwr:=HWR.out
 have hz:=HZ.out
 have HDP:=Hd (show -400000<=z.dp/\z.dp<=20 from⟨by have:=HDP0.out;omega,by have:=HDP0.out;omega⟩)
 generalize z=zz at ho hwr hz HDP
 have CS53:=Hd (λk=>QL hB hwr HC.out hN hz hnd2 53 Om Om (by have:=HDP.out;omega) (by have:=HDP.out;omega) k)
 have HO2:Hid (ov=JT zz (e2-1)):=ho
 have HWc:=Hd hwr
 clear HO ho c3
 obtain⟨-,-,c3,-,-,-,-⟩:=FC hB HP.out hN h14 hz hwr
 obtain⟨sg,hsg⟩:∃p,CM.neg (zz)=p:=⟨_,rfl⟩
 rw[hsg]at c3
 clear hsg
 have HO:=HO2
 clear HO2 hwr hz HWR HZ HDP0
 go_wp2_with fail
 by_cases hE:(e2-1)+1023≥2047
 .have hov:ov=true:=by rw[HO.out,JT,if_pos Om]
  subst hov;go_quiet (fail);go_wp2_with fail;go_step3;show J1 _ _;refine g1.out _ _ ?_;clear g0 g1;unfold FT;go_wp2_with fail;go_quiet (fail);go_wp2_with fail;go_step3;go_wp2_with fail;go_quiet (fail)
  cases sg
  .go_wp2_with fail
   rw[Exit.noGoto_ret];go_ret2;exact⟨_,rfl,_,_,(by first|exact DB HWc|exact CH HWc|exact fb_end3 HWc|exact fb_end4 HWc)⟩
  go_wp2_with fail;go_quiet (fail);go_wp2_with fail;rw[Exit.noGoto_ret];go_ret2;exact⟨_,rfl,_,_,(by first|exact DB HWc|exact CH HWc|exact fb_end3 HWc|exact fb_end4 HWc)⟩
 go_quiet (fail)
 go_wp2_with fail
 refine(CS53.out _).mono ?_
 rintro e' w1 ⟨rfl,hw1⟩
 clear c3 i0 i1 i2
 have ho:=HO.out
 rw[JT,if_neg Om]at ho
 generalize zz.lsh zz.nd.toNat 53=u at hw1 ho
 obtain⟨m5,nd5,a1,a2,a3,a4,a5,-⟩:=hw1
 obtain⟨-,-,c3,-,i0,i1,i2⟩:=FC hB HP.out hN h14 a2 a1
 obtain⟨sg,hsg⟩:∃p,CM.neg (u)=p:=⟨_,rfl⟩
 rw[hsg]at c3
 clear hsg
 have CR:=Hd (Q5 hB a1 a2 (by have:=HDP.out;omega) (by have:=HDP.out;omega))
 generalize u.rint u.nd.toNat=mt at ho CR
 have HWd:=Hd a1
 clear a1 a2 a3 a4 a5 CS53 HO HWc
 have HO:=Hd ho
 clear ho
 go_wp2_with fail
 refine CR.out.mono ?_
 rintro e' w2 ⟨rfl,rfl⟩
 by_cases hmt:mt=9007199254740992
 .subst hmt
  have ho:=HO.out;rw[if_pos rfl]at ho;have HOO:=Hd ho;clear ho;by_cases hE2:(e2-1)+1+1023≥2047
  .have hov:ov=true:=by rw[HOO.out,decide_eq_true Om]
   subst hov;go_wp2_with fail;go_quiet (fail);go_wp2_with fail;go_step3;show J1 _ _;refine g1.out _ _ ?_;clear g0 g1;unfold FT;go_wp2_with fail;go_quiet (fail);go_wp2_with fail;go_step3;go_wp2_with fail;go_quiet (fail)
   cases sg
   .go_wp2_with fail
    rw[Exit.noGoto_ret];go_ret2;exact⟨_,rfl,_,_,(by first|exact DB HWd|exact CH HWd|exact fb_end3 HWd|exact fb_end4 HWd)⟩
   go_wp2_with fail;go_quiet (fail);go_wp2_with fail;rw[Exit.noGoto_ret];go_ret2;exact⟨_,rfl,_,_,(by first|exact DB HWd|exact CH HWd|exact fb_end3 HWd|exact fb_end4 HWd)⟩
  have hov:ov=false:=by rw[HOO.out,decide_eq_false Om]
  subst hov;go_wp2_with fail;go_quiet (fail);go_wp2_with fail
  all_goals
   go_step3;show J0 _ _;refine g0.out _ _ ?_;clear g0 g1;unfold FT;go_wp2_with fail;go_quiet (fail)
   cases sg
   .go_wp2_with fail
    rw[Exit.noGoto_ret];go_ret2;exact⟨_,rfl,_,_,(by first|exact DB HWd|exact CH HWd|exact fb_end3 HWd|exact fb_end4 HWd)⟩
   .go_wp2_with fail
    go_quiet (fail);go_wp2_with fail;rw[Exit.noGoto_ret];go_ret2;exact⟨_,rfl,_,_,(by first|exact DB HWd|exact CH HWd|exact fb_end3 HWd|exact fb_end4 HWd)⟩
 have hov:ov=false:=by rw[HO.out,if_neg hmt]
 subst hov
 have hmb:(mt==9007199254740992)=false:=by rw[Bn];exact hmt
 clear hmt
 go_wp2_with fail
 all_goals
  go_step3;show J0 _ _;refine g0.out _ _ ?_;clear g0 g1;unfold FT;go_wp2_with fail;go_quiet (fail)
  cases sg
  .go_wp2_with fail
   rw[Exit.noGoto_ret];go_ret2;exact⟨_,rfl,_,_,(by first|exact DB HWd|exact CH HWd|exact fb_end3 HWd|exact fb_end4 HWd)⟩
  .go_wp2_with fail
   go_quiet (fail);go_wp2_with fail;rw[Exit.noGoto_ret];go_ret2;exact⟨_,rfl,_,_,(by first|exact DB HWd|exact CH HWd|exact fb_end3 HWd|exact fb_end4 HWd)⟩
