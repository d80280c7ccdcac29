/- Lemmas for FnVtSigsEntry; no conditions. -/
import Derived.Test.YtbnbadcnfchdhaaGreatDoorP13
set_option maxRecDepth 100000
set_option maxHeartbeats 16000000
set_option linter.all false
namespace Go.Proofs.YtbnbadcnfchdhaaGreatDoor
open Go.RowKit
theorem AIl{w W:World}{a b:Nat}(h:w.heap.size+2<=W.heap.size):w.heap.size+1<W.heap.size/\w.heap.size<W.heap.size:=Om
theorem GT{ts:List AW}{i k:Nat}(hk:k≠0)(h:decide ((AZ ts i:Int)=(k:Int))=true):i<ts.length/\ts.drop i=(k,(ts[i]?.getD (0,⟨#[]⟩)).2)::ts.drop (i+1):=by
 have h2:AZ ts i=k:=by have:=of_decide_eq_true h;omega
 rcases Nat.lt_or_ge i ts.length with h1|h1
 .refine⟨h1,?_⟩
  rw[JM h1,<-GA h1,h2,List.getElem?_eq_getElem h1];rfl
 rw[FR Om]at h2;omega
theorem S7{w W:World}{r:Nat}{A:Option Addr}{n c i q:Nat}(h:DR w W r A n c i q):IA w W r A n c i q none 0 0 [] []:=
 ⟨h.b4,h.b6,h.blk,h.size,h.grown,⟨rfl,.inl ⟨rfl,rfl⟩⟩,JS.nil _ _,rfl⟩
theorem YD{W:World}{base:Nat}{v:Value}{n:Nat}{xs:List Value}(h:W.ownsRow base 37 5 v n xs)(o:Obj):(W.alloc o).ownsRow base 37 5 v n xs:=
 AR h λg _ hg=>DM W o hg
theorem IA.own{w W:World}{r:Nat}{A:Option Addr}{n c i q:Nat}{Ak:Option Addr}{nk ck:Nat}{rs:List (List Value)}{ks:List Ph}(h:IA w W r A n c i q Ak nk ck rs ks)(hr:r<w.heap.size)(o:Obj):IA w (W.alloc o) r A n c i q Ak nk ck rs ks:=
 h.step hr (DN _ (Bl.alloc Nl _)) ((DM W o (by have:=h.size;omega)).trans h.blk)
theorem AFn{w:World}{r:Nat}{A:Option Addr}{n c:Nat}{ts:List AW}{i:Nat}(h:FW w r A n c ts i)(hk:AZ ts i=5)(ih:∀j,i<j->AB8 A n c ts j true) :
 Calls Tryz.prog 59 #[.pointer (some ⟨r,0,none⟩)] w (QZ w r A n c ts i true):=by
 obtain⟨i0,hi,hz0,hz1,hz2⟩:=info_parts Tryz.info37
 have KC:=Hd (λ(W:World) (hb:Below w.heap.size w W)=>FJ (h.keep hb))
 have HR:=Hd h
 have hlt:=h.lt
 have hil:i<ts.length:=by
  rcases Nat.lt_or_ge i ts.length with h1|h1
  .exact h1
  rw[FR Om]at hk;omega
 rw[hk]at KC
 have hns:=h.small
 have HNL:=Hd h.len
 have hib:i<=100001:=by have:=h.len;omega
 have HD:=Hd (show ts.drop i=(5,(ts[i]).2)::ts.drop (i+1) by rw[JM hil,<-GA hil,hk])
 generalize (ts[i]).2=x at *
 have IH:=Hd ih
 clear h hk ih
 have hne:r≠w.heap.size:=Om
 have hne2:r≠w.heap.size+1:=Om
 go_enter Tryz.func59,Tryz.ntmps59
 go_upto_region 2 with(go_at_call 35;refine(KC.out _ (Bl.alloc Nl _)).mono ?_;rintro e w' ⟨rfl,m,rfl⟩)
 change Code.wp _ _ _ _ (((w.alloc (.cells z5 37)).drewN m).alloc (.cells (k5 5) 37))
 have TW0:=KR w m 5
 generalize ((w.alloc (.cells z5 37)).drewN m).alloc (.cells (k5 5) 37)=wc at *
 have TW:=DR.mk1 TW0 HR.out
 clear TW0 KC
 obtain⟨p0,p1,p2,p3,p4⟩:=AL TW.b6
 obtain⟨z0,z1,z2,z3,z4⟩:=AL TW.b4
 obtain⟨g0,g1,gf⟩:=(TW.rd HR.out Om).cells
 have hsz:=TW.size
 have hwl:=AIl (a:=0) (b:=0) TW.size
 have hw1:=hwl.1
 have hw0:=hwl.2
 clear hwl
 have HTn:=Hd (show DR w (wc.setCell ⟨r,1,none⟩ (.int .i64 ((i:Int)+1))) r A n c (i+1) 5 from TW.next hlt)
 have TK:=Hd (F1 (HTn.out.rd HR.out Om) 6)
 clear TW
 have hk6:decide ((AZ ts (i+1):Int)=6)=true->i+1<ts.length/\ts.drop (i+1)=(6,(ts[i+1]?.getD (0,⟨#[]⟩)).2)::ts.drop (i+1+1):=GT (k:=6) De
 have HK6:=Hd hk6
 clear hk6
 generalize decide ((AZ ts (i+1):Int)=6)=dk at *
 go_upto_if 23 with(go_at_call 58;(with_reducible refine TK.out.mono ?_);rintro e w1 ⟨rfl,hb1,hg1,hs1⟩;have TW1:=Hd (HTn.out.step hlt hg1 hb1);clear hb1 hg1 hs1 p0 p1 p2 p3 p4 z0 z1 z2 z3 z4 g0 g1 gf)
 cases dk with
 |true=>
  obtain⟨p0,p1,p2,p3,p4⟩:=AL TW1.out.b6
  obtain⟨z0,z1,z2,z3,z4⟩:=AL TW1.out.b4
  have f20:=AB TW1.out.b4 0
  have f21:=AB TW1.out.b4 1
  have f22:=AB TW1.out.b4 2
  have f23:=AB TW1.out.b4 3
  have f24:=AB TW1.out.b4 4
  go_wp2_with fail
  refine bodyPost_ret (v:=.tuple #[.agg #[.int .i64 (5:Nat),.string ⟨#[]⟩,.slice none 0 0,.bool false,.string ⟨#[]⟩],.bool true]) (by simp[results,Tryz.results59,go_sem,z0,z1,z2,z3,z4]) rfl ?_
  have hk6:=HK6.out (by first|exact trivial|rfl)
  refine⟨5,_,none,0,0,false,⟨#[]⟩,true,i+1+1,rfl,Om,Om,(BA _ hne _ _ _ _ _).trans TW1.out.blk,B0 TW1.out.grown Nl _ _ _ _ _,N8 ⟨Om,.mk 5 ⟨#[]⟩ [] none,?_,OV _ _ _ _⟩⟩
  rw[HD.out,hk6.2]
  exact .nil Om
 |false=>
  have LW0:IA w w1 r A n c (i+1) 5 none 0 0 [] []:=S7 TW1.out
  clear HK6 TK HTn TW1
  have ITH:=Hd (λj (hj:i<j) W (hR:FW W r A n c ts j)=>IH.out j hj W r hR)
  clear IH
  go_wp2_with fail
  go_loopg [] (ts.length-(i+1)) (λg wr=>∃(j:Nat) (Ak:Option Addr) (nk ck:Nat) (rs:List (List Value)) (ks:List Ph),IA w wr r A n c j 5 Ak nk ck rs ks/\i+1<=j/\j<=ts.length/\nk<=2*j/\g=ts.length-j/\Hid (∀ks' r',IU 5 (ts.drop j) ks' r'->IU 5 (ts.drop (i+1)) (ks++ks') r'))
  case atStart=>exact⟨i+1,none,0,0,[],[],LW0,Om,Om,Om,rfl,λ_ _ h=>h⟩
  obtain⟨j,Ak,nk,ck,rs,ks,LW,hij,hj,hnk,rfl,HE⟩:=hrel
  have hjb:j<=100001:=by have:=HNL.out;omega
  have hswr:=LW.size
  have IC:=Hd (ITH.out j Om wr (LW.rd HR.out hj))
  have HLW:=Hd LW
  clear LW LW0 ITH
  go_upto_region 6 with(go_at_call 34;(with_reducible refine IC.out.mono ?_);rintro e w2 ⟨k2,x2,A2,n2,c2,bt2,t2,ok2,j2,rfl,hj1,hj2,hblk,hgrow,hok⟩;have HOK:=Hd (ZO hok);have LW2:=Hd (HLW.out.step hlt hgrow hblk);have hs2:=LW2.out.size;have hs3:w.heap.size+1<w2.heap.size:=Om;have hs4:w.heap.size<w2.heap.size:=Om;clear hok hgrow hblk;obtain⟨z0,z1,z2,z3,z4⟩:=AL LW2.out.b2;obtain⟨p0,p1,p2,p3,p4⟩:=AL LW2.out.b4;have f20:=AB LW2.out.b2 0;have f21:=AB LW2.out.b2 1;have f22:=AB LW2.out.b2 2;have f23:=AB LW2.out.b2 3;have f24:=AB LW2.out.b2 4;have f42:=AB LW2.out.b4 2)
  have LWk:=LW2.out.own hlt (.cells #[.int .i64 k2,.string x2,.slice A2 n2 c2,.bool bt2,.string t2] 37)
  have hbk:Below w2.heap.size w2 (w2.alloc (.cells #[.int .i64 k2,.string x2,.slice A2 n2 c2,.bool bt2,.string t2] 37)):=Bl.alloc Nl _
  obtain⟨q0,q1,q2,q3,q4⟩:=AL (heap_alloc_new w2 (.cells #[.int .i64 k2,.string x2,.slice A2 n2 c2,.bool bt2,.string t2] 37))
  have hsk:(w2.alloc (.cells #[.int .i64 k2,.string x2,.slice A2 n2 c2,.bool bt2,.string t2] 37)).heap.size=w2.heap.size+1:=by simp
  generalize w2.alloc (.cells #[.int .i64 k2,.string x2,.slice A2 n2 c2,.bool bt2,.string t2] 37)=wk at *
  clear z0 z1 z2 z3 z4 p0 p1 p2 p3 p4 f20 f21 f22 f23 f24 f42
  obtain⟨z0,z1,z2,z3,z4⟩:=AL LWk.b2
  obtain⟨p0,p1,p2,p3,p4⟩:=AL LWk.b4
  have f20:=AB LWk.b2 0
  have f21:=AB LWk.b2 1
  have f22:=AB LWk.b2 2
  have f23:=AB LWk.b2 3
  have f24:=AB LWk.b2 4
  have f42:=AB LWk.b4 2
  have HLk:=Hd LWk
  have HBK:=Hd hbk
  have HSK:=Hd hsk
  have hsk1:w.heap.size+1<wk.heap.size:=Om
  have hsk0:w.heap.size<wk.heap.size:=Om
  have hsk2:w2.heap.size<wk.heap.size:=Om
  clear LWk hbk hsk
  cases ok2 with
  |false=>
   clear HOK IC HE
   go_wp2_with fail
   refine bodyPost_ret (v:=.tuple #[.agg #[.int .i64 (0:Nat),.string ⟨#[]⟩,.slice none 0 0,.bool false,.string ⟨#[]⟩],.bool false]) (by simp[results,Tryz.results59,go_sem,z0,z1,z2,z3,z4]) rfl ?_
   exact⟨_,_,none,0,0,false,⟨#[]⟩,false,j2,rfl,Om,hj2,(BA _ hne _ _ _ _ _).trans HLk.out.blk,B0 HLk.out.grown Nl _ _ _ _ _,IE⟩
  |true=>
   obtain⟨hj3,p,hT,hP⟩:=HOK.out (by first|exact trivial|rfl)
   have HTp:=Hd hT
   have HPp:=Hd hP
   clear hT hP HOK IC
   go_wp2_with (at_builtin;refine wpList_append_lies _ rfl _ _ 35 rfl (w.heap.size+2) 37 i0 (.agg z5) 5 72 Tryz.underlying35 hi hz0 hz1 hz2 rfl De _ _ _ rfl (YD HLk.out.row _) ⟨wk.heap.size,0,none⟩ 1 1 [.int .i64 k2,.string x2,.slice A2 n2 c2,.bool bt2,.string t2] rfl rfl ?c1 ?c2 ?c3 ?c4 ?c5 ?c6 (wk.heap.size+1) ?c7 ?_)
   case c1=>exact World.news_of_block (cs:=#[.int .i64 k2,.string x2,.slice A2 n2 c2,.bool bt2,.string t2]) (t:=37) (fr:=(0,0)) (heap_alloc_new wk _)
   case c2=>simp[Value.oneCell']
   case c3=>decide
   case c4=>unfold maxLen;omega
   case c5=>omega
   case c6=>have:=HLk.out.size;simp;omega
   case c7=>simp
   intro gg2 cap2 w32 hown3 hg3 hat hlt3
   have hb4:=(hg3.block (w.heap.size+1) (by have:=HLk.out.size;simp;omega) (λe=>by have:=AG HLk.out.row _ e.symm;omega)).trans ((DM wk _ (by have:=HLk.out.size;omega)).trans HLk.out.b4)
   obtain⟨y0,y1,y2,y3,y4⟩:=AL hb4
   have fy2:=AB hb4 2
   have HOWN:=Hd hown3
   have HG3:=Hd hg3
   have HAT:=Hd hat
   clear hown3 hg3 hat hb4 z0 z1 z2 z3 z4 p0 p1 p2 p3 p4 f20 f21 f22 f23 f24 f42 q0 q1 q2 q3 q4
   go_upto_region 9 with fail
   have LWa:=IA.app HLk.out hlt ((HPp.out.keep HBK.out)) (λg e=>GV HLW.out.row g e) HLW.out.size HOWN.out HG3.out HAT.out
   clear y0 y1 y2 y3 y4 fy2
   generalize w32.setCell ⟨w.heap.size+1,2,none⟩ (.slice (some ⟨gg2,0,none⟩) (nk+1) cap2)=wa2 at *
   have HLa:=Hd LWa
   obtain⟨z0,z1,z2,z3,z4⟩:=AL LWa.b2
   obtain⟨p0,p1,p2,p3,p4⟩:=AL LWa.b4
   have f20:=AB LWa.b2 0
   have f21:=AB LWa.b2 1
   have f22:=AB LWa.b2 2
   have f23:=AB LWa.b2 3
   have f24:=AB LWa.b2 4
   have f42:=AB LWa.b4 2
   have hsa:=LWa.size
   have hsa1:w.heap.size+1<wa2.heap.size:=Om
   have hsa0:w.heap.size<wa2.heap.size:=Om
   clear LWa
   have TK:=Hd (F1 (HLa.out.rd HR.out hj2) 6)
   have HKe:=Hd (show decide ((AZ ts j2:Int)=6)=true->j2<ts.length/\ts.drop j2=(6,(ts[j2]?.getD (0,⟨#[]⟩)).2)::ts.drop (j2+1) from GT (k:=6) De)
   have HKc:=Hd (show decide ((AZ ts j2:Int)=11)=true->j2<ts.length/\ts.drop j2=(11,(ts[j2]?.getD (0,⟨#[]⟩)).2)::ts.drop (j2+1) from GT (k:=11) De)
   have TC:=Hd (λ(W:World) (hR:FW W r A n c ts j2)=>F1 hR 11)
   generalize decide ((AZ ts j2:Int)=6)=de at *
   generalize decide ((AZ ts j2:Int)=11)=dc at *
   go_upto_if 66 with(go_at_call 58;(with_reducible refine TK.out.mono ?_);rintro e w6 ⟨rfl,hb6,hg6,hs6⟩;have LW6:=Hd (HLa.out.step hlt hg6 hb6);clear hb6 hg6 hs6 z0 z1 z2 z3 z4 p0 p1 p2 p3 p4 f20 f21 f22 f23 f24 f42)
   cases de with
   |true=>
    obtain⟨z0,z1,z2,z3,z4⟩:=AL LW6.out.b2
    obtain⟨p0,p1,p2,p3,p4⟩:=AL LW6.out.b4
    have f20:=AB LW6.out.b2 0
    have f21:=AB LW6.out.b2 1
    have f22:=AB LW6.out.b2 2
    have f23:=AB LW6.out.b2 3
    have f24:=AB LW6.out.b2 4
    go_wp2_with fail
    refine bodyPost_ret (v:=.tuple #[.agg #[.int .i64 (5:Nat),.string ⟨#[]⟩,.slice (some ⟨gg2,0,none⟩) (nk+1) cap2,.bool false,.string ⟨#[]⟩],.bool true]) (by simp[results,Tryz.results59,go_sem,z0,z1,z2,z3,z4]) rfl ?_
    have hke:=HKe.out (by first|exact trivial|rfl)
    refine⟨5,_,_,_,_,false,⟨#[]⟩,true,j2+1,rfl,Om,Om,(BA _ hne _ _ _ _ _).trans LW6.out.blk,B0 LW6.out.grown Nl _ _ _ _ _,N8 ⟨Om,.mk 5 ⟨#[]⟩ (ks++[p]) none,?_,?_⟩⟩
    .rw[HD.out]
     refine .lst Om ?_;refine HE.out _ _ ?_;exact .one5 (by rw[<-hke.2];exact HTp.out)
    refine XH (rs:=rs++[NX k2 x2 A2 n2 c2 bt2 t2]) 5 ⟨#[]⟩ LW6.out.len (BF (AR LW6.out.row λg e hlt2=>BA _ (by have:=AG LW6.out.row g e;omega) _ _ _ _ _) (Nat.zero_le _)) (λg e=>by have:=AG LW6.out.row g e;omega) ?_
    refine LW6.out.kids.same (by simp[World.setCell]) (λg hp hlt2=>BA _ (by have:=hp.1;omega) _ _ _ _ _) (λg hp _=>by have:=hp.1;omega)
   |false=>
    have TC6:=Hd (TC.out w6 (LW6.out.rd HR.out hj2))
    go_upto_if 70 with(go_at_call 58;(with_reducible refine TC6.out.mono ?_);rintro e w7 ⟨rfl,hb7,hg7,hs7⟩;have LW7:=Hd (LW6.out.step hlt hg7 hb7);clear hb7 hg7 hs7)
    cases dc with
    |true=>
     have hkc:=HKc.out (by first|exact trivial|rfl)
     have HE2:=Hd (show ∀ks' r',IU 5 (ts.drop (j2+1)) ks' r'->IU 5 (ts.drop (i+1)) (ks++[p]++ks') r' from λks' r' hel=>by rw[List.append_assoc];refine HE.out _ _ ?_;exact .cons5 (by rw[<-hkc.2];exact HTp.out) hel)
     have hlt3:=hkc.1
     have hl7:=LW7.out
     have HL7:=Hd hl7
     clear HE HKc HKe TK TC TC6 hkc hl7
     go_wp2_with fail
     go_roundg (ts.length-(j2+1))
     case rel=>exact⟨j2+1,_,_,_,_,_,HL7.out,Om,Om,Om,rfl,HE2⟩
     omega
    |false=>
     obtain⟨z0,z1,z2,z3,z4⟩:=AL LW7.out.b2
     have f20:=AB LW7.out.b2 0
     have f21:=AB LW7.out.b2 1
     have f22:=AB LW7.out.b2 2
     have f23:=AB LW7.out.b2 3
     have f24:=AB LW7.out.b2 4
     go_wp2_with fail
     refine bodyPost_ret (v:=.tuple #[.agg #[.int .i64 (0:Nat),.string ⟨#[]⟩,.slice none 0 0,.bool false,.string ⟨#[]⟩],.bool false]) (by simp[results,Tryz.results59,go_sem,z0,z1,z2,z3,z4]) rfl ?_
     exact⟨_,_,none,0,0,false,⟨#[]⟩,false,j2,rfl,Om,Om,(BA _ hne _ _ _ _ _).trans LW7.out.blk,B0 LW7.out.grown Nl _ _ _ _ _,IE⟩
theorem ACh{w:World}{r:Nat}{A:Option Addr}{n c:Nat}{ts:List AW}{i:Nat}(h:FW w r A n c ts i)(hk:AZ ts i=7)(ih:∀j,i<j->AB8 A n c ts j true) :
 Calls Tryz.prog 59 #[.pointer (some ⟨r,0,none⟩)] w (QZ w r A n c ts i true):=by
 obtain⟨i0,hi,hz0,hz1,hz2⟩:=info_parts Tryz.info37
 have KC:=Hd (λ(W:World) (hb:Below w.heap.size w W)=>FJ (h.keep hb))
 have HR:=Hd h
 have hlt:=h.lt
 have hil:i<ts.length:=by
  rcases Nat.lt_or_ge i ts.length with h1|h1
  .exact h1
  rw[FR Om]at hk;omega
 rw[hk]at KC
 have hns:=h.small
 have HNL:=Hd h.len
 have hib:i<=100001:=by have:=h.len;omega
 have HD:=Hd (show ts.drop i=(7,(ts[i]).2)::ts.drop (i+1) by rw[JM hil,<-GA hil,hk])
 generalize (ts[i]).2=x at *
 have IH:=Hd ih
 clear h hk ih
 have hne:r≠w.heap.size:=Om
 have hne2:r≠w.heap.size+1:=Om
 go_enter Tryz.func59,Tryz.ntmps59
 go_upto_region 2 with(go_at_call 35;refine(KC.out _ (Bl.alloc Nl _)).mono ?_;rintro e w' ⟨rfl,m,rfl⟩)
 change Code.wp _ _ _ _ (((w.alloc (.cells z5 37)).drewN m).alloc (.cells (k5 7) 37))
 have TW0:=KR w m 7
 generalize ((w.alloc (.cells z5 37)).drewN m).alloc (.cells (k5 7) 37)=wc at *
 have TW:=DR.mk1 TW0 HR.out
 clear TW0 KC
 obtain⟨p0,p1,p2,p3,p4⟩:=AL TW.b6
 obtain⟨z0,z1,z2,z3,z4⟩:=AL TW.b4
 obtain⟨g0,g1,gf⟩:=(TW.rd HR.out Om).cells
 have hsz:=TW.size
 have hwl:=AIl (a:=0) (b:=0) TW.size
 have hw1:=hwl.1
 have hw0:=hwl.2
 clear hwl
 have HTn:=Hd (show DR w (wc.setCell ⟨r,1,none⟩ (.int .i64 ((i:Int)+1))) r A n c (i+1) 7 from TW.next hlt)
 have TK:=Hd (F1 (HTn.out.rd HR.out Om) 8)
 clear TW
 have hk6:decide ((AZ ts (i+1):Int)=8)=true->i+1<ts.length/\ts.drop (i+1)=(8,(ts[i+1]?.getD (0,⟨#[]⟩)).2)::ts.drop (i+1+1):=GT (k:=8) De
 have HK6:=Hd hk6
 clear hk6
 generalize decide ((AZ ts (i+1):Int)=8)=dk at *
 go_upto_if 23 with(go_at_call 58;(with_reducible refine TK.out.mono ?_);rintro e w1 ⟨rfl,hb1,hg1,hs1⟩;have TW1:=Hd (HTn.out.step hlt hg1 hb1);clear hb1 hg1 hs1 p0 p1 p2 p3 p4 z0 z1 z2 z3 z4 g0 g1 gf)
 cases dk with
 |true=>
  obtain⟨p0,p1,p2,p3,p4⟩:=AL TW1.out.b6
  obtain⟨z0,z1,z2,z3,z4⟩:=AL TW1.out.b4
  have f20:=AB TW1.out.b4 0
  have f21:=AB TW1.out.b4 1
  have f22:=AB TW1.out.b4 2
  have f23:=AB TW1.out.b4 3
  have f24:=AB TW1.out.b4 4
  go_wp2_with fail
  refine bodyPost_ret (v:=.tuple #[.agg #[.int .i64 (7:Nat),.string ⟨#[]⟩,.slice none 0 0,.bool false,.string ⟨#[]⟩],.bool true]) (by simp[results,Tryz.results59,go_sem,z0,z1,z2,z3,z4]) rfl ?_
  have hk6:=HK6.out (by first|exact trivial|rfl)
  refine⟨7,_,none,0,0,false,⟨#[]⟩,true,i+1+1,rfl,Om,Om,(BA _ hne _ _ _ _ _).trans TW1.out.blk,B0 TW1.out.grown Nl _ _ _ _ _,N8 ⟨Om,.mk 7 ⟨#[]⟩ [] none,?_,OV _ _ _ _⟩⟩
  rw[HD.out,hk6.2]
  exact .nil Om
 |false=>
  have LW0:IA w w1 r A n c (i+1) 7 none 0 0 [] []:=S7 TW1.out
  clear HK6 TK HTn TW1
  have ITH:=Hd (λj (hj:i<j) W (hR:FW W r A n c ts j)=>IH.out j hj W r hR)
  clear IH
  go_wp2_with fail
  go_loopg [] (ts.length-(i+1)) (λg wr=>∃(j:Nat) (Ak:Option Addr) (nk ck:Nat) (rs:List (List Value)) (ks:List Ph),IA w wr r A n c j 7 Ak nk ck rs ks/\i+1<=j/\j<=ts.length/\nk<=2*j/\g=ts.length-j/\Hid (∀ks' r',IU 7 (ts.drop j) ks' r'->IU 7 (ts.drop (i+1)) (ks++ks') r'))
  case atStart=>exact⟨i+1,none,0,0,[],[],LW0,Om,Om,Om,rfl,λ_ _ h=>h⟩
  obtain⟨j,Ak,nk,ck,rs,ks,LW,hij,hj,hnk,rfl,HE⟩:=hrel
  have hjb:j<=100001:=by have:=HNL.out;omega
  have hswr:=LW.size
  have IC:=Hd (ITH.out j Om wr (LW.rd HR.out hj))
  have HLW:=Hd LW
  have ITH9:=Hd ITH.out
  clear LW LW0 ITH
  go_upto_region 6 with(go_at_call 34;(with_reducible refine IC.out.mono ?_);rintro e w2 ⟨k2,x2,A2,n2,c2,bt2,t2,ok2,j2,rfl,hj1,hj2,hblk,hgrow,hok⟩;have HOK:=Hd (ZO hok);have LW2:=Hd (HLW.out.step hlt hgrow hblk);have hs2:=LW2.out.size;have hs3:w.heap.size+1<w2.heap.size:=Om;have hs4:w.heap.size<w2.heap.size:=Om;clear hok hgrow hblk;obtain⟨z0,z1,z2,z3,z4⟩:=AL LW2.out.b2;obtain⟨p0,p1,p2,p3,p4⟩:=AL LW2.out.b4;have f20:=AB LW2.out.b2 0;have f21:=AB LW2.out.b2 1;have f22:=AB LW2.out.b2 2;have f23:=AB LW2.out.b2 3;have f24:=AB LW2.out.b2 4;have f42:=AB LW2.out.b4 2)
  have LWk:=LW2.out.own hlt (.cells #[.int .i64 k2,.string x2,.slice A2 n2 c2,.bool bt2,.string t2] 37)
  have hbk:Below w2.heap.size w2 (w2.alloc (.cells #[.int .i64 k2,.string x2,.slice A2 n2 c2,.bool bt2,.string t2] 37)):=Bl.alloc Nl _
  obtain⟨q0,q1,q2,q3,q4⟩:=AL (heap_alloc_new w2 (.cells #[.int .i64 k2,.string x2,.slice A2 n2 c2,.bool bt2,.string t2] 37))
  have hsk:(w2.alloc (.cells #[.int .i64 k2,.string x2,.slice A2 n2 c2,.bool bt2,.string t2] 37)).heap.size=w2.heap.size+1:=by simp
  generalize w2.alloc (.cells #[.int .i64 k2,.string x2,.slice A2 n2 c2,.bool bt2,.string t2] 37)=wk at *
  clear z0 z1 z2 z3 z4 p0 p1 p2 p3 p4 f20 f21 f22 f23 f24 f42
  obtain⟨z0,z1,z2,z3,z4⟩:=AL LWk.b2
  obtain⟨p0,p1,p2,p3,p4⟩:=AL LWk.b4
  have f20:=AB LWk.b2 0
  have f21:=AB LWk.b2 1
  have f22:=AB LWk.b2 2
  have f23:=AB LWk.b2 3
  have f24:=AB LWk.b2 4
  have f42:=AB LWk.b4 2
  have HLk:=Hd LWk
  have HBK:=Hd hbk
  have HSK:=Hd hsk
  have hsk1:w.heap.size+1<wk.heap.size:=Om
  have hsk0:w.heap.size<wk.heap.size:=Om
  have hsk2:w2.heap.size<wk.heap.size:=Om
  clear LWk hbk hsk
  cases ok2 with
  |false=>
   clear HOK IC HE
   go_wp2_with fail
   refine bodyPost_ret (v:=.tuple #[.agg #[.int .i64 (0:Nat),.string ⟨#[]⟩,.slice none 0 0,.bool false,.string ⟨#[]⟩],.bool false]) (by simp[results,Tryz.results59,go_sem,z0,z1,z2,z3,z4]) rfl ?_
   exact⟨_,_,none,0,0,false,⟨#[]⟩,false,j2,rfl,Om,hj2,(BA _ hne _ _ _ _ _).trans HLk.out.blk,B0 HLk.out.grown Nl _ _ _ _ _,IE⟩
  |true=>
   obtain⟨hj3,p,hT,hP⟩:=HOK.out (by first|exact trivial|rfl)
   have HTp:=Hd hT
   have HPp:=Hd hP
   clear hT hP HOK IC
   go_wp2_with (at_builtin;refine wpList_append_lies _ rfl _ _ 35 rfl (w.heap.size+2) 37 i0 (.agg z5) 5 72 Tryz.underlying35 hi hz0 hz1 hz2 rfl De _ _ _ rfl (YD HLk.out.row _) ⟨wk.heap.size,0,none⟩ 1 1 [.int .i64 k2,.string x2,.slice A2 n2 c2,.bool bt2,.string t2] rfl rfl ?c1 ?c2 ?c3 ?c4 ?c5 ?c6 (wk.heap.size+1) ?c7 ?_)
   case c1=>exact World.news_of_block (cs:=#[.int .i64 k2,.string x2,.slice A2 n2 c2,.bool bt2,.string t2]) (t:=37) (fr:=(0,0)) (heap_alloc_new wk _)
   case c2=>simp[Value.oneCell']
   case c3=>decide
   case c4=>unfold maxLen;omega
   case c5=>omega
   case c6=>have:=HLk.out.size;simp;omega
   case c7=>simp
   intro gg2 cap2 w32 hown3 hg3 hat hlt3
   have hb4:=(hg3.block (w.heap.size+1) (by have:=HLk.out.size;simp;omega) (λe=>by have:=AG HLk.out.row _ e.symm;omega)).trans ((DM wk _ (by have:=HLk.out.size;omega)).trans HLk.out.b4)
   obtain⟨y0,y1,y2,y3,y4⟩:=AL hb4
   have fy2:=AB hb4 2
   have HOWN:=Hd hown3
   have HG3:=Hd hg3
   have HAT:=Hd hat
   clear hown3 hg3 hat hb4 z0 z1 z2 z3 z4 p0 p1 p2 p3 p4 f20 f21 f22 f23 f24 f42 q0 q1 q2 q3 q4
   go_upto_region 9 with fail
   have LWa:=IA.app HLk.out hlt ((HPp.out.keep HBK.out)) (λg e=>GV HLW.out.row g e) HLW.out.size (by have h:=HOWN.out;first|exact h|(simp only[List.flatten_append,List.flatten_cons,List.flatten_nil,List.append_nil,List.append_assoc]at h ⊢;exact h)) HG3.out HAT.out
   clear y0 y1 y2 y3 y4 fy2
   generalize w32.setCell ⟨w.heap.size+1,2,none⟩ (.slice (some ⟨gg2,0,none⟩) (nk+1) cap2)=wa2 at *
   have HLa:=Hd LWa
   obtain⟨z0,z1,z2,z3,z4⟩:=AL LWa.b2
   obtain⟨p0,p1,p2,p3,p4⟩:=AL LWa.b4
   have f20:=AB LWa.b2 0
   have f21:=AB LWa.b2 1
   have f22:=AB LWa.b2 2
   have f23:=AB LWa.b2 3
   have f24:=AB LWa.b2 4
   have f42:=AB LWa.b4 2
   have hsa:=LWa.size
   have hsa1:w.heap.size+1<wa2.heap.size:=Om
   have hsa0:w.heap.size<wa2.heap.size:=Om
   clear LWa
   have TKc:=Hd (F1 (HLa.out.rd HR.out hj2) 12)
   have HK12:=Hd (show decide ((AZ ts j2:Int)=12)=true->j2<ts.length/\ts.drop j2=(12,(ts[j2]?.getD (0,⟨#[]⟩)).2)::ts.drop (j2+1) from GT (k:=12) De)
   generalize decide ((AZ ts j2:Int)=12)=d12 at *
   go_upto_region 11 with(go_at_call 58;(with_reducible refine TKc.out.mono ?_);rintro e w8 ⟨rfl,hb8,hg8,hs8⟩;have LW8:=Hd (HLa.out.step hlt hg8 hb8);clear hb8 hg8 hs8 z0 z1 z2 z3 z4 p0 p1 p2 p3 p4 f20 f21 f22 f23 f24 f42)
   obtain⟨j8,hj8⟩:∃j8,j8=(if d12=true then j2+1 else j2):=⟨_,rfl⟩
   rw[<-hj8]at LW8
   have hj8a:j2<=j8:=by rw[hj8];split<;>omega
   have hj8b:j8<=ts.length:=by
    rw[hj8];split
    .rename_i hd;have:=(HK12.out hd).1;omega
    exact hj2
   have HJ8:=Hd hj8
   clear hj8
   have IC9:=Hd (ITH9.out j8 Om w8 (LW8.out.rd HR.out hj8b))
   go_upto_region 12 with(go_at_call 34;(with_reducible refine IC9.out.mono ?_);rintro e w9 ⟨k9,x9,A9,n9,c9,bt9,t9,ok9,j9,rfl,hj91,hj92,hblk,hgrow,hok⟩;have HOK9:=Hd (ZO hok);have LW9:=Hd (LW8.out.step hlt hgrow hblk);have hs2':=LW9.out.size;have hs3':w.heap.size+1<w9.heap.size:=Om;have hs4':w.heap.size<w9.heap.size:=Om;clear hok hgrow hblk;obtain⟨z0,z1,z2,z3,z4⟩:=AL LW9.out.b2;obtain⟨p0,p1,p2,p3,p4⟩:=AL LW9.out.b4;have f20:=AB LW9.out.b2 0;have f21:=AB LW9.out.b2 1;have f22:=AB LW9.out.b2 2;have f23:=AB LW9.out.b2 3;have f24:=AB LW9.out.b2 4;have f42:=AB LW9.out.b4 2)
   have LWk:=LW9.out.own hlt (.cells #[.int .i64 k9,.string x9,.slice A9 n9 c9,.bool bt9,.string t9] 37)
   have hbk:Below w9.heap.size w9 (w9.alloc (.cells #[.int .i64 k9,.string x9,.slice A9 n9 c9,.bool bt9,.string t9] 37)):=Bl.alloc Nl _
   obtain⟨q0,q1,q2,q3,q4⟩:=AL (heap_alloc_new w9 (.cells #[.int .i64 k9,.string x9,.slice A9 n9 c9,.bool bt9,.string t9] 37))
   have hsk:(w9.alloc (.cells #[.int .i64 k9,.string x9,.slice A9 n9 c9,.bool bt9,.string t9] 37)).heap.size=w9.heap.size+1:=by simp
   generalize w9.alloc (.cells #[.int .i64 k9,.string x9,.slice A9 n9 c9,.bool bt9,.string t9] 37)=wk9 at *
   clear z0 z1 z2 z3 z4 p0 p1 p2 p3 p4 f20 f21 f22 f23 f24 f42
   have HLk9:=Hd LWk
   have HBK9:=Hd hbk
   have hsk1':w.heap.size+1<wk9.heap.size:=Om
   have hsk0':w.heap.size<wk9.heap.size:=Om
   have hsk2':w9.heap.size<wk9.heap.size:=Om
   clear LWk hbk hsk
   obtain⟨z0,z1,z2,z3,z4⟩:=AL HLk9.out.b2
   obtain⟨p0,p1,p2,p3,p4⟩:=AL HLk9.out.b4
   have f20:=AB HLk9.out.b2 0
   have f21:=AB HLk9.out.b2 1
   have f22:=AB HLk9.out.b2 2
   have f23:=AB HLk9.out.b2 3
   have f24:=AB HLk9.out.b2 4
   have f42:=AB HLk9.out.b4 2
   cases d12 with
   |false=>
    clear HOK9 HE HK12 HJ8
    go_wp2_with fail
    refine bodyPost_ret (v:=.tuple #[.agg #[.int .i64 (0:Nat),.string ⟨#[]⟩,.slice none 0 0,.bool false,.string ⟨#[]⟩],.bool false]) (by simp[results,Tryz.results59,go_sem,z0,z1,z2,z3,z4]) rfl ?_
    exact⟨_,_,none,0,0,false,⟨#[]⟩,false,j9,rfl,Om,hj92,(BA _ hne _ _ _ _ _).trans HLk9.out.blk,B0 HLk9.out.grown Nl _ _ _ _ _,IE⟩
   |true=>
    have hk12:=HK12.out (by first|exact trivial|rfl)
    have hj8':j8=j2+1:=HJ8.out.trans (if_pos (by first|exact trivial|rfl))
    subst hj8'
    have HC12:=Hd (show D7 true (ts.drop j) p ((12,(ts[j2]?.getD (0,⟨#[]⟩)).2)::ts.drop (j2+1)) by rw[<-hk12.2];exact HTp.out)
    clear hk12 HK12 HTp HJ8
    cases ok9 with
    |false=>
     clear HOK9 HE
     go_wp2_with fail
     refine bodyPost_ret (v:=.tuple #[.agg #[.int .i64 (0:Nat),.string ⟨#[]⟩,.slice none 0 0,.bool false,.string ⟨#[]⟩],.bool false]) (by simp[results,Tryz.results59,go_sem,z0,z1,z2,z3,z4]) rfl ?_
     exact⟨_,_,none,0,0,false,⟨#[]⟩,false,j9,rfl,Om,hj92,(BA _ hne _ _ _ _ _).trans HLk9.out.blk,B0 HLk9.out.grown Nl _ _ _ _ _,IE⟩
    |true=>
     obtain⟨hj93,p9,hT,hP⟩:=HOK9.out (by first|exact trivial|rfl)
     have HT9:=Hd hT
     have HP9:=Hd hP
     clear hT hP HOK9 IC9
     go_wp2_with (at_builtin;refine wpList_append_lies _ rfl _ _ 35 rfl (w.heap.size+2) 37 i0 (.agg z5) 5 72 Tryz.underlying35 hi hz0 hz1 hz2 rfl De _ _ _ rfl (YD HLk9.out.row _) ⟨wk9.heap.size,0,none⟩ 1 1 [.int .i64 k9,.string x9,.slice A9 n9 c9,.bool bt9,.string t9] rfl rfl ?c1 ?c2 ?c3 ?c4 ?c5 ?c6 (wk9.heap.size+1) ?c7 ?_)
     case c1=>exact World.news_of_block (cs:=#[.int .i64 k9,.string x9,.slice A9 n9 c9,.bool bt9,.string t9]) (t:=37) (fr:=(0,0)) (heap_alloc_new wk9 _)
     case c2=>simp[Value.oneCell']
     case c3=>decide
     case c4=>unfold maxLen;omega
     case c5=>omega
     case c6=>have:=HLk9.out.size;simp;omega
     case c7=>simp
     intro gg9 cap9 w39 hown3 hg3 hat hlt3
     have hb4:=(hg3.block (w.heap.size+1) (by have:=HLk9.out.size;simp;omega) (λe=>by have:=AG HLk9.out.row _ e.symm;omega)).trans ((DM wk9 _ (by have:=HLk9.out.size;omega)).trans HLk9.out.b4)
     obtain⟨y0,y1,y2,y3,y4⟩:=AL hb4
     have fy2:=AB hb4 2
     have HOWN:=Hd hown3
     have HG3:=Hd hg3
     have HAT:=Hd hat
     clear hown3 hg3 hat hb4 z0 z1 z2 z3 z4 p0 p1 p2 p3 p4 f20 f21 f22 f23 f24 f42 q0 q1 q2 q3 q4
     go_upto_region 15 with fail
     have LWa:=IA.app HLk9.out hlt ((HP9.out.keep HBK9.out)) (λg e=>GV LW8.out.row g e) LW8.out.size (by have h:=HOWN.out;first|exact h|(simp only[List.flatten_append,List.flatten_cons,List.flatten_nil,List.append_nil,List.append_assoc]at h ⊢;exact h)) HG3.out HAT.out
     clear y0 y1 y2 y3 y4 fy2
     generalize w39.setCell ⟨w.heap.size+1,2,none⟩ (.slice (some ⟨gg9,0,none⟩) (nk+1+1) cap9)=wa9 at *
     have HLb:=Hd LWa
     obtain⟨z0,z1,z2,z3,z4⟩:=AL LWa.b2
     obtain⟨p0,p1,p2,p3,p4⟩:=AL LWa.b4
     have f20:=AB LWa.b2 0
     have f21:=AB LWa.b2 1
     have f22:=AB LWa.b2 2
     have f23:=AB LWa.b2 3
     have f24:=AB LWa.b2 4
     have f42:=AB LWa.b4 2
     have hsb:=LWa.size
     have hsb1:w.heap.size+1<wa9.heap.size:=Om
     have hsb0:w.heap.size<wa9.heap.size:=Om
     clear LWa
     have TK:=Hd (F1 (HLb.out.rd HR.out hj92) 8)
     have HKe:=Hd (show decide ((AZ ts j9:Int)=8)=true->j9<ts.length/\ts.drop j9=(8,(ts[j9]?.getD (0,⟨#[]⟩)).2)::ts.drop (j9+1) from GT (k:=8) De)
     have HKc:=Hd (show decide ((AZ ts j9:Int)=11)=true->j9<ts.length/\ts.drop j9=(11,(ts[j9]?.getD (0,⟨#[]⟩)).2)::ts.drop (j9+1) from GT (k:=11) De)
     have TC:=Hd (λ(W:World) (hR:FW W r A n c ts j9)=>F1 hR 11)
     generalize decide ((AZ ts j9:Int)=8)=de at *
     generalize decide ((AZ ts j9:Int)=11)=dc at *
     go_upto_if 66 with(go_at_call 58;(with_reducible refine TK.out.mono ?_);rintro e w6 ⟨rfl,hb6,hg6,hs6⟩;have LW6:=Hd (HLb.out.step hlt hg6 hb6);clear hb6 hg6 hs6 z0 z1 z2 z3 z4 p0 p1 p2 p3 p4 f20 f21 f22 f23 f24 f42)
     cases de with
     |true=>
      obtain⟨z0,z1,z2,z3,z4⟩:=AL LW6.out.b2
      obtain⟨p0,p1,p2,p3,p4⟩:=AL LW6.out.b4
      have f20:=AB LW6.out.b2 0
      have f21:=AB LW6.out.b2 1
      have f22:=AB LW6.out.b2 2
      have f23:=AB LW6.out.b2 3
      have f24:=AB LW6.out.b2 4
      go_wp2_with fail
      refine bodyPost_ret (v:=.tuple #[.agg #[.int .i64 (7:Nat),.string ⟨#[]⟩,.slice (some ⟨gg9,0,none⟩) (nk+1+1) cap9,.bool false,.string ⟨#[]⟩],.bool true]) (by simp[results,Tryz.results59,go_sem,z0,z1,z2,z3,z4]) rfl ?_
      have hke:=HKe.out (by first|exact trivial|rfl)
      refine⟨7,_,_,_,_,false,⟨#[]⟩,true,j9+1,rfl,Om,Om,(BA _ hne _ _ _ _ _).trans LW6.out.blk,B0 LW6.out.grown Nl _ _ _ _ _,N8 ⟨Om,.mk 7 ⟨#[]⟩ (ks++[p]++[p9]) none,?_,?_⟩⟩
      .rw[HD.out]
       refine .lst Om ?_;rw[List.append_assoc];refine HE.out _ _ ?_;exact .one7 HC12.out (by rw[<-hke.2];exact HT9.out)
      refine XH (rs:=rs++[NX k2 x2 A2 n2 c2 bt2 t2]++[NX k9 x9 A9 n9 c9 bt9 t9]) 7 ⟨#[]⟩ LW6.out.len (BF (AR LW6.out.row λg e hlt2=>BA _ (by have:=AG LW6.out.row g e;omega) _ _ _ _ _) (Nat.zero_le _)) (λg e=>by have:=AG LW6.out.row g e;omega) ?_
      refine LW6.out.kids.same (by simp[World.setCell]) (λg hp hlt2=>BA _ (by have:=hp.1;omega) _ _ _ _ _) (λg hp _=>by have:=hp.1;omega)
     |false=>
      have TC6:=Hd (TC.out w6 (LW6.out.rd HR.out hj92))
      go_upto_if 70 with(go_at_call 58;(with_reducible refine TC6.out.mono ?_);rintro e w7 ⟨rfl,hb7,hg7,hs7⟩;have LW7:=Hd (LW6.out.step hlt hg7 hb7);clear hb7 hg7 hs7)
      cases dc with
      |true=>
       have hkc:=HKc.out (by first|exact trivial|rfl)
       have HE2:=Hd (show ∀ks' r',IU 7 (ts.drop (j9+1)) ks' r'->IU 7 (ts.drop (i+1)) (ks++[p]++[p9]++ks') r' from λks' r' hel=>by rw[List.append_assoc,List.append_assoc];refine HE.out _ _ ?_;exact .cons7 HC12.out (by rw[<-hkc.2];exact HT9.out) hel)
       have hlt3:=hkc.1
       have hl7:=LW7.out
       have HL7:=Hd hl7
       clear HE HKc HKe TK TC TC6 hkc hl7
       go_wp2_with fail
       go_roundg (ts.length-(j9+1))
       case rel=>exact⟨j9+1,_,_,_,_,_,HL7.out,Om,Om,Om,rfl,HE2⟩
       omega
      |false=>
       obtain⟨z0,z1,z2,z3,z4⟩:=AL LW7.out.b2
       have f20:=AB LW7.out.b2 0
       have f21:=AB LW7.out.b2 1
       have f22:=AB LW7.out.b2 2
       have f23:=AB LW7.out.b2 3
       have f24:=AB LW7.out.b2 4
       go_wp2_with fail
       refine bodyPost_ret (v:=.tuple #[.agg #[.int .i64 (0:Nat),.string ⟨#[]⟩,.slice none 0 0,.bool false,.string ⟨#[]⟩],.bool false]) (by simp[results,Tryz.results59,go_sem,z0,z1,z2,z3,z4]) rfl ?_
       exact⟨_,_,none,0,0,false,⟨#[]⟩,false,j9,rfl,Om,Om,(BA _ hne _ _ _ _ _).trans LW7.out.blk,B0 LW7.out.grown Nl _ _ _ _ _,IE⟩
theorem AKt{k:Nat}{x:ByteArray}{r r':List AW}{p:Ph}(hk:k=5\/k=7)(h:D7 true ((k,x)::r) p r')(b:Bool):D7 b ((k,x)::r) p r':=by
 cases h with
 |leaf h=>omega
 |typ hn h=>omega
 |vrt h=>omega
 |nil h=>exact .nil h
 |lst h h2=>exact .lst h h2
theorem XS{w:World}{r:Nat}{A:Option Addr}{n c:Nat}{ts:List AW}{i:Nat}(h:FW w r A n c ts i)(b:Bool)(hk:AZ ts i=5\/AZ ts i=7)(ih:AP1 A n c ts i) :
 Calls Tryz.prog 34 #[.pointer (some ⟨r,0,none⟩),.bool b] w (QZ w r A n c ts i b):=by
 have HR:=Hd h
 have hlt:=h.lt
 have hle:=h.le
 have hnl:=h.len
 have hns:=h.small
 have KC:=Hd (λ(W:World) (hb:Below w.heap.size w W)=>FJ (h.keep hb))
 have hi:i<ts.length:=by
  rcases Nat.lt_or_ge i ts.length with h1|h1
  .exact h1
  rw[FR Om]at hk;omega
 have hki:=GA hi
 have hib:i<=100001:=Om
 have HD:=Hd (show ts.drop i=(AZ ts i,(ts[i]).2)::ts.drop (i+1) by rw[JM hi,<-hki])
 clear h
 have HNL:=Hd hnl
 have IH:=Hd ih
 clear hki ih hnl
 generalize (ts[i]).2=x at *
 generalize AZ ts i=q at *
 go_enter Tryz.func34,Tryz.ntmps34
 go_upto_region 2 with(go_at_call 35;refine(KC.out _ (Bl.alloc Nl _)).mono ?_;rintro e w' ⟨rfl,m,rfl⟩)
 go_cut [16] from 12 to 15 (λv wx=>v=.int .i64 q/\UH w wx q)
 case first=>clear KC HR;go_wp2_with fail;go_meet;exact⟨rfl,KR w m q⟩
 obtain⟨rfl,TW0⟩:=hcut
 have HTW:=Hd (DR.mk1 TW0 HR.out)
 clear TW0 KC
 have IC:=Hd (IH.out wc r (HTW.out.rd HR.out hle))
 have hws:=HTW.out.size
 have hne:r≠w.heap.size:=Om
 clear IH
 rcases hk with rfl|rfl
 all_goals
  go_upto_region 26 with fail;go_wp2_with (go_at_call 59;(with_reducible refine IC.out.mono ?_);rintro e w2 ⟨k2,x2,A2,n2,c2,bt2,t2,ok2,i2,rfl,hi1,hi2,hblk,hgrow,hok⟩;have HOK:=Hd hok;have HGR:=Hd hgrow;have TW:=HTW.out.step hlt hgrow hblk;clear hok hgrow hblk;obtain⟨p0,p1,p2,p3,p4⟩:=AL TW.b6;obtain⟨z0,z1,z2,z3,z4⟩:=AL TW.b4;have f60:=AB TW.b6 0;have f61:=AB TW.b6 1;have f62:=AB TW.b6 2;have f63:=AB TW.b6 3;have f64:=AB TW.b6 4;have f40:=AB TW.b4 0;have f41:=AB TW.b4 1;have f42:=AB TW.b4 2;have f43:=AB TW.b4 3;have f44:=AB TW.b4 4;have HT2:=Hd TW;clear TW);refine bodyPost_ret (v:=.tuple #[.agg #[.int .i64 k2,.string x2,.slice A2 n2 c2,.bool bt2,.string t2],.bool ok2]) (by simp[results,Tryz.results34,go_sem,z0,z1,z2,z3,z4]) rfl ?_;refine⟨k2,x2,A2,n2,c2,bt2,t2,ok2,i2,rfl,hi1,hi2,(BA _ hne _ _ _ _ _).trans HT2.out.blk,B0 HT2.out.grown Nl _ _ _ _ _,?_⟩;obtain⟨p,hP,hT⟩:=HOK.out;rw[HD.out]at hT;refine⟨p,hP.same ?_ ?_ ?_,λhd=>⟨(hT hd).1,by rw[HD.out];exact AKt Om (hT hd).2 b⟩⟩
  .simp only[World.setCell,Array.size_modify];exact Nl
  .intro gg hgg hlt2
   have hgg':wc.heap.size<=gg:=hgg;exact BA _ Om _ _ _ _ _
  .intro gg hgg
   have hgg':wc.heap.size<=gg:=hgg;omega
theorem AA8(A:Option Addr)(n c:Nat)(ts:List AW)(hG:MB ts):∀(N i:Nat),ts.length-i<N->∀b,AB8 A n c ts i b:=by
 intro N;induction N with
 |zero=>intro i h;omega
 |succ N ih=>
  intro i hi b w r h;have hlt:∀(k:Nat),k≠0->AZ ts i=k->i<ts.length:=λk h0 hk=>by
   rcases Nat.lt_or_ge i ts.length with h1|h1
   .exact h1
   rw[FR Om]at hk;omega
  by_cases h1:AZ ts i=2\/AZ ts i=3\/AZ ts i=4\/AZ ts i=14
  .exact AFi h b h1
  by_cases h2:AZ ts i=13
  .have:=hlt 13 De h2
   exact AJw h b h2 hG (ih (i+1) Om false)
  by_cases h3:AZ ts i=9
  .have:=hlt 9 De h3
   exact AKp h b h3 (ih (i+1) Om true)
  by_cases h5:AZ ts i=5
  .have:=hlt 5 De h5
   exact XS h b (.inl h5) λW r' hR=>AFn hR h5 λj hj=>ih j Om true
  by_cases h7:AZ ts i=7
  .have:=hlt 7 De h7
   exact XS h b (.inr h7) λW r' hR=>ACh hR h7 λj hj=>ih j Om true
  exact ADf h b Om
def AMy(ts:List AW)(w:World)(en:Ending)(w':World):Prop:=
 ∃(k:Nat) (x:ByteArray) (A1:Option Addr) (n1 c1:Nat) (bt:Bool) (t:ByteArray) (ok:Bool),
  en=.returned (.tuple #[.agg #[.int .i64 k,.string x,.slice A1 n1 c1,.bool bt,.string t],.bool ok])/\Below w.heap.size w w'/\
  (∃p,PhAt w' (λg=>w.heap.size<=g) (NX k x A1 n1 c1 bt t) p/\(ok=true->∃r,D7 true ts p r))
theorem V9{w W:World}{A:Option Addr}{n c:Nat}{ts:List AW}(hn:n=ts.length)(hs:n<=100001)(hrow:w.ownsRow 0 48 2 (.slice A n c) n (DO ts))(hb:Below w.heap.size w W)(hz:w.heap.size<=W.heap.size):FW (W.alloc (.cells #[.slice A n c,.int .i64 0] 67)) W.heap.size A n c ts 0:=by
 have hrW:=AD hrow hb;refine⟨?_,Nat.zero_le _,hn,AD hrW (Bl.alloc Nl _),?_,hs⟩
 .exact heap_alloc_new W _
 intro e;have:=GV hrW _ e;omega
theorem N3{w:World}{A:Option Addr}{n c:Nat}{ts:List AW}(hn:n=ts.length)(hs:n<=100001)(hrow:w.ownsRow 0 48 2 (.slice A n c) n (DO ts))(hG:MB ts) :
 Calls Tryz.prog 18 #[.slice A n c] w (AMy ts w):=by
 have hb1:Below w.heap.size w (w.alloc (.cells z5 37)):=Bl.alloc Nl _
 have IC:=Hd (AA8 A n c ts hG (ts.length+1) 0 Om true _ _ (V9 hn hs hrow hb1 Sm))
 have HB1:=Hd hb1
 clear hb1 hG hrow hn
 go_enter Tryz.func18,Tryz.ntmps18
 go_upto_region 2 with fail
 change Code.wp _ _ _ _ ((w.alloc (.cells z5 37)).alloc (.cells #[.slice A n c,.int .i64 0] 67))
 have e1:(w.alloc (.cells z5 37)).heap.size=w.heap.size+1:=by simp
 have IC2:=IC.out
 rw[e1]at IC2
 have hz:((w.alloc (.cells z5 37)).alloc (.cells #[.slice A n c,.int .i64 0] 67)).heap[w.heap.size]?=some (.cells z5 37):=(DM _ _ (by rw[e1];omega)).trans (heap_alloc_new w _)
 have hzs:((w.alloc (.cells z5 37)).alloc (.cells #[.slice A n c,.int .i64 0] 67)).heap.size=w.heap.size+2:=by simp
 have hbb:Below w.heap.size w ((w.alloc (.cells z5 37)).alloc (.cells #[.slice A n c,.int .i64 0] 67)):=HB1.out.alloc (by rw[e1];omega) _
 generalize (w.alloc (.cells z5 37)).alloc (.cells #[.slice A n c,.int .i64 0] 67)=w1 at *
 have HZ:=Hd hz
 have HZS:=Hd hzs
 have HBB:=Hd hbb
 have HIC:=Hd IC2
 clear IC IC2 HB1 hz e1 hzs hbb
 go_wp2_with (go_at_call 34;(with_reducible refine HIC.out.mono ?_);rintro e w2 ⟨k2,x2,A2,n2,c2,bt2,t2,ok2,i2,rfl,hi1,hi2,hblk,hgrow,hok⟩;have HOK:=Hd hok;have HGR:=Hd hgrow;have hz2:=(hgrow.block w.heap.size (by rw[HZS.out];omega) (by intro e;simp at e)).trans HZ.out;obtain⟨z0,z1,z2,z3,z4⟩:=AL hz2;have f40:=AB hz2 0;have f41:=AB hz2 1;have f42:=AB hz2 2;have f43:=AB hz2 3;have f44:=AB hz2 4;clear hok hgrow hblk hz2)
 refine bodyPost_ret (v:=.tuple #[.agg #[.int .i64 k2,.string x2,.slice A2 n2 c2,.bool bt2,.string t2],.bool ok2]) (by simp[results,Tryz.results18,go_sem,z0,z1,z2,z3,z4]) rfl ?_
 have hsz2:=HGR.out.size
 have hzz:=HZS.out
 refine⟨k2,x2,A2,n2,c2,bt2,t2,ok2,rfl,?_,?_⟩
 .refine HBB.out.trans ⟨HGR.out.os,HGR.out.tape,HGR.out.output,by simp only[World.setCell,Array.size_modify];exact hsz2,λg hg=>?_⟩
  rw[BA _ Om];exact HGR.out.block g Om (by intro e;simp at e;omega)
 obtain⟨p,hP,hT⟩:=HOK.out
 refine⟨p,hP.same (by simp only[World.setCell,Array.size_modify];exact Nl) (λg hgg _=>BA _ (by have:w1.heap.size<=g:=hgg;omega) _ _ _ _ _) (λg hgg=>by have:w1.heap.size<=g:=hgg;omega),λhd=>⟨_,(hT hd).2⟩⟩
def AOp(ts:List AW)(w:World)(en:Ending)(w':World):Prop:=
 ∃b:Bool,en=.returned (.bool b)/\Below w.heap.size w w'/\(b=true->∃p r,D7 true ts p r/\AZ r 0=0)
theorem ABs{w:World}{A:Option Addr}{n c:Nat}{ts:List AW}(hn:n=ts.length)(hs:n<=100001)(hrow:w.ownsRow 0 48 2 (.slice A n c) n (DO ts))(hG:MB ts) :
 Calls Tryz.prog 11 #[.slice A n c] w (AOp ts w):=by
 have IC:=Hd (AA8 A n c ts hG (ts.length+1) 0 Om true _ _ (V9 hn hs hrow (Below.refl _ w) Nl))
 have HRD:=Hd (V9 hn hs hrow (Below.refl _ w) Nl)
 clear hG hrow hn
 go_enter Tryz.func11,Tryz.ntmps11
 go_upto_region 2 with fail
 change Code.wp _ _ _ _ (w.alloc (.cells #[.slice A n c,.int .i64 0] 67))
 have hbb:Below w.heap.size w (w.alloc (.cells #[.slice A n c,.int .i64 0] 67)):=Bl.alloc Nl _
 have hzs:(w.alloc (.cells #[.slice A n c,.int .i64 0] 67)).heap.size=w.heap.size+1:=by simp
 have HZS:=Hd hzs
 have HBB:=Hd hbb
 clear hzs hbb
 generalize w.alloc (.cells #[.slice A n c,.int .i64 0] 67)=w1 at *
 go_upto_region 3 with(go_at_call 34;(with_reducible refine IC.out.mono ?_);rintro e w2 ⟨k2,x2,A2,n2,c2,bt2,t2,ok2,i2,rfl,hi1,hi2,hblk,hgrow,hok⟩;have HOK:=Hd hok;have HGR:=Hd hgrow;have HRD2:=Hd (HRD.out.move hgrow hblk hi2);clear hok hgrow hblk)
 change Code.wp _ _ _ _ (w2.alloc (.cells #[.int .i64 k2,.string x2,.slice A2 n2 c2,.bool bt2,.string t2] 37))
 have hb2:Below w2.heap.size w2 (w2.alloc (.cells #[.int .i64 k2,.string x2,.slice A2 n2 c2,.bool bt2,.string t2] 37)):=Bl.alloc Nl _
 have KC:=Hd (FJ (HRD2.out.keep hb2))
 have HB2:=Hd hb2
 clear hb2
 generalize w2.alloc (.cells #[.int .i64 k2,.string x2,.slice A2 n2 c2,.bool bt2,.string t2] 37)=w3 at *
 have hfin:Below w.heap.size w w3:=by have h1:=HGR.out;have h2:=HZS.out;have h3:=h1.size;exact(HBB.out.trans ⟨h1.os,h1.tape,h1.output,h1.size,λg hg=>h1.block g Om (by intro e;simp at e;omega)⟩).trans (HB2.out.mono Om)
 have HF:=Hd hfin
 clear hfin
 cases ok2 with
 |false=>
  go_wp2_with fail
  go_ret
  exact⟨false,rfl,HF.out,λh=>by simp at h⟩
 |true=>
  have HT:=Hd (show ∃p,D7 true ts p (ts.drop i2) by obtain⟨p,_,hT0⟩:=HOK.out;obtain⟨_,hT⟩:=hT0 (by first|exact trivial|rfl);exact⟨p,hT⟩)
  have hka:AZ (ts.drop i2) 0=AZ ts i2:=by unfold AZ;simp
  have HKA:=Hd hka
  clear hka HOK
  generalize AZ ts i2=q at *
  by_cases h0:q=0
  .subst h0
   go_wp2_with (go_at_call 35;refine KC.out.mono ?_;rintro e w' ⟨rfl,m,rfl⟩);go_ret;exact⟨true,rfl,B7 HF.out _,λ_=>by obtain⟨p,hT⟩:=HT.out;exact⟨p,_,hT,HKA.out⟩⟩
  have t1:((q:Int)==0)=false:=Bq
  go_wp2_with (go_at_call 35;refine KC.out.mono ?_;rintro e w' ⟨rfl,m,rfl⟩)
  go_ret
  exact⟨false,rfl,B7 HF.out _,λh=>by simp at h⟩
