/- Lemmas for FnVtSigsEntry; no conditions. -/
import Derived.Test.YtbnbadcnfchdhaaGreatDoorP23
set_option maxRecDepth 100000
set_option maxHeartbeats 16000000
set_option linter.all false
namespace Go.Proofs.YtbnbadcnfchdhaaGreatDoor
open Go.RowKit
def XK(T F:Nat->Nat)(s:ByteArray):Prop:=∃ts p r typ,EJ s=some ts/\D7 true ts p r/\(p.dd<=2/\p.dp<=30)/\CO p typ/\NU T F p typ
def AP6(P:Prop)(w:World)(en:Ending)(w':World):Prop:=
 ∃(K N:Int) (S:ByteArray) (A:Option Addr) (n c:Nat) (typ:ByteArray) (ok said:Bool),en=.returned (.tuple #[.agg #[.int .u8 K,.int .u64 N,.string S,.slice A n c],.string typ,.bool ok,.bool said])/\(ok=true->P)/\Below w.heap.size w w'
theorem AIy{W:World}{base:Nat}{A:Option Addr}{n c:Nat}{ts:List AW}(h:W.ownsRow base 48 2 (.slice A n c) n (DO ts))(hn:n=ts.length)(i:Nat)(hi:i<ts.length) :
 ∃g,A=some ⟨g,0,none⟩/\W.cell? ⟨g,i*2,none⟩=some (.int .i64 (ts[i]).1)/\W.cell? ⟨g,i*2+1,none⟩=some (.string (ts[i]).2):=by
 obtain⟨A',c',he,hA⟩:=AF h
 simp only[Value.slice.injEq]at he
 obtain⟨rfl,_,rfl⟩:=he
 obtain⟨g,rfl,hg⟩:=hA Om
 have h2:=OG ts i hi
 exact⟨g,rfl,by rw[AV h g _ rfl _ Om];exact h2.1,by rw[AV h g _ rfl _ Om];exact h2.2⟩
theorem U6{wx:World}{b:Nat}{v0 v1:Value}{t:TypeId}(h:wx.heap[b]?=some (.cells #[v0,v1] t (0,0))):wx.cell? ⟨b,0,none⟩=some v0/\wx.cell? ⟨b,1,none⟩=some v1:=by simp[World.cell?,h]
theorem N9(T F:Nat->Nat)(hT8:∀i,T i<18446744073709551616)(hPl:∀i,i<23->GO (F i)=true)(s:ByteArray)(hs:s.size<=4096){w:World}{M:Nat}(hT:MX T F w M)(hE:FN w) :
 Calls Tryz.prog 5 #[.string s,.string ⟨#[]⟩] w (AP6 (XK T F s) w):=by
 have HTK:=Hd (λ(W:World)=>NE s Om W)
 have HTB:=Hd (λ(W:World) (hW:Below w.heap.size w W)=>(⟨D2 hT hW,BH hE hW⟩:MX T F W M/\FN W))
 have HTG:=Hd (λ(ts:List AW) (h:EJ s=some ts)=>RO Om h)
 have HTF:=Hd (⟨hT8,hPl⟩:(∀i,T i<18446744073709551616)/\(∀i,i<23->GO (F i)=true))
 clear hT hE hT8 hPl
 go_enter Tryz.func5,Tryz.ntmps5
 go_upto_region 1 with fail
 have hb0:Below w.heap.size w (w.alloc (.cells #[.int .u8 0,.int .u64 0,.string ⟨#[]⟩,.slice none 0 0] 26)):=Bl.alloc Nl _
 have h4:=heap_alloc_new w (.cells #[.int .u8 0,.int .u64 0,.string ⟨#[]⟩,.slice none 0 0] 26)
 have hsz0:(w.alloc (.cells #[.int .u8 0,.int .u64 0,.string ⟨#[]⟩,.slice none 0 0] 26)).heap.size=w.heap.size+1:=by simp
 generalize w.alloc (.cells #[.int .u8 0,.int .u64 0,.string ⟨#[]⟩,.slice none 0 0] 26)=wb at *
 have HB0:=Hd hb0
 have H4:=Hd h4
 clear hb0 h4
 go_upto_region 2 with(go_at_call 10;refine(HTK.out _).mono ?_;rintro e w2 ⟨A,n,c,ok,rfl,hb2,hm⟩;have HM:=Hd hm;clear hm)
 have hbb:Below wb.heap.size wb w2:=by first|exact hb2|exact(Bl.drew).trans hb2
 have h42:=(hbb.block w.heap.size Om).trans H4.out
 have hbw2:=HB0.out.trans (hbb.mono Om)
 have hs2:=hbb.size
 have HB2:=Hd hbw2
 have HBB2:=Hd hbb
 obtain⟨z0,z1,z2,z3⟩:=A5 h42
 have f0:=AB h42 0
 have f1:=AB h42 1
 have f2:=AB h42 2
 have f3:=AB h42 3
 have H42:=Hd h42
 clear hb2 hbb hbw2 h42
 cases ok with
 |false=>
  go_wp2_with fail
  refine bodyPost_ret (v:=.tuple #[.agg #[.int .u8 0,.int .u64 0,.string ⟨#[]⟩,.slice none 0 0],.string ⟨#[]⟩,.bool false,.bool false]) (by simp[results,Tryz.results5,go_sem,z0,z1,z2,z3]) rfl ?_
  exact⟨0,0,⟨#[]⟩,none,0,0,⟨#[]⟩,false,false,rfl,λh=>by simp at h,AM HB2.out Nl _ _ _ _⟩
 |true=>
  obtain⟨ts,hts,hn,hn2,hrow⟩:∃ts,EJ s=some ts/\n=ts.length/\n<=s.size+1/\w2.ownsRow wb.heap.size 48 2 (.slice A n c) n (DO ts):=by
   have h:=HM.out;revert h
   cases EJ s with
   |none=>intro h;simp at h
   |some ts=>intro h;exact⟨ts,rfl,h.2.1,h.2.2.1,h.2.2.2⟩
  obtain⟨hne,hgood,hsml,hqt⟩:=HTG.out ts hts
  have HTS:=Hd hts
  have HN:=Hd hn
  have HRW:=Hd hrow
  have HGD:=Hd hgood
  have HQT:=Hd hqt
  have hn5:n<=4097:=Om
  clear HM hts hn hn2 hrow hgood hsml hqt hne HTG HTK
  have HNC:=Hd (λ(W:World) (hW:Below w2.heap.size w2 W)=>ZN HN.out Om (BF (AD HRW.out hW) (Nat.zero_le _)))
  go_upto_region 5 with(go_at_call 13;refine(HNC.out _ (by first|exact Bl|exact Bl.drew)).mono ?_;rintro e w3 ⟨rfl,hb3⟩)
  have hbb3:Below w2.heap.size w2 w3:=by first|exact hb3|exact(Bl.drew).trans hb3
  have h43:=(hbb3.block w.heap.size Om).trans H42.out
  have HB3:=Hd (HB2.out.trans (hbb3.mono Om))
  have HR3:=Hd (BF (AD HRW.out hbb3) (show 0<=wb.heap.size from Nat.zero_le _))
  have hs3:=hbb3.size
  have hs30:w.heap.size<=w3.heap.size:=Om
  clear z0 z1 z2 z3 f0 f1 f2 f3
  obtain⟨z0,z1,z2,z3⟩:=A5 h43
  have f0:=AB h43 0
  have f1:=AB h43 1
  have f2:=AB h43 2
  have f3:=AB h43 3
  have H43:=Hd h43
  clear hb3 hbb3 h43 HBB2 HB2 H42 HRW H4 HB0
  have HDD:=Hd (show ∀(p:Ph) (r:List AW),D7 true ts p r->p.dd<=(C5 ts 0 0 0 0).1/\p.dp<=(C5 ts 0 0 0 0).2 from λp r h=>ALt h)
  generalize C5 ts 0 0 0 0=nq at *
  by_cases hd2:(2:Int)<(nq.1:Int)
  .go_wp2_with fail
   refine bodyPost_ret (v:=.tuple #[.agg #[.int .u8 0,.int .u64 0,.string ⟨#[]⟩,.slice none 0 0],.string ⟨#[]⟩,.bool false,.bool false]) (by simp[results,Tryz.results5,go_sem,z0,z1,z2,z3]) rfl ?_;exact⟨0,0,⟨#[]⟩,none,0,0,⟨#[]⟩,false,false,rfl,λh=>by simp at h,AM HB3.out Nl _ _ _ _⟩
  have hd2':nq.1<=2:=Om
  by_cases hd30:(30:Int)<(nq.2:Int)
  .go_wp2_with fail
   refine bodyPost_ret (v:=.tuple #[.agg #[.int .u8 0,.int .u64 0,.string ⟨#[]⟩,.slice none 0 0],.string ⟨#[]⟩,.bool false,.bool false]) (by simp[results,Tryz.results5,go_sem,z0,z1,z2,z3]) rfl ?_;exact⟨0,0,⟨#[]⟩,none,0,0,⟨#[]⟩,false,false,rfl,λh=>by simp at h,AM HB3.out Nl _ _ _ _⟩
  have hd30':nq.2<=30:=Om
  go_upto_block 0 with fail
  go_cut [11,12,13,14,15,61] from 62 to 154 (λv11 _ _ _ _ _ wx=>∃em:Bool,v11=.bool em/\Below w3.heap.size w3 wx)
  case first=>
   go_wp2_with fail;go_loopw [11,61] (λv11 v61 wr=>∃(em:Bool) (k:Nat),v11=.bool em/\v61=.int .i64 k/\k<=n/\Below w3.heap.size w3 wr) (λ_ v _=>n-(intOf v).toNat)
   case atStart=>exact⟨false,0,rfl,rfl,Nat.zero_le _,Bl⟩
   obtain⟨em,k,rfl,rfl,hk,hbel⟩:=hrel;have hbs:=hbel.size;by_cases hlt:(k:Int)<(n:Int)
   .have hkl:k<ts.length:=by have:=HN.out;omega
    obtain⟨g,rfl,c0,c1⟩:=AIy (AD HR3.out hbel) HN.out k hkl;have hprev:∃(pk:Nat) (px:ByteArray),0<k->wr.cell? ⟨g,(k-1)*2,none⟩=some (.int .i64 pk)/\wr.cell? ⟨g,(k-1)*2+1,none⟩=some (.string px)/\ON (pk,px):=by
     by_cases h0:0<k
     .obtain⟨g',he,d0,d1⟩:=AIy (AD HR3.out hbel) HN.out (k-1) Om
      simp only[Option.some.injEq,Addr.mk.injEq,and_true]at he;subst he;exact⟨_,_,λ_=>⟨d0,d1,HGD.out _ (List.getElem_mem (by omega:k-1<ts.length))⟩⟩
     exact⟨0,⟨#[]⟩,λh=>absurd h h0⟩
    obtain⟨pk,px,hprev⟩:=hprev;have hgk:ON ts[k]:=HGD.out _ (List.getElem_mem hkl);have HGK:=Hd (show ON ((ts[k]).1,(ts[k]).2) from hgk);have HPV:=Hd hprev;have hgw:g<wr.heap.size:=World.block_lt_of_cell? wr _ c0;clear hprev hgk;generalize (ts[k]).1=kk at *;generalize (ts[k]).2=xx at *;go_upto_region 12 with fail;have hnew:=heap_alloc_new wr (.cells #[.int .i64 kk,.string xx] 48);have hbk:Below wr.heap.size wr (wr.alloc (.cells #[.int .i64 kk,.string xx] 48)):=Bl.alloc Nl _;have hks:(wr.alloc (.cells #[.int .i64 kk,.string xx] 48)).heap.size=wr.heap.size+1:=by simp
    generalize wr.alloc (.cells #[.int .i64 kk,.string xx] 48)=wk at *;have HBK:=Hd hbk;have HNW:=Hd hnew;have HB3K:=Hd (hbel.trans (hbk.mono hbs));have HPK:=Hd (show 0<k->wk.cell? ⟨g,(k-1)*2,none⟩=some (.int .i64 pk)/\wk.cell? ⟨g,(k-1)*2+1,none⟩=some (.string px) from λh=>⟨(hbk.cell (p:=⟨g,(k-1)*2,none⟩) hgw).trans (HPV.out h).1,(hbk.cell (p:=⟨g,(k-1)*2+1,none⟩) hgw).trans (HPV.out h).2.1⟩);have hgk2:g<wk.heap.size:=Om;clear hbk hnew hbel c0 c1 z0 z1 z2 z3 f0 f1 f2 f3;have hwr1:0<k->IntKind.i64.wrap ((k:Int)-1)=(k:Int)-1:=λ_=>i64_in Om Om;have HWR:=Hd hwr1;clear hwr1;go_cut [76] from 66 to 75 (λv76 wx=>∃r:Bool,v76=.bool r/\Hid (r=true->0<k/\pk=13)/\Below wk.heap.size wk wx)
    case first=>
     by_cases hk0:(0:Int)<(k:Int)
     .have hk0':0<k:=Om
      obtain⟨d0,d1⟩:=HPK.out hk0';have hw1:=HWR.out hk0';have hN1:((k:Int)-1).toNat=k-1:=Om;have hp0:(0:Int)<=(k:Int)-1:=Om;have hp1:(k:Int)-1<(n:Int):=Om;by_cases h13:pk=13
      .have u13:((pk:Int)==13)=true:=by rw[beq_iff_eq];omega
       have HR:=Hd (show true=true->0<k/\pk=13 from λ_=>⟨hk0',h13⟩);clear h13;go_wp2_with fail;go_meet;exact⟨true,rfl,Hd (λ_=>HR.out (by first|exact trivial|rfl)),Bl⟩
      have u13:((pk:Int)==13)=false:=Bq;clear h13;go_wp2_with fail;go_meet;exact⟨false,rfl,Hd (λh=>by simp at h),Bl⟩
     go_wp2_with fail;go_meet;exact⟨false,rfl,Hd (λh=>by simp at h),Bl⟩
    obtain⟨r,rfl,HRR,hb5⟩:=hcut;generalize wc=w5 at *;have hs5:=hb5.size;have HB5:=Hd hb5;have HP5:=Hd (show 0<k->w5.cell? ⟨g,(k-1)*2,none⟩=some (.int .i64 pk)/\w5.cell? ⟨g,(k-1)*2+1,none⟩=some (.string px) from λh=>⟨(hb5.cell (p:=⟨g,(k-1)*2,none⟩) hgk2).trans (HPK.out h).1,(hb5.cell (p:=⟨g,(k-1)*2+1,none⟩) hgk2).trans (HPK.out h).2⟩);obtain⟨p0,p1⟩:=U6 ((hb5.block wr.heap.size Om).trans HNW.out);have hz5:=(hb5.block w.heap.size Om).trans ((HB3K.out.block w.heap.size Om).trans H43.out);obtain⟨z0,z1,z2,z3⟩:=A5 hz5;have f0:=AB hz5 0;have f1:=AB hz5 1;have f2:=AB hz5 2;have f3:=AB hz5 3;clear hb5 hz5;go_upto_if 76 with fail;go_cut [14,15] from 77 to 93 (λ_ _ wx=>Below wk.heap.size wk wx)
    case first=>
     cases r with
     |false=>go_wp2_with fail;go_meet;exact HB5.out
     |true=>
      obtain⟨hk0',h13⟩:=HRR.out (by first|exact trivial|rfl);obtain⟨d0,d1⟩:=HP5.out hk0';obtain⟨_,gx1,gx2⟩:=(HPV.out hk0').2.2;have hw1:=HWR.out hk0';have hN1:((k:Int)-1).toNat=k-1:=Om;have hp0:(0:Int)<=(k:Int)-1:=Om;have hp1:(k:Int)-1<(n:Int):=Om;have hpx:0<px.size:=(gx2 h13).1;have hpx2:px.size<=100000:=gx1;have HPX:=Hd (gx2 h13).2;have HNM:=Hd (λ(W:World)=>JV px hpx2 hpx W);clear gx1 gx2 h13;go_upto_region 14 with(go_at_call 15;refine(HNM.out _).mono ?_;rintro e w6 ⟨t,is,rfl,ht1,ht2,hb6⟩;have HT2:=Hd ht2;clear ht1 ht2);have hbb6:Below w5.heap.size w5 w6:=by first|exact hb6|exact(Bl.drew).trans hb6
      have HB6:=Hd (HB5.out.trans (hbb6.mono hs5));have hp6:=(hbb6.block wr.heap.size Om).trans ((HB5.out.block wr.heap.size Om).trans HNW.out);have hs6:=hbb6.size;clear p0 p1 z0 z1 z2 z3 f0 f1 f2 f3;obtain⟨p0,p1⟩:=U6 hp6;clear hb6 hbb6 hp6
      cases is with
      |false=>go_wp2_with fail;go_meet;exact HB6.out
      |true=>
       have htz:t.size<=100000:=by have h:=HT2.out HPX.out;have:=(NY h.symm).1;omega
       have HAH:=Hd (λ(W:World)=>Z3 t htz kk xx W);go_upto_if 93 with(go_at_call 14;refine(HAH.out _).mono ?_;rintro e w7 ⟨rb,rfl,_,hb7⟩);have hbb7:Below w6.heap.size w6 w7:=by first|exact hb7|exact(Bl.drew).trans hb7
       have HB7:=Hd (HB6.out.trans (hbb7.mono HB6.out.size));have hz7:=(HB7.out.block w.heap.size Om).trans ((HB3K.out.block w.heap.size Om).trans H43.out);clear hb7 hbb7
       cases rb with
       |true=>go_wp2_with fail;go_meet;exact HB7.out
       |false=>obtain⟨z0,z1,z2,z3⟩:=A5 hz7;have f0:=AB hz7 0;have f1:=AB hz7 1;have f2:=AB hz7 2;have f3:=AB hz7 3;go_wp2_with fail;refine bodyPost_ret (v:=.tuple #[.agg #[.int .u8 0,.int .u64 0,.string ⟨#[]⟩,.slice none 0 0],.string ⟨#[]⟩,.bool false,.bool false]) (by simp[results,Tryz.results5,go_sem,z0,z1,z2,z3]) rfl ?_;exact⟨0,0,⟨#[]⟩,none,0,0,⟨#[]⟩,false,false,rfl,λh=>by simp at h,AM (HB3.out.trans ((HB3K.out.trans (HB7.out.mono Om)).mono hs30)) Nl _ _ _ _⟩
    have HB8:=Hd hcut;have hs8:=hcut.size;generalize wc=w8 at *;have hp8:=(HB8.out.block wr.heap.size Om).trans HNW.out;have HP8:=Hd (show 0<k->w8.cell? ⟨g,(k-1)*2,none⟩=some (.int .i64 pk)/\w8.cell? ⟨g,(k-1)*2+1,none⟩=some (.string px) from λh=>⟨(HB8.out.cell (p:=⟨g,(k-1)*2,none⟩) hgk2).trans (HPK.out h).1,(HB8.out.cell (p:=⟨g,(k-1)*2+1,none⟩) hgk2).trans (HPK.out h).2⟩);clear hcut p0 p1 z0 z1 z2 z3 f0 f1 f2 f3 HP5 HB5 HRR;obtain⟨p0,p1⟩:=U6 hp8;clear hp8;have gxx:xx.size<=100000:=HGK.out.2.1;go_upto_region 16 with fail;go_cut [125] from 95 to 124 (λv125 wx=>∃r:Bool,v125=.bool r/\Below wk.heap.size wk wx)
    case first=>
     by_cases h13:kk=13
     .have u13:((kk:Int)==13)=true:=by rw[beq_iff_eq];omega
      have u2:((kk:Int)==2)=false:=Bq;have hx0:1<=xx.size:=(HGK.out.2.2 h13).1;have HSD:=Hd (λ(W:World)=>U0 kk xx gxx hx0 W);clear h13 hx0;go_wp2_with (go_at_call 16;refine(HSD.out _).mono ?_;rintro e w9 ⟨rb,rfl,_,hb9⟩;have HB9:=Hd (HB8.out.trans ((by first|exact hb9|exact(Bl.drew).trans hb9:Below w8.heap.size w8 w9).mono hs8));have hp9:=(HB9.out.block wr.heap.size Om).trans HNW.out;obtain⟨s0,s1⟩:=U6 hp9;clear hb9 hp9;cases rb)
      all_goals
       go_meet
       case rel=>exact⟨_,rfl,HB9.out⟩
     have u13:((kk:Int)==13)=false:=Bq;by_cases h2:kk=2
     .have u2:((kk:Int)==2)=true:=by rw[beq_iff_eq];omega
      have HHX:=Hd (λ(W:World)=>ADp xx gxx W);clear h13 h2;by_cases hk0:k=0
      .have v0:((k:Int)==0)=true:=by rw[beq_iff_eq];omega
       clear hk0;go_wp2_with (go_at_call 17;refine(HHX.out _).mono ?_;rintro e w9 ⟨rb,rfl,_,hb9⟩;have HB9:=Hd (HB8.out.trans ((by first|exact hb9|exact(Bl.drew).trans hb9:Below w8.heap.size w8 w9).mono hs8));clear hb9;cases rb)
       all_goals
        go_meet
        case rel=>exact⟨_,rfl,HB9.out⟩
      have v0:((k:Int)==0)=false:=Bq;have hk0':0<k:=Om;have hw1:=HWR.out hk0';have hN1:((k:Int)-1).toNat=k-1:=Om;have hp0:(0:Int)<=(k:Int)-1:=Om;have hp1:(k:Int)-1<(n:Int):=Om;clear hk0;go_wp2_with (go_at_call 17;refine(HHX.out _).mono ?_;rintro e w9 ⟨rb,rfl,_,hb9⟩;have hbb9:Below w8.heap.size w8 w9:=(by first|exact hb9|exact(Bl.drew).trans hb9);have HB9:=Hd (HB8.out.trans (hbb9.mono hs8));have e0:=(hbb9.cell (p:=⟨g,(k-1)*2,none⟩) (show g<w8.heap.size by omega)).trans (HP8.out hk0').1;clear hb9 hbb9;cases rb)
      all_goals
       go_meet
       case rel=>exact⟨_,rfl,HB9.out⟩
     have u2:((kk:Int)==2)=false:=Bq;clear h13 h2;go_wp2_with fail;go_meet;exact⟨false,rfl,HB8.out⟩
    obtain⟨r2,rfl,hb9⟩:=hcut;generalize wc=w9 at *;have hs9:=hb9.size;have HB9:=Hd hb9;have HW9:=Hd (HB3K.out.trans (hb9.mono (by have:=HB3K.out.size;omega)));have hp9:=(hb9.block wr.heap.size Om).trans HNW.out;have HP9:=Hd (show 0<k->w9.cell? ⟨g,(k-1)*2,none⟩=some (.int .i64 pk) from λh=>(hb9.cell (p:=⟨g,(k-1)*2,none⟩) hgk2).trans (HPK.out h).1);have hz9:=(hb9.block w.heap.size Om).trans ((HB3K.out.block w.heap.size Om).trans H43.out);clear p0 p1;obtain⟨p0,p1⟩:=U6 hp9;clear hb9 hp9 HP8 HB8 HPK HPV HGK
    cases r2 with
    |true=>obtain⟨z0,z1,z2,z3⟩:=A5 hz9;have f0:=AB hz9 0;have f1:=AB hz9 1;have f2:=AB hz9 2;have f3:=AB hz9 3;go_wp2_with fail;refine bodyPost_ret (v:=.tuple #[.agg #[.int .u8 0,.int .u64 0,.string ⟨#[]⟩,.slice none 0 0],.string ⟨#[]⟩,.bool false,.bool false]) (by simp[results,Tryz.results5,go_sem,z0,z1,z2,z3]) rfl ?_;exact⟨0,0,⟨#[]⟩,none,0,0,⟨#[]⟩,false,false,rfl,λh=>by simp at h,AM (HB3.out.trans (HW9.out.mono hs30)) Nl _ _ _ _⟩
    |false=>
     clear hz9;go_upto_region 18 with fail
     cases em with
     |true=>
      go_quiet (fail);go_wp2_with fail;go_roundw
      case rel=>exact⟨_,k+1,rfl,by go_num,Om,(by first|exact HW9.out|exact B7 HW9.out _|exact HW9.out.drew)⟩
      simp[intOf];omega
     |false=>
      by_cases hk0:(0:Int)<(k:Int)
      .have hk0':0<k:=Om
       have d0:=HP9.out hk0';have hw1:=HWR.out hk0';have hN1:((k:Int)-1).toNat=k-1:=Om;have hp0:(0:Int)<=(k:Int)-1:=Om;have hp1:(k:Int)-1<(n:Int):=Om;have hdk:decide ((0:Int)<(k:Int))=true:=decide_eq_true hk0;by_cases h6:kk=6
       .subst h6
        go_quiet (fail);go_wp2_with fail;go_roundw
        case rel=>exact⟨_,k+1,rfl,by go_num,Om,(by first|exact HW9.out|exact B7 HW9.out _|exact HW9.out.drew)⟩
        simp[intOf];omega
       by_cases h8:kk=8
       .subst h8
        go_quiet (fail);go_wp2_with fail;go_roundw
        case rel=>exact⟨_,k+1,rfl,by go_num,Om,(by first|exact HW9.out|exact B7 HW9.out _|exact HW9.out.drew)⟩
        simp[intOf];omega
       have u6:((kk:Int)==6)=false:=Bq;have u8:((kk:Int)==8)=false:=Bq;clear h6 h8;go_quiet (fail);go_wp2_with fail;go_roundw
       case rel=>exact⟨_,k+1,rfl,by go_num,Om,(by first|exact HW9.out|exact B7 HW9.out _|exact HW9.out.drew)⟩
       simp[intOf];omega
      obtain rfl:k=0:=Om;go_quiet (fail);go_wp2_with fail;go_roundw
      case rel=>exact⟨_,1,rfl,by go_num,Om,(by first|exact HW9.out|exact B7 HW9.out _|exact HW9.out.drew)⟩
      simp[intOf];omega
   go_wp2_with fail;go_meet;exact⟨em,rfl,hbel⟩
  obtain⟨em,rfl,hb4⟩:=hcut
  generalize wc=w4 at *
  have hs4:=hb4.size
  have HB4:=Hd (HB3.out.trans (hb4.mono hs30))
  have hz4:=(hb4.block w.heap.size Om).trans H43.out
  have HPC:=Hd (λ(W:World) (hW:Below w4.heap.size w4 W)=>N3 HN.out Om (AD (AD HR3.out hb4) hW) HGD.out)
  clear hb4 z0 z1 z2 z3 f0 f1 f2 f3
  have HZ4:=Hd hz4
  clear hz4
  go_upto_region 21 with(go_at_call 18;refine(HPC.out _ (by first|exact Bl|exact Bl.drew)).mono ?_;rintro e w5 ⟨k1,x1,A1,n1,c1,bt,t,ok,rfl,hb5,hp⟩;have HP:=Hd hp;have HB5:=Hd (show Below w4.heap.size w4 w5 from(by first|exact hb5|exact(Bl.drew).trans hb5));clear hp hb5)
  have hnew:=heap_alloc_new w5 (.cells #[.int .i64 k1,.string x1,.slice A1 n1 c1,.bool bt,.string t] 37)
  have hbk:Below w5.heap.size w5 (w5.alloc (.cells #[.int .i64 k1,.string x1,.slice A1 n1 c1,.bool bt,.string t] 37)):=Bl.alloc Nl _
  have hks:(w5.alloc (.cells #[.int .i64 k1,.string x1,.slice A1 n1 c1,.bool bt,.string t] 37)).heap.size=w5.heap.size+1:=by simp
  generalize w5.alloc (.cells #[.int .i64 k1,.string x1,.slice A1 n1 c1,.bool bt,.string t] 37)=w6 at *
  have HBK:=Hd hbk
  have HNW:=Hd hnew
  have h45:=HB5.out.size
  have HB6:=Hd (HB4.out.trans ((HB5.out.trans (hbk.mono h45)).mono Om))
  have hz6:=(hbk.block w.heap.size Om).trans ((HB5.out.block w.heap.size Om).trans HZ4.out)
  have hs6:w.heap.size<=w6.heap.size:=Om
  obtain⟨p0,p1,p2,p3,p4⟩:=AL hnew
  obtain⟨z0,z1,z2,z3⟩:=A5 hz6
  have f0:=AB hz6 0
  have f1:=AB hz6 1
  have f2:=AB hz6 2
  have f3:=AB hz6 3
  have HZ6:=Hd hz6
  clear hbk hnew hz6
  cases ok with
  |false=>
   go_wp2_with fail
   refine bodyPost_ret (v:=.tuple #[.agg #[.int .u8 0,.int .u64 0,.string ⟨#[]⟩,.slice none 0 0],.string ⟨#[]⟩,.bool false,.bool (!em)]) (by simp[results,Tryz.results5,go_sem,z0,z1,z2,z3]) rfl ?_
   exact⟨0,0,⟨#[]⟩,none,0,0,⟨#[]⟩,false,(!em),rfl,λh=>by simp at h,AM HB6.out Nl _ _ _ _⟩
  |true=>
   obtain⟨p,hat,hterm0⟩:=HP.out
   obtain⟨r,hterm⟩:=hterm0 (by first|exact trivial|rfl)
   obtain⟨pg,psz,_⟩:=AF3 hterm λt ht=>(HGD.out t ht).2.1
   have plv:=(AL0 (Q:=QT) hterm HQT.out).1
   have pdd:p.dd<=2:=Nat.le_trans (HDD.out p r hterm).1 hd2'
   have pdp:p.dp<=30:=Nat.le_trans (HDD.out p r hterm).2 hd30'
   have ps5:p.sz<=5000:=by have:=HN.out;omega
   have HAT:=Hd (λ(W:World) (hW:Below w6.heap.size w6 W)=>((hat.keep HBK.out).keep hW).any)
   have H19:=Hd (λ(W:World) (hW:Below w6.heap.size w6 W)=>AEq _ p Nl ps5 pdd pg W k1 x1 A1 n1 c1 bt t (HAT.out W hW))
   have H21:=Hd (λ(W:World) (hW:Below w6.heap.size w6 W)=>AE5 _ p Nl ps5 pdd pg W k1 x1 A1 n1 c1 bt t (HAT.out W hW))
   have H22:=Hd (λ(W:World) (hW:Below w6.heap.size w6 W)=>AAx _ p Nl ps5 pdd pg W k1 x1 A1 n1 c1 bt t (HAT.out W hW))
   have H23:=Hd (λ(W:World) (hW:Below w6.heap.size w6 W)=>AEu _ p Nl ps5 pdd pg W k1 x1 A1 n1 c1 bt t (HAT.out W hW))
   have H24:=Hd (λ(W:World) (hW:Below w6.heap.size w6 W)=>J9 _ p Nl W k1 x1 A1 n1 c1 bt t (HAT.out W hW))
   have H25:=Hd (λ(W:World) (hW:Below w6.heap.size w6 W)=>OP _ p Nl ps5 pdd pg W k1 x1 A1 n1 c1 bt t (HAT.out W hW))
   have H26:=Hd (λ(W:World) (hW:Below w6.heap.size w6 W) (sg:ByteArray) (hsg:sg.size<=100000)=>NH _ p Nl W k1 x1 A1 n1 c1 bt t sg (M4 _ pg) hsg (HAT.out W hW))
   have H27:=Hd (λ(W:World) (hW:Below w6.heap.size w6 W) (sg:ByteArray) (hsg:sg.size<=100000) (hf:CO p sg)=>AD9 T F HTF.out.1 HTF.out.2 _ p Nl ps5 pdd pg plv W M (HTB.out W (HB6.out.trans (hW.mono hs6))).1 (HTB.out W (HB6.out.trans (hW.mono hs6))).2 k1 x1 A1 n1 c1 bt t sg hsg hf (HAT.out W hW))
   have HLM:=Hd (SY ps5 pdd)
   have HRP:=Hd (λ(z:ByteArray) (hf:CO p z) (hv:NU T F p z)=>(⟨ts,p,r,z,HTS.out,hterm,⟨pdd,pdp⟩,hf,hv⟩:XK T F s))
   have HAS:=Hd (λ(W:World) (hsz:w5.heap.size<=W.heap.size) (hW:∀g,w4.heap.size<=g->g<w5.heap.size->W.heap[g]?=w5.heap[g]?)=>((hat.same hsz (λg hg hlt=>hW g (by first|exact hg|(have h:w4.drew.heap.size<=g:=hg;exact h)) hlt) (λ_ h=>h)).any:PhAt W (λ_=>True) (NX k1 x1 A1 n1 c1 bt t) p))
   have HHO:=Hd (λ(W:World) (ha:PhAt W (λ_=>True) (NX k1 x1 A1 n1 c1 bt t) p)=>J9 _ p Nl W k1 x1 A1 n1 c1 bt t ha)
   clear hat HP hterm pg psz plv pdd pdp ps5 HGD HQT HTF HTB HTS HPC HR3 HB5 HZ4 HB4 HB3 H43
   have HHOL:∃hol,hol=MY p:=⟨_,rfl⟩
   obtain⟨hol,hhol⟩:=HHOL
   rw[<-hhol]at H24 HHO
   clear hhol
   go_upto_region 23 with fail
   go_cut [202] from 165 to 201 (λv202 wx=>∃r:Bool,v202=.bool r/\Below w6.heap.size w6 wx)
   case first=>
    cases hol with
    |true=>
     go_wp2_with (first|(go_at_call 19;refine(H19.out _ (by first|exact(Below.refl w6.heap.size w6)|exact(Below.refl w6.heap.size w6).drew)).mono ?_;rintro e wA ⟨rb,rfl,_,hbx⟩;have HA:=Hd (((Below.refl w6.heap.size w6)).trans ((by first|exact hbx|exact(Bl.drew).trans hbx:Below _ _ wA).mono ((Below.refl w6.heap.size w6)).size));have hpx:=(HA.out.block w5.heap.size Om).trans HNW.out;obtain⟨s0,s1,s2,s3,s4⟩:=AL hpx;clear hbx hpx;cases rb)|(go_at_call 21;refine(H21.out _ (by first|exact HA.out|exact HA.out.drew)).mono ?_;rintro e wB ⟨rb,rfl,_,hbx⟩;have HBq:=Hd ((HA.out).trans ((by first|exact hbx|exact(Bl.drew).trans hbx:Below _ _ wB).mono (HA.out).size));have hpx:=(HBq.out.block w5.heap.size Om).trans HNW.out;obtain⟨s0,s1,s2,s3,s4⟩:=AL hpx;clear hbx hpx;cases rb)|(go_at_call 22;refine(H22.out _ (by first|exact HBq.out|exact HBq.out.drew)).mono ?_;rintro e wC ⟨rb,rfl,_,hbx⟩;have HCq:=Hd ((HBq.out).trans ((by first|exact hbx|exact(Bl.drew).trans hbx:Below _ _ wC).mono (HBq.out).size));have hpx:=(HCq.out.block w5.heap.size Om).trans HNW.out;obtain⟨s0,s1,s2,s3,s4⟩:=AL hpx;clear hbx hpx;cases rb)|(go_at_call 23;refine(H23.out _ (by first|exact HCq.out|exact HCq.out.drew)).mono ?_;rintro e wD ⟨rb,rfl,_,hbx⟩;have HDq:=Hd ((HCq.out).trans ((by first|exact hbx|exact(Bl.drew).trans hbx:Below _ _ wD).mono (HCq.out).size));have hpx:=(HDq.out.block w5.heap.size Om).trans HNW.out;obtain⟨s0,s1,s2,s3,s4⟩:=AL hpx;clear hbx hpx;cases rb)|(go_at_call 24;refine(H24.out _ (by first|exact HDq.out|exact HDq.out.drew)).mono ?_;rintro e wE ⟨rfl,hbx⟩;have HEq:=Hd ((HDq.out).trans ((by first|exact hbx|exact(Bl.drew).trans hbx:Below _ _ wE).mono (HDq.out).size));have hpx:=(HEq.out.block w5.heap.size Om).trans HNW.out;obtain⟨s0,s1,s2,s3,s4⟩:=AL hpx;clear hbx hpx))
     all_goals
      go_meet
      case rel=>first|exact⟨_,rfl,HEq.out⟩|exact⟨_,rfl,HDq.out⟩|exact⟨_,rfl,HCq.out⟩|exact⟨_,rfl,HBq.out⟩|exact⟨_,rfl,HA.out⟩
    |false=>
     go_wp2_with (first|(go_at_call 19;refine(H19.out _ (by first|exact(Below.refl w6.heap.size w6)|exact(Below.refl w6.heap.size w6).drew)).mono ?_;rintro e wA ⟨rb,rfl,_,hbx⟩;have HA:=Hd (((Below.refl w6.heap.size w6)).trans ((by first|exact hbx|exact(Bl.drew).trans hbx:Below _ _ wA).mono ((Below.refl w6.heap.size w6)).size));have hpx:=(HA.out.block w5.heap.size Om).trans HNW.out;obtain⟨s0,s1,s2,s3,s4⟩:=AL hpx;clear hbx hpx;cases rb)|(go_at_call 21;refine(H21.out _ (by first|exact HA.out|exact HA.out.drew)).mono ?_;rintro e wB ⟨rb,rfl,_,hbx⟩;have HBq:=Hd ((HA.out).trans ((by first|exact hbx|exact(Bl.drew).trans hbx:Below _ _ wB).mono (HA.out).size));have hpx:=(HBq.out.block w5.heap.size Om).trans HNW.out;obtain⟨s0,s1,s2,s3,s4⟩:=AL hpx;clear hbx hpx;cases rb)|(go_at_call 22;refine(H22.out _ (by first|exact HBq.out|exact HBq.out.drew)).mono ?_;rintro e wC ⟨rb,rfl,_,hbx⟩;have HCq:=Hd ((HBq.out).trans ((by first|exact hbx|exact(Bl.drew).trans hbx:Below _ _ wC).mono (HBq.out).size));have hpx:=(HCq.out.block w5.heap.size Om).trans HNW.out;obtain⟨s0,s1,s2,s3,s4⟩:=AL hpx;clear hbx hpx;cases rb)|(go_at_call 23;refine(H23.out _ (by first|exact HCq.out|exact HCq.out.drew)).mono ?_;rintro e wD ⟨rb,rfl,_,hbx⟩;have HDq:=Hd ((HCq.out).trans ((by first|exact hbx|exact(Bl.drew).trans hbx:Below _ _ wD).mono (HCq.out).size));have hpx:=(HDq.out.block w5.heap.size Om).trans HNW.out;obtain⟨s0,s1,s2,s3,s4⟩:=AL hpx;clear hbx hpx;cases rb)|(go_at_call 24;refine(H24.out _ (by first|exact HDq.out|exact HDq.out.drew)).mono ?_;rintro e wE ⟨rfl,hbx⟩;have HEq:=Hd ((HDq.out).trans ((by first|exact hbx|exact(Bl.drew).trans hbx:Below _ _ wE).mono (HDq.out).size));have hpx:=(HEq.out.block w5.heap.size Om).trans HNW.out;obtain⟨s0,s1,s2,s3,s4⟩:=AL hpx;clear hbx hpx))
     all_goals
      go_meet
      case rel=>first|exact⟨_,rfl,HEq.out⟩|exact⟨_,rfl,HDq.out⟩|exact⟨_,rfl,HCq.out⟩|exact⟨_,rfl,HBq.out⟩|exact⟨_,rfl,HA.out⟩
   obtain⟨r2,rfl,hb7⟩:=hcut
   generalize wc=w7 at *
   have HB7:=Hd hb7
   have hs7:=hb7.size
   clear hb7
   have hpx:=(HB7.out.block w5.heap.size Om).trans HNW.out
   have hzx:=(HB7.out.block w.heap.size Om).trans HZ6.out
   clear p0 p1 p2 p3 p4 z0 z1 z2 z3 f0 f1 f2 f3
   obtain⟨p0,p1,p2,p3,p4⟩:=AL hpx
   obtain⟨z0,z1,z2,z3⟩:=A5 hzx
   have f0:=AB hzx 0
   have f1:=AB hzx 1
   have f2:=AB hzx 2
   have f3:=AB hzx 3
   clear hpx hzx
   cases r2 with
   |true=>
    go_wp2_with fail
    refine bodyPost_ret (v:=.tuple #[.agg #[.int .u8 0,.int .u64 0,.string ⟨#[]⟩,.slice none 0 0],.string ⟨#[]⟩,.bool false,.bool false]) (by simp[results,Tryz.results5,go_sem,z0,z1,z2,z3]) rfl ?_
    exact⟨0,0,⟨#[]⟩,none,0,0,⟨#[]⟩,false,false,rfl,λh=>by simp at h,AM (HB6.out.trans (HB7.out.mono hs6)) Nl _ _ _ _⟩
   |false=>
    go_upto_region 28 with(go_at_call 25;refine(H25.out _ (by first|exact HB7.out|exact HB7.out.drew)).mono ?_;rintro e w8 ⟨z,is,said,rfl,hz,hb8⟩;have HZ:=Hd hz;have HB8:=Hd (HB7.out.trans ((by first|exact hb8|exact(Bl.drew).trans hb8:Below w7.heap.size w7 w8).mono hs7));clear hz hb8)
    have hs8:=HB8.out.size
    have hz7:z.size<=100000:=by have:=HZ.out;have:=HLM.out;omega
    have hpx:=(HB8.out.block w5.heap.size Om).trans HNW.out
    have hzx:=(HB8.out.block w.heap.size Om).trans HZ6.out
    clear p0 p1 p2 p3 p4 z0 z1 z2 z3 f0 f1 f2 f3
    obtain⟨p0,p1,p2,p3,p4⟩:=AL hpx
    obtain⟨z0,z1,z2,z3⟩:=A5 hzx
    have f0:=AB hzx 0
    have f1:=AB hzx 1
    have f2:=AB hzx 2
    have f3:=AB hzx 3
    clear hpx hzx
    cases said with
    |false=>
     go_wp2_with fail
     refine bodyPost_ret (v:=.tuple #[.agg #[.int .u8 0,.int .u64 0,.string ⟨#[]⟩,.slice none 0 0],.string ⟨#[]⟩,.bool false,.bool false]) (by simp[results,Tryz.results5,go_sem,z0,z1,z2,z3]) rfl ?_
     exact⟨0,0,⟨#[]⟩,none,0,0,⟨#[]⟩,false,false,rfl,λh=>by simp at h,AM (HB6.out.trans (HB8.out.mono hs6)) Nl _ _ _ _⟩
    |true=>
     cases is with
     |false=>
      go_wp2_with (go_at_call 24;refine(H24.out _ (by first|exact HB8.out|exact HB8.out.drew)).mono ?_;rintro e wH ⟨rfl,hbx⟩;have HH:=Hd ((HB8.out).trans ((by first|exact hbx|exact(Bl.drew).trans hbx:Below _ _ wH).mono (HB8.out).size));have hzx:=(HH.out.block w.heap.size Om).trans HZ6.out;clear z0 z1 z2 z3 f0 f1 f2 f3;obtain⟨z0,z1,z2,z3⟩:=A5 hzx;have f0:=AB hzx 0;have f1:=AB hzx 1;have f2:=AB hzx 2;have f3:=AB hzx 3;clear hbx hzx)
      refine bodyPost_ret (v:=.tuple #[.agg #[.int .u8 0,.int .u64 0,.string ⟨#[]⟩,.slice none 0 0],.string ⟨#[]⟩,.bool false,.bool (!hol)]) (by simp[results,Tryz.results5,go_sem,z0,z1,z2,z3]) rfl ?_
      exact⟨0,0,⟨#[]⟩,none,0,0,⟨#[]⟩,false,(!hol),rfl,λh=>by simp at h,AM (HB6.out.trans (HH.out.mono hs6)) Nl _ _ _ _⟩
     |true=>
      have HTS:=Hd (λ(W:World)=>LN z hz7 W)
      go_upto_if 222 with(go_at_call 12;refine(HTS.out _).mono ?_;rintro e w9 ⟨rb,rfl,_,hb9⟩;have HB9:=Hd (HB8.out.trans ((by first|exact hb9|exact(Bl.drew).trans hb9:Below w8.heap.size w8 w9).mono hs8));clear hb9)
      have hs9:=HB9.out.size
      have hpx:=(HB9.out.block w5.heap.size Om).trans HNW.out
      have hzx:=(HB9.out.block w.heap.size Om).trans HZ6.out
      clear p0 p1 p2 p3 p4 z0 z1 z2 z3 f0 f1 f2 f3
      obtain⟨p0,p1,p2,p3,p4⟩:=AL hpx
      obtain⟨z0,z1,z2,z3⟩:=A5 hzx
      have f0:=AB hzx 0
      have f1:=AB hzx 1
      have f2:=AB hzx 2
      have f3:=AB hzx 3
      clear hpx hzx
      cases rb with
      |false=>
       go_wp2_with fail
       refine bodyPost_ret (v:=.tuple #[.agg #[.int .u8 0,.int .u64 0,.string ⟨#[]⟩,.slice none 0 0],.string ⟨#[]⟩,.bool false,.bool false]) (by simp[results,Tryz.results5,go_sem,z0,z1,z2,z3]) rfl ?_
       exact⟨0,0,⟨#[]⟩,none,0,0,⟨#[]⟩,false,false,rfl,λh=>by simp at h,AM (HB6.out.trans (HB9.out.mono hs6)) Nl _ _ _ _⟩
      |true=>
       go_upto_region 31 with(go_at_call 26;refine(H26.out _ (by first|exact HB9.out|exact HB9.out.drew) z hz7).mono ?_;rintro e w10 ⟨rb,rfl,hq,hb10⟩;have HQ:=Hd hq;have HB10:=Hd (HB9.out.trans ((by first|exact hb10|exact(Bl.drew).trans hb10:Below w9.heap.size w9 w10).mono hs9));clear hq hb10)
       have hs10:=HB10.out.size
       have hpx:=(HB10.out.block w5.heap.size Om).trans HNW.out
       have hzx:=(HB10.out.block w.heap.size Om).trans HZ6.out
       clear p0 p1 p2 p3 p4 z0 z1 z2 z3 f0 f1 f2 f3
       obtain⟨p0,p1,p2,p3,p4⟩:=AL hpx
       obtain⟨z0,z1,z2,z3⟩:=A5 hzx
       have f0:=AB hzx 0
       have f1:=AB hzx 1
       have f2:=AB hzx 2
       have f3:=AB hzx 3
       clear hpx hzx
       cases rb with
       |false=>
        go_wp2_with (go_at_call 24;refine(H24.out _ (by first|exact HB10.out|exact HB10.out.drew)).mono ?_;rintro e wH ⟨rfl,hbx⟩;have HH:=Hd ((HB10.out).trans ((by first|exact hbx|exact(Bl.drew).trans hbx:Below _ _ wH).mono (HB10.out).size));have hzx:=(HH.out.block w.heap.size Om).trans HZ6.out;clear z0 z1 z2 z3 f0 f1 f2 f3;obtain⟨z0,z1,z2,z3⟩:=A5 hzx;have f0:=AB hzx 0;have f1:=AB hzx 1;have f2:=AB hzx 2;have f3:=AB hzx 3;clear hbx hzx)
        refine bodyPost_ret (v:=.tuple #[.agg #[.int .u8 0,.int .u64 0,.string ⟨#[]⟩,.slice none 0 0],.string ⟨#[]⟩,.bool false,.bool (!hol)]) (by simp[results,Tryz.results5,go_sem,z0,z1,z2,z3]) rfl ?_
        exact⟨0,0,⟨#[]⟩,none,0,0,⟨#[]⟩,false,(!hol),rfl,λh=>by simp at h,AM (HB6.out.trans (HH.out.mono hs6)) Nl _ _ _ _⟩
       |true=>
        have HFT:=Hd (HQ.out (by first|exact trivial|rfl))
        go_upto_region 33 with(go_at_call 27;refine(H27.out _ (by first|exact HB10.out|exact HB10.out.drew) z hz7 HFT.out).mono ?_;rintro e w11 ⟨K,N2,S,A2,n2,c2,ok3,rfl,hok,hb11⟩;have HOK:=Hd hok;have HB11:=Hd (HB10.out.trans ((by first|exact hb11|exact(Bl.drew).trans hb11:Below w10.heap.size w10 w11).mono hs10));have hzx:=(HB11.out.block w.heap.size Om).trans HZ6.out;clear z0 z1 z2 z3 f0 f1 f2 f3;obtain⟨z0,z1,z2,z3⟩:=A5 hzx;have f0:=AB hzx 0;have f1:=AB hzx 1;have f2:=AB hzx 2;have f3:=AB hzx 3;have HZX:=Hd hzx;clear hok hb11 hzx)
        have hs11:=HB11.out.size
        have hset:=AH (AH (AH (AH HZX.out 0 (.int .u8 K)) 1 (.int .u64 N2)) 2 (.string S)) 3 (.slice A2 n2 c2)
        have hw11:=HB6.out.trans (HB11.out.mono hs6)
        have hbs:=AM hw11 Nl (.int .u8 K) (.int .u64 N2) (.string S) (.slice A2 n2 c2)
        have hkp:∀g,g≠w.heap.size->((((w11.setCell ⟨w.heap.size,0,none⟩ (.int .u8 K)).setCell ⟨w.heap.size,1,none⟩ (.int .u64 N2)).setCell ⟨w.heap.size,2,none⟩ (.string S)).setCell ⟨w.heap.size,3,none⟩ (.slice A2 n2 c2)).heap[g]?=w11.heap[g]?:=λg hg=>by rw[heap_set _ _ _ hg,heap_set _ _ _ hg,heap_set _ _ _ hg,heap_set _ _ _ hg]
        have hsz12:((((w11.setCell ⟨w.heap.size,0,none⟩ (.int .u8 K)).setCell ⟨w.heap.size,1,none⟩ (.int .u64 N2)).setCell ⟨w.heap.size,2,none⟩ (.string S)).setCell ⟨w.heap.size,3,none⟩ (.slice A2 n2 c2)).heap.size=w11.heap.size:=by simp only[World.setCell,Array.size_modify]
        have hat12:=HAS.out ((((w11.setCell ⟨w.heap.size,0,none⟩ (.int .u8 K)).setCell ⟨w.heap.size,1,none⟩ (.int .u64 N2)).setCell ⟨w.heap.size,2,none⟩ (.string S)).setCell ⟨w.heap.size,3,none⟩ (.slice A2 n2 c2)) Om (λg h1 h2=>(hkp g Om).trans ((HB11.out.block g Om).trans (HBK.out.block g h2)))
        have hp12:=(hkp w5.heap.size Om).trans ((HB11.out.block w5.heap.size Om).trans HNW.out)
        change Code.wp _ _ _ _ ((((w11.setCell ⟨w.heap.size,0,none⟩ (.int .u8 K)).setCell ⟨w.heap.size,1,none⟩ (.int .u64 N2)).setCell ⟨w.heap.size,2,none⟩ (.string S)).setCell ⟨w.heap.size,3,none⟩ (.slice A2 n2 c2))
        generalize (((w11.setCell ⟨w.heap.size,0,none⟩ (.int .u8 K)).setCell ⟨w.heap.size,1,none⟩ (.int .u64 N2)).setCell ⟨w.heap.size,2,none⟩ (.string S)).setCell ⟨w.heap.size,3,none⟩ (.slice A2 n2 c2)=w12 at *
        have hset:w12.heap[w.heap.size]?=some (.cells #[.int .u8 K,.int .u64 N2,.string S,.slice A2 n2 c2] 26 (0,0)):=hset
        have HHO2:=Hd (λ(W:World) (hW:Below w12.heap.size w12 W)=>HHO.out W (hat12.keep hW))
        clear p0 p1 p2 p3 p4 z0 z1 z2 z3 f0 f1 f2 f3 hat12 hkp
        obtain⟨p0,p1,p2,p3,p4⟩:=AL hp12
        obtain⟨z0,z1,z2,z3⟩:=A5 hset
        have f0:=AB hset 0
        have f1:=AB hset 1
        have f2:=AB hset 2
        have f3:=AB hset 3
        have HST:=Hd hset
        have HBS:=Hd hbs
        have hs12:=hbs.size
        clear hset hbs hp12
        cases ok3 with
        |false=>
         go_wp2_with (go_at_call 24;refine(HHO2.out _ (by first|exact Bl|exact Bl.drew)).mono ?_;rintro e wH ⟨rfl,hbx⟩;have HH:=Hd (show Below w12.heap.size w12 wH from(by first|exact hbx|exact(Bl.drew).trans hbx));have hzx:=(HH.out.block w.heap.size Om).trans HST.out;clear z0 z1 z2 z3 f0 f1 f2 f3;obtain⟨z0,z1,z2,z3⟩:=A5 hzx;have f0:=AB hzx 0;have f1:=AB hzx 1;have f2:=AB hzx 2;have f3:=AB hzx 3;clear hbx hzx)
         refine bodyPost_ret (v:=.tuple #[.agg #[.int .u8 0,.int .u64 0,.string ⟨#[]⟩,.slice none 0 0],.string ⟨#[]⟩,.bool false,.bool (!hol)]) (by simp[results,Tryz.results5,go_sem,z0,z1,z2,z3]) rfl ?_
         exact⟨0,0,⟨#[]⟩,none,0,0,⟨#[]⟩,false,(!hol),rfl,λh=>by simp at h,AM (HBS.out.trans (HH.out.mono hs12)) Nl _ _ _ _⟩
        |true=>
         go_wp2_with fail
         refine bodyPost_ret (v:=.tuple #[.agg #[.int .u8 K,.int .u64 N2,.string S,.slice A2 n2 c2],.string z,.bool true,.bool true]) (by simp[results,Tryz.results5,go_sem,z0,z1,z2,z3]) rfl ?_
         exact⟨K,N2,S,A2,n2,c2,z,true,true,rfl,λ_=>HRP.out z HFT.out (HOK.out (by first|exact trivial|rfl)),AM HBS.out Nl _ _ _ _⟩
