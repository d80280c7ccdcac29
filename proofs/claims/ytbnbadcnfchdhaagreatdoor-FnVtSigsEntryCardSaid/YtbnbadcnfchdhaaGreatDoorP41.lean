/- Lemmas for FnVtSigsEntry; no conditions. -/
import Derived.Test.YtbnbadcnfchdhaaGreatDoorP38
import Derived.Test.YtbnbadcnfchdhaaGreatDoorP39
set_option maxRecDepth 100000
set_option maxHeartbeats 16000000
set_option linter.all false
namespace Go.Proofs.YtbnbadcnfchdhaaGreatDoor
open Go.RowKit
theorem AMx(N:Nat)(ih:VsH N)(s:ByteArray)(hsN:s.size<=N+1)(hs:s.size<=100000)(A E:Int)(hA0:0<=A)(hE0:0<=E)(h2:AA s 0=97)(h3:1<s.size/\AA s 1=123){n:Nat}(hn:BI s (32-A) (32-E)=n)(h0:0<n)(w:World)(b:Nat)(h:w.heap[b]?=some (.cells #[.int .i64 A,.int .i64 0,.int .i64 E] 254 (0,0))):Calls Tryz.prog 171 #[.string s,.pointer (some ⟨b,0,none⟩)] w (VsR s n w):=by
 have hz:¬(s.size=0\/32-A<0\/32-E<0):=λh=>by rw[DA h]at hn;omega
 have hA:A<=32:=Om;have hE:E<=32:=Om;have hp:0<s.size:=Om;have hbl:b<w.heap.size:=(Array.getElem?_eq_some_iff.1 h).1;have HV:=Hd (λW (hW:Below w.heap.size w W)=>I8 A E hA hE ((hW.block b hbl).trans h));obtain⟨c0,c1,c2⟩:=DT h;rw[G6 hz h2 h3]at hn;obtain⟨hb2,m,hm,hm0,hms,hme,rfl⟩:BV (AA s 2)=true/\∃m,BI (s.extract 3 s.size) (32-(A+1)) (32-(E+1))=m/\0<m/\m+4<=s.size/\AA s (m+3)=125/\n=m+4:=by
  rw[show 32-A-1=32-(A+1) by omega,show 32-E-1=32-(E+1) by omega]at hn;split at hn
  .omega
  rename_i h4;split at hn
  .omega
  rename_i h5;simp only[not_or,Bool.not_eq_false]at h4;exact⟨h4.2,_,rfl,Om,Om,by simp only[not_or,Decidable.not_not]at h5;exact h5.2.2,hn.symm⟩
 have hzz:¬(32-(A+1)<0\/32-(E+1)<0):=λh=>by rw[DA (.inr h)]at hm;omega
 have hfm:=AMl (a:=32-A) (e:=32-E) h3.2 hb2 (m:=m) (by rw[<-hm];congr 1<;>omega) hm0 hms hme;have HM:=Hd (λ(W:World)=>PY (s.extract 1 s.size) (by rw[AU _ _ Om];omega) hfm W);obtain⟨s2,hs2⟩:∃t,s.extract 2 (m+3)=t:=⟨_,rfl⟩;have z2:s2.size=m+1:=by rw[<-hs2,ByteArray.size_extract];omega
 have k0:AA (s2.extract 0 1) 0=AA s 2:=by rw[KA _ _ _ Om,<-hs2];rw[AE6 s 2 (m+3),KA _ _ _ Om,BC]
 have zk:(s2.extract 0 1).size=1:=by rw[ByteArray.size_extract];omega
 have hk:BI (s2.extract 0 1) (32-(A+1)) (32-(E+1))=1:=IR Om (by rw[k0,hb2];rfl);have x2:s2.extract 1 (m+1)=(s.extract 3 s.size).extract 0 m:=by
  have hz4:((s.extract 2 s.size).extract 0 (m+1)).size=m+1:=by rw[ByteArray.size_extract,AU _ _ Om];omega
  have:=Y7 (s.extract 2 s.size) 1 (m+1) (by rw[AU _ _ Om];omega);rw[hz4,M3,show m+1-1=m by omega]at this;rw[<-hs2,AE6 s 2 (m+3),show m+3-2=m+1 by omega,this]
 have hv:BI (s2.extract 1 (m+1)) (32-(A+1)) (32-(E+1))=m:=by rw[x2,XC _ _ Nl _ _ m Om Om (by rw[AU _ _ Om];omega),hm]
 have zv:(s2.extract 1 (m+1)).size=m:=by rw[ByteArray.size_extract];omega
 have IK:=Hd (λ(W:World) (g:Nat) hg=>ih (s2.extract 0 1) Om Om (A+1) (E+1) Om Om 1 hk Om W g hg);have IV:=Hd (λ(W:World) (g:Nat) hg=>ih (s2.extract 1 (m+1)) Om Om (A+1) (E+1) Om Om m hv hm0 W g hg);have HE1:=Hd (show (s2.extract 0 1).extract 1 (s2.extract 0 1).size=ByteArray.empty by apply B8;simp[B6,zk]);have HE2:=Hd (show (s2.extract 1 (m+1)).extract m (s2.extract 1 (m+1)).size=ByteArray.empty by apply B8;simp[B6,zv]);have IK2:=Hd (λ(W:World) (g:Nat) hg=>(IK.out W g hg).mono λe w' (h:VsR (s2.extract 0 1) 1 W e w')=>(⟨by rw[h.1,HE1.out];rfl,h.2⟩:e=.returned (.tuple #[.nilIface,.string ⟨#[]⟩])/\Below W.heap.size W w'));have IV2:=Hd (λ(W:World) (g:Nat) hg=>(IV.out W g hg).mono λe w' (h:VsR (s2.extract 1 (m+1)) m W e w')=>(⟨by rw[h.1,HE2.out];rfl,h.2⟩:e=.returned (.tuple #[.nilIface,.string ⟨#[]⟩])/\Below W.heap.size W w'));clear IK IV HE1 HE2;have HS2:=Hd hs2;have hszm:m+4<=100000:=Om;obtain⟨k,hkm⟩:∃k,m+2=k:=⟨_,rfl⟩;have hw1:IntKind.i64.wrap ((k:Int)+1)=(k:Int)+1:=CF Om Om;have hw2:IntKind.i64.wrap ((k:Int)+1+1)=(k:Int)+1+1:=CF Om Om;have g1:(0:Int)<=(k:Int)+1+1:=Om;have g2:(k:Int)+1+1<=(s.size:Int):=Om;have g3:((k:Int)+1+1).toNat=m+4:=Om;have g4:(2:Int)<=(k:Int)+1:=Om;have g5:(k:Int)+1<=(s.size:Int):=Om;have g6:((k:Int)+1).toNat=m+3:=Om;have g7:(k:Int)≠-1:=Om;have u2:((k:Int)==-1)=false:=by rw[Bn];exact g7
 have g8:(1:Int)<=(s2.size:Int):=Om;have g9:¬s2.size=0:=Om;obtain⟨h31,h32⟩:=h3;have e0:=AJ hp;have e1:=AJ h31;rw[h2]at e0;rw[h32]at e1;obtain⟨n0,n1,n2⟩:=N7 hp;have hpi:(0:Int)<(s.size:Int):=Om;have hp1:(1:Int)<=(s.size:Int):=Om;have hp2:(1:Int)<(s.size:Int):=Om;have HM2:=Hd (show ∀W,Calls Tryz.prog 189 #[.string (s.extract 1 s.size),.int .i32 123,.int .i32 125] W λe w'=>e=.returned (.int .i64 (k:Nat))/\Below W.heap.size W w' by rw[<-hkm];exact HM.out);have HKM:=Hd hkm;clear hz hm hme hzz hfm HM k0 hk x2 hv ih hb2 h2 g7 hkm hn h0 h hms h32;go_enter Tryz.func171,Tryz.ntmps171;go_upto_region 31 with(first|(go_at_call 188;refine(HV.out _ (by exact Bl)).mono ?_;rintro e w2 ⟨rfl,rfl⟩)|(go_at_call 189;refine(HM2.out _).mono ?_;rintro e w3 ⟨rfl,hb3⟩;have HB3:=Hd hb3;clear hb3));have d0:=(HB3.out.cell (p:=⟨b,0,none⟩) hbl).trans c0;have d1:=(HB3.out.cell (p:=⟨b,1,none⟩) hbl).trans c1;have d2:=(HB3.out.cell (p:=⟨b,2,none⟩) hbl).trans c2;have hm1:¬((m:Int)+1<1):=Om;refine wp_region_any Kr ?_;change wpAny _ _ _ _ _ _ _ w3.drew;refine wpAny_take (i:=0) (v:=.string s2) rfl Kr Kr Kr (λ_ _ _ h=>h) (Or.inl ⟨by rfl,λW=>by go_simp⟩) ?_;refine wpAny_take (i:=1) (v:=.string (s2.extract 0 1)) rfl Kr Kr Kr (λ_ _ _ h=>h) (Or.inl ⟨by rfl,λW=>by go_simp⟩) ?_;refine wpAny_take (i:=2) (v:=.pointer (some ⟨b,0,none⟩)) rfl Kr Kr Kr (λ_ _ _ h=>h) (Or.inl ⟨by rfl,λW=>by go_simp⟩) ?_;refine wpAny_ready (rs:=[3]) Kr Sm (AllReady.cons rfl (λK' hK'=>?_) AllReady.nil);rw[if_pos (by rfl)];go_simp;refine hK' _ _ ?_;clear hK';refine wpAny_ready (rs:=[4]) Kr Sm (AllReady.cons rfl (λK' hK'=>?_) AllReady.nil);rw[if_pos (by rfl)];go_simp;refine hK' _ _ ?_;clear hK';refine wpAny_ready (rs:=[5]) Kr Sm (AllReady.cons rfl (λK' hK'=>?_) AllReady.nil);rw[if_pos (by rfl)];go_simp;refine(IZ A 0 E Om Om _).mono ?_;rintro e w4 ⟨rfl,hh4,hs4,hb4⟩;have hh4':w4.heap[w3.heap.size]?=some (.cells #[.int .i64 (A+1),.int .i64 0,.int .i64 E] 254 (0,0)):=hh4;obtain⟨q0,q1,q2⟩:=DT hh4';have HB4:=Hd (show Below w.heap.size w w4 from HB3.out.drew.trans (hb4.mono HB3.out.size));clear hh4 hh4' hb4 hs4;refine hK' _ _ ?_;clear hK';refine wpAny_ready (rs:=[6]) Kr Sm (AllReady.cons rfl (λK' hK'=>?_) AllReady.nil);rw[if_pos (by rfl)];go_simp;refine hK' _ _ ?_;clear hK';refine wpAny_ready (rs:=[7]) Kr Sm (AllReady.cons rfl (λK' hK'=>?_) AllReady.nil);rw[if_pos (by rfl)];go_simp;refine hK' _ _ ?_;clear hK';refine wpAny_ready (rs:=[8]) Kr Sm (AllReady.cons rfl (λK' hK'=>?_) AllReady.nil);rw[if_pos (by rfl)];go_simp;refine(NO (A+1) 0 E Om Om _).mono ?_;rintro e w5 ⟨rfl,hh5,hs5,hb5⟩;have HH5:=Hd hh5;have HB5:=Hd (HB4.out.trans (hb5.mono HB4.out.size));clear hh5 hb5 q0 q1 q2 hs5;refine hK' _ _ ?_;clear hK';refine wpAny_ready (rs:=[9]) Kr Sm (AllReady.cons rfl (λK' hK'=>?_) AllReady.nil);rw[if_pos (by rfl)];go_simp;refine(IK2.out _ _ HH5.out).mono ?_;rintro e w6 ⟨rfl,hb6⟩;have HB6:=Hd (HB5.out.trans (hb6.mono HB5.out.size));clear hb6;refine hK' _ _ ?_;clear hK';refine wpAny_take (i:=10) (v:=.tuple #[.nilIface,.string ⟨#[]⟩]) rfl Kr Kr Kr (λ_ _ _ h=>h) (Or.inl ⟨by rfl,λW=>by go_simp⟩) ?_;refine wpAny_take (i:=11) (v:=.nilIface) rfl Kr Kr Kr (λ_ _ _ h=>h) (Or.inl ⟨by rfl,λW=>by go_simp⟩) ?_;refine wpAny_take (i:=12) (v:=.string ⟨#[]⟩) rfl Kr Kr Kr (λ_ _ _ h=>h) (Or.inl ⟨by rfl,λW=>by go_simp⟩) ?_;refine wpAny_ready (rs:=[13]) Kr Sm (AllReady.cons rfl (λK' hK'=>?_) AllReady.nil);rw[if_pos (by rfl)];go_simp;refine hK' _ _ ?_;clear hK';refine wpAny_done Kr ?_ _;clear d0 d1 d2 HB4 HH5;have d0:=(HB6.out.cell (p:=⟨b,0,none⟩) hbl).trans c0;have d1:=(HB6.out.cell (p:=⟨b,1,none⟩) hbl).trans c1;have d2:=(HB6.out.cell (p:=⟨b,2,none⟩) hbl).trans c2;go_upto_region 34 with fail;refine wp_region_any Kr ?_;change wpAny _ _ _ _ _ _ _ w6.drew;refine wpAny_take (i:=0) (v:=.string s2) rfl Kr Kr Kr (λ_ _ _ h=>h) (Or.inl ⟨by rfl,λW=>by go_simp⟩) ?_;refine wpAny_take (i:=1) (v:=.string (s2.extract 1 (m+1))) rfl Kr Kr Kr (λ_ _ _ h=>h) (Or.inl ⟨by rfl,λW=>by go_simp⟩) ?_;refine wpAny_take (i:=2) (v:=.pointer (some ⟨b,0,none⟩)) rfl Kr Kr Kr (λ_ _ _ h=>h) (Or.inl ⟨by rfl,λW=>by go_simp⟩) ?_;refine wpAny_ready (rs:=[3]) Kr Sm (AllReady.cons rfl (λK' hK'=>?_) AllReady.nil);rw[if_pos (by rfl)];go_simp;refine hK' _ _ ?_;clear hK';refine wpAny_ready (rs:=[4]) Kr Sm (AllReady.cons rfl (λK' hK'=>?_) AllReady.nil);rw[if_pos (by rfl)];go_simp;refine hK' _ _ ?_;clear hK';refine wpAny_ready (rs:=[5]) Kr Sm (AllReady.cons rfl (λK' hK'=>?_) AllReady.nil);rw[if_pos (by rfl)];go_simp;refine(IZ A 0 E Om Om _).mono ?_;rintro e w7 ⟨rfl,hh4,hs4,hb4⟩;have hh4':w7.heap[w6.heap.size]?=some (.cells #[.int .i64 (A+1),.int .i64 0,.int .i64 E] 254 (0,0)):=hh4;obtain⟨q0,q1,q2⟩:=DT hh4';have HB7:=Hd (show Below w.heap.size w w7 from HB6.out.drew.trans (hb4.mono HB6.out.size));clear hh4 hh4' hb4 hs4;refine hK' _ _ ?_;clear hK';refine wpAny_ready (rs:=[6]) Kr Sm (AllReady.cons rfl (λK' hK'=>?_) AllReady.nil);rw[if_pos (by rfl)];go_simp;refine hK' _ _ ?_;clear hK';refine wpAny_ready (rs:=[7]) Kr Sm (AllReady.cons rfl (λK' hK'=>?_) AllReady.nil);rw[if_pos (by rfl)];go_simp;refine hK' _ _ ?_;clear hK';refine wpAny_ready (rs:=[8]) Kr Sm (AllReady.cons rfl (λK' hK'=>?_) AllReady.nil);rw[if_pos (by rfl)];go_simp;refine(NO (A+1) 0 E Om Om _).mono ?_;rintro e w8 ⟨rfl,hh5,hs5,hb5⟩;have HH8:=Hd hh5;have HB8:=Hd (HB7.out.trans (hb5.mono HB7.out.size));clear hh5 hb5 q0 q1 q2 hs5;refine hK' _ _ ?_;clear hK';refine wpAny_ready (rs:=[9]) Kr Sm (AllReady.cons rfl (λK' hK'=>?_) AllReady.nil);rw[if_pos (by rfl)];go_simp;refine(IV2.out _ _ HH8.out).mono ?_;rintro e w9 ⟨rfl,hb6⟩;have HB9:=Hd (HB8.out.trans (hb6.mono HB8.out.size));clear hb6;refine hK' _ _ ?_;clear hK';refine wpAny_take (i:=10) (v:=.tuple #[.nilIface,.string ⟨#[]⟩]) rfl Kr Kr Kr (λ_ _ _ h=>h) (Or.inl ⟨by rfl,λW=>by go_simp⟩) ?_;refine wpAny_take (i:=11) (v:=.nilIface) rfl Kr Kr Kr (λ_ _ _ h=>h) (Or.inl ⟨by rfl,λW=>by go_simp⟩) ?_;refine wpAny_take (i:=12) (v:=.string ⟨#[]⟩) rfl Kr Kr Kr (λ_ _ _ h=>h) (Or.inl ⟨by rfl,λW=>by go_simp⟩) ?_;refine wpAny_ready (rs:=[13]) Kr Sm (AllReady.cons rfl (λK' hK'=>?_) AllReady.nil);rw[if_pos (by rfl)];go_simp;refine hK' _ _ ?_;clear hK';refine wpAny_ready (rs:=[14]) Kr Sm (AllReady.cons rfl (λK' hK'=>?_) AllReady.nil);rw[if_pos (by rfl)];go_simp;refine hK' _ _ ?_;clear hK';refine wpAny_done Kr ?_ _;clear d0 d1 d2 HB7 HH8;go_wp2_with fail
 first|(rw[Exit.noGoto_ret];go_ret2)|go_ret2
 exact⟨rfl,HB9.out⟩
theorem ACe:∀N,VsH N
 |0=>λs hs _ A E _ _ n hn h0 w b _=>by have:s.size=0:=Om;rw[DA Om]at hn;omega
 |N+1=>λs hsN hs A E hA0 hE0 n hn h0 w b h=>by
  have hz:¬(s.size=0\/32-A<0\/32-E<0):=λh=>by rw[DA h]at hn;omega
  by_cases h2:AA s 0=97
  .by_cases h3:1<s.size/\AA s 1=123
   .exact AMx N (ACe N) s hsN hs A E hA0 hE0 h2 h3 hn h0 w b h
   exact AO4 N (ACe N) s hsN hs A E hA0 hE0 h2 h3 hn h0 w b h
  have h4:(BV (AA s 0)||decide (AA s 0=118))=true:=by
   cases hb:(BV (AA s 0)||decide (AA s 0=118)) with
   |true=>rfl
   |false=>rw[LU hz hb h2]at hn;omega
  rw[IR hz h4]at hn;subst hn;exact AJe s hs A E Om Om Om h4 w b h
theorem AAn{t:ByteArray}(h:GQ t=true):t.size<=255/\t.size≠0/\BI t 32 32=t.size:=by
 unfold GQ at h;rw[decide_eq_true_eq]at h;unfold K3 at h;split at h
 .cases h
 have h0:t.size≠0:=λe=>by rw[P7 e]at h;cases h
 have h1:BI t 32 32≠0:=λe=>by rw[JD h0 e]at h;cases h
 have h2:=Q8 _ t Nl 32 32;rw[JC h0 h1 h2]at h;have h3:FY (t.extract (BI t 32 32) t.size)=some 0:=by
  cases hx:FY (t.extract (BI t 32 32) t.size) with
  |none=>rw[hx]at h;cases h
  |some k=>rw[hx]at h;simp at h;rw[h]
 have h4:(t.extract (BI t 32 32) t.size).size=0:=by
  refine Decidable.byContradiction λh5=>?_;by_cases h6:BI (t.extract (BI t 32 32) t.size) 32 32=0
  .rw[JD h5 h6]at h3;cases h3
  rw[JC h5 h6 (Q8 _ _ Nl 32 32)]at h3
  cases hx:FY ((t.extract (BI t 32 32) t.size).extract (BI (t.extract (BI t 32 32) t.size) 32 32) (t.extract (BI t 32 32) t.size).size) with
  |none=>rw[hx]at h3;cases h3
  |some k=>rw[hx]at h3;simp at h3
 rw[ByteArray.size_extract]at h4;exact⟨Om,h0,Om⟩
theorem OL:PsH:=by
 intro t W h;obtain⟨h255,hne,hcm⟩:=AAn h;have hpos:0<t.size:=Om;have HC:=Hd (λ(W':World) (b:Nat) hb=>ACe t.size t Nl Om 0 0 Om Om t.size hcm hpos W' b hb);have HE:=Hd (show t.extract t.size t.size=⟨#[]⟩ by apply B8;simp);have u0:((t.size:Int)==0)=false:=Bq;have u1:¬(255:Int)<(t.size:Int):=Om;have u2:((t.size:Int)!=0)=true:=by rw[bne_iff_ne];omega
 have u3:¬t.size=0:=hne;have u4:¬t=ByteArray.empty:=λe=>hne (by rw[e];rfl);clear h hcm hne hpos;go_enter Tryz.func150,Tryz.ntmps150;go_wp2_with fail;have hc0:=heap_alloc_new W (.cells #[.string t] 115);have hb0:Below W.heap.size W (W.alloc (.cells #[.string t] 115)):=Bl.alloc Nl _;have hs0:(W.alloc (.cells #[.string t] 115)).heap.size=W.heap.size+1:=by simp
 go_loopg [0,3] 1 (λg v0 v3 wr=>v3=.nilIface/\(g=1/\v0=.string t\/g=0/\v0=.string ⟨#[]⟩)/\Hid (wr.heap[W.heap.size]?=some (.cells #[.string t] 115 (0,0)))/\Hid (Below W.heap.size W wr)/\W.heap.size<wr.heap.size)
 case atStart=>exact⟨rfl,.inl ⟨rfl,rfl⟩,hc0,hb0,Om⟩
 obtain⟨rfl,hv,HC0,HB0,hsz⟩:=hrel;have hbx:Below wr.heap.size wr (wr.alloc (.cells #[.int .i64 0,.int .i64 0,.int .i64 0] 254)):=Bl.alloc Nl _;have HNB:=Hd (heap_alloc_new wr (.cells #[.int .i64 0,.int .i64 0,.int .i64 0] 254));have HBX:=Hd hbx;clear hbx;rcases hv with⟨rfl,rfl⟩|⟨rfl,rfl⟩
 .go_wp2_with (go_at_call 171;refine(HC.out _ _ HNB.out).mono ?_;rintro e w4 ⟨rfl,hb4⟩;rw[HE.out];have HB4:=Hd (HBX.out.trans (hb4.mono HBX.out.size));clear hb4)
  go_roundg 0
  case rel=>exact⟨rfl,.inr ⟨rfl,rfl⟩,(HB4.out.block _ hsz).trans HC0.out,HB0.out.trans (HB4.out.mono Om),by have:=HB4.out.size;omega⟩
  omega
 have z0:=BE HC0.out;go_wp2_with fail;refine bodyPost_ret (v:=.tuple #[.agg #[.string t],.nilIface]) (by simp[results,Tryz.results150,go_sem,z0]) rfl ?_;exact⟨rfl,HB0.out⟩
theorem LX.of{l:Nat}{s:ByteArray}{w0 w w':World}{ts:List AW}{st p wd e wd' k:Nat}(h:LX l s w0 ts w st p wd)(h1:JI w' l s e e wd' (ts++[(k,s.extract st e)]))(h2:Below l w w')(h3:Lib.Utf8Tabs 7 8 w')(hlt:st<e)(hle:e<=s.size):LX l s w0 (ts++[(k,s.extract st e)]) w' e e wd':=
 ⟨h1,h.B.trans h2,h3,h.hs,h.hl,Nl,hle,by have:=h.nt;simp;omega⟩
def StR(l:Nat)(s:ByteArray)(w0:World)(ts:List AW)(st k e:Nat)(en:Ending)(w':World):Prop:=en=.returned (.func (.func 107) #[] #[])/\∃wd',LX l s w0 (ts++[(k,s.extract st e)]) w' e e wd'
theorem ANq{l:Nat}{s:ByteArray}{w0 w:World}{ts:List AW}{st wd e:Nat}(h:LX l s w0 ts w st st wd)(he:NM s st=e)(hx:e<s.size->AA s e<128/\B9 (AA s e)=false)(hlt:st<e):Calls Tryz.prog 134 #[.pointer (some ⟨l,0,none⟩)] w (StR l s w0 ts st 2 e):=by unfold NM at he;exact TO h rfl rfl rfl rfl he hlt hx
theorem APf{l:Nat}{s:ByteArray}{w0 w:World}{ts:List AW}{st wd e:Nat}(h:LX l s w0 ts w st st wd)(hc:AA s st=34\/AA s st=39)(he:CV s (AA s st) (st+1)=some e):Calls Tryz.prog 129 #[.pointer (some ⟨l,0,none⟩)] w (StR l s w0 ts st 3 e):=by have hq:=IJ he;have hnt:=h.nt;have hss:=h.hs;refine(TL h.S h.hs Nl Om h.U h.hl Om (AA s st) rfl Om Om Om he).mono ?_;rintro en w' ⟨wd',h1,h2,h3,h4⟩;exact⟨h1,wd',h.of h2 h3 h4 Om hq.2⟩
theorem ANt{l:Nat}{s:ByteArray}{w0 w:World}{ts:List AW}{st wd e:Nat}(h:LX l s w0 ts w st (st+1) wd)(h1:st+1<s.size)(hc:AA s (st+1)=34\/AA s (st+1)=39)(he:CV s (AA s (st+1)) (st+2)=some e):Calls Tryz.prog 136 #[.pointer (some ⟨l,0,none⟩)] w (StR l s w0 ts st 14 e):=by have hq:=IJ he;have hnt:=h.nt;have hss:=h.hs;refine(V2 h.S h.hs Om h1 h.U h.hl Om (AA s (st+1)) rfl Om Om Om he).mono ?_;rintro en w' ⟨wd',h1,h2,h3,h4⟩;exact⟨h1,wd',h.of h2 h3 h4 Om hq.2⟩
theorem AL9{l:Nat}{s:ByteArray}{w0 w:World}{ts:List AW}{st wd e:Nat}(h:LX l s w0 ts w st st wd)(hw:LF s st e)(hn:(CA (s.extract st e)).2=true)(hlt:st<e):Calls Tryz.prog 130 #[.pointer (some ⟨l,0,none⟩)] w (StR l s w0 ts st 13 e):=
 WT OL h hw hlt hn
theorem AQt(f:FuncId)(w:World):(binOp .neq 170 (.func (.func f) #[] #[]) .nilFunc).run Tryz.prog w=.ok (.bool true) w:=Kr
theorem AQb(w:World):(binOp .neq 170 .nilFunc .nilFunc).run Tryz.prog w=.ok (.bool false) w:=Kr
theorem ZC{l:Nat}{s:ByteArray}{w0 w:World}{All:List AW}(h:LX l s w0 [] w 0 0 0)(hr:BO s=some All)(hg:LI All) :
 Calls Tryz.prog 79 #[.pointer (some ⟨l,0,none⟩)] w λen w'=>en=.returned (.tuple #[])/\∃a b c,JI w' l s a b c All/\Below l w0 w'/\Lib.Utf8Tabs 7 8 w':=by
 have hss:=h.hs
 have H:=Hd h
 have hr0:BO (s.extract 0 s.size)=some All:=by rw[JK];exact hr
 have HR:=Hd hr0
 have HG:=Hd hg
 clear h hr hg hr0
 have hq1:=AQt
 have hq2:=AQb
 go_enter Tryz.func79,Tryz.ntmps79
 go_wp2_with fail
 go_loopg [2] (2*s.size+2) (λg v2 wr=>
  (v2=.nilFunc/\Hid (∃a b c,JI wr l s a b c All/\Below l w0 wr/\Lib.Utf8Tabs 7 8 wr))\/
  (v2=.func (.func 107) #[] #[]/\∃(ts1 rest1:List AW) (st1 wd1:Nat),g=2*(s.size-st1)+2/\Hid (LX l s w0 ts1 wr st1 st1 wd1)/\Hid (BO (s.extract st1 s.size)=some rest1)/\Hid (LI rest1)/\Hid (ts1++rest1=All))\/
  (∃(f:FuncId) (ts1:List AW) (st1 p wd1 kk e0:Nat) (rest1 rest2:List AW),v2=.func (.func f) #[] #[]/\g=2*(s.size-st1)+1/\Hid (LX l s w0 ts1 wr st1 p wd1)/\Hid (ts1++rest1=All)/\JO s st1 f p kk e0/\OR s st1 kk e0 rest1 rest2/\Hid (LI rest1)))
 case atStart=>exact .inr (.inl ⟨rfl,[],All,0,0,Om,H,HR,HG,rfl⟩)
 rcases hrel with⟨rfl,HE⟩|⟨rfl,ts1,rest1,st1,wd1,hgs,HL,HT,HGR,HAL⟩|⟨f,ts1,st1,p,wd1,kk,e0,rest1,rest2,rfl,hgs,HL,HAL,hst,hcut,HGR⟩
 .go_wp2_with fail
  go_end0;exact⟨rfl,HE.out⟩
 .have hfit:=HL.out.fit
  go_wp2_with (go_at_call 107;refine(TS HL.out HT.out HGR.out HAL.out).mono ?_;rintro e w2 hx;rcases hx with⟨rfl,hx⟩|⟨f,ts2,st2,p2,wd2,k2,e2,r2,r3,rfl,h2,h3,h4,h5,h6,h7⟩)
  .go_roundg 0
   case rel=>exact .inl ⟨rfl,hx⟩
   omega
  go_roundg (2*(s.size-st2)+1)
  case rel=>exact .inr (.inr ⟨f,ts2,st2,p2,wd2,k2,e2,r2,r3,rfl,rfl,h2,h3,h5,h6,h7⟩)
  omega
 have hlt:=hcut.lt
 have hle:=hcut.le
 cases hst with
 |num he hx=>
  go_wp2_with (go_at_call 134;refine(ANq HL.out he hx hlt).mono ?_;rintro e w2 ⟨rfl,wd2,hx⟩;have H2:=Hd hx;clear hx)
  go_roundg (2*(s.size-e0)+2)
  case rel=>exact .inr (.inl ⟨rfl,ts1++[(2,s.extract st1 e0)],rest2,e0,wd2,rfl,H2,hcut.next,DE (hcut.eq▸HGR.out),by show _=_;rw[List.append_assoc,List.singleton_append,<-hcut.eq];exact HAL.out⟩)
  omega
 |str hc he=>
  go_wp2_with (go_at_call 129;refine(APf HL.out hc he).mono ?_;rintro e w2 ⟨rfl,wd2,hx⟩;have H2:=Hd hx;clear hx)
  go_roundg (2*(s.size-e0)+2)
  case rel=>exact .inr (.inl ⟨rfl,ts1++[(3,s.extract st1 e0)],rest2,e0,wd2,rfl,H2,hcut.next,DE (hcut.eq▸HGR.out),by show _=_;rw[List.append_assoc,List.singleton_append,<-hcut.eq];exact HAL.out⟩)
  omega
 |byt h1 hc he=>
  go_wp2_with (go_at_call 136;refine(ANt HL.out h1 hc he).mono ?_;rintro e w2 ⟨rfl,wd2,hx⟩;have H2:=Hd hx;clear hx)
  go_roundg (2*(s.size-e0)+2)
  case rel=>exact .inr (.inl ⟨rfl,ts1++[(14,s.extract st1 e0)],rest2,e0,wd2,rfl,H2,hcut.next,DE (hcut.eq▸HGR.out),by show _=_;rw[List.append_assoc,List.singleton_append,<-hcut.eq];exact HAL.out⟩)
  omega
 |word hw hn=>
  go_wp2_with (go_at_call 130;refine(AL9 HL.out hw hn hlt).mono ?_;rintro e w2 ⟨rfl,wd2,hx⟩;have H2:=Hd hx;clear hx)
  go_roundg (2*(s.size-e0)+2)
  case rel=>exact .inr (.inl ⟨rfl,ts1++[(13,s.extract st1 e0)],rest2,e0,wd2,rfl,H2,hcut.next,DE (hcut.eq▸HGR.out),by show _=_;rw[List.append_assoc,List.singleton_append,<-hcut.eq];exact HAL.out⟩)
  omega
theorem ZE{s:ByteArray}{w:World}{All:List AW}(hU:Lib.Utf8Tabs 7 8 w)(h8:8<w.heap.size)(hs:s.size<=100000)(hr:BO s=some All)(hg:LI All) :
 Calls Tryz.prog 46 #[.string s] w λen w'=>∃A n c,en=.returned (.slice A n c)/\n=All.length/\w'.ownsRow (w.heap.size+1) 118 2 (.slice A n c) n (FH All)/\Below w.heap.size w w':=by
 have hb0:Below w.heap.size w (w.alloc (.cells #[.string s,.int .i64 0,.int .i64 0,.int .i64 0,.slice none 0 0] 133)):=Bl.alloc Nl _
 have hL:LX w.heap.size s w [] (w.alloc (.cells #[.string s,.int .i64 0,.int .i64 0,.int .i64 0,.slice none 0 0] 133)) 0 0 0:=
  ⟨⟨none,0,0,heap_alloc_new _ _,rfl,⟨rfl,.inl ⟨rfl,rfl⟩⟩⟩,hb0,L4 hU (hb0) h8,hs,h8,Nl,Nat.zero_le _,Nat.zero_le _⟩
 have HL:=Hd hL
 have HR:=Hd hr
 have HG:=Hd hg
 clear hL hb0 hr hg hU
 go_enter Tryz.func46,Tryz.ntmps46
 go_upto_region 3 with(go_at_call 79;refine(ZC HL.out HR.out HG.out).mono ?_;rintro e w2 ⟨rfl,a,b,c,⟨A,n,cc,h1,h2,h3⟩,h4,h5⟩)
 obtain⟨_,_,_,_,c4⟩:=EK h1
 subst h2
 have H3:=Hd h3
 have H4:=Hd h4
 clear h1 h3 h4 h5
 go_wp2_with fail
 go_ret
 exact⟨A,_,cc,rfl,rfl,H3.out,H4.out⟩
section
abbrev YI(s:ByteArray):Prop:=AA s 0=43\/AA s 0=45\/BX (AA s 0)=true
abbrev ZX(s:ByteArray):Prop:=AA s 0=34\/AA s 0=39
abbrev ACz(s:ByteArray):Prop:=AA s 0=98/\1<s.size/\(AA s 1=34\/AA s 1=39)
abbrev AFk(s:ByteArray):Prop:=AA s 0=116/\4<=s.size/\s.extract 0 4=PP
abbrev AJd(s:ByteArray):Prop:=AA s 0=102/\5<=s.size/\s.extract 0 5=LQ
inductive TV(s:ByteArray):Nat->Nat->Prop
 |sign (k:Nat) (hk:k<8) (h:GJ (AA s 0)=some k):TV s 1 (5+k)
 |num (n:Nat) (hx:GJ (AA s 0)=none) (h0:YI s) (h:CT s=(n,true)) (hn:¬(n<s.size/\(BX (AA s n)=true\/AA s n=46\/AA s n=43\/AA s n=45\/128<=AA s n))) (hl:¬(n<s.size/\(B9 (AA s n)=true\/AA s n=95))):TV s n 2
 |str (n:Nat) (hx:GJ (AA s 0)=none) (h0:¬YI s) (h1:ZX s) (h:CV s (AA s 0) 1=some n):TV s n 3
 |byt (n:Nat) (hx:GJ (AA s 0)=none) (h0:¬YI s) (h1:¬ZX s) (h2:ACz s) (h:CV s (AA s 1) 2=some n):TV s n 14
 |tru (hx:GJ (AA s 0)=none) (h0:¬YI s) (h1:¬ZX s) (h2:¬ACz s) (h3:AFk s) (h:¬(4<s.size/\AX (AA s 4)=false/\NZ (AA s 4)=false)):TV s 4 4
 |fal (hx:GJ (AA s 0)=none) (h0:¬YI s) (h1:¬ZX s) (h2:¬ACz s) (h3:¬AFk s) (h4:AJd s) (h:¬(5<s.size/\AX (AA s 5)=false/\NZ (AA s 5)=false)):TV s 5 4
 |word (n:Nat) (hx:GJ (AA s 0)=none) (h0:¬YI s) (h1:¬ZX s) (h2:¬ACz s) (h3:¬AFk s) (h4:¬AJd s) (h:T8 s 0=some n) (hw:OD s n=(n,13,true)):TV s n 13
theorem ABe{s:ByteArray}(h:(B3 s).2.2=true)(h1:(B3 s).2.1≠1):TV s (B3 s).1 (B3 s).2.1:=by
 generalize hr:B3 s=r at *;obtain⟨n,k,ok⟩:=r;simp only at h h1 ⊢;subst h;unfold B3 at hr;split at hr
 .rename_i i hi
  simp only[Prod.mk.injEq]at hr;obtain⟨rfl,rfl,_⟩:=hr;exact .sign i (by have:=Q6 hi;omega) hi
 rename_i hx;split at hr
 .rename_i h0
  unfold PG at hr;split at hr
  .simp at hr
  rename_i g1;split at hr
  .simp only[Prod.mk.injEq]at hr;omega
  rename_i g2;simp only[Prod.mk.injEq,and_true]at hr;obtain⟨rfl,rfl⟩:=hr;refine .num _ hx h0 ?_ (λe=>g1 (.inr e)) g2
  cases he:(CT s).2 with
  |false=>exact absurd (.inl he) g1
  |true=>rw[<-he]
 rename_i h0;split at hr
 .rename_i h2
  unfold PE at hr;split at hr
  .rename_i m hm
   simp only[Prod.mk.injEq,and_true]at hr;obtain⟨rfl,rfl⟩:=hr;exact .str _ hx h0 h2 hm
  simp only[Prod.mk.injEq]at hr;omega
 rename_i h2;split at hr
 .rename_i h3
  unfold PE at hr;split at hr
  .rename_i m hm
   simp only[Prod.mk.injEq,and_true]at hr;obtain⟨rfl,rfl⟩:=hr;exact .byt _ hx h0 h2 h3 hm
  simp only[Prod.mk.injEq]at hr;omega
 rename_i h3;split at hr
 .rename_i h4
  unfold DJ at hr;split at hr
  .simp at hr
  rename_i h5;simp only[Prod.mk.injEq,and_true]at hr;obtain⟨rfl,rfl⟩:=hr;exact .tru hx h0 h2 h3 h4 h5
 rename_i h4;split at hr
 .rename_i h5
  unfold DJ at hr;split at hr
  .simp at hr
  rename_i h6;simp only[Prod.mk.injEq,and_true]at hr;obtain⟨rfl,rfl⟩:=hr;exact .fal hx h0 h2 h3 h4 h5 h6
 rename_i h5;split at hr
 .simp at hr
 rename_i m hm;have hw:=hr;unfold OD at hr;split at hr
 .simp at hr
 split at hr
 .simp only[Prod.mk.injEq]at hr;omega
 simp only[Prod.mk.injEq,and_true]at hr;obtain⟨rfl,rfl⟩:=hr;exact .word _ hx h0 h2 h3 h4 h5 hm hw
theorem AEa{s:ByteArray}{n k:Nat}(h:TV s n k):B3 s=(n,k,true):=by
 cases h with
 |sign i hk h=>unfold B3;rw[h]
 |num _ hx h0 h hn hl=>unfold B3;rw[hx];simp only;rw[if_pos h0];unfold PG;rw[h];simp only;rw[if_neg (by rintro (e|e);cases e;exact hn e),if_neg hl]
 |str _ hx h0 h1 h=>unfold B3;rw[hx];simp only;rw[if_neg h0,if_pos h1,h];rfl
 |byt _ hx h0 h1 h2 h=>unfold B3;rw[hx];simp only;rw[if_neg h0,if_neg h1,if_pos h2,h];rfl
 |tru hx h0 h1 h2 h3 h=>unfold B3;rw[hx];simp only;rw[if_neg h0,if_neg h1,if_neg h2,if_pos h3];unfold DJ;rw[if_neg h]
 |fal hx h0 h1 h2 h3 h4 h=>unfold B3;rw[hx];simp only;rw[if_neg h0,if_neg h1,if_neg h2,if_neg h3,if_pos h4];unfold DJ;rw[if_neg h]
 |word _ hx h0 h1 h2 h3 h4 h hw=>unfold B3;rw[hx];simp only;rw[if_neg h0,if_neg h1,if_neg h2,if_neg h3,if_neg h4,h];exact hw
theorem AAi{s:ByteArray}{ts:List AW}(h:BO s=some ts):ts≠[]:=by
 intro e;subst e;unfold BO at h;split at h
 .cases h
 split at h
 .exact AAi h rfl
 split at h
 .cases h
 split at h
 .cases h
 split at h
 .rename_i hh
  cases ht:BO (s.extract (B3 s).1 s.size) with
  |none=>rw[ht]at h;cases h
  |some l=>rw[ht]at h;simp at h
 cases h
 termination_by s.size
 decreasing_by simp only[ByteArray.size_extract];omega
section
variable{s u:ByteArray}
theorem JE(s u:ByteArray):(s++u).data.toList=s.data.toList++u.data.toList:=by simp only[ByteArray.data_append,Array.toList_append]
theorem EE{i:Nat}(h:i<s.size):AA (s++u) i=AA s i:=by unfold AA;rw[JE,List.getD_eq_getElem?_getD,List.getD_eq_getElem?_getD,List.getElem?_append_left (show i<s.data.toList.length from h)]
theorem AP7(j:Nat):AA (s++u) (s.size+j)=AA u j:=by unfold AA;rw[JE,List.getD_eq_getElem?_getD,List.getD_eq_getElem?_getD,List.getElem?_append_right (by show s.size<=s.size+j;omega)];rw[show s.size+j-s.data.toList.length=j from Nat.add_sub_cancel_left _ _]
theorem JU:AA (s++u) s.size=AA u 0:=AP7 0
theorem WB{a n:Nat}(h:n<=s.size):(s++u).extract a n=s.extract a n:=by apply B8;rw[B6,B6,JE,List.take_append_of_le_length (show n<=s.data.toList.length from h)]
theorem AJa{n:Nat}(h:n<=s.size):(s++u).extract n (s++u).size=s.extract n s.size++u:=by apply B8;have h1:s.data.toList.length=s.size:=rfl;have h2:u.data.toList.length=u.size:=rfl;rw[JE,B6,B6,JE,List.take_of_length_le (by rw[List.length_append,ByteArray.size_append];omega),List.take_of_length_le Om,List.drop_append_of_le_length Om]
variable(hc:AA u 0=32\/AA u 0=125)
include hc
theorem MI{m:Int}(hm:m<=57){i:Nat}(hi:i<=s.size):BG (s++u) m i=BG s m i:=by
 have hz:=ByteArray.size_append (a:=s) (b:=u);by_cases h:i<s.size/\48<=AA s i/\AA s i<=m
 .rw[G9 h,G9 (s:=s++u) (by rw[EE h.1];exact⟨Om,h.2⟩)]
  exact MI hm Om
 rw[GC h,GC];rintro ⟨h1,h2,h3⟩;by_cases e:i<s.size
 .rw[EE e]at h2 h3;exact h ⟨e,h2,h3⟩
 obtain rfl:i=s.size:=Om;rw[JU]at h2 h3;omega
 termination_by s.size-i
theorem AAh{i:Nat}(hi:i<=s.size):JP (s++u) i=JP s i:=by
 have hz:=ByteArray.size_append (a:=s) (b:=u);by_cases h:i<s.size/\DD (AA s i)=true
 .rw[I0 h,I0 (s:=s++u) (by rw[EE h.1];exact⟨Om,h.2⟩)]
  exact AAh Om
 rw[G1 h,G1];rintro ⟨h1,h2⟩;by_cases e:i<s.size
 .rw[EE e]at h2;exact h ⟨e,h2⟩
 obtain rfl:i=s.size:=Om;rw[JU]at h2;have:=JL h2;omega
 termination_by s.size-i
theorem T7{k:Nat}{v:Int}(hk:k<=s.size)(hv:v≠32/\v≠125):(k<(s++u).size/\AA (s++u) k=v)=(k<s.size/\AA s k=v):=by
 have hz:=ByteArray.size_append (a:=s) (b:=u);apply propext;by_cases e:k<s.size
 .rw[EE e];exact⟨λh=>⟨e,h.2⟩,λh=>⟨Om,h.2⟩⟩
 obtain rfl:k=s.size:=Om;rw[JU];exact⟨λh=>Om,λh=>Om⟩
theorem AEn:low (AA u 0)≠101/\low (AA u 0)≠120:=by rcases hc with h|h<;>rw[h]<;>decide
theorem AK8{sg:Bool}{k:Nat}(hu:0<u.size)(hk:k<=s.size):ntZ (s++u) sg k=ntZ s sg k:=by
 have hz:=ByteArray.size_append (a:=s) (b:=u);have hlo:=AEn hc;unfold ntZ;refine ite_congr (T7 hc hk De) (λh1=>?_) (λ_=>ite_congr (T7 hc hk De) (λh1=>?_) (λ_=>?_))
 .rw[AAh hc Om]
  have:AA (s++u) (k+1)=AA s (k+1)\/¬k+1<JP s (k+1):=by
   by_cases e:k+1<s.size
   .exact .inl (EE e)
   right;have:=O1 s (k+1) Om;omega
  simp only;rcases this with h|h
  .rw[h]
  simp[h]
 .rw[MI hc De Om]
  have hle:=EV s 55 (k+1) Om;simp only;congr 2;by_cases e:BG s 55 (k+1)=s.size
  .rw[e,JU];simp[hlo]
  rw[EE Om];have e2:¬BG s 55 (k+1)=(s++u).size:=Om;rw[decide_eq_false e,decide_eq_false e2]
 rw[MI hc De hk];have hle:=EV s 55 k hk;simp only;congr 2;by_cases e:BG s 55 k=s.size
 .rw[e,JU];simp[hlo]
 rw[EE Om];have e2:¬BG s 55 k=(s++u).size:=Om;rw[decide_eq_false e,decide_eq_false e2]
theorem AL8{e2:Nat}(hu:0<u.size)(hle:e2<=s.size):ntT (s++u) e2=ntT s e2:=by
 have hz:=ByteArray.size_append (a:=s) (b:=u);have hlo:=AEn hc;unfold ntT;have h3:(e2<(s++u).size/\low (AA (s++u) e2)=101)=(e2<s.size/\low (AA s e2)=101):=by
  apply propext;by_cases e:e2<s.size
  .rw[EE e];exact⟨λh=>⟨e,h.2⟩,λh=>⟨Om,h.2⟩⟩
  obtain rfl:e2=s.size:=Om;rw[JU];exact⟨λh=>absurd h.2 hlo.1,λh=>Om⟩
 refine ite_congr h3 (λh4=>?_) (λ_=>rfl);have h5:(e2+1<(s++u).size/\(AA (s++u) (e2+1)=43\/AA (s++u) (e2+1)=45))=(e2+1<s.size/\(AA s (e2+1)=43\/AA s (e2+1)=45)):=by
  apply propext;by_cases e:e2+1<s.size
  .rw[EE e];exact⟨λh=>⟨e,h.2⟩,λh=>⟨Om,h.2⟩⟩
  have e':e2+1=s.size:=Om;rw[e',JU];exact⟨λh=>Om,λh=>Om⟩
 have h6:(if e2+1<s.size/\(AA s (e2+1)=43\/AA s (e2+1)=45) then e2+2 else e2+1)<=s.size:=by split<;>omega
 have h7:(if e2+1<(s++u).size/\(AA (s++u) (e2+1)=43\/AA (s++u) (e2+1)=45) then e2+2 else e2+1)=(if e2+1<s.size/\(AA s (e2+1)=43\/AA s (e2+1)=45) then e2+2 else e2+1):=ite_congr h5 (λ_=>rfl) (λ_=>rfl);rw[h7];unfold ntE;rw[MI hc De h6]
theorem AMi{i:Nat}(hu:0<u.size)(hi:i<=s.size):ntD (s++u) i=ntD s i:=by
 unfold ntD;have hle:=EV s 57 i hi;rw[MI hc De hi];split
 .rfl
 have h2:(if BG s 57 i<(s++u).size/\AA (s++u) (BG s 57 i)=46 then BG (s++u) 57 (BG s 57 i+1) else BG s 57 i)=(if BG s 57 i<s.size/\AA s (BG s 57 i)=46 then BG s 57 (BG s 57 i+1) else BG s 57 i):=
  ite_congr (T7 hc hle De) (λh=>MI hc De Om) (λ_=>rfl)
 have hle2:(if BG s 57 i<s.size/\AA s (BG s 57 i)=46 then BG s 57 (BG s 57 i+1) else BG s 57 i)<=s.size:=by
  split
  .exact EV s 57 _ Om
  exact hle
 rw[h2];exact AL8 hc hu hle2
theorem AB1(hu:0<u.size)(hs:0<s.size):CT (s++u)=CT s:=by
 have hi:DV (s++u)=DV s:=by unfold DV DL;rw[EE hs]
 have h1:DV s<=s.size:=by unfold DV;split<;>omega
 have h2:DL (s++u)=DL s:=by unfold DL;rw[EE hs]
 rw[FX,FX,hi,h2];exact ite_congr (T7 hc h1 De) (λh=>AK8 hc hu Om) (λ_=>AMi hc hu h1)
omit hc in
theorem Q7{q:Int}{k n:Nat}(h:CV s q k=some n):CV (s++u) q k=some n:=by
 have hz:=ByteArray.size_append (a:=s) (b:=u);by_cases hk:k<s.size
 .by_cases h1:AA s k=92
  .rw[EH hk h1]at h
   rw[EH Om (by rw[EE hk];exact h1)];exact Q7 h
  by_cases h2:AA s k=q
  .rw[FO hk h1 h2]at h
   rw[FO Om (by rw[EE hk];exact h1) (by rw[EE hk];exact h2)];exact h
  rw[DU hk h1 h2]at h;rw[DU Om (by rw[EE hk];exact h1) (by rw[EE hk];exact h2)];exact Q7 h
 rw[GM hk]at h;cases h
 termination_by s.size-k
omit hc in
theorem AE9{i n:Nat}(hi:i<=s.size)(h:T8 s i=some n)(hn:n<s.size\/AA u 0=32):T8 (s++u) i=some n:=by
 have hz:=ByteArray.size_append (a:=s) (b:=u);by_cases h1:i<s.size/\AX (AA s i)=false
 .by_cases h2:128<=AA s i
  .rw[OX h1 h2]at h;cases h
  rw[KY h1 h2]at h;rw[KY (by rw[EE h1.1];exact⟨Om,h1.2⟩) (by rw[EE h1.1];exact h2)];exact AE9 Om h hn
 rw[MO h1]at h
 cases h
 rw[MO];rintro ⟨h2,h3⟩;by_cases e:i<s.size
 .rw[EE e]at h3;exact h1 ⟨e,h3⟩
 obtain rfl:i=s.size:=Om;rw[JU]at h3;rcases hn with hn|hn
 .omega
 rw[hn]at h3;exact absurd h3 De
 termination_by s.size-i
theorem ABm{m:Nat}{v:ByteArray}(hv:v.size=m)(hl:∀i,i<m->AA v i≠32/\AA v i≠125)(h:m<=(s++u).size/\(s++u).extract 0 m=v):m<=s.size/\s.extract 0 m=v:=by
 by_cases e:m<=s.size
 .rw[WB e]at h;exact⟨e,h.2⟩
 exfalso;have:=BU (s++u) m s.size Om;rw[h.2,JU]at this;have:=hl s.size Om;omega
theorem AOn{n k:Nat}(hu:0<u.size)(hs:0<s.size)(h:TV s n k)(hn:n<=s.size)(hk:k=13->n<s.size\/AA u 0=32):TV (s++u) n k:=by
 have hz:=ByteArray.size_append (a:=s) (b:=u);have a0:AA (s++u) 0=AA s 0:=EE hs;have hnum:YI (s++u)=YI s:=by unfold YI;rw[a0]
 have hquo:ZX (s++u)=ZX s:=by unfold ZX;rw[a0]
 have hbyt:ACz (s++u)=ACz s:=by
  unfold ACz;rw[a0];apply propext;by_cases e:1<s.size
  .rw[EE e];exact⟨λh=>⟨h.1,e,h.2.2⟩,λh=>⟨h.1,Om,h.2.2⟩⟩
  have e1:1=s.size:=Om;have:AA (s++u) 1=AA u 0:=by rw[e1];exact JU
  rw[this];exact⟨λh=>Om,λh=>Om⟩
 have htru:AFk (s++u)=AFk s:=by unfold AFk;rw[a0];exact propext ⟨λh=>⟨h.1,ABm hc De De h.2⟩,λh=>⟨h.1,Om,by rw[WB h.2.1];exact h.2.2⟩⟩
 have hfal:AJd (s++u)=AJd s:=by unfold AJd;rw[a0];exact propext ⟨λh=>⟨h.1,ABm hc De De h.2⟩,λh=>⟨h.1,Om,by rw[WB h.2.1];exact h.2.2⟩⟩
 have hend:∀m,m<=s.size->¬(m<s.size/\AX (AA s m)=false/\NZ (AA s m)=false)->¬(m<(s++u).size/\AX (AA (s++u) m)=false/\NZ (AA (s++u) m)=false):=by
  rintro m hm h ⟨h1,h2,h3⟩;by_cases e:m<s.size
  .rw[EE e]at h2 h3;exact h ⟨e,h2,h3⟩
  obtain rfl:m=s.size:=Om;rw[JU]at h2 h3;rcases hc with e|e
  .rw[e]at h2;exact absurd h2 De
  rw[e]at h3;exact absurd h3 De
 have hnx:∀m,m<=s.size->∀P:Int->Prop,¬P 32->¬P 125->¬(m<s.size/\P (AA s m))->¬(m<(s++u).size/\P (AA (s++u) m)):=by
  rintro m hm P p1 p2 h ⟨h1,h2⟩;by_cases e:m<s.size
  .rw[EE e]at h2;exact h ⟨e,h2⟩
  obtain rfl:m=s.size:=Om;rw[JU]at h2;rcases hc with e|e<;>rw[e]at h2
  .exact p1 h2
  exact p2 h2
 cases h with
 |sign i hi h=>exact .sign i hi (by rw[a0];exact h)
 |num _ hx h0 h h1 h2=>exact .num _ (by rw[a0];exact hx) (by rw[hnum];exact h0) (by rw[AB1 hc hu hs];exact h) (hnx _ hn (λc=>BX c=true\/c=46\/c=43\/c=45\/128<=c) De De h1) (hnx _ hn (λc=>B9 c=true\/c=95) De De h2)
 |str _ hx h0 h1 h=>exact .str _ (by rw[a0];exact hx) (by rw[hnum];exact h0) (by rw[hquo];exact h1) (by rw[a0];exact Q7 h)
 |byt _ hx h0 h1 h2 h=>exact .byt _ (by rw[a0];exact hx) (by rw[hnum];exact h0) (by rw[hquo];exact h1) (by rw[hbyt];exact h2) (by rw[EE h2.2.1];exact Q7 h)
 |tru hx h0 h1 h2 h3 h=>exact .tru (by rw[a0];exact hx) (by rw[hnum];exact h0) (by rw[hquo];exact h1) (by rw[hbyt];exact h2) (by rw[htru];exact h3) (hend 4 hn h)
 |fal hx h0 h1 h2 h3 h4 h=>exact .fal (by rw[a0];exact hx) (by rw[hnum];exact h0) (by rw[hquo];exact h1) (by rw[hbyt];exact h2) (by rw[htru];exact h3) (by rw[hfal];exact h4) (hend 5 hn h)
 |word _ hx h0 h1 h2 h3 h4 h hw=>refine .word _ (by rw[a0];exact hx) (by rw[hnum];exact h0) (by rw[hquo];exact h1) (by rw[hbyt];exact h2) (by rw[htru];exact h3) (by rw[hfal];exact h4) (AE9 (Nat.zero_le _) h (hk rfl)) ?_;unfold OD at hw ⊢;rw[a0,WB hn,WB hn];exact hw
omit hc in
theorem U7(h0:s.size=0){l:List AW}(h:BO s=some (l++[(0,⟨#[]⟩)])):BO (s++u)=(BO u).map (l++·):=by
 rw[GZ h0]at h;have:l=[]:=by
  cases l with
  |nil=>rfl
  |cons t l=>simp at h
 rw[this];have e:s++u=u:=by apply B8;rw[JE,List.length_eq_zero_iff.1 (show s.data.toList.length=0 from h0)];rfl
 rw[e];simp
theorem O3(hu:0<u.size):∀(N:Nat) (s:ByteArray),s.size<=N->∀l,BO s=some (l++[(0,⟨#[]⟩)])->(∀t∈l,t.1≠0/\t.1≠1)->(AA u 0=32\/∀x l',l≠l'++[(13,x)])->BO (s++u)=(BO u).map (l++·)
 |0,s,hN,l,h,hl,hk=>U7 Om h
 |N+1,s,hN,l,h,hl,hk=>by
  have hz:=ByteArray.size_append (a:=s) (b:=u);by_cases h0:s.size=0
  .exact U7 h0 h
  .
   cases hb:AX (AA s 0) with
   |true=>rw[F2 h0 hb]at h;rw[F2 Om (by rw[EE Om];exact hb),AJa Om];exact O3 hu N _ (by rw[AU _ _ Om];omega) l h hl hk
   |false=>
    cases h1:(B3 s).2.2 with
    |false=>rw[KT h0 hb h1]at h;cases h
    |true=>
     by_cases h2:(B3 s).2.1=1
     .rw[L9 h0 hb h1 h2]at h
      exfalso
      cases l with
      |nil=>simp at h
      |cons t l=>simp at h
     have hlen:=ML Om hb h1 h2;rw[GW h0 hb h1 h2 ⟨hlen.1,hlen.2.1⟩]at h
     cases ht:BO (s.extract (B3 s).1 s.size) with
     |none=>rw[ht]at h;cases h
     |some l2=>
      rw[ht]at h;simp only[Option.map_some,Option.some.injEq]at h
      cases l with
      |nil=>exfalso;simp only[List.nil_append,List.cons.injEq]at h;exact AAi ht h.2
      |cons t l=>
       simp only[List.cons_append,List.cons.injEq]at h;obtain⟨e1,e2⟩:=h;subst e2;have hv:=ABe h1 h2;have hwd:(B3 s).2.1=13->(B3 s).1<s.size\/AA u 0=32:=λe13=>by
        rcases hk with hk|hk
        .exact .inr hk
        refine .inl ?_;rcases Nat.lt_or_ge (B3 s).1 s.size with hlt|hge
        .exact hlt
        exfalso;have he:(s.extract (B3 s).1 s.size).size=0:=by rw[AU _ _ hlen.2.1];omega
        rw[GZ he]at ht
        cases l with
        |nil=>exact hk (s.extract 0 (B3 s).1) [] (by rw[<-e1,e13];rfl)
        |cons q l=>simp at ht
       have hva:=AOn hc hu Om hv hlen.2.1 hwd;have ha:=AEa hva;rw[GW (s:=s++u) Om (by rw[EE Om];exact hb) (by rw[ha]) (by rw[ha];exact h2) (by rw[ha];exact⟨hlen.1,by have:=hlen.2.1;show (B3 s).1<=_;omega⟩),ha];simp only;rw[AJa hlen.2.1,WB hlen.2.1,O3 hu N _ (by rw[AU _ _ hlen.2.1];omega) l ht (λt ht=>hl t (by simp[ht])) (hk.imp id λhk x l' e=>hk x (t::l') (by rw[e];rfl)),<-e1]
       cases BO u<;>rfl
end
end
