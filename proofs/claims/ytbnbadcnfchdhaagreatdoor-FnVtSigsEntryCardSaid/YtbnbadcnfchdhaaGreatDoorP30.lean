/- Lemmas for FnVtSigsEntry; no conditions. -/
import Derived.Test.YtbnbadcnfchdhaaGreatDoorP29
set_option maxRecDepth 100000
set_option maxHeartbeats 16000000
set_option linter.all false
namespace Go.Proofs.YtbnbadcnfchdhaaGreatDoor
open Go.RowKit
theorem QD{c:Int}(h:(BV c||decide (c=118))=true):c=121\/c=98\/c=110\/c=113\/c=105\/c=117\/c=120\/c=116\/c=100\/c=115\/c=103\/c=111\/c=118\/c=104:=by unfold BV at h;simp only[Bool.or_eq_true,decide_eq_true_eq]at h;omega
theorem YL(t:ByteArray)(a e:Int){n:Nat}(hn:BI t a e=n)(h0:0<n)(u:ByteArray)(i:Nat)(hu:∀j,j<n->AA u (i+j)=AA t j)(hi:i+n<=u.size)(d:Int)(hd:1<=d):ZD u i d=ZD u (i+n) d:=by
 have hz:¬(t.size=0\/a<0\/e<0):=λh=>by rw[DA h]at hn;omega
 by_cases h1:(BV (AA t 0)||decide (AA t 0=118))=true
 .rw[IR hz h1]at hn
  subst hn;have:=QD h1;have h2:=hu 0 Om;rw[Nat.add_zero]at h2;rw[LZ Om Om Om Om,if_neg Om]
 by_cases h2:AA t 0=97
 .have hu0:=hu 0 Om
  rw[Nat.add_zero]at hu0;by_cases h3:1<t.size/\AA t 1=123
  .rw[G6 hz h2 h3]at hn
   split at hn
   .omega
   rename_i h4;split at hn
   .omega
   rename_i h5;generalize hm:BI (t.extract 3 t.size) (a-1) (e-1)=m at *;have hb:(BV (AA t 2)||decide (AA t 2=118))=true:=by simp only[not_or,Bool.not_eq_false]at h4;simp[h4.2]
   have hb2:=QD hb;have hu1:=hu 1 Om;have hu2:=hu 2 Om;have hu3:=hu (m+3) Om;rw[LZ Om Om Om Om,if_neg Om,ZJ Om Om,if_neg Om,LZ Om (by rw[show i+1+1=i+2 by omega];omega) (by rw[show i+1+1=i+2 by omega];omega) (by rw[show i+1+1=i+2 by omega];omega),if_neg Om];have ih:=YL (t.extract 3 t.size) (a-1) (e-1) hm Om u (i+1+1+1) (λj hj=>by rw[BC,<-hu (3+j) Om];congr 1;omega) Om (d+1) Om;rw[ih,VY Om (by rw[show i+1+1+1+m=i+(m+3) by omega];omega),if_neg Om];congr 1
   .omega
   omega
  rw[KO hz h2 h3]at hn;split at hn
  .rename_i h4
   generalize hm:BI (t.extract 1 t.size) (a-1) e=m at *;have hlt:t.size-1<t.size:=Om;rw[LZ Om Om Om Om,if_neg Om];have ih:=YL (t.extract 1 t.size) (a-1) e hm h4 u (i+1) (λj hj=>by rw[BC,<-hu (1+j) Om];congr 1;omega) Om d hd;rw[ih];congr 1;omega
  omega
 rw[LU hz (by simpa using h1) h2]at hn;omega
 termination_by t.size
 decreasing_by all_goals (simp only[ByteArray.size_extract];omega)
theorem AMl{s:ByteArray}{a e:Int}{m:Nat}(h2:AA s 1=123)(hb:BV (AA s 2)=true)(hm:BI (s.extract 3 s.size) (a-1) (e-1)=m)(h0:0<m)(hs:m+4<=s.size)(h3:AA s (m+3)=125):ZD (s.extract 1 s.size) 0 0=some (m+2):=by
 have hz:(s.extract 1 s.size).size=s.size-1:=AU _ _ Om;have hb2:=QD (c:=AA s 2) (by simp[hb]);have e0:AA (s.extract 1 s.size) 0=123:=by rw[BC];exact h2
 have e1:AA (s.extract 1 s.size) (0+1)=AA s 2:=by rw[BC]
 rw[ZJ Om e0,if_neg Om,LZ Om Om Om Om,if_neg Om];rw[YL (s.extract 3 s.size) (a-1) (e-1) hm h0 (s.extract 1 s.size) (0+1+1) (λj hj=>by rw[BC,BC];congr 1;omega) Om (0+1) Om];rw[VY Om (by rw[BC,<-h3];congr 1;omega),if_pos Om];congr 1;omega
theorem AE6(s:ByteArray)(a b:Nat):s.extract a b=(s.extract a s.size).extract 0 (b-a):=by apply B8;rw[B6,B6,B6,List.drop_zero,List.take_of_length_le (show s.data.toList.length<=s.size by simp),List.drop_take]
def VsR(s:ByteArray)(n:Nat)(w:World)(e:Ending)(w':World):Prop:=e=.returned (.tuple #[.nilIface,.string (s.extract n s.size)])/\Below w.heap.size w w'
def VsH(N:Nat):Prop:=∀(s:ByteArray),s.size<=N->s.size<=100000->∀(A E:Int),0<=A->0<=E->∀n,BI s (32-A) (32-E)=n->0<n->∀(w:World) (b:Nat),w.heap[b]?=some (.cells #[.int .i64 A,.int .i64 0,.int .i64 E] 254 (0,0))->
 Calls Tryz.prog 171 #[.string s,.pointer (some ⟨b,0,none⟩)] w (VsR s n w)
theorem AJe(s:ByteArray)(hs:s.size<=100000)(A E:Int)(hA:A<=32)(hE:E<=32)(hp:0<s.size)(hb:(BV (AA s 0)||decide (AA s 0=118))=true)(w:World)(b:Nat)(h:w.heap[b]?=some (.cells #[.int .i64 A,.int .i64 0,.int .i64 E] 254 (0,0))):Calls Tryz.prog 171 #[.string s,.pointer (some ⟨b,0,none⟩)] w (VsR s 1 w):=by
 have HV:=Hd (I8 A E hA hE h);have e0:=AJ hp;obtain⟨n0,n1,n2⟩:=N7 hp;have hpi:(0:Int)<(s.size:Int):=Om;have hp1:(1:Int)<=(s.size:Int):=Om;have hr:=QD hb;clear hb h;generalize AA s 0=c at *;rcases hr with rfl|rfl|rfl|rfl|rfl|rfl|rfl|rfl|rfl|rfl|rfl|rfl|rfl|rfl
 all_goals
  go_enter Tryz.func171,Tryz.ntmps171;go_wp2_with (go_at_call 188;refine HV.out.mono ?_;rintro e w2 ⟨rfl,rfl⟩);go_quiet (fail);go_wp2_with fail
  first|(rw[Exit.noGoto_ret];go_ret2)|go_ret2
  exact⟨by first|rfl|simp,B7 Bl _⟩
theorem AO4(N:Nat)(ih:VsH N)(s:ByteArray)(hsN:s.size<=N+1)(hs:s.size<=100000)(A E:Int)(hA0:0<=A)(hE0:0<=E)(h2:AA s 0=97)(h3:¬(1<s.size/\AA s 1=123)){n:Nat}(hn:BI s (32-A) (32-E)=n)(h0:0<n)(w:World)(b:Nat)(h:w.heap[b]?=some (.cells #[.int .i64 A,.int .i64 0,.int .i64 E] 254 (0,0))):Calls Tryz.prog 171 #[.string s,.pointer (some ⟨b,0,none⟩)] w (VsR s n w):=by
 have hz:¬(s.size=0\/32-A<0\/32-E<0):=λh=>by rw[DA h]at hn;omega
 have hA:A<=32:=Om;have hE:E<=32:=Om;have hp:0<s.size:=Om;have hbl:b<w.heap.size:=(Array.getElem?_eq_some_iff.1 h).1;have HV:=Hd (λW (hW:Below w.heap.size w W)=>I8 A E hA hE ((hW.block b hbl).trans h));obtain⟨c0,c1,c2⟩:=DT h;rw[KO hz h2 h3]at hn;have hm:0<BI (s.extract 1 s.size) (32-(A+1)) (32-E):=by
  rw[show 32-(A+1)=32-A-1 by omega];split at hn
  .assumption
  omega
 obtain⟨m,hmm⟩:∃m,BI (s.extract 1 s.size) (32-(A+1)) (32-E)=m:=⟨_,rfl⟩;rw[hmm]at hm;rw[show 32-A-1=32-(A+1) by omega,hmm,if_pos hm]at hn;have hsz:(s.extract 1 s.size).size=s.size-1:=AU _ _ hp;have IH:=Hd (λ(W:World) (g:Nat) hg=>ih (s.extract 1 s.size) Om Om (A+1) E Om hE0 m hmm hm W g hg);have hle:=Q8 _ (s.extract 1 s.size) Nl (32-(A+1)) (32-E);have h1:1<s.size:=Om;have e0:=AJ hp;have e1:=AJ h1;rw[h2]at e0;have u1:(AA s 1==123)=false:=by rw[Bn];exactλe=>h3 ⟨h1,e⟩
 obtain⟨n0,n1,n2⟩:=N7 hp;have hpi:(0:Int)<(s.size:Int):=Om;have hp1:(1:Int)<=(s.size:Int):=Om;have hp2:(1:Int)<(s.size:Int):=Om;have HF:=Hd (show (s.extract 1 s.size).extract m (s.size-1)=s.extract n s.size by rw[<-hsz,M3,<-hn];congr 1;omega);clear hz hn hmm h3 h2 hle ih;generalize AA s 1=d1 at *;go_enter Tryz.func171,Tryz.ntmps171;go_upto_region 40 with(go_at_call 188;refine(HV.out _ (by exact Bl)).mono ?_;rintro e w2 ⟨rfl,rfl⟩);go_region_held3 (λW=>W.cell? ⟨b,0,none⟩=some (.int .i64 A)/\W.cell? ⟨b,1,none⟩=some (.int .i64 0)/\W.cell? ⟨b,2,none⟩=some (.int .i64 E)/\Below w.heap.size w W) (first|exact⟨c0,c1,c2,Bl.drew⟩|exact⟨(HB3.out.cell (p:=⟨b,0,none⟩) hbl).trans c0,(HB3.out.cell (p:=⟨b,1,none⟩) hbl).trans c1,(HB3.out.cell (p:=⟨b,2,none⟩) hbl).trans c2,HB3.out⟩|exact⟨(HB4.out.cell (p:=⟨b,0,none⟩) hbl).trans c0,(HB4.out.cell (p:=⟨b,1,none⟩) hbl).trans c1,(HB4.out.cell (p:=⟨b,2,none⟩) hbl).trans c2,HB4.out⟩) (first|(go_at_call 190;refine(IZ A 0 E Om Om _).mono ?_;rintro e w3 ⟨rfl,hh,hs3,hb3⟩;have HH3:=Hd hh;have HB3:=Hd (show Below w.heap.size w w3 from Bl.drew.trans hb3);clear hh hb3)|(go_at_call 171;refine(IH.out _ _ HH3.out).mono ?_;rintro e w4 ⟨rfl,hb4⟩;have HB4:=Hd (show Below w.heap.size w w4 from HB3.out.trans (hb4.mono HB3.out.size));clear hb4));go_wp2_with fail
 first|(rw[Exit.noGoto_ret];go_ret2)|go_ret2
 exact⟨by rw[<-HF.out];rfl,HB4.out⟩
theorem ADo(s:ByteArray)(hs:s=⟨#[98,111,111,108,101,97,110]⟩)(w:World):Calls Tryz.prog 77 #[.string s] w λe w'=>e=.returned (.tuple #[.string ⟨#[98]⟩,.bool true])/\w=w':=by
 have b0:(s.toList==[98,111,111,108,101,97,110])=true:=by rw[AE,hs];decide
 clear hs;go_enter Tryz.func77,Tryz.ntmps77;go_wp2_with fail
 first|(rw[Exit.noGoto_ret];go_ret2)|go_ret2
 exact⟨rfl,rfl⟩
theorem AMv(s:ByteArray)(hs:s=⟨#[98,121,116,101]⟩)(w:World):Calls Tryz.prog 77 #[.string s] w λe w'=>e=.returned (.tuple #[.string ⟨#[121]⟩,.bool true])/\w=w':=by
 have b0:(s.toList==[98,111,111,108,101,97,110])=false:=by rw[AE,hs];decide
 have b1:(s.toList==[98,121,116,101])=true:=by rw[AE,hs];decide
 clear hs;go_enter Tryz.func77,Tryz.ntmps77;go_wp2_with fail
 first|(rw[Exit.noGoto_ret];go_ret2)|go_ret2
 exact⟨rfl,rfl⟩
theorem AIb(s:ByteArray)(hs:s=⟨#[105,110,116,49,54]⟩)(w:World):Calls Tryz.prog 77 #[.string s] w λe w'=>e=.returned (.tuple #[.string ⟨#[110]⟩,.bool true])/\w=w':=by
 have b0:(s.toList==[98,111,111,108,101,97,110])=false:=by rw[AE,hs];decide
 have b1:(s.toList==[98,121,116,101])=false:=by rw[AE,hs];decide
 have b2:(s.toList==[105,110,116,49,54])=true:=by rw[AE,hs];decide
 clear hs;go_enter Tryz.func77,Tryz.ntmps77;go_wp2_with fail
 first|(rw[Exit.noGoto_ret];go_ret2)|go_ret2
 exact⟨rfl,rfl⟩
theorem AF7(s:ByteArray)(hs:s=⟨#[117,105,110,116,49,54]⟩)(w:World):Calls Tryz.prog 77 #[.string s] w λe w'=>e=.returned (.tuple #[.string ⟨#[113]⟩,.bool true])/\w=w':=by
 have b0:(s.toList==[98,111,111,108,101,97,110])=false:=by rw[AE,hs];decide
 have b1:(s.toList==[98,121,116,101])=false:=by rw[AE,hs];decide
 have b2:(s.toList==[105,110,116,49,54])=false:=by rw[AE,hs];decide
 have b3:(s.toList==[117,105,110,116,49,54])=true:=by rw[AE,hs];decide
 clear hs;go_enter Tryz.func77,Tryz.ntmps77;go_wp2_with fail
 first|(rw[Exit.noGoto_ret];go_ret2)|go_ret2
 exact⟨rfl,rfl⟩
theorem AIv(s:ByteArray)(hs:s=⟨#[105,110,116,51,50]⟩)(w:World):Calls Tryz.prog 77 #[.string s] w λe w'=>e=.returned (.tuple #[.string ⟨#[105]⟩,.bool true])/\w=w':=by
 have b0:(s.toList==[98,111,111,108,101,97,110])=false:=by rw[AE,hs];decide
 have b1:(s.toList==[98,121,116,101])=false:=by rw[AE,hs];decide
 have b2:(s.toList==[105,110,116,49,54])=false:=by rw[AE,hs];decide
 have b3:(s.toList==[117,105,110,116,49,54])=false:=by rw[AE,hs];decide
 have b4:(s.toList==[105,110,116,51,50])=true:=by rw[AE,hs];decide
 clear hs;go_enter Tryz.func77,Tryz.ntmps77;go_wp2_with fail
 first|(rw[Exit.noGoto_ret];go_ret2)|go_ret2
 exact⟨rfl,rfl⟩
theorem AGk(s:ByteArray)(hs:s=⟨#[117,105,110,116,51,50]⟩)(w:World):Calls Tryz.prog 77 #[.string s] w λe w'=>e=.returned (.tuple #[.string ⟨#[117]⟩,.bool true])/\w=w':=by
 have b0:(s.toList==[98,111,111,108,101,97,110])=false:=by rw[AE,hs];decide
 have b1:(s.toList==[98,121,116,101])=false:=by rw[AE,hs];decide
 have b2:(s.toList==[105,110,116,49,54])=false:=by rw[AE,hs];decide
 have b3:(s.toList==[117,105,110,116,49,54])=false:=by rw[AE,hs];decide
 have b4:(s.toList==[105,110,116,51,50])=false:=by rw[AE,hs];decide
 have b5:(s.toList==[117,105,110,116,51,50])=true:=by rw[AE,hs];decide
 clear hs;go_enter Tryz.func77,Tryz.ntmps77;go_wp2_with fail
 first|(rw[Exit.noGoto_ret];go_ret2)|go_ret2
 exact⟨rfl,rfl⟩
theorem AIx(s:ByteArray)(hs:s=⟨#[105,110,116,54,52]⟩)(w:World):Calls Tryz.prog 77 #[.string s] w λe w'=>e=.returned (.tuple #[.string ⟨#[120]⟩,.bool true])/\w=w':=by
 have b0:(s.toList==[98,111,111,108,101,97,110])=false:=by rw[AE,hs];decide
 have b1:(s.toList==[98,121,116,101])=false:=by rw[AE,hs];decide
 have b2:(s.toList==[105,110,116,49,54])=false:=by rw[AE,hs];decide
 have b3:(s.toList==[117,105,110,116,49,54])=false:=by rw[AE,hs];decide
 have b4:(s.toList==[105,110,116,51,50])=false:=by rw[AE,hs];decide
 have b5:(s.toList==[117,105,110,116,51,50])=false:=by rw[AE,hs];decide
 have b6:(s.toList==[105,110,116,54,52])=true:=by rw[AE,hs];decide
 clear hs;go_enter Tryz.func77,Tryz.ntmps77;go_wp2_with fail
 first|(rw[Exit.noGoto_ret];go_ret2)|go_ret2
 exact⟨rfl,rfl⟩
theorem AHe(s:ByteArray)(hs:s=⟨#[117,105,110,116,54,52]⟩)(w:World):Calls Tryz.prog 77 #[.string s] w λe w'=>e=.returned (.tuple #[.string ⟨#[116]⟩,.bool true])/\w=w':=by
 have b0:(s.toList==[98,111,111,108,101,97,110])=false:=by rw[AE,hs];decide
 have b1:(s.toList==[98,121,116,101])=false:=by rw[AE,hs];decide
 have b2:(s.toList==[105,110,116,49,54])=false:=by rw[AE,hs];decide
 have b3:(s.toList==[117,105,110,116,49,54])=false:=by rw[AE,hs];decide
 have b4:(s.toList==[105,110,116,51,50])=false:=by rw[AE,hs];decide
 have b5:(s.toList==[117,105,110,116,51,50])=false:=by rw[AE,hs];decide
 have b6:(s.toList==[105,110,116,54,52])=false:=by rw[AE,hs];decide
 have b7:(s.toList==[117,105,110,116,54,52])=true:=by rw[AE,hs];decide
 clear hs;go_enter Tryz.func77,Tryz.ntmps77;go_wp2_with fail
 first|(rw[Exit.noGoto_ret];go_ret2)|go_ret2
 exact⟨rfl,rfl⟩
theorem AGt(s:ByteArray)(hs:s=⟨#[115,116,114,105,110,103]⟩)(w:World):Calls Tryz.prog 77 #[.string s] w λe w'=>e=.returned (.tuple #[.string ⟨#[115]⟩,.bool true])/\w=w':=by
 have b0:(s.toList==[98,111,111,108,101,97,110])=false:=by rw[AE,hs];decide
 have b1:(s.toList==[98,121,116,101])=false:=by rw[AE,hs];decide
 have b2:(s.toList==[105,110,116,49,54])=false:=by rw[AE,hs];decide
 have b3:(s.toList==[117,105,110,116,49,54])=false:=by rw[AE,hs];decide
 have b4:(s.toList==[105,110,116,51,50])=false:=by rw[AE,hs];decide
 have b5:(s.toList==[117,105,110,116,51,50])=false:=by rw[AE,hs];decide
 have b6:(s.toList==[105,110,116,54,52])=false:=by rw[AE,hs];decide
 have b7:(s.toList==[117,105,110,116,54,52])=false:=by rw[AE,hs];decide
 have b8:(s.toList==[100,111,117,98,108,101])=false:=by rw[AE,hs];decide
 have b9:(s.toList==[115,116,114,105,110,103])=true:=by rw[AE,hs];decide
 clear hs;go_enter Tryz.func77,Tryz.ntmps77;go_wp2_with fail
 first|(rw[Exit.noGoto_ret];go_ret2)|go_ret2
 exact⟨rfl,rfl⟩
theorem WO(s:ByteArray)(hs:s=⟨#[111,98,106,101,99,116,112,97,116,104]⟩)(w:World):Calls Tryz.prog 77 #[.string s] w λe w'=>e=.returned (.tuple #[.string ⟨#[111]⟩,.bool true])/\w=w':=by
 have b0:(s.toList==[98,111,111,108,101,97,110])=false:=by rw[AE,hs];decide
 have b1:(s.toList==[98,121,116,101])=false:=by rw[AE,hs];decide
 have b2:(s.toList==[105,110,116,49,54])=false:=by rw[AE,hs];decide
 have b3:(s.toList==[117,105,110,116,49,54])=false:=by rw[AE,hs];decide
 have b4:(s.toList==[105,110,116,51,50])=false:=by rw[AE,hs];decide
 have b5:(s.toList==[117,105,110,116,51,50])=false:=by rw[AE,hs];decide
 have b6:(s.toList==[105,110,116,54,52])=false:=by rw[AE,hs];decide
 have b7:(s.toList==[117,105,110,116,54,52])=false:=by rw[AE,hs];decide
 have b8:(s.toList==[100,111,117,98,108,101])=false:=by rw[AE,hs];decide
 have b9:(s.toList==[115,116,114,105,110,103])=false:=by rw[AE,hs];decide
 have b10:(s.toList==[111,98,106,101,99,116,112,97,116,104])=true:=by rw[AE,hs];decide
 clear hs;go_enter Tryz.func77,Tryz.ntmps77;go_wp2_with fail
 first|(rw[Exit.noGoto_ret];go_ret2)|go_ret2
 exact⟨rfl,rfl⟩
theorem YW(s:ByteArray)(hs:s=⟨#[115,105,103,110,97,116,117,114,101]⟩)(w:World):Calls Tryz.prog 77 #[.string s] w λe w'=>e=.returned (.tuple #[.string ⟨#[103]⟩,.bool true])/\w=w':=by
 have b0:(s.toList==[98,111,111,108,101,97,110])=false:=by rw[AE,hs];decide
 have b1:(s.toList==[98,121,116,101])=false:=by rw[AE,hs];decide
 have b2:(s.toList==[105,110,116,49,54])=false:=by rw[AE,hs];decide
 have b3:(s.toList==[117,105,110,116,49,54])=false:=by rw[AE,hs];decide
 have b4:(s.toList==[105,110,116,51,50])=false:=by rw[AE,hs];decide
 have b5:(s.toList==[117,105,110,116,51,50])=false:=by rw[AE,hs];decide
 have b6:(s.toList==[105,110,116,54,52])=false:=by rw[AE,hs];decide
 have b7:(s.toList==[117,105,110,116,54,52])=false:=by rw[AE,hs];decide
 have b8:(s.toList==[100,111,117,98,108,101])=false:=by rw[AE,hs];decide
 have b9:(s.toList==[115,116,114,105,110,103])=false:=by rw[AE,hs];decide
 have b10:(s.toList==[111,98,106,101,99,116,112,97,116,104])=false:=by rw[AE,hs];decide
 have b11:(s.toList==[115,105,103,110,97,116,117,114,101])=true:=by rw[AE,hs];decide
 clear hs;go_enter Tryz.func77,Tryz.ntmps77;go_wp2_with fail
 first|(rw[Exit.noGoto_ret];go_ret2)|go_ret2
 exact⟨rfl,rfl⟩
theorem NR{s sig:ByteArray}(h:G4 s=(sig,true))(w:World):Calls Tryz.prog 77 #[.string s] w λe w'=>e=.returned (.tuple #[.string sig,.bool true])/\w=w':=by
 unfold G4 at h;simp only[PO]at h;split at h
 .rename_i hs
  simp only[Prod.mk.injEq,and_true]at h;rw[<-h];exact ADo s hs w
 split at h
 .rename_i hs
  simp only[Prod.mk.injEq,and_true]at h;rw[<-h];exact AMv s hs w
 split at h
 .rename_i hs
  simp only[Prod.mk.injEq,and_true]at h;rw[<-h];exact AIb s hs w
 split at h
 .rename_i hs
  simp only[Prod.mk.injEq,and_true]at h;rw[<-h];exact AF7 s hs w
 split at h
 .rename_i hs
  simp only[Prod.mk.injEq,and_true]at h;rw[<-h];exact AIv s hs w
 split at h
 .rename_i hs
  simp only[Prod.mk.injEq,and_true]at h;rw[<-h];exact AGk s hs w
 split at h
 .rename_i hs
  simp only[Prod.mk.injEq,and_true]at h;rw[<-h];exact AIx s hs w
 split at h
 .rename_i hs
  simp only[Prod.mk.injEq,and_true]at h;rw[<-h];exact AHe s hs w
 split at h
 .rename_i hs
  simp only[Prod.mk.injEq,and_true]at h;rw[<-h];exact AGt s hs w
 split at h
 .rename_i hs
  simp only[Prod.mk.injEq,and_true]at h;rw[<-h];exact WO s hs w
 simp only[Prod.mk.injEq,decide_eq_true_eq]at h;rw[<-h.1];exact YW s h.2 w
def atW:ByteArray:=⟨#[64]⟩
theorem AKl:MF atW:=⟨De,De⟩
theorem ANb{c:Int}:BT c atW=true↔c=64:=by rw[E9];simp[atW];omega
def PsH:Prop:=∀(t:ByteArray) (W:World),GQ t=true->Calls Tryz.prog 150 #[.string t] W λe w'=>e=.returned (.tuple #[.agg #[.string t],.nilIface])/\Below W.heap.size W w'
theorem LX.cells{l:Nat}{s:ByteArray}{w0:World}{ts:List AW}{w:World}{st p wd:Nat}(h:LX l s w0 ts w st p wd):w.cell? ⟨l,0,none⟩=some (.string s)/\w.cell? ⟨l,1,none⟩=some (.int .i64 st)/\w.cell? ⟨l,2,none⟩=some (.int .i64 p):=by obtain⟨A,n,c,hl,_⟩:=h.S;obtain⟨c0,c1,c2,_,_⟩:=EK hl;exact⟨c0,c1,c2⟩
theorem WT(hps:PsH){l:Nat}{s:ByteArray}{w0 w:World}{ts:List AW}{st wd e0:Nat}(h:LX l s w0 ts w st st wd)(hw:LF s st e0)(hlt:st<e0)(hn:(CA (s.extract st e0)).2=true) :
 Calls Tryz.prog 130 #[.pointer (some ⟨l,0,none⟩)] w λen w'=>en=.returned (.func (.func 107) #[] #[])/\∃wd',LX l s w0 (ts++[(13,s.extract st e0)]) w' e0 e0 wd':=by
 obtain⟨hw1,hw2,hw3,hw4⟩:=hw
 have hss:=h.hs
 generalize hat:tk s st atW=b
 have HAT:=Hd hat
 have H:=Hd h
 have HW3:=Hd hw3
 have HW4:=Hd hw4
 have HPS:=Hd hps
 have HN:=Hd hn
 clear h hat hw3 hw4 hps hn
 go_enter Tryz.func130,Tryz.ntmps130
 go_upto_block 0 with(go_at_call 149;refine(H.out.accept atW AKl HAT.out).mono ?_;rintro e w1 ⟨he,wd1,hx⟩;subst he;have H1:=Hd hx;clear hx)
 obtain⟨p0,hp0⟩:∃p0,(if b=true then st+1 else st)=p0:=⟨_,rfl⟩
 rw[hp0]at H1
 have hp0e:st<=p0/\p0<=e0:=by rw[<-hp0];split<;>omega
 clear hp0
 go_cut [4] from 9 to 18 (λ_ wx=>∃wd2:Nat,Hid (LX l s w0 ts wx st e0 wd2))
 case first=>
  go_wp2_with fail;go_loopg [] (s.size-p0) (λg wr=>∃q wd1:Nat,q+g=s.size/\p0<=q/\q<=e0/\Hid (LX l s w0 ts wr st q wd1))
  case atStart=>exact⟨p0,_,Om,Om,Om,H1⟩
  obtain⟨q,wd1,hg,hq0,hqe,HQ⟩:=hrel;by_cases hqlt:q<e0
  .obtain⟨h128,hbl⟩:=HW3.out q Om hqlt
   have hr:=AN (show q<s.size by omega) h128;have hin:=CJ s q;generalize AA s q=r at *;have HR:=Hd hr;have HZ:=Hd (λ(W:World)=>by have:=BM r Om h128 W;rw[hbl]at this;exact this);have u1:((r:Int)==-1)=false:=Bq;clear hr hbl;go_wp2_with (first|(go_at_call 126;refine(HQ.out.nextAt HR.out).mono ?_;rintro e w2 ⟨he,hx⟩;subst he;have H2:=Hd hx;clear hx)|(go_at_call 131;refine(HZ.out _).mono ?_;rintro e w3 ⟨he,rfl⟩;subst he));go_roundg (s.size-(q+1))
   case rel=>exact⟨q+1,1,Om,Om,Om,H2⟩
   omega
  obtain rfl:q=e0:=Om;by_cases hend:q<s.size
  .have hbl:=HW4.out hend
   have hin:=CJ s q;have h128:AA s q<128:=by unfold AX at hbl;simp at hbl;omega
   have hr:=AN hend h128;generalize AA s q=r at *;have HR:=Hd hr;have HZ:=Hd (λ(W:World)=>by have:=BM r Om h128 W;rw[hbl]at this;exact this);have u1:((r:Int)==-1)=false:=Bq;clear hr hbl;go_wp2_with (first|(go_at_call 126;refine(HQ.out.nextAt HR.out).mono ?_;rintro e w2 ⟨he,hx⟩;subst he;have H2:=Hd hx;clear hx)|(go_at_call 131;refine(HZ.out _).mono ?_;rintro e w3 ⟨he,rfl⟩;subst he)|(go_at_call 128;refine(H2.out.backup Om).mono ?_;rintro e w3 ⟨he,hx⟩;subst he;have H3:=Hd hx;clear hx));go_meet;exact⟨_,H3⟩
  have HR:=Hd (KS hend);go_wp2_with (go_at_call 126;refine(HQ.out.nextAt HR.out).mono ?_;rintro e w2 ⟨he,hx⟩;subst he;have H2:=Hd hx;clear hx);go_meet;exact⟨_,H2⟩
 obtain⟨wd2,H2⟩:=hcut
 obtain⟨c0,c1,c2⟩:=H2.out.cells
 cases b with
 |true=>
  have hat:=D4.1 HAT.out
  have h64:=ANb.1 hat.2
  have hsg:GQ (s.extract (st+1) e0)=true:=by
   have hn:=HN.out;unfold CA at hn;have hx0:AA (s.extract st e0) 0=64:=by rw[H7 s st e0 0 Om];exact h64
   rw[if_pos hx0]at hn;simp only at hn;rw[ByteArray.size_extract,Nat.min_eq_left hw2,ByteArray.extract_extract,show min (st+(e0-st)) e0=e0 by omega]at hn;exact hn
  have HSG:=Hd hsg
  have hw1':IntKind.i64.wrap ((st:Int)+1)=(st:Int)+1:=CF Om Om
  have g1:(0:Int)<=(st:Int)+1:=Om
  have g2:(st:Int)+1<=(e0:Int):=Om
  have g3:(e0:Int)<=(s.size:Int):=Om
  have g4:((st:Int)+1).toNat=st+1:=Om
  clear hsg h64 hat
  go_upto_region 7 with fail
  have HCW:=Hd (λ(W:World) (hW:Below wc.heap.size wc W)=>(H2.out.keep hW).cells)
  go_region_held3 (λW=>W.cell? ⟨l,0,none⟩=some (.string s)/\W.cell? ⟨l,1,none⟩=some (.int .i64 st)/\W.cell? ⟨l,2,none⟩=some (.int .i64 e0)) (first|exact HCW.out _ Bl|exact HCW.out _ Bl.drew|exact HCW.out _ (Bl.drew.alloc Nl _)|exact HCW.out _ ((Bl.alloc Nl _).drew)|exact HCW.out _ HB5.out|exact HCW.out _ (HB5.out.alloc HB5.out.size _)|exact HCW.out _ (HB5.out.setCell (p:=⟨wc.heap.size,0,none⟩) Nl _)) ((go_at_call 150;refine(HPS.out _ _ HSG.out).mono ?_;rintro e w5 ⟨rfl,hb5⟩;have HB5:=Hd (show Below wc.heap.size wc w5 by first|exact Bl.drew.trans hb5|exact((Bl.alloc Nl _).drew).trans (hb5.mono (by show wc.heap.size<=(wc.alloc _).heap.size;simp)));(try (have hc5:w5.heap[wc.heap.size]?=some (.cells #[.string ⟨#[]⟩] 115 (0,0)):=(hb5.block _ (by show wc.heap.size<(wc.alloc _).heap.size;simp)).trans (heap_alloc_new _ _);have hc6:=BE hc5;have hf6:w5.frozen? ⟨wc.heap.size,0,none⟩=false:=AB hc5 0));clear hb5))
  all_goals clear c0 c1 c2
  all_goals
   go_wp2_with (go_at_call 127;refine((H2.out.keep (by first|exact HB5.out|exact HB5.out.alloc HB5.out.size _|exact HB5.out.setCell (p:=⟨wc.heap.size,0,none⟩) Nl _)).emit 13 Om hlt).mono ?_;rintro e w6 ⟨he,hx⟩;subst he;have H6:=Hd hx;clear hx);go_ret;exact⟨rfl,_,H6.out⟩
 |false=>
  have hnm:G4 (s.extract st e0)=CA (s.extract st e0):=by unfold CA;rw[if_neg];intro hx;rw[H7 s st e0 0 Om]at hx;have:tk s st atW=true:=D4.2 ⟨Om,ANb.2 hx⟩;rw[HAT.out]at this;cases this
  obtain⟨sig,hsig⟩:∃sig,G4 (s.extract st e0)=(sig,true):=⟨(CA (s.extract st e0)).1,by rw[hnm,<-HN.out]⟩
  have HSIG:=Hd (λ(W:World)=>NR hsig W)
  have g1:(0:Int)<=(st:Int):=Om
  have g2:(st:Int)<=(e0:Int):=Om
  have g3:(e0:Int)<=(s.size:Int):=Om
  clear hnm hsig
  go_upto_region 10 with fail
  go_region_held3 (λW=>W.cell? ⟨l,0,none⟩=some (.string s)/\W.cell? ⟨l,1,none⟩=some (.int .i64 st)/\W.cell? ⟨l,2,none⟩=some (.int .i64 e0)) (first|exact⟨c0,c1,c2⟩|exact H5.out.cells|exact(H5.out.keep (Bl.alloc Nl _)).cells|exact⟨c0,c1,c2⟩) ((go_at_call 77;refine(HSIG.out _).mono ?_;rintro e w5 ⟨rfl,rfl⟩))
  clear c0 c1 c2
  go_wp2_with (go_at_call 127;refine((H2.out.keep Bl.drew).emit 13 Om hlt).mono ?_;rintro e w6 ⟨he,hx⟩;subst he;have H6:=Hd hx;clear hx)
  first|(rw[Exit.noGoto_ret];go_ret)|go_ret
  exact⟨rfl,_,H6.out⟩
theorem C9(W:World)(b o:Nat)(v:Value):W.grownBy (W.setCell ⟨b,o,none⟩ v) (some b):=
 ⟨rfl,rfl,rfl,by simp[World.setCell],λk _ hk=>Below.heap_setCell _ _ _ k (λe=>hk (by rw[e]))⟩
theorem LX.setPos{l:Nat}{s:ByteArray}{w0:World}{ts:List AW}{w:World}{st p wd:Nat}(h:LX l s w0 ts w st p wd)(q:Nat)(h1:st<=q)(h2:q<=s.size):LX l s w0 ts (w.setCell ⟨l,2,none⟩ (.int .i64 q)) st q wd:=by have hlt:=h.lt;obtain⟨A,n,c,hl,hn,hr⟩:=h.S;have hg:=C9 w l 2 (.int .i64 q);exact⟨O9 (st:=st) (p:=p) (wd:=wd) (s:=s) (AH hl 2 (.int .i64 q)) hg hlt hn hr,h.B.trans (F4 hg hlt),GU h.U hg (by have:=h.hl;omega) (by have:=h.hl;omega),h.hs,h.hl,h1,h2,h.nt⟩
theorem LX.setWd{l:Nat}{s:ByteArray}{w0:World}{ts:List AW}{w:World}{st p wd:Nat}(h:LX l s w0 ts w st p wd)(q:Nat):LX l s w0 ts (w.setCell ⟨l,3,none⟩ (.int .i64 q)) st p q:=by have hlt:=h.lt;obtain⟨A,n,c,hl,hn,hr⟩:=h.S;have hg:=C9 w l 3 (.int .i64 q);exact⟨O9 (st:=st) (p:=p) (wd:=wd) (s:=s) (AH hl 3 (.int .i64 q)) hg hlt hn hr,h.B.trans (F4 hg hlt),GU h.U hg (by have:=h.hl;omega) (by have:=h.hl;omega),h.hs,h.hl,h.le,h.fit,h.nt⟩
theorem LX.free{l:Nat}{s:ByteArray}{w0:World}{ts:List AW}{w:World}{st p wd:Nat}(h:LX l s w0 ts w st p wd)(i:Nat):w.frozen? ⟨l,i,none⟩=false:=by obtain⟨A,n,c,hl,_⟩:=h.S;exact AB hl i
theorem LX.cell3{l:Nat}{s:ByteArray}{w0:World}{ts:List AW}{w:World}{st p wd:Nat}(h:LX l s w0 ts w st p wd):w.cell? ⟨l,3,none⟩=some (.int .i64 wd):=by obtain⟨A,n,c,hl,_⟩:=h.S;exact(EK hl).2.2.2.1
inductive JO(s:ByteArray)(st:Nat):Nat->Nat->Nat->Nat->Prop
 |num {e:Nat} (he:NM s st=e) (hx:e<s.size->AA s e<128/\B9 (AA s e)=false):JO s st 134 st 2 e
 |str {e:Nat} (hc:AA s st=34\/AA s st=39) (he:CV s (AA s st) (st+1)=some e):JO s st 129 st 3 e
 |byt {e:Nat} (h1:st+1<s.size) (hc:AA s (st+1)=34\/AA s (st+1)=39) (he:CV s (AA s (st+1)) (st+2)=some e):JO s st 136 (st+1) 14 e
 |word {e:Nat} (hw:LF s st e) (hn:(CA (s.extract st e)).2=true):JO s st 130 st 13 e
def AA0(l:Nat)(s:ByteArray)(w0:World)(All:List AW)(st:Nat)(en:Ending)(w':World):Prop:=
 (en=.returned .nilFunc/\∃a b c,JI w' l s a b c All/\Below l w0 w'/\Lib.Utf8Tabs 7 8 w')\/
 ∃f ts st1 p wd k e rest rest',en=.returned (.func (.func f) #[] #[])/\LX l s w0 ts w' st1 p wd/\ts++rest=All/\st<=st1/\JO s st1 f p k e/\OR s st1 k e rest rest'/\LI rest
def G0:Code->Option Code
 |.loop c=>some c
 |.seq a b=>match G0 a with
  |some c=>some c
  |none=>G0 b
 |.block _ c=>G0 c
 |.scope c=>G0 c
 |.cond _ a b=>match G0 a with
  |some c=>some c
  |none=>G0 b
 |_=>none
noncomputable def AQ0:Code:=((Tryz.f107.body.bind G0).getD .skip)
def NK(l:Nat)(s:ByteArray)(w0:World)(All:List AW)(st:Nat)(K:Act->World->Prop):Prop:=∀{u2 u3 u4 u5 u6 u7 u8 u9 u10 u11 u12 u13 u14 u15 u16 u17 u18 u19 u20 u21 u22 u23 u24 u25 u26 u27 u28 u29 u30 u31 u32 u33 u34 u35 u36 u37 u38 u39 u40 u41 u42 u43 u44 u45 u46 u47 u48 u49 u50 u51 u52 u53 u54 u55 u56 u57 u58 u59 u60 u61 u62 u63 u64 u65 u66 u67 u68 u69 u70 u71 u72 u73 u74 u75 u76 u77 u78 u79 u80 u81 u82 u83 u84 u85 u86 u87 u88 u89 u90 u91 u92 u93 u94 u95 u96 u97 u98 u99 u100 u101 u102 u103 u104 u105 u106 u107 u108 u109 u110 u111 u112 u113 u114 u115 u116 u117 u118 u119 u120 u121 u122 u123 u124 u125 u126 u127 u128 u129 u130 u131 u132 u133 u134 u135 u136 u137 u138 u139 u140 u141 u142 u143 u144 u145 u146 u147 u148 u149 u150 u151 u152 u153 u154 u155 u156 u157 u158 u159 u160 u161 u162 u163 u164 u165 u166 u167 u168 u169 u170 u171 u172 u173 u174 u175 u176 u177 u178 u179:Value} {w':World} {ts2 rest2:List AW} {st2 wd2:Nat},st<st2->st2<=s.size->LX l s w0 ts2 w' st2 st2 wd2->BO (s.extract st2 s.size)=some rest2->LI rest2->ts2++rest2=All->K ⟨#[.pointer (some ⟨l,0,none⟩),undef,u2,u3,u4,u5,u6,u7,u8,u9,u10,u11,u12,u13,u14,u15,u16,u17,u18,u19,u20,u21,u22,u23,u24,u25,u26,u27,u28,u29,u30,u31,u32,u33,u34,u35,u36,u37,u38,u39,u40,u41,u42,u43,u44,u45,u46,u47,u48,u49,u50,u51,u52,u53,u54,u55,u56,u57,u58,u59,u60,u61,u62,u63,u64,u65,u66,u67,u68,u69,u70,u71,u72,u73,u74,u75,u76,u77,u78,u79,u80,u81,u82,u83,u84,u85,u86,u87,u88,u89,u90,u91,u92,u93,u94,u95,u96,u97,u98,u99,u100,u101,u102,u103,u104,u105,u106,u107,u108,u109,u110,u111,u112,u113,u114,u115,u116,u117,u118,u119,u120,u121,u122,u123,u124,u125,u126,u127,u128,u129,u130,u131,u132,u133,u134,u135,u136,u137,u138,u139,u140,u141,u142,u143,u144,u145,u146,u147,u148,u149,u150,u151,u152,u153,u154,u155,u156,u157,u158,u159,u160,u161,u162,u163,u164,u165,u166,u167,u168,u169,u170,u171,u172,u173,u174,u175,u176,u177,u178,u179],[]⟩ w'
def NQ(l:Nat)(s:ByteArray)(w0:World)(All:List AW)(st:Nat)(Q:Exit->Act->World->Prop):Prop:=∀{u2 u3 u4 u5 u6 u7 u8 u9 u10 u11 u12 u13 u14 u15 u16 u17 u18 u19 u20 u21 u22 u23 u24 u25 u26 u27 u28 u29 u30 u31 u32 u33 u34 u35 u36 u37 u38 u39 u40 u41 u42 u43 u44 u45 u46 u47 u48 u49 u50 u51 u52 u53 u54 u55 u56 u57 u58 u59 u60 u61 u62 u63 u64 u65 u66 u67 u68 u69 u70 u71 u72 u73 u74 u75 u76 u77 u78 u79 u80 u81 u82 u83 u84 u85 u86 u87 u88 u89 u90 u91 u92 u93 u94 u95 u96 u97 u98 u99 u100 u101 u102 u103 u104 u105 u106 u107 u108 u109 u110 u111 u112 u113 u114 u115 u116 u117 u118 u119 u120 u121 u122 u123 u124 u125 u126 u127 u128 u129 u130 u131 u132 u133 u134 u135 u136 u137 u138 u139 u140 u141 u142 u143 u144 u145 u146 u147 u148 u149 u150 u151 u152 u153 u154 u155 u156 u157 u158 u159 u160 u161 u162 u163 u164 u165 u166 u167 u168 u169 u170 u171 u172 u173 u174 u175 u176 u177 u178 u179:Value} {w':World},AA0 l s w0 All st (.returned u2) w'->Q .ret ⟨#[.pointer (some ⟨l,0,none⟩),undef,u2,u3,u4,u5,u6,u7,u8,u9,u10,u11,u12,u13,u14,u15,u16,u17,u18,u19,u20,u21,u22,u23,u24,u25,u26,u27,u28,u29,u30,u31,u32,u33,u34,u35,u36,u37,u38,u39,u40,u41,u42,u43,u44,u45,u46,u47,u48,u49,u50,u51,u52,u53,u54,u55,u56,u57,u58,u59,u60,u61,u62,u63,u64,u65,u66,u67,u68,u69,u70,u71,u72,u73,u74,u75,u76,u77,u78,u79,u80,u81,u82,u83,u84,u85,u86,u87,u88,u89,u90,u91,u92,u93,u94,u95,u96,u97,u98,u99,u100,u101,u102,u103,u104,u105,u106,u107,u108,u109,u110,u111,u112,u113,u114,u115,u116,u117,u118,u119,u120,u121,u122,u123,u124,u125,u126,u127,u128,u129,u130,u131,u132,u133,u134,u135,u136,u137,u138,u139,u140,u141,u142,u143,u144,u145,u146,u147,u148,u149,u150,u151,u152,u153,u154,u155,u156,u157,u158,u159,u160,u161,u162,u163,u164,u165,u166,u167,u168,u169,u170,u171,u172,u173,u174,u175,u176,u177,u178,u179],[]⟩ w'
def NW(l:Nat)(s:ByteArray)(w0:World)(All:List AW)(st1:Nat)(ts1:List AW)(wr:World)(wd1:Nat)(rest1:List AW):Prop:=∀{K:Act->World->Prop} {Q:Exit->Act->World->Prop},NK l s w0 All st1 K->NQ l s w0 All st1 Q->Hid (LX l s w0 ts1 wr st1 st1 wd1)->Hid (LI rest1)->Hid (ts1++rest1=All)->∀{u2 u3 u4 u5 u6 u7 u8 u9 u10 u11 u12 u13 u14 u15 u16 u17 u18 u19 u20 u21 u22 u23 u24 u25 u26 u27 u28 u29 u30 u31 u32 u33 u34 u35 u36 u37 u38 u39 u40 u41 u42 u43 u44 u45 u46 u47 u48 u49 u50 u51 u52 u53 u54 u55 u56 u57 u58 u59 u60 u61 u62 u63 u64 u65 u66 u67 u68 u69 u70 u71 u72 u73 u74 u75 u76 u77 u78 u79 u80 u81 u82 u83 u84 u85 u86 u87 u88 u89 u90 u91 u92 u93 u94 u95 u96 u97 u98 u99 u100 u101 u102 u103 u104 u105 u106 u107 u108 u109 u110 u111 u112 u113 u114 u115 u116 u117 u118 u119 u120 u121 u122 u123 u124 u125 u126 u127 u128 u129 u130 u131 u132 u133 u134 u135 u136 u137 u138 u139 u140 u141 u142 u143 u144 u145 u146 u147 u148 u149 u150 u151 u152 u153 u154 u155 u156 u157 u158 u159 u160 u161 u162 u163 u164 u165 u166 u167 u168 u169 u170 u171 u172 u173 u174 u175 u176 u177 u178 u179:Value},Code.wp Tryz.prog AQ0 (Exit.then K Q) ⟨#[.pointer (some ⟨l,0,none⟩),undef,u2,u3,u4,u5,u6,u7,u8,u9,u10,u11,u12,u13,u14,u15,u16,u17,u18,u19,u20,u21,u22,u23,u24,u25,u26,u27,u28,u29,u30,u31,u32,u33,u34,u35,u36,u37,u38,u39,u40,u41,u42,u43,u44,u45,u46,u47,u48,u49,u50,u51,u52,u53,u54,u55,u56,u57,u58,u59,u60,u61,u62,u63,u64,u65,u66,u67,u68,u69,u70,u71,u72,u73,u74,u75,u76,u77,u78,u79,u80,u81,u82,u83,u84,u85,u86,u87,u88,u89,u90,u91,u92,u93,u94,u95,u96,u97,u98,u99,u100,u101,u102,u103,u104,u105,u106,u107,u108,u109,u110,u111,u112,u113,u114,u115,u116,u117,u118,u119,u120,u121,u122,u123,u124,u125,u126,u127,u128,u129,u130,u131,u132,u133,u134,u135,u136,u137,u138,u139,u140,u141,u142,u143,u144,u145,u146,u147,u148,u149,u150,u151,u152,u153,u154,u155,u156,u157,u158,u159,u160,u161,u162,u163,u164,u165,u166,u167,u168,u169,u170,u171,u172,u173,u174,u175,u176,u177,u178,u179],[]⟩ wr
