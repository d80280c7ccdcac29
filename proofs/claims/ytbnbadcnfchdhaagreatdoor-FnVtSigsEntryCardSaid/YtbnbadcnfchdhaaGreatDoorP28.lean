/- Lemmas for FnVtSigsEntry; no conditions. -/
import Derived.Test.YtbnbadcnfchdhaaGreatDoorP00
import Derived.Test.YtbnbadcnfchdhaaGreatDoorProg
import Derived.Maps.RangeWalk
import Derived.Maps.OwnSet
import Derived.Maps.OwnIn
import Derived.DeepKeys4
import Derived.WalkKit
import Derived.Lib.Hide
import Derived.Deep.LoopGhost
import Derived.Deep.DeepCutAuto
import Derived.Deep.RegionHeld3
import Derived.Deep.RegionWith
import Derived.RegionTactic
set_option maxRecDepth 100000
set_option maxHeartbeats 16000000
set_option linter.all false
namespace Go.Proofs.YtbnbadcnfchdhaaGreatDoor
open Go.RowKit
theorem Tryz.u115:Tryz.prog.underlying 115=some (.struct #[⟨ "str",9,0,false, "", "pub-barouche/pub/dbus",0⟩]):=Kr
theorem Tryz.u9:Tryz.prog.underlying 9=some .string:=Kr
theorem Tryz.u4:Tryz.prog.underlying 4=some .bool:=Kr
theorem Tryz.u87:Tryz.prog.underlying 87=some (.map 115 4):=Kr
theorem Tryz.c115:Tryz.prog.cellsOf 115=1:=Kr
theorem Tryz.c9:Tryz.prog.cellsOf 9=1:=Kr
theorem Tryz.kt115:Tryz.prog.keyType 115=true:=Kr
theorem Tryz.tsize:Tryz.prog.types.size=314:=Kr
theorem Tryz.wide115:(match Tryz.prog.underlying 115 with|some (.array _ _)|some (.struct _)=>true|_=>false)=true:=by rw[Tryz.u115]
theorem Tryz.laidSig:laidOutB Tryz.prog=true:=Kr
theorem Tryz.row115:(115:TypeId)<Tryz.prog.types.size:=of_decide_eq_true Kr
theorem Tryz.kt2:Tryz.prog.keyTypeAt 2 115=true:=Kr
theorem Tryz.sigLaw:Maps.Keyed Tryz.prog 115:=Maps.Keyed.of_law (deep_law_laid Tryz.laidSig (m:=2) Om Tryz.row115 Tryz.kt2 Tryz.wide115)
theorem Tryz.zero4(w:World):(zeroValue 4).run Tryz.prog w=.ok (.bool false) w:=Tryz.zeroValue4 w
abbrev sgV(s:ByteArray):Value:=.agg #[.string s]
def sk(s:ByteArray):Lit:=.string (keyBytes [.string s.data.toList])
theorem UR{s:ByteArray}(hs:s.size<=100000):keyOf Tryz.prog 115 (sgV s)=some (sk s):=by
 have hf:(sgV s).formed Tryz.prog 115=true:=by unfold sgV Value.formed;rw[Tryz.u115,Tryz.c115];rfl
 have hm:s.size<=maxLen:=by unfold maxLen;omega
 unfold keyOf;rw[Tryz.u115];simp only;rw[Tryz.kt115,hf,Tryz.tsize];simp only[Bool.and_self,if_true];unfold Program.keyLits;rw[Tryz.u115];simp only;rw[Tryz.c115];simp only[sgV,Value.cells];unfold Program.keyLits;simp[Tryz.u9,hm,sk,Tryz.c9]
theorem ALh{v:Value}{s:ByteArray}(hs:s.size<=100000)(h:keyOf Tryz.prog 115 v=some (sk s)):v=sgV s:=Tryz.sigLaw.inj h (UR hs)
theorem AC5{s t:ByteArray}(hs:s.size<=100000)(ht:t.size<=100000)(h:sk s=sk t):s=t:=by have:=Tryz.sigLaw.inj (UR hs) (by rw[h];exact UR ht);simpa[sgV] using this
theorem YT(s:ByteArray):WideAt.IsKeyLit (sk s):=trivial
theorem AJ3{v:Value}{y:DataW Unit×List MemPlace}(h:(plainElem (H:=Unit) Tryz.prog 4) v=some y):∃x,v=.bool x/\y=(.lit (.bool x),[]):=by
 unfold plainElem at h;rw[Tryz.u4]at h;split at h
 .rename_i x _ _
  simp at h;exact⟨_,rfl,h.symm⟩
 all_goals simp_all
structure ANi(D:DataW Unit)(X:List ByteArray):Prop where
 has:∀s,s.size<=100000->(Maps.has D (sk s)=true↔s∈X)
 all:∀kl,Maps.has D kl=true->∃s∈X,kl=sk s
 val:∀kl zd,Maps.has D kl=true->D.atKey kl zd=.lit (.bool true)
 small:∀s∈X,s.size<=100000
 size:Maps.size D=X.length
 nd:X.Nodup
def CD(w:World)(b n:Nat)(X:List ByteArray):Prop:=∃D,w.ownsMap Tryz.prog 115 (plainElem (H:=Unit) Tryz.prog 4) b n D/\ANi D X
theorem AJu:ANi (.map []) []:=⟨λs _=>by simp[Maps.has_eq],λkl h=>by simp[Maps.has_eq]at h,λkl zd h=>by simp[Maps.has_eq]at h,λs h=>by simp at h,rfl,List.nodup_nil⟩
theorem C6(w:World):CD (w.alloc (.map #[] 0)) w.heap.size 0 []:=⟨_,World.ownsMap_made w Tryz.prog 115 (plainElem (H:=Unit) Tryz.prog 4),AJu⟩
theorem CD.lt{w:World}{b n:Nat}{X:List ByteArray}(h:CD w b n X):b<w.heap.size:=by obtain⟨D,h,_⟩:=h;exact h.lt
theorem CD.same{w w':World}{b n:Nat}{X:List ByteArray}(h:CD w b n X)(hb:w'.heap[b]?=w.heap[b]?):CD w' b n X:=by obtain⟨D,⟨es,clock,h1,h2⟩,h3⟩:=h;exact⟨D,⟨es,clock,hb.trans h1,h2⟩,h3⟩
theorem CD.below{w w':World}{b n B:Nat}{X:List ByteArray}(h:CD w b n X)(hb:Below B w w')(hlt:b<B):CD w' b n X:=h.same (hb.block b hlt)
theorem CD.tight{w:World}{b n:Nat}{X:List ByteArray}(h:CD w b n X):CD w b X.length X:=by obtain⟨D,⟨es,clock,h1,h2,h3,h4⟩,h5⟩:=h;refine⟨D,⟨es,clock,h1,h2,?_,h4⟩,h5⟩;have:=h5.size;rw[h4,Maps.size_eq,length_sorted]at this;simp at this;omega
theorem CD.nd{w:World}{b n:Nat}{X:List ByteArray}(h:CD w b n X):X.Nodup:=by obtain⟨D,_,h2⟩:=h;exact h2.nd
theorem CD.put{w:World}{b n:Nat}{X:List ByteArray}(h:CD w b n X)(hn:n<=100000){s:ByteArray}(hs:s.size<=100000) :
 ∃w' X',(Instr.mapUpdate 87 (.map (some b)) (sgV s) (.bool true)).run Tryz.prog w=.ok () w'/\CD w' b (n+1) X'/\(∀t,t∈X'↔t∈X\/t=s)/\w.grownBy w' (some b):=by
 obtain⟨D,h1,h2⟩:=h
 obtain⟨w',hrun,h3,h4⟩:=h1.update Tryz.sigLaw Tryz.u87 (by unfold maxLen;omega) (UR hs) (plainElem_bool Tryz.u4 true)
 have hi:=h1.isMap
 have ht:=h1.tidy Tryz.sigLaw
 have hput:∀kl,Maps.has (D.put (sk s) (.lit (.bool true))) kl=true↔Maps.has D kl=true\/kl=sk s:=λkl=>by
  by_cases e:kl=sk s
  .rw[e,Maps.has_put_same hi (YT s)];simp
  rw[Maps.has_put_other e];simp[e]
 have hval:∀kl zd,Maps.has (D.put (sk s) (.lit (.bool true))) kl=true->(D.put (sk s) (.lit (.bool true))).atKey kl zd=.lit (.bool true):=λkl zd hk=>by
  by_cases e:kl=sk s
  .rw[e,Maps.atKey_put_same hi (YT s)]
  rw[Maps.atKey_put_other e];exact h2.val kl zd (by rw[Maps.has_put_other e]at hk;exact hk)
 have hsz:=Maps.size_put (k:=sk s) ht (.lit (.bool true))
 by_cases hm:s∈X
 .refine⟨w',X,hrun,⟨_,h3,⟨λt ht'=>?_,λkl hk=>?_,hval,h2.small,?_,h2.nd⟩⟩,λt=>⟨.inl,λh=>h.elim id (λe=>e▸hm)⟩,h4⟩
  .rw[hput,h2.has t ht']
   constructor
   .rintro (h|h)
    .exact h
    rw[AC5 ht' hs h];exact hm
   exact .inl
  .rcases(hput kl).1 hk with h|h
   .exact h2.all kl h
   exact⟨s,hm,h⟩
  rw[hsz,if_pos ((h2.has s hs).2 hm)];exact h2.size
 refine⟨w',X++[s],hrun,⟨_,h3,⟨λt ht'=>?_,λkl hk=>?_,hval,λt ht'=>?_,?_,?_⟩⟩,λt=>by simp,h4⟩
 .rw[hput,h2.has t ht',List.mem_append,List.mem_singleton]
  constructor
  .rintro (h|h)
   .exact .inl h
   exact .inr (AC5 ht' hs h)
  rintro (h|h)
  .exact .inl h
  exact .inr (by rw[h])
 .rcases(hput kl).1 hk with h|h
  .obtain⟨t,ht',e⟩:=h2.all kl h
   exact⟨t,by simp[ht'],e⟩
  exact⟨s,by simp,h⟩
 .rcases List.mem_append.1 ht' with h|h
  .exact h2.small t h
  rw[List.mem_singleton.1 h];exact hs
 .rw[hsz,if_neg (λh=>hm ((h2.has s hs).1 h)),h2.size];simp
 rw[List.nodup_append]
 exact⟨h2.nd,by simp,λa ha c hc=>by rw[List.mem_singleton.1 hc];intro e;exact hm (e▸ha)⟩
theorem CD.look{w:World}{b n:Nat}{X:List ByteArray}(h:CD w b n X){s:ByteArray}(hs:s.size<=100000) :
 ∃x:Bool,(x=true↔s∈X)/\(Instr.lookup 87 (.map (some b)) (sgV s) false).run Tryz.prog w=.ok (.bool x) w:=by
 obtain⟨D,h1,h2⟩:=h
 obtain⟨v,ps,hrun,hv⟩:=h1.lookup Tryz.sigLaw Tryz.u87 (Tryz.zero4 w) (plainElem_bool Tryz.u4 false) (UR hs)
 obtain⟨x,rfl,hx⟩:=AJ3 hv
 simp only[Prod.mk.injEq]at hx
 refine⟨x,?_,hrun⟩
 by_cases hm:s∈X
 .rw[h2.val _ _ ((h2.has s hs).2 hm)]at hx
  simp at hx;simp[hm,hx.1]
 rw[Maps.atKey_of_not_has (by rw[<-Bool.not_eq_true];exactλh=>hm ((h2.has s hs).1 h))]at hx
 simp at hx
 simp[hm,hx.1]
theorem CD.len{w:World}{b n:Nat}{X:List ByteArray}(h:CD w b n X)(ty:TypeId):(Builtin.len_ #[87] ty #[.map (some b)]).run Tryz.prog w=.ok (.int .i64 X.length) w:=by obtain⟨D,h1,h2⟩:=h;rw[h1.len Tryz.u87 ty,h2.size]
def DX(w:World)(v:Value)(X:List ByteArray):Prop:=v=.map none/\X=[]\/∃b,v=.map (some b)/\CD w b X.length X
theorem DX.below{w w':World}{v:Value}{X:List ByteArray}(h:DX w v X)(hb:Below w.heap.size w w'):DX w' v X:=by
 rcases h with h|⟨b,rfl,h⟩
 .exact .inl h
 exact .inr ⟨b,rfl,h.below hb h.lt⟩
theorem DX.len{w:World}{v:Value}{X:List ByteArray}(h:DX w v X)(ty:TypeId):(Builtin.len_ #[87] ty #[v]).run Tryz.prog w=.ok (.int .i64 X.length) w:=by
 rcases h with⟨rfl,rfl⟩|⟨b,rfl,h⟩
 .exact Maps.len_nil Tryz.u87 ty
 exact h.len ty
theorem DX.nd{w:World}{v:Value}{X:List ByteArray}(h:DX w v X):X.Nodup:=by
 rcases h with⟨rfl,rfl⟩|⟨b,rfl,h⟩
 .exact List.nodup_nil
 exact h.nd
def CK(w:World)(v:Value)(r:Nat)(X todo:List ByteArray)(cnt:Nat):Prop:=
 (v=.map none/\X=[]/\todo=[]/\w.heap[r]?=some (.mapIter none 0 #[] 0))\/
 ∃b D left,v=.map (some b)/\w.ranges Tryz.prog 115 (plainElem (H:=Unit) Tryz.prog 4) b r X.length D left cnt/\ANi D X/\(∀s,s.size<=100000->(left (sk s)=true↔s∈todo))/\(∀kl,left kl=true->∃s∈todo,kl=sk s)/\∀s∈todo,s∈X
theorem CK.same{w w':World}{v:Value}{r cnt:Nat}{X todo:List ByteArray}(h:CK w v r X todo cnt)(hr:w'.heap[r]?=w.heap[r]?)(hv:∀b,v=.map (some b)->w'.heap[b]?=w.heap[b]?):CK w' v r X todo cnt:=by
 rcases h with⟨h1,h2,h3,h4⟩|⟨b,D,left,rfl,⟨es,clock,since,seen,c0,h1,h2,h3,h4,h5,h6⟩,h7⟩
 .exact .inl ⟨h1,h2,h3,hr.trans h4⟩
 exact .inr ⟨b,D,left,rfl,⟨es,clock,since,seen,c0,(hv b rfl).trans h1,h2,h3,h4,hr.trans h5,h6⟩,h7⟩
theorem CK.sub{w:World}{v:Value}{r cnt:Nat}{X todo:List ByteArray}(h:CK w v r X todo cnt){s:ByteArray}(hs:s∈todo):s∈X/\s.size<=100000:=by
 rcases h with⟨_,_,rfl,_⟩|⟨b,D,left,_,_,h3,_,_,h6⟩
 .simp at hs
 exact⟨h6 s hs,h3.small s (h6 s hs)⟩
theorem DX.range{w:World}{v:Value}{X:List ByteArray}(h:DX w v X) :
 ∃w',(Instr.range 87 v).run Tryz.prog w=.ok (.pointer (some ⟨w.heap.size,0,none⟩)) w'/\CK w' v w.heap.size X X X.length/\w.grownBy w' none/\w'.heap.size=w.heap.size+1:=by
 rcases h with⟨rfl,rfl⟩|⟨b,rfl,D,h1,h2⟩
 .exact⟨_,run_range_nilMap w 87 115 4 Tryz.u87,.inl ⟨rfl,rfl,rfl,heap_alloc_new _ _⟩,World.grownBy_alloc w _ none,by simp⟩
 obtain⟨w',r1,r2,r3,r4⟩:=h1.range Tryz.sigLaw Tryz.u87
 refine⟨w',r1,.inr ⟨b,D,Maps.has D,rfl,?_,h2,h2.has,h2.all,λs h=>h⟩,r3,r4⟩
 rw[<-h2.size];rw[<-h2.size]at r2;exact r2
theorem YR{w:World}{r:Nat}(ty:TypeId)(h:w.heap[r]?=some (.mapIter none 0 #[] 0)):(Instr.next (.pointer (some ⟨r,0,none⟩)) false ty).run Tryz.prog w=.ok (.tuple #[.bool false]) w:=by simp only[Instr.next,getObj,Sem.run_bind,Sem.run,h,Result.andThen];rfl
theorem CK.next{w:World}{v:Value}{r cnt:Nat}{X todo:List ByteArray}(h:CK w v r X todo cnt)(ty:TypeId) :
 (todo=[]/\(Instr.next (.pointer (some ⟨r,0,none⟩)) false ty).run Tryz.prog w=.ok (.tuple #[.bool false]) w)\/
 ∃s x w' cnt' todo',s∈todo/\(∀t,t∈todo'↔t∈todo/\t≠s)/\(Instr.next (.pointer (some ⟨r,0,none⟩)) false ty).run Tryz.prog w=.ok (.tuple #[.bool true,sgV s,.bool x]) w'/\CK w' v r X todo' cnt'/\cnt'<cnt/\
  w.grownBy w' (some r)/\w'.heap.size=w.heap.size/\(Instr.entry (.pointer (some ⟨r,0,none⟩))).run Tryz.prog w'=.ok (.tuple #[sgV s,.bool x]) w':=by
 rcases h with⟨_,_,h3,h4⟩|⟨b,D,left,rfl,h1,h2,h3,h4,h5⟩
 .exact .inl ⟨h3,YR ty h4⟩
 rcases h1.next Tryz.sigLaw ty with⟨g1,g2,g3⟩|⟨key,v,kl,y,w',cnt',g1,g2,g3,g4,g5,g6,g7,g8,g9,g10⟩
 .refine .inl ⟨?_,g3⟩
  cases todo with
  |nil=>rfl
  |cons s t=>have:=(h3 s (h2.small s (h5 s Sm))).2 Sm;rw[g2]at this;cases this
 obtain⟨s,hs,rfl⟩:=h4 kl g2
 have hsz:=h2.small s (h5 s hs)
 obtain rfl:=ALh hsz g1
 obtain⟨x,rfl,_⟩:=AJ3 g3
 have hst:∀t,t.size<=100000->((sk t).sameKey (sk s)=true↔t=s):=λt ht=>by
  constructor
  .intro h;exact AC5 ht hsz (WideAt.sameKey_eq h)
  rintro rfl;exact WideAt.sameKey_self (YT _)
 have hf:∀t,t∈(todo.filter (λt=>!decide (t=s)))↔t∈todo/\t≠s:=λt=>by simp
 refine .inr ⟨s,x,w',cnt',(todo.filter (λt=>!decide (t=s))),hs,hf,g5,.inr ⟨b,D,_,rfl,g6,h2,λt ht=>?_,λkl hk=>?_,λt ht=>h5 t ((hf t).1 ht).1⟩,g7,g8,g9,g10⟩
 .rw[hf,<-h3 t ht]
  simp only[Bool.and_eq_true,Bool.not_eq_true',<-Bool.not_eq_true,hst t ht]
 simp only[Bool.and_eq_true,Bool.not_eq_true',<-Bool.not_eq_true]at hk
 obtain⟨t,ht,rfl⟩:=h4 kl hk.1
 refine⟨t,(hf t).2 ⟨ht,λe=>hk.2 ?_⟩,rfl⟩
 rw[e];exact WideAt.sameKey_self (YT _)
section
variable(w:World){ops:Array Oper}{rest:List Oper}{o:Oper}{a:Act}{Q:Exit->Act->World->Prop}
theorem FA(hg:o.guard=none)(m:Operand)(hop:o.op=Op.range 87 m)(v:Value)(X:List ByteArray)(hm:a.eval m=v)(h:DX w v X)
 (hK:∀w',CK w' v w.heap.size X X X.length->w.grownBy w' none->w'.heap.size=w.heap.size+1->wpList Tryz.prog ops Q rest (a.put o.dst (.pointer (some ⟨w.heap.size,0,none⟩))) w') :
 wpList Tryz.prog ops Q (o::rest) a w:=by
 refine wpList_plain hg λK' hK'=>?_
 obtain⟨w',hrun,r1,r2,r3⟩:=h.range
 unfold Oper.wp
 simp[execOp,hop,hm,hrun,Result.andThen]
 exact hK' _ _ (hK w' r1 r2 r3)
theorem FQ(hg:o.guard=none)(it:Operand)(hop:o.op=Op.next it false)(v:Value)(r cnt:Nat)(X todo:List ByteArray)(hit:a.eval it=.pointer (some ⟨r,0,none⟩))(h:CK w v r X todo cnt)
 (hDone:todo=[]->wpList Tryz.prog ops Q rest (a.put o.dst (.tuple #[.bool false])) w)
 (hMore:∀(s:ByteArray) (x:Bool) (w':World) (cnt':Nat) (todo':List ByteArray),s∈todo->(∀t,t∈todo'↔t∈todo/\t≠s)->CK w' v r X todo' cnt'->cnt'<cnt->w.grownBy w' (some r)->w'.heap.size=w.heap.size->(Instr.entry (.pointer (some ⟨r,0,none⟩))).run Tryz.prog w'=.ok (.tuple #[.agg #[.string s],.bool x]) w'->
  wpList Tryz.prog ops Q rest (a.put o.dst (.tuple #[.bool true,.agg #[.string s],.bool x])) w') :
 wpList Tryz.prog ops Q (o::rest) a w:=by
 refine wpList_plain hg λK' hK'=>?_
 unfold Oper.wp
 rcases h.next o.type with⟨h0,hrun⟩|⟨s,x,w',cnt',todo',hs,hf,hrun,hR,hlt,hgr,hsz,hen⟩
 .simp[execOp,hop,hit,hrun,Result.andThen]
  exact hK' _ _ (hDone h0)
 simp[execOp,hop,hit,hrun,Result.andThen]
 exact hK' _ _ (hMore s x w' cnt' todo' hs hf hR hlt hgr hsz hen)
theorem DP(hg:o.guard=none)(m x y:Operand)(hop:o.op=Op.mapUpdate 87 m x y\/o.op=Op.insert 87 m x y)(b n:Nat)(X:List ByteArray)(s:ByteArray)(hm:a.eval m=.map (some b))(hx:a.eval x=.agg #[.string s])(hy:a.eval y=.bool true)
 (h:CD w b n X) (hn:n<=100000) (hs:s.size<=100000)
 (hK:∀w' X',CD w' b (n+1) X'->(∀t,t∈X'↔t∈X\/t=s)->w.grownBy w' (some b)->wpList Tryz.prog ops Q rest (a.put o.dst undef) w') :
 wpList Tryz.prog ops Q (o::rest) a w:=by
 refine wpList_plain hg λK' hK'=>?_
 obtain⟨w',X',hrun,r1,r2,r3⟩:=h.put hn hs
 unfold Oper.wp
 rcases hop with hop|hop
 all_goals
  simp[execOp,hop,hm,hx,hy,hrun,Result.andThen];exact hK' _ _ (hK w' X' r1 r2 r3)
theorem TR(hg:o.guard=none)(m x:Operand)(hop:o.op=Op.lookup 87 m x false)(b n:Nat)(X:List ByteArray)(s:ByteArray)(hm:a.eval m=.map (some b))(hx:a.eval x=.agg #[.string s])(h:CD w b n X)(hs:s.size<=100000)
 (hK:∀c:Bool,(c=true↔s∈X)->wpList Tryz.prog ops Q rest (a.put o.dst (.bool c)) w) :
 wpList Tryz.prog ops Q (o::rest) a w:=by
 refine wpList_plain hg λK' hK'=>?_
 obtain⟨c,hc,hrun⟩:=h.look hs
 unfold Oper.wp
 simp[execOp,hop,hm,hx,hrun,Result.andThen]
 exact hK' _ _ (hK c hc)
theorem X7(n:Int)(w:World):(Instr.makeMap 87 (some (.int .i64 n))).run Tryz.prog w=.ok (.map (some w.heap.size)) (w.alloc (.map #[] 0)):=by simp[Instr.makeMap,run_underlying Tryz.u87,asInt,asIntOf,Result.andThen]
end
theorem DX.lt{w:World}{v:Value}{X:List ByteArray}(h:DX w v X){b:Nat}(hb:v=.map (some b)):b<w.heap.size:=by
 rcases h with⟨rfl,_⟩|⟨b',rfl,h⟩
 .simp at hb
 simp at hb;subst hb;exact h.lt
theorem CK.grown{w w':World}{v:Value}{r cnt B:Nat}{X todo:List ByteArray}{row:Option Nat}(h:CK w v r X todo cnt)(hg:w.grownBy w' row)(hr:r<w.heap.size)(hrow:row≠some r)(hv:∀b,v=.map (some b)->b<B)(hB:B<=w.heap.size)(hrv:∀k,row=some k->B<=k):CK w' v r X todo cnt:=
 h.same (hg.block r hr (λe=>hrow e.symm)) λb hb=>hg.block b (by have:=hv b hb;omega) (λe=>by have:=hrv b e.symm;have:=hv b hb;omega)
def ET(s:ByteArray):ByteArray:=⟨#[97]⟩++s
theorem KD(s:ByteArray):(ET s).size=s.size+1:=by unfold ET;rw[ByteArray.size_append];show 1+_=_;omega
theorem DH{w:World}{v:Value}{X:List ByteArray}(h:DX w v X)(hn:X.length<=100000):Calls Tryz.prog 103 #[v] w λe w'=>e=.returned (.bool (decide (X=[])))/\w=w':=by
 have hX:((X.length:Int)==0)=decide (X=[]):=by rw[Bool.eq_iff_iff,beq_iff_eq,decide_eq_true_iff,<-List.length_eq_zero_iff];omega
 have HV:=Hd h;clear h;generalize decide (X=[])=d at *;obtain⟨n,hk⟩:∃n:Nat,X.length=n:=⟨_,rfl⟩;rw[hk]at hX;have hlen:(Builtin.len_ #[87] 3 #[v]).run Tryz.prog w=.ok (.int .i64 n) w:=by rw[<-hk];exact HV.out.len 3
 clear hk;go_enter Tryz.func103,Tryz.ntmps103;go_wp2;go_ret;exact⟨rfl,rfl⟩
theorem JA{w:World}{v:Value}{X:List ByteArray}(h:DX w v X)(hs:∀s∈X,s.size<=1000)(hn:X.length<=10000) :
 Calls Tryz.prog 104 #[v] w λe w'=>∃m Y,e=.returned m/\DX w' m Y/\(∀t,t∈Y↔∃s∈X,t=ET s)/\Below w.heap.size w w':=by
 have hmm:=X7 X.length w
 have hlen:=h.len 3
 have hb0:Below w.heap.size w (w.alloc (.map #[] 0)):=Bl.alloc Nl _
 have HV:=Hd h
 have HV1:=Hd (h.below hb0)
 have HB0:=Hd hb0
 have HS:=Hd hs
 have HS0:=Hd (C6 w)
 have HSZ:=Hd (show (w.alloc (.map #[] 0)).heap.size=w.heap.size+1 by simp)
 clear h hs hb0
 go_enter Tryz.func104,Tryz.ntmps104
 go_wp2_with (first|(at_range;refine FA _ rfl _ rfl v X rfl HV1.out ?_;intro w2 hR0 hg0 hsz0;rw[HSZ.out]at hR0 hsz0 ⊢)|go_in)
 go_frame
 have hb2:Below w.heap.size w w2:=HB0.out.grown hg0 (by rw[HSZ.out];omega) (λk hk=>by cases hk)
 have hset2:CD w2 w.heap.size 0 []:=HS0.out.same (hg0.block _ (by rw[HSZ.out];omega) Sm)
 clear hmm hg0
 go_loopg [] X.length (λg wr=>∃(c n:Nat) (todo Y:List ByteArray),c=g/\n+c<=X.length/\Hid (CK wr v (w.heap.size+1) X todo c)/\Hid (CD wr w.heap.size n Y)/\Hid (∀t,t∈Y↔∃s∈X,s∉todo/\t=ET s)/\Hid (Below w.heap.size w wr)/\w.heap.size+1<wr.heap.size)
 case atStart=>exact⟨_,0,X,[],rfl,Om,hR0,hset2,(λt=>by simp;intro x h1 h2;exact absurd h1 h2),hb2,Om⟩
 obtain⟨c,n,todo,Y,rfl,hng,HR,HSt,HY,HB,hsz⟩:=hrel
 go_wp2_with (first
  |(at_next;go_loud (refine FQ _ rfl _ rfl v (w.heap.size+1) _ X todo rfl HR.out (λh0=>?_) (λs x w3 cnt todo1 hmem hf hR3 hlt hg3 hsz3 hen=>?_));go_loud (rotate_left;have hbd:s.size<=1000:=HS.out s (HR.out.sub hmem).1;have hnl:¬9223372036854775807<1+s.size:=Om;have hst3:CD (w3.alloc (.cells #[.string s] 115)) w.heap.size n Y:=(HSt.out.same (hg3.block _ Om Sm)).same (Ha Om);rotate_right))
  |(at_mapUpdate;refine DP _ rfl _ _ _ (.inl rfl) w.heap.size n Y (ET s) rfl rfl rfl hst3 Om (by rw[KD];omega) ?_;intro w4 Y4 hset4 hy4 hg4))
 all_goals try (exfalso;omega)
 .go_ret
  exact⟨_,Y,rfl,.inr ⟨_,rfl,HSt.out.tight⟩,λt=>by rw[HY.out,h0];simp,HB.out⟩
 have hga:w3.grownBy (w3.alloc (.cells #[.string s] 115)) none:=World.grownBy_alloc _ _ _
 have hra:CK (w3.alloc (.cells #[.string s] 115)) v (w.heap.size+1) X todo1 cnt:=hR3.grown (B:=w.heap.size) hga Om Sm (λb hb=>HV.out.lt hb) Om (λk hk=>by cases hk)
 have hsa:(w3.alloc (.cells #[.string s] 115)).heap.size=wr.heap.size+1:=by simp[hsz3]
 have hrb:CK w4 v (w.heap.size+1) X todo1 cnt:=hra.grown (B:=w.heap.size) hg4 Om Sm (λb hb=>HV.out.lt hb) Om (λk hk=>by cases hk;exact Nl)
 have hbb:Below w.heap.size w w4:=((HB.out.grown hg3 Om (λk hk=>by cases hk;omega)).alloc Om _).grown hg4 Om (λk hk=>by cases hk;exact Nl)
 have hs4:=hg4.size
 go_roundg cnt
 case rel=>exact⟨_,n+1,todo1,Y4,rfl,Om,hrb,hset4,(λt=>by
  rw[hy4,HY.out];constructor
  .rintro (⟨q,q1,q2,q3⟩|h)
   .exact⟨q,q1,λh=>q2 ((hf q).1 h).1,q3⟩
   exact⟨s,(HR.out.sub hmem).1,λh2=>((hf s).1 h2).2 rfl,h⟩
  rintro ⟨q,q1,q2,q3⟩;by_cases hq:q=s
  .exact .inr (by rw[q3,hq])
  exact .inl ⟨q,q1,λh=>q2 ((hf q).2 ⟨h,hq⟩),q3⟩),hbb,Om⟩
 omega
theorem GS{w:World}{v:Value}{X Z:List ByteArray}{b2:Nat}(h:DX w v X)(h2:CD w b2 Z.length Z)(hn:X.length<=10000) :
 Calls Tryz.prog 105 #[v,.map (some b2)] w λe w'=>∃m Y,e=.returned m/\DX w' m Y/\(∀t,t∈Y↔t∈X/\t∈Z)/\Below w.heap.size w w':=by
 have hmm:=@run_makeMap Tryz.prog
 have hb0:Below w.heap.size w (w.alloc (.map #[] 0)):=Bl.alloc Nl _
 have HV:=Hd h
 have HV1:=Hd (h.below hb0)
 have HB0:=Hd hb0
 have HZ:=Hd (λ(W:World) (hW:Below w.heap.size w W)=>h2.below hW h2.lt)
 have HS0:=Hd (C6 w)
 have HSZ:=Hd (show (w.alloc (.map #[] 0)).heap.size=w.heap.size+1 by simp)
 clear h h2 hb0
 go_enter Tryz.func105,Tryz.ntmps105
 go_wp2_with (first|(at_range;refine FA _ rfl _ rfl v X rfl HV1.out ?_;intro w2 hR0 hg0 hsz0;rw[HSZ.out]at hR0 hsz0 ⊢)|go_in)
 go_frame
 have hb2:Below w.heap.size w w2:=HB0.out.grown hg0 (by rw[HSZ.out];omega) (λk hk=>by cases hk)
 have hset2:CD w2 w.heap.size 0 []:=HS0.out.same (hg0.block _ (by rw[HSZ.out];omega) Sm)
 clear hmm hg0
 go_loopg [] X.length (λg wr=>∃(c n:Nat) (todo Y:List ByteArray),c=g/\n+c<=X.length/\Hid (CK wr v (w.heap.size+1) X todo c)/\Hid (CD wr w.heap.size n Y)/\Hid (∀t,t∈Y↔t∈X/\t∉todo/\t∈Z)/\Hid (Below w.heap.size w wr)/\w.heap.size+1<wr.heap.size)
 case atStart=>exact⟨_,0,X,[],rfl,Om,hR0,hset2,(λt=>by simp;intro h1 h2;exact absurd h1 h2),hb2,Om⟩
 obtain⟨c,n,todo,Y,rfl,hng,HR,HSt,HY,HB,hsz⟩:=hrel
 go_wp2_with (first
  |(at_next;refine FQ _ rfl _ rfl v (w.heap.size+1) _ X todo rfl HR.out (λh0=>?_) (λs x w3 cnt todo1 hmem hf hR3 hlt hg3 hsz3 hen=>?_);rotate_left;have hst3:CD (w3.alloc (.cells #[.string s] 115)) w.heap.size n Y:=(HSt.out.same (hg3.block _ Om Sm)).same (Ha Om);have hbl3:Below w.heap.size w (w3.alloc (.cells #[.string s] 115)):=(HB.out.grown hg3 Om (λk hk=>by cases hk;omega)).alloc Om _;have hsm:=(HR.out.sub hmem).2;rotate_right)
  |(at_lookup;refine TR _ rfl _ _ rfl b2 Z.length Z s rfl rfl (HZ.out _ hbl3) hsm (λd hd=>?_);cases d)
  |(at_mapUpdate;refine DP _ rfl _ _ _ (.inl rfl) w.heap.size n Y s rfl rfl rfl hst3 Om hsm ?_;intro w4 Y4 hset4 hy4 hg4))
 all_goals try (exfalso;omega)
 .go_ret
  exact⟨_,Y,rfl,.inr ⟨_,rfl,HSt.out.tight⟩,λt=>by rw[HY.out,h0];simp,HB.out⟩
 all_goals
  have hga:w3.grownBy (w3.alloc (.cells #[.string s] 115)) none:=World.grownBy_alloc _ _ _;have hra:CK (w3.alloc (.cells #[.string s] 115)) v (w.heap.size+1) X todo1 cnt:=hR3.grown (B:=w.heap.size) hga Om Sm (λb hb=>HV.out.lt hb) Om (λk hk=>by cases hk);have hsa:(w3.alloc (.cells #[.string s] 115)).heap.size=wr.heap.size+1:=by simp[hsz3]
  go_roundg cnt
  case measure=>omega
 case rel=>
  exact⟨_,n,todo1,Y,rfl,Om,hra,hst3,(λt=>by
   rw[HY.out];constructor
   .rintro ⟨q1,q2,q3⟩
    exact⟨q1,λh=>q2 ((hf t).1 h).1,q3⟩
   rintro ⟨q1,q2,q3⟩;refine⟨q1,λh=>?_,q3⟩;by_cases hq:t=s
   .rw[hq]at q3;exact absurd (hd.2 q3) Sm
   exact q2 ((hf t).2 ⟨h,hq⟩)),hbl3,Om⟩
 have hrb:CK w4 v (w.heap.size+1) X todo1 cnt:=hra.grown (B:=w.heap.size) hg4 Om Sm (λb hb=>HV.out.lt hb) Om (λk hk=>by cases hk;exact Nl)
 have hbb:Below w.heap.size w w4:=hbl3.grown hg4 Om (λk hk=>by cases hk;exact Nl)
 have hs4:=hg4.size
 exact⟨_,n+1,todo1,Y4,rfl,Om,hrb,hset4,(λt=>by
  rw[hy4,HY.out];constructor
  .rintro (⟨q1,q2,q3⟩|h)
   .exact⟨q1,λh=>q2 ((hf t).1 h).1,q3⟩
   rw[h];exact⟨(HR.out.sub hmem).1,λh2=>((hf s).1 h2).2 rfl,hd.1 (by first|exact trivial|exact rfl)⟩
  rintro ⟨q1,q2,q3⟩;by_cases hq:t=s
  .exact .inr hq
  exact .inl ⟨q1,λh=>q2 ((hf t).2 ⟨h,hq⟩),q3⟩),hbb,Om⟩
def L8(b0 b1 b2 b3 b4 b5 b6 b7:Bool):Array Bool:=#[true,true,b0,true,b1,true,b2,true,b3,true,b4,true,b5,true,b6,true,b7,false,false]
def ix8(b0 b1 b2 b3 b4 b5 b6 b7:Bool)(i:Nat):Bool:=(i==2&&!b0)||(i==4&&!b1)||(i==6&&!b2)||(i==8&&!b3)||(i==10&&!b4)||(i==12&&!b5)||(i==14&&!b6)||(i==16&&!b7)||(i==17&&b0&&b1&&b2&&b3&&b4&&b5&&b6&&b7)
def AOf(ops:Array Oper)(b0 b1 b2 b3 b4 b5 b6 b7:Bool):Bool:=!(Region.ready .any ops (L8 b0 b1 b2 b3 b4 b5 b6 b7)).isEmpty&&(Region.ready .any ops (L8 b0 b1 b2 b3 b4 b5 b6 b7)).all (ix8 b0 b1 b2 b3 b4 b5 b6 b7)
def AO9(ops:Array Oper):Bool:=[true,false].all λb0=>[true,false].all λb1=>[true,false].all λb2=>[true,false].all λb3=>[true,false].all λb4=>[true,false].all λb5=>[true,false].all λb6=>[true,false].all λb7=>AOf ops b0 b1 b2 b3 b4 b5 b6 b7
theorem AGw{ops:Array Oper}(h:AO9 ops=true)(b0 b1 b2 b3 b4 b5 b6 b7:Bool):AOf ops b0 b1 b2 b3 b4 b5 b6 b7=true:=by
 simp only[AO9,List.all_cons,List.all_nil,Bool.and_true,Bool.and_eq_true]at h
 cases b0<;>cases b1<;>cases b2<;>cases b3<;>cases b4<;>cases b5<;>cases b6<;>cases b7<;>simp only[h]
theorem APx(b0 b1 b2 b3 b4 b5 b6 b7:Bool):(if b0=true then 0 else 1)+(if b1=true then 0 else 1)+(if b2=true then 0 else 1)+(if b3=true then 0 else 1)+(if b4=true then 0 else 1)+(if b5=true then 0 else 1)+(if b6=true then 0 else 1)+(if b7=true then 0 else 1)=0->b0=true/\b1=true/\b2=true/\b3=true/\b4=true/\b5=true/\b6=true/\b7=true:=by
 cases b0<;>cases b1<;>cases b2<;>cases b3<;>cases b4<;>cases b5<;>cases b6<;>cases b7<;>simp
theorem FL{ops:Array Oper}(hall:AO9 ops=true)(ho:∀k,k<8->∃o,ops[2+2*k]?=some o/\o.guard=none/\o.dst=none/\o.op=Op.insert 87 (.tmp 1) (.tmp (2+k)) (.const (.bool true)))
 {a:Act} {b:Nat} (hm:a.eval (.tmp 1)=.map (some b)) {ss:Nat->ByteArray} (hs:∀k,k<8->a.eval (.tmp (2+k))=.agg #[.string (ss k)]/\(ss k).size<=100000) {Q:Exit->Act->World->Prop} {w0:World} {B:Nat} (hB:B<=b)
 (hfin:∀w X n,CD w b n X->(∀t,t∈X↔∃k,k<8/\t=ss k)->Below B w0 w->wpAny Tryz.prog .any ops Q 2 (L8 true true true true true true true true) a w) :
 ∀(m:Nat) (b0 b1 b2 b3 b4 b5 b6 b7:Bool),(if b0=true then 0 else 1)+(if b1=true then 0 else 1)+(if b2=true then 0 else 1)+(if b3=true then 0 else 1)+(if b4=true then 0 else 1)+(if b5=true then 0 else 1)+(if b6=true then 0 else 1)+(if b7=true then 0 else 1)=m->∀(w:World) (X:List ByteArray) (c:Nat),c+m<=8->CD w b c X->(∀t,t∈X↔(b0=true/\t=ss 0\/b1=true/\t=ss 1\/b2=true/\t=ss 2\/b3=true/\t=ss 3\/b4=true/\t=ss 4\/b5=true/\t=ss 5\/b6=true/\t=ss 6\/b7=true/\t=ss 7))->Below B w0 w->B<=w.heap.size->
  wpAny Tryz.prog .any ops Q (m+2) (L8 b0 b1 b2 b3 b4 b5 b6 b7) a w
 |0,b0,b1,b2,b3,b4,b5,b6,b7,hsum,w,X,c,hc,h,hX,hb,hsz=>by
  obtain⟨rfl,rfl,rfl,rfl,rfl,rfl,rfl,rfl⟩:=APx b0 b1 b2 b3 b4 b5 b6 b7 hsum;refine hfin w X c h (λt=>?_) hb;rw[hX];constructor
  .rintro (⟨_,h⟩|⟨_,h⟩|⟨_,h⟩|⟨_,h⟩|⟨_,h⟩|⟨_,h⟩|⟨_,h⟩|⟨_,h⟩)
   .exact⟨0,Om,h⟩
   .exact⟨1,Om,h⟩
   .exact⟨2,Om,h⟩
   .exact⟨3,Om,h⟩
   .exact⟨4,Om,h⟩
   .exact⟨5,Om,h⟩
   .exact⟨6,Om,h⟩
   exact⟨7,Om,h⟩
  rintro ⟨k,hk,rfl⟩
  match k,hk with
  |0,_=>simp
  |1,_=>simp
  |2,_=>simp
  |3,_=>simp
  |4,_=>simp
  |5,_=>simp
  |6,_=>simp
  |7,_=>simp
 |m+1,b0,b1,b2,b3,b4,b5,b6,b7,hsum,w,X,c,hc,h,hX,hb,hsz=>by
  have hchk:=AGw hall b0 b1 b2 b3 b4 b5 b6 b7;unfold AOf at hchk;rw[Bool.and_eq_true]at hchk;refine wpAny_all rfl (λe=>by rw[e]at hchk;simp at hchk) λi hi=>?_;have hix:=List.all_eq_true.1 hchk.2 i hi;clear hchk hi;have hev:∀k,k<8->∀(K:Act->World->Prop),(∀w' X',CD w' b (c+1) X'->(∀t,t∈X'↔t∈X\/t=ss k)->Below B w0 w'->B<=w'.heap.size->K a w')->wpOp Tryz.prog ops Q (2+2*k) K a w:=λk hk K hK=>by
   obtain⟨o,h1,h2,h3,h4⟩:=ho k hk;obtain⟨w',X',hrun,r1,r2,r3⟩:=h.put Om (hs k hk).2;refine wpOp_step h1 λK' hK'=>?_;have hw:Region.wanted o (yielded ops a.tmps)=true:=by simp[Region.wanted,h2]
   rw[if_pos hw];unfold Oper.wp;have hct:a.eval (.const (.bool true))=.bool true:=rfl;simp[execOp,h4,hm,(hs k hk).1,hct,hrun,Result.andThen];show K' (a.put o.dst undef) w';rw[h3];exact hK' _ _ (hK w' X' r1 r2 (hb.grown r3 hsz (λj hj=>by cases hj;exact hB)) (Nat.le_trans hsz r3.size))
  unfold ix8 at hix;simp only[Bool.or_eq_true,Bool.and_eq_true,beq_iff_eq,Bool.not_eq_true']at hix;rcases hix with((((((((⟨rfl,rfl⟩)|⟨rfl,rfl⟩)|⟨rfl,rfl⟩)|⟨rfl,rfl⟩)|⟨rfl,rfl⟩)|⟨rfl,rfl⟩)|⟨rfl,rfl⟩)|⟨rfl,rfl⟩)|⟨⟨⟨⟨⟨⟨⟨⟨_,h0⟩,h1⟩,h2⟩,h3⟩,h4⟩,h5⟩,h6⟩,h7⟩
  .refine hev 0 Om _ λw' X' h' hX' hb' hsz'=>FL hall ho hm hs hB hfin m true b1 b2 b3 b4 b5 b6 b7 (by simp at hsum ⊢;omega) w' X' (c+1) Om h' (λt=>?_) hb' hsz'
   rw[hX',hX];simp;grind
  .refine hev 1 Om _ λw' X' h' hX' hb' hsz'=>FL hall ho hm hs hB hfin m b0 true b2 b3 b4 b5 b6 b7 (by simp at hsum ⊢;omega) w' X' (c+1) Om h' (λt=>?_) hb' hsz'
   rw[hX',hX];simp;grind
  .refine hev 2 Om _ λw' X' h' hX' hb' hsz'=>FL hall ho hm hs hB hfin m b0 b1 true b3 b4 b5 b6 b7 (by simp at hsum ⊢;omega) w' X' (c+1) Om h' (λt=>?_) hb' hsz'
   rw[hX',hX];simp;grind
  .refine hev 3 Om _ λw' X' h' hX' hb' hsz'=>FL hall ho hm hs hB hfin m b0 b1 b2 true b4 b5 b6 b7 (by simp at hsum ⊢;omega) w' X' (c+1) Om h' (λt=>?_) hb' hsz'
   rw[hX',hX];simp;grind
  .refine hev 4 Om _ λw' X' h' hX' hb' hsz'=>FL hall ho hm hs hB hfin m b0 b1 b2 b3 true b5 b6 b7 (by simp at hsum ⊢;omega) w' X' (c+1) Om h' (λt=>?_) hb' hsz'
   rw[hX',hX];simp;grind
  .refine hev 5 Om _ λw' X' h' hX' hb' hsz'=>FL hall ho hm hs hB hfin m b0 b1 b2 b3 b4 true b6 b7 (by simp at hsum ⊢;omega) w' X' (c+1) Om h' (λt=>?_) hb' hsz'
   rw[hX',hX];simp;grind
  .refine hev 6 Om _ λw' X' h' hX' hb' hsz'=>FL hall ho hm hs hB hfin m b0 b1 b2 b3 b4 b5 true b7 (by simp at hsum ⊢;omega) w' X' (c+1) Om h' (λt=>?_) hb' hsz'
   rw[hX',hX];simp;grind
  .refine hev 7 Om _ λw' X' h' hX' hb' hsz'=>FL hall ho hm hs hB hfin m b0 b1 b2 b3 b4 b5 b6 true (by simp at hsum ⊢;omega) w' X' (c+1) Om h' (λt=>?_) hb' hsz'
   rw[hX',hX];simp;grind
  exfalso;simp[h0,h1,h2,h3,h4,h5,h6,h7]at hsum
def L3(b0 b1 b2:Bool):Array Bool:=#[true,true,b0,true,b1,true,b2,false,false]
def ix3(b0 b1 b2:Bool)(i:Nat):Bool:=(i==2&&!b0)||(i==4&&!b1)||(i==6&&!b2)||(i==7&&b0&&b1&&b2)
def ANh(ops:Array Oper)(b0 b1 b2:Bool):Bool:=!(Region.ready .any ops (L3 b0 b1 b2)).isEmpty&&(Region.ready .any ops (L3 b0 b1 b2)).all (ix3 b0 b1 b2)
def ANv(ops:Array Oper):Bool:=[true,false].all λb0=>[true,false].all λb1=>[true,false].all λb2=>ANh ops b0 b1 b2
theorem AGi{ops:Array Oper}(h:ANv ops=true)(b0 b1 b2:Bool):ANh ops b0 b1 b2=true:=by
 simp only[ANv,List.all_cons,List.all_nil,Bool.and_true,Bool.and_eq_true]at h
 cases b0<;>cases b1<;>cases b2<;>simp only[h]
theorem APr(b0 b1 b2:Bool):(if b0=true then 0 else 1)+(if b1=true then 0 else 1)+(if b2=true then 0 else 1)=0->b0=true/\b1=true/\b2=true:=by
 cases b0<;>cases b1<;>cases b2<;>simp
theorem MV{ops:Array Oper}(hall:ANv ops=true)(ho:∀k,k<3->∃o,ops[2+2*k]?=some o/\o.guard=none/\o.dst=none/\o.op=Op.insert 87 (.tmp 1) (.tmp (2+k)) (.const (.bool true)))
 {a:Act} {b:Nat} (hm:a.eval (.tmp 1)=.map (some b)) {ss:Nat->ByteArray} (hs:∀k,k<3->a.eval (.tmp (2+k))=.agg #[.string (ss k)]/\(ss k).size<=100000) {Q:Exit->Act->World->Prop} {w0:World} {B:Nat} (hB:B<=b)
 (hfin:∀w X n,CD w b n X->(∀t,t∈X↔∃k,k<3/\t=ss k)->Below B w0 w->wpAny Tryz.prog .any ops Q 2 (L3 true true true) a w) :
 ∀(m:Nat) (b0 b1 b2:Bool),(if b0=true then 0 else 1)+(if b1=true then 0 else 1)+(if b2=true then 0 else 1)=m->∀(w:World) (X:List ByteArray) (c:Nat),c+m<=3->CD w b c X->(∀t,t∈X↔(b0=true/\t=ss 0\/b1=true/\t=ss 1\/b2=true/\t=ss 2))->Below B w0 w->B<=w.heap.size->
  wpAny Tryz.prog .any ops Q (m+2) (L3 b0 b1 b2) a w
 |0,b0,b1,b2,hsum,w,X,c,hc,h,hX,hb,hsz=>by
  obtain⟨rfl,rfl,rfl⟩:=APr b0 b1 b2 hsum;refine hfin w X c h (λt=>?_) hb;rw[hX];constructor
  .rintro (⟨_,h⟩|⟨_,h⟩|⟨_,h⟩)
   .exact⟨0,Om,h⟩
   .exact⟨1,Om,h⟩
   exact⟨2,Om,h⟩
  rintro ⟨k,hk,rfl⟩
  match k,hk with
  |0,_=>simp
  |1,_=>simp
  |2,_=>simp
 |m+1,b0,b1,b2,hsum,w,X,c,hc,h,hX,hb,hsz=>by
  have hchk:=AGi hall b0 b1 b2;unfold ANh at hchk;rw[Bool.and_eq_true]at hchk;refine wpAny_all rfl (λe=>by rw[e]at hchk;simp at hchk) λi hi=>?_;have hix:=List.all_eq_true.1 hchk.2 i hi;clear hchk hi;have hev:∀k,k<3->∀(K:Act->World->Prop),(∀w' X',CD w' b (c+1) X'->(∀t,t∈X'↔t∈X\/t=ss k)->Below B w0 w'->B<=w'.heap.size->K a w')->wpOp Tryz.prog ops Q (2+2*k) K a w:=λk hk K hK=>by
   obtain⟨o,h1,h2,h3,h4⟩:=ho k hk;obtain⟨w',X',hrun,r1,r2,r3⟩:=h.put Om (hs k hk).2;refine wpOp_step h1 λK' hK'=>?_;have hw:Region.wanted o (yielded ops a.tmps)=true:=by simp[Region.wanted,h2]
   rw[if_pos hw];unfold Oper.wp;have hct:a.eval (.const (.bool true))=.bool true:=rfl;simp[execOp,h4,hm,(hs k hk).1,hct,hrun,Result.andThen];show K' (a.put o.dst undef) w';rw[h3];exact hK' _ _ (hK w' X' r1 r2 (hb.grown r3 hsz (λj hj=>by cases hj;exact hB)) (Nat.le_trans hsz r3.size))
  unfold ix3 at hix;simp only[Bool.or_eq_true,Bool.and_eq_true,beq_iff_eq,Bool.not_eq_true']at hix;rcases hix with(((⟨rfl,rfl⟩)|⟨rfl,rfl⟩)|⟨rfl,rfl⟩)|⟨⟨⟨_,h0⟩,h1⟩,h2⟩
  .refine hev 0 Om _ λw' X' h' hX' hb' hsz'=>MV hall ho hm hs hB hfin m true b1 b2 (by simp at hsum ⊢;omega) w' X' (c+1) Om h' (λt=>?_) hb' hsz'
   rw[hX',hX];simp;grind
  .refine hev 1 Om _ λw' X' h' hX' hb' hsz'=>MV hall ho hm hs hB hfin m b0 true b2 (by simp at hsum ⊢;omega) w' X' (c+1) Om h' (λt=>?_) hb' hsz'
   rw[hX',hX];simp;grind
  .refine hev 2 Om _ λw' X' h' hX' hb' hsz'=>MV hall ho hm hs hB hfin m b0 b1 true (by simp at hsum ⊢;omega) w' X' (c+1) Om h' (λt=>?_) hb' hsz'
   rw[hX',hX];simp;grind
  exfalso;simp[h0,h1,h2]at hsum
theorem PK(w:World)(o:Obj):(w.drew.alloc o).heap.size=w.heap.size+1:=by
 have h:(w.drew.alloc o).heap.size=w.drew.heap.size+1:=by simp
 exact h
theorem AHc{w w':World}{o:Obj}(h:Below (w.alloc o).heap.size (w.alloc o) w'):Below w.heap.size w w':=(Bl.alloc Nl _).trans (h.mono Sm)
def TN(X:List ByteArray)(w:World)(e:Ending)(w':World):Prop:=∃m Y,e=.returned m/\DX w' m Y/\(∀t,t∈Y↔t∈X)/\Below w.heap.size w w'
theorem WN(w:World):Calls Tryz.prog 230 #[] w (TN [⟨#[98]⟩] w):=by have hmm:=@run_makeMap Tryz.prog;have HS0:=Hd (C6 w);have HB0:=Hd (show Below w.heap.size w (w.alloc (.map #[] 0)) from Bl.alloc Nl _);have HSL:=Hd (show w.heap.size<=(w.alloc (.map #[] 0)).heap.size by simp);go_enter Tryz.func230,Tryz.ntmps230;go_wp2_with (refine DP _ rfl _ _ _ (.inr rfl) w.heap.size 0 [] ⟨#[98]⟩ rfl rfl rfl HS0.out Om De ?_;intro w1 Y1 hset hy hg;have hb:=HB0.out.grown hg HSL.out (λk hk=>by cases hk;exact Nl);clear hg);go_ret;exact⟨_,Y1,rfl,.inr ⟨_,rfl,hset.tight⟩,(λt=>by rw[hy];simp),hb⟩
theorem WV(w:World):Calls Tryz.prog 235 #[] w (TN [⟨#[97,121]⟩] w):=by have hmm:=@run_makeMap Tryz.prog;have HS0:=Hd (C6 w);have HB0:=Hd (show Below w.heap.size w (w.alloc (.map #[] 0)) from Bl.alloc Nl _);have HSL:=Hd (show w.heap.size<=(w.alloc (.map #[] 0)).heap.size by simp);go_enter Tryz.func235,Tryz.ntmps235;go_wp2_with (refine DP _ rfl _ _ _ (.inr rfl) w.heap.size 0 [] ⟨#[97,121]⟩ rfl rfl rfl HS0.out Om De ?_;intro w1 Y1 hset hy hg;have hb:=HB0.out.grown hg HSL.out (λk hk=>by cases hk;exact Nl);clear hg);go_ret;exact⟨_,Y1,rfl,.inr ⟨_,rfl,hset.tight⟩,(λt=>by rw[hy];simp),hb⟩
theorem R9(w:World):Calls Tryz.prog 257 #[] w (TN [⟨#[118]⟩] w):=by have hmm:=@run_makeMap Tryz.prog;have HS0:=Hd (C6 w);have HB0:=Hd (show Below w.heap.size w (w.alloc (.map #[] 0)) from Bl.alloc Nl _);have HSL:=Hd (show w.heap.size<=(w.alloc (.map #[] 0)).heap.size by simp);go_enter Tryz.func257,Tryz.ntmps257;go_wp2_with (refine DP _ rfl _ _ _ (.inr rfl) w.heap.size 0 [] ⟨#[118]⟩ rfl rfl rfl HS0.out Om De ?_;intro w1 Y1 hset hy hg;have hb:=HB0.out.grown hg HSL.out (λk hk=>by cases hk;exact Nl);clear hg);go_ret;exact⟨_,Y1,rfl,.inr ⟨_,rfl,hset.tight⟩,(λt=>by rw[hy];simp),hb⟩
theorem UU(b:Bool)(w:World):Calls Tryz.prog 227 #[.bool b] w (TN [⟨#[98]⟩] w):=by go_enter Tryz.func227,Tryz.ntmps227;go_wp2_with (go_at_call 230;refine(WN _).mono ?_;rintro e w2 ⟨m,Y,rfl,h1,h2,h3⟩);go_ret;exact⟨m,Y,rfl,h1,h2,h3⟩
theorem U3(v:Value)(w:World):Calls Tryz.prog 232 #[v] w (TN [⟨#[97,121]⟩] w):=by go_enter Tryz.func232,Tryz.ntmps232;go_wp2_with (go_at_call 235;refine(WV _).mono ?_;rintro e w2 ⟨m,Y,rfl,h1,h2,h3⟩);go_ret;exact⟨m,Y,rfl,h1,h2,h3⟩
theorem QM(v:Value)(w:World):Calls Tryz.prog 255 #[.agg #[v]] w (TN [⟨#[118]⟩] w):=by go_enter Tryz.func255,Tryz.ntmps255;go_wp2_with (go_at_call 257;refine(R9 _).mono ?_;rintro e w2 ⟨m,Y,rfl,h1,h2,h3⟩);go_ret;exact⟨m,Y,rfl,h1,h2,AHc h3⟩
theorem X9(w:World):Calls Tryz.prog 248 #[] w (TN [⟨#[115]⟩,⟨#[103]⟩,⟨#[111]⟩] w):=by
 have hmm:=@run_makeMap Tryz.prog;go_enter Tryz.func248,Tryz.ntmps248;go_upto_region 1 with fail;refine wp_region_any Kr ?_;change wpAny _ _ _ _ _ _ _ w.drew;have HS0:=Hd (C6 w.drew);have HB0:=Hd (show Below w.heap.size w (w.drew.alloc (.map #[] 0)) from(Bl.drew).alloc Nl _);have HSL:=Hd (show w.heap.size<=(w.drew.alloc (.map #[] 0)).heap.size by rw[PK];omega);refine wpAny_take (i:=1) (v:=.agg #[.string ⟨#[115]⟩]) rfl Kr Kr Kr (λ_ _ _ h=>h) (Or.inl ⟨by rfl,λW=>by go_simp⟩) ?_;refine wpAny_take (i:=3) (v:=.agg #[.string ⟨#[103]⟩]) rfl Kr Kr Kr (λ_ _ _ h=>h) (Or.inl ⟨by rfl,λW=>by go_simp⟩) ?_;refine wpAny_take (i:=5) (v:=.agg #[.string ⟨#[111]⟩]) rfl Kr Kr Kr (λ_ _ _ h=>h) (Or.inl ⟨by rfl,λW=>by go_simp⟩) ?_;refine wpAny_ready (rs:=[0]) Kr Sm (AllReady.cons rfl (λK' hK'=>?_) AllReady.nil);rw[if_pos (by rfl)];go_simp;refine hK' _ _ ?_;clear hK';change wpAny _ _ _ _ 5 (L3 false false false) _ _;refine MV Kr (by intro k hk;match k,hk with|0,_=>exact⟨_,rfl,rfl,rfl,rfl⟩|1,_=>exact⟨_,rfl,rfl,rfl,rfl⟩|2,_=>exact⟨_,rfl,rfl,rfl,rfl⟩) rfl (ss:=λk=>match k with|0=>⟨#[115]⟩|1=>⟨#[103]⟩|_=>⟨#[111]⟩) (by intro k hk;match k,hk with|0,_=>exact⟨rfl,De⟩|1,_=>exact⟨rfl,De⟩|2,_=>exact⟨rfl,De⟩) (B:=w.heap.size) (w0:=w) Nl (λw1 X n hset hX hb=>?_) 3 false false false rfl _ [] 0 Om HS0.out Sm HB0.out HSL.out;refine wpAny_ready (rs:=[7]) Kr Sm (AllReady.cons rfl (λK' hK'=>?_) AllReady.nil);rw[if_pos (by rfl)];go_simp;refine hK' _ _ ?_;clear hK';refine wpAny_ready (rs:=[8]) Kr Sm (AllReady.cons rfl (λK' hK'=>?_) AllReady.nil);rw[if_pos (by rfl)];go_simp;refine hK' _ _ ?_;clear hK';refine wpAny_done Kr ?_ _;go_wp2_with fail;go_ret;refine⟨_,X,rfl,.inr ⟨_,rfl,hset.tight⟩,λt=>?_,hb⟩;rw[hX];constructor
 .rintro ⟨k,hk,rfl⟩
  match k,hk with
  |0,_=>simp|1,_=>simp|2,_=>simp
 intro h;simp only[List.mem_cons,List.not_mem_nil,or_false]at h;rcases h with rfl|rfl|rfl
 .exact⟨0,Om,rfl⟩
 .exact⟨1,Om,rfl⟩
 exact⟨2,Om,rfl⟩
theorem YE(w:World):Calls Tryz.prog 242 #[] w (TN [⟨#[121]⟩,⟨#[110]⟩,⟨#[113]⟩,⟨#[105]⟩,⟨#[117]⟩,⟨#[120]⟩,⟨#[116]⟩,⟨#[100]⟩] w):=by
 have hmm:=@run_makeMap Tryz.prog;go_enter Tryz.func242,Tryz.ntmps242;go_upto_region 1 with fail;refine wp_region_any Kr ?_;change wpAny _ _ _ _ _ _ _ w.drew;have HS0:=Hd (C6 w.drew);have HB0:=Hd (show Below w.heap.size w (w.drew.alloc (.map #[] 0)) from(Bl.drew).alloc Nl _);have HSL:=Hd (show w.heap.size<=(w.drew.alloc (.map #[] 0)).heap.size by rw[PK];omega);refine wpAny_take (i:=1) (v:=.agg #[.string ⟨#[121]⟩]) rfl Kr Kr Kr (λ_ _ _ h=>h) (Or.inl ⟨by rfl,λW=>by go_simp⟩) ?_;refine wpAny_take (i:=3) (v:=.agg #[.string ⟨#[110]⟩]) rfl Kr Kr Kr (λ_ _ _ h=>h) (Or.inl ⟨by rfl,λW=>by go_simp⟩) ?_;refine wpAny_take (i:=5) (v:=.agg #[.string ⟨#[113]⟩]) rfl Kr Kr Kr (λ_ _ _ h=>h) (Or.inl ⟨by rfl,λW=>by go_simp⟩) ?_;refine wpAny_take (i:=7) (v:=.agg #[.string ⟨#[105]⟩]) rfl Kr Kr Kr (λ_ _ _ h=>h) (Or.inl ⟨by rfl,λW=>by go_simp⟩) ?_;refine wpAny_take (i:=9) (v:=.agg #[.string ⟨#[117]⟩]) rfl Kr Kr Kr (λ_ _ _ h=>h) (Or.inl ⟨by rfl,λW=>by go_simp⟩) ?_;refine wpAny_take (i:=11) (v:=.agg #[.string ⟨#[120]⟩]) rfl Kr Kr Kr (λ_ _ _ h=>h) (Or.inl ⟨by rfl,λW=>by go_simp⟩) ?_;refine wpAny_take (i:=13) (v:=.agg #[.string ⟨#[116]⟩]) rfl Kr Kr Kr (λ_ _ _ h=>h) (Or.inl ⟨by rfl,λW=>by go_simp⟩) ?_;refine wpAny_take (i:=15) (v:=.agg #[.string ⟨#[100]⟩]) rfl Kr Kr Kr (λ_ _ _ h=>h) (Or.inl ⟨by rfl,λW=>by go_simp⟩) ?_;refine wpAny_ready (rs:=[0]) Kr Sm (AllReady.cons rfl (λK' hK'=>?_) AllReady.nil);rw[if_pos (by rfl)];go_simp;refine hK' _ _ ?_;clear hK';change wpAny _ _ _ _ 10 (L8 false false false false false false false false) _ _;refine FL Kr (by intro k hk;match k,hk with|0,_=>exact⟨_,rfl,rfl,rfl,rfl⟩|1,_=>exact⟨_,rfl,rfl,rfl,rfl⟩|2,_=>exact⟨_,rfl,rfl,rfl,rfl⟩|3,_=>exact⟨_,rfl,rfl,rfl,rfl⟩|4,_=>exact⟨_,rfl,rfl,rfl,rfl⟩|5,_=>exact⟨_,rfl,rfl,rfl,rfl⟩|6,_=>exact⟨_,rfl,rfl,rfl,rfl⟩|7,_=>exact⟨_,rfl,rfl,rfl,rfl⟩) rfl (ss:=λk=>match k with|0=>⟨#[121]⟩|1=>⟨#[110]⟩|2=>⟨#[113]⟩|3=>⟨#[105]⟩|4=>⟨#[117]⟩|5=>⟨#[120]⟩|6=>⟨#[116]⟩|_=>⟨#[100]⟩) (by intro k hk;match k,hk with|0,_=>exact⟨rfl,De⟩|1,_=>exact⟨rfl,De⟩|2,_=>exact⟨rfl,De⟩|3,_=>exact⟨rfl,De⟩|4,_=>exact⟨rfl,De⟩|5,_=>exact⟨rfl,De⟩|6,_=>exact⟨rfl,De⟩|7,_=>exact⟨rfl,De⟩) (B:=w.heap.size) (w0:=w) Nl (λw1 X n hset hX hb=>?_) 8 false false false false false false false false rfl _ [] 0 Om HS0.out Sm HB0.out HSL.out;refine wpAny_ready (rs:=[17]) Kr Sm (AllReady.cons rfl (λK' hK'=>?_) AllReady.nil);rw[if_pos (by rfl)];go_simp;refine hK' _ _ ?_;clear hK';refine wpAny_ready (rs:=[18]) Kr Sm (AllReady.cons rfl (λK' hK'=>?_) AllReady.nil);rw[if_pos (by rfl)];go_simp;refine hK' _ _ ?_;clear hK';refine wpAny_done Kr ?_ _;go_wp2_with fail;go_ret;refine⟨_,X,rfl,.inr ⟨_,rfl,hset.tight⟩,λt=>?_,hb⟩;rw[hX];constructor
 .rintro ⟨k,hk,rfl⟩
  match k,hk with
  |0,_=>simp|1,_=>simp|2,_=>simp|3,_=>simp|4,_=>simp|5,_=>simp|6,_=>simp|7,_=>simp
 intro h;simp only[List.mem_cons,List.not_mem_nil,or_false]at h;rcases h with rfl|rfl|rfl|rfl|rfl|rfl|rfl|rfl
 .exact⟨0,Om,rfl⟩
 .exact⟨1,Om,rfl⟩
 .exact⟨2,Om,rfl⟩
 .exact⟨3,Om,rfl⟩
 .exact⟨4,Om,rfl⟩
 .exact⟨5,Om,rfl⟩
 .exact⟨6,Om,rfl⟩
 exact⟨7,Om,rfl⟩
