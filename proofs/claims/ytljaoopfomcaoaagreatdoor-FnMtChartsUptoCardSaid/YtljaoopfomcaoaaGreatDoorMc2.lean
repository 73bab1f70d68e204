/- A part of the proof. -/
import Derived.Test.YtljaoopfomcaoaaGreatDoorMc1
import Derived.Maps.OwnSet
import Derived.Maps.RangeWalk
import Derived.BigQuiet
import Derived.Shelf.Sort.Plain
import Derived.Shelf.Slices.In.SortNone
import Derived.Sort.OwnSorted
import Derived.IntWalk
import Derived.Defers
import Derived.Recover
set_option linter.unusedVariables false
set_option linter.unusedSimpArgs false
set_option maxRecDepth 100000
set_option maxHeartbeats 4000000
namespace Go.Proofs.YtljaoopfomcaoaaGreatDoor
open Go.RowKit
abbrev RV(v:Value):Option (DataW Value × List MemPlace):=some (.held v,[])
def jJ(k:K):Lit:=.string k.data.toList
theorem xh{a b:K}(h:jJ a=jJ b):a=b:=by cases a;cases b;simp only[jJ,Lit.string.injEq,Array.toList_inj] at h;exact congrArg _ h
theorem BO(k:K):WideAt.IsKeyLit (jJ k):=trivial
theorem uP(a b:K):(jJ a).sameKey (jJ b)=(a==b):=by
 by_cases e:a=b
 .subst e;rw[WideAt.sameKey_self (BO a)];simp
 .rw[Maps.sameKey_ne (λh=>e (xh h))];simp[e]
theorem kJ:Maps.Keyed Tryz.prog 9:=Maps.string_keyed Tryz.underlying9
theorem iM{k:K}(h:k.size<=maxLen):keyOf Tryz.prog 9 (.string k)=some (jJ k):=by simp[keyOf,Tryz.underlying9,mapKey,jJ,h]
theorem qm{v:Value}{l:Lit}(h:keyOf Tryz.prog 9 v=some l):∃k:K,v=.string k∧l=jJ k∧k.size<=maxLen:=by
 cases v<;>simp[keyOf,Tryz.underlying9,mapKey] at h
 rename_i s
 exact⟨s,rfl,h.2.symm,h.1⟩
def mv(D:DataW Value)(k:K):Option Value:=
 match D.atKey (jJ k) .nil with
 | .held v=>some v
 | _=>none
theorem vH{D:DataW Value}(b:Maps.IsMap D)(k:K)(v:Value)(a:K):mv (D.put (jJ k) (.held v)) a=if a=k then some v else mv D a:=by
 unfold mv;by_cases e:a=k
 .subst e;rw[Maps.atKey_put_same b (BO _),if_pos rfl]
 .rw[Maps.atKey_put_other (λh=>e (xh h)),if_neg e]
theorem KH{D:DataW Value}(k a:K):mv (D.del (jJ k)) a=if a=k then none else mv D a:=by
 unfold mv;by_cases e:a=k
 .subst e;rw[Maps.atKey_del_same,if_pos rfl]
 .rw[Maps.atKey_del_other (λh=>e (xh h)),if_neg e]
def aU(w:World)(b n:Nat)(f:K→Option Value):Prop:=
 ∃D:DataW Value,w.ownsMap Tryz.prog 9 RV b n D∧∀k,f k=mv D k
theorem vI{w:World}{b n:Nat}{D:DataW Value}(h:w.ownsMap Tryz.prog 9 RV b n D){k:K}(i:k.size<=maxLen)(c:Bool):
  (Instr.lookup 67 (.map (some b)) (.string k) c).run Tryz.prog w=.ok (if c then .tuple #[(mv D k).getD .nilIface,.bool (mv D k).isSome] else(mv D k).getD .nilIface) w∧Maps.has D (jJ k)=(mv D k).isSome∧(∀z,D.atKey (jJ k) z=match mv D k with|some v=> .held v|none=>z):=by
 obtain⟨f,p,j,F,_,rfl⟩:=h;have l:=Tryz.zeroValue20 w;rcases Maps.fit_look c kJ Tryz.underlying67 l j F (iM i) with⟨d,_,a⟩|⟨g,y,_,_,d,m,a,_⟩
 .have e:mv (DataW.map ((f.toList.map (WideElems.rg Tryz.prog 9 RV)).foldr DataW.insert [])) k=none:=by unfold mv;rw[a]
  rw[e];refine⟨?_,by rw[Maps.has_false_of_atKey a];rfl,a⟩;rw[d];cases c<;>rfl
 .have o:y.1=.held g.val:=by cases m;rfl
  rw[o] at a;have e:mv (DataW.map ((f.toList.map (WideElems.rg Tryz.prog 9 RV)).foldr DataW.insert [])) k=some g.val:=by unfold mv;rw[a]
  rw[e];refine⟨?_,by rw[Maps.has_true_of_atKey a];rfl,a⟩;rw[d];cases c<;>rfl
theorem aU.made(w:World):aU (w.alloc (.map #[] 0)) w.heap.size 0 (λ_=>none):=⟨_,World.ownsMap_made w _ _ _,λ_=>rfl⟩
theorem aU.X{S:ae}{w a:World}{b n:Nat}{f:K→Option Value}(h:aU w b n f)(d:O S w a)(e:¬S b):aU a b n f:=by obtain⟨D,c,g⟩:=h;have i:=c.lt;obtain⟨j,k,l,r⟩:=c;exact⟨D,⟨j,k,(d.block b i e).trans l,r⟩,g⟩
theorem aU.lt{w:World}{b n:Nat}{f:K→Option Value}(h:aU w b n f):b<w.heap.size:=h.choose_spec.1.lt
theorem aU.alloc{w:World}{b n:Nat}{f:K→Option Value}(h:aU w b n f)(o:Obj):aU (w.alloc o) b n f:=h.X ((O.refl No w).alloc o) id
theorem aU.isMap{P:Program}{k:TypeId}{R:Value→Option (DataW Value × List MemPlace)}{w:World}{b n:Nat}{D:DataW Value}(h:w.ownsMap P k R b n D):Maps.IsMap D:=h.isMap
section
variable {w:World} {ops:Array Oper} {rest:List Oper} {o:Oper} {a:Act} {Q:ah}
theorem bY(j:o.guard=none){m x v:Operand}(l:o.op=Op.mapUpdate 67 m x v){b n:Nat}{f:K→Option Value}(p:a.eval m=.map (some b))(q:aU w b n f)(r:n<maxLen)
  {k:K} {u:Value} (s:a.eval x=.string k) (t:k.size<=maxLen) (y:a.eval v=u)
  (A:∀d,aU d b (n+1) (λz=>if z=k then some u else f z)→O (·=b) w d→d.heap.size=w.heap.size→wpList Tryz.prog ops Q rest (a.put o.dst undef) d):
  wpList Tryz.prog ops Q (o::rest) a w:=by
 obtain⟨D,g,B⟩:=q;refine wpList_mapUpdate_in w j m x v 67 l 9 20 kJ Tryz.underlying67 RV b n D p g r _ u (jJ k) s y (iM t) (.held u) [] rfl ?_;intro d C h;refine A d ⟨_,C,λz=> ?_⟩ ((O.grown h.grown).mono (λi _ e=>(Option.some.inj e).symm)) ?_
 .simp only[vH g.isMap,B]
 .obtain⟨E,c,F,c',G,rfl⟩:=h;simp[ChangeMaps.setBlock]
theorem aQ(c:o.guard=none){m x:Operand}(d:o.op=Op.lookup 67 m x true){b n:Nat}{f:K→Option Value}(e:a.eval m=.map (some b))(g:aU w b n f)
  {k:K} (h:a.eval x=.string k) (i:k.size<=maxLen)
  (j:wpList Tryz.prog ops Q rest (a.put o.dst (.tuple #[(f k).getD .nilIface,.bool (f k).isSome])) w):wpList Tryz.prog ops Q (o::rest) a w:=by
 obtain⟨D,l,p⟩:=g;refine wpList_plain c λs q=> ?_
 obtain⟨r, -⟩:=vI l i true;unfold Oper.wp;simp only[execOp,d,e,h,Sem.run_bind,r,Result.andThen_ok,if_true];rw[←p];exact q _ _ j
theorem vJ(h:o.guard=none){m x:Operand}(j:o.op=Op.call {callee:=Callee.builtin Builtin.delete,args:=#[m,x],argTypes:=#[67,9]}){b n:Nat}{f:K→Option Value}(l:a.eval m=.map (some b))(p:aU w b n f)
  {k:K} (q:a.eval x=.string k) (r:k.size<=maxLen)
  (s:∀d,aU d b n (λz=>if z=k then none else f z)→O (·=b) w d→d.heap.size=w.heap.size→wpList Tryz.prog ops Q rest (a.put o.dst (.tuple #[])) d):
  wpList Tryz.prog ops Q (o::rest) a w:=by
 obtain⟨D,t,u⟩:=p;refine wpList_delete_own w h m x 67 9 j 20 kJ Tryz.underlying67 RV b n D l t _ (jJ k) q (iM r) ?_;intro d v g;refine s d ⟨_,v,λz=> ?_⟩ ((O.grown g.grown).mono (λi _ e=>(Option.some.inj e).symm)) ?_
 .simp only[KH,u]
 .obtain⟨y,c,A,c',B,rfl⟩:=g;simp[ChangeMaps.setBlock]
def bM(w:World)(b r n:Nat)(f:K→Option Value)(a:K→Bool)(c:Nat):Prop:=
 ∃(D:DataW Value)(l:Lit→Bool),w.ranges Tryz.prog 9 RV b r n D l c∧(∀k,f k=mv D k)∧∀k,a k=l (jJ k)
theorem bM.map{b r n:Nat}{f:K→Option Value}{a:K→Bool}{c:Nat}(h:bM w b r n f a c):aU w b n f:=by obtain⟨D,l,d,e,g⟩:=h;exact⟨D,d.owns,e⟩
theorem bM.lt{b r n:Nat}{f:K→Option Value}{a:K→Bool}{c:Nat}(h:bM w b r n f a c):r<w.heap.size:=by obtain⟨D,l,d,e,g⟩:=h;exact d.lt
theorem bM.ne{b r n:Nat}{f:K→Option Value}{a:K→Bool}{c:Nat}(h:bM w b r n f a c):r≠b:=by obtain⟨D,l,d,e,g⟩:=h;exact d.ne
theorem bM.X{S:ae}{c:World}{b r n:Nat}{f:K→Option Value}{d:K→Bool}{e:Nat}(h:bM w b r n f d e)(g:O S w c)(i:¬S b)(j:¬S r):bM c b r n f d e:=by obtain⟨D,l,a,k,m⟩:=h;refine⟨D,l,?_,k,m⟩;have o:=a.owns.lt;have p:=a.lt;obtain⟨q,s,t,u,v,x,y,z,A,B,C⟩:=a;exact⟨q,s,t,u,v,(g.block b o i).trans x,y,z,A,(g.block r p j).trans B,C⟩
theorem bM.alloc{b r n:Nat}{f:K→Option Value}{a:K→Bool}{c:Nat}(h:bM w b r n f a c)(o:Obj):bM (w.alloc o) b r n f a c:=h.X ((O.refl No w).alloc o) id id
theorem bM.left_eq{b r n:Nat}{f:K→Option Value}{c:K→Bool}{a:Nat}(h:bM w b r n f c a):w.rangeLeft b r=a:=by obtain⟨D,l,d,e,g⟩:=h;exact d.left_eq
theorem dR(s:o.guard=none){m:Operand}(t:o.op=Op.range 67 m){b n:Nat}{f:K→Option Value}(u:a.eval m=.map (some b))(h:aU w b n f)
  (x:∀c j,bM c b w.heap.size n f (λk=>(f k).isSome) j→j<=n→O No w c→c.heap.size=w.heap.size+1→wpList Tryz.prog ops Q rest (a.put o.dst (.pointer (some ⟨w.heap.size,0,none⟩))) c):
  wpList Tryz.prog ops Q (o::rest) a w:=by
 obtain⟨D,d,g⟩:=h;have y:=d.size_le;have z:∀k:K,(f k).isSome=Maps.has D (jJ k):=by
  intro k;by_cases l:k.size<=maxLen
  .rw[(vI d l true).2.1,g]
  .have q:Maps.has D (jJ k)=false:=by
    obtain⟨A,J,h,F,_,rfl⟩:=d;cases hh:Maps.has (DataW.map ((A.toList.map (WideElems.rg Tryz.prog 9 RV)).foldr DataW.insert [])) (jJ k) with
    |false=>rfl
    |true=>
     exfalso
     rw[Maps.has_eq,List.any_eq_true] at hh;obtain⟨p,B,r⟩:=hh;obtain⟨v,C⟩:=Maps.fit_keys F p (mem_sorted.1 B);obtain⟨L, -,e,E⟩:=qm C;rw[e,uP] at r;exact l (by rw[←eq_of_beq r];exact E)
   rw[q,g,mv,Maps.atKey_of_not_has q]
   rfl
 refine wpList_range_own w s m 67 t 9 20 kJ Tryz.underlying67 RV b n D u d ?_;intro c G H I;exact x c _ ⟨D,_,G,g,z⟩ y ((O.grown H).mono (λi _ e=>by cases e)) I
theorem ed(u:o.guard=none){p:Operand}(A:o.op=Op.next p false){b r n:Nat}{f:K→Option Value}{g:K→Bool}{j:Nat}(B:a.eval p=.pointer (some ⟨r,0,none⟩))(h:bM w b r n f g j)
  (C:j=0→(∀k,g k=false)→wpList Tryz.prog ops Q rest (a.put o.dst (.tuple #[.bool false])) w)
  (E:∀(k:K)(v:Value)(d:World)(m:Nat),k.size<=maxLen→g k=true→f k=some v→bM d b r n f (λz=>g z && !(z==k)) m→m<j→O (·=r) w d→d.heap.size=w.heap.size→
   (Instr.entry (.pointer (some ⟨r,0,none⟩))).run Tryz.prog d=.ok (.tuple #[.string k,v]) d→wpList Tryz.prog ops Q rest (a.put o.dst (.tuple #[.bool true,.string k,v])) d):
  wpList Tryz.prog ops Q (o::rest) a w:=by
 obtain⟨D,l,F,t,q⟩:=h;refine wpList_next_ranges (α:=K) (β:=Value) w u p A 9 kJ RV Value.string id (λV G s=> ?_) (λv y _=>⟨v,rfl⟩) b r n D l j B F (λH I=>C H (λk=>by rw[q,I])) ?_
 .obtain⟨k,e, -⟩:=qm s;exact⟨k,e⟩
 .intro x c G y d m s J L M N P R S T;obtain⟨k,e,rfl,U⟩:=qm s;cases e;cases L;refine E x c d m U (by rw[q];exact J) ?_ ⟨D,_,N,t,λz=>by simp only[q,uP]⟩ P ((O.grown R).mono (λi _ e=>(Option.some.inj e).symm)) S T;rw[t,mv,M]
  rfl
end
inductive bC (ok:ae) (w:World):Value→J→Prop where
 |null:bC ok w .nilIface .null
 |bool {b}:bC ok w (.iface 4 (.bool b)) (.bool b)
 |int {i}:bC ok w (.iface 2 (.int .i64 i)) (.int i)
 |float {f}:bC ok w (.iface 22 (.float .f64 f)) (.float f)
 |text {t}:bC ok w (.iface 9 (.string t)) (.text t)
 |list {v:Value} {vs:Y} {xs:List J} (hr:aC ok w v 1 (vs.map λu=> [u])) (hn:vs.length=xs.length) (h:∀(n:Nat)(u:Value)(x:J),vs[n]?=some u→xs[n]?=some x→bC ok w u x):bC ok w (.iface 151 v) (.list xs)
 |table {b n:Nat} {f:K→Option Value} {kvs:T} (hm:aU w b n f) (hb:ok b) (hd:∀k,(f k).isSome=(get kvs k).isSome) (h:∀(k:K)(u:Value)(x:J),f k=some u→get kvs k=some x→bC ok w u x):bC ok w (.iface 67 (.map (some b))) (.table kvs)
theorem bC.X{ok S:ae}{w c:World}{v:Value}{j:J}(h:bC ok w v j)(d:O S w c)(e:∀b,ok b→¬S b):bC ok c v j:=by
 induction h with
 |null=>exact .null
 |bool=>exact .bool
 |int=>exact .int
 |float=>exact .float
 |text=>exact .text
 |list g i _ a=>exact .list (g.X d e) i a
 |table k f l _ a=>exact .table (k.X d (e _ f)) f l a
theorem bC.mono{ok ok':ae}{w:World}{v:Value}{j:J}(h:bC ok w v j)(c:∀b,b<w.heap.size→ok b→ok' b):bC ok' w v j:=by
 induction h with
 |null=>exact .null
 |bool=>exact .bool
 |int=>exact .int
 |float=>exact .float
 |text=>exact .text
 |list e f _ a=>exact .list (e.mono c (by decide)) f a
 |table d g i _ a=>exact .table d (c _ d.lt g) i a
theorem bC.keep{ok S:ae}{w d:World}{v:Value}{j:J}(h:bC ok w v j)(e:O S w d)(f:∀b,b<w.heap.size→ok b→¬S b):bC ok d v j:=
 ((h.mono (ok':=λb=>ok b∧b<w.heap.size) (λb a c=>⟨c,a⟩)).X e (λb a=>f b a.2 a.1)).mono (λb _ c=>c.1)
def mapOf:Value→Value
 | .iface 67 v=>v
 | _=> .map none
def rF(v:Value)(j:J):Prop:=∃ok w,bC ok w v j
theorem bC.dL{ok:ae}{w:World}{v:Value}{j:J}(h:bC ok w v j):rF v j:=⟨_,_,h⟩
theorem dP{w:World}{v:Value}{j:J}(h:rF v j):(Instr.typeAssert v 20 67 true).run Tryz.prog w=.ok (.tuple #[mapOf v,.bool (dA j)]) w:=by obtain⟨_,_,h⟩:=h;cases h<;>kernel_rfl
theorem aU.len{w:World}{b n:Nat}{f:K→Option Value}(e:aU w b n f):∃c:Nat,c<=n∧∀a,(Builtin.len_ #[67] a #[.map (some b)]).run Tryz.prog w=.ok (.int .i64 c) w:=by obtain⟨D,d,g⟩:=e;exact⟨_,d.size_le,λa=>d.len Tryz.underlying67 a⟩
theorem oD(c:Int)(w:World):(Instr.makeMap 67 (some (.int .i64 c))).run Tryz.prog w=.ok (.map (some w.heap.size)) (w.alloc (.map #[] 0)):=by kernel_rfl
theorem gW(w:World):(Instr.makeMap 67 none).run Tryz.prog w=.ok (.map (some w.heap.size)) (w.alloc (.map #[] 0)):=rfl
theorem uo:∀(l m:List Lit),l.Pairwise (λp q=>p≠q)→(∀x∈l,x∈m)→l.length<=m.length
 |[],_,_,_=>zL'
 |a::r,m,h,c=>by
  obtain⟨f,g⟩:=List.pairwise_cons.1 h;obtain⟨i,j,rfl⟩:=List.append_of_mem (c a (by simp));have k:=uo r (i++j) g (λx d=>by
   have b:=c x (by simp[d]);have n:x≠a:=λe=>f x d e.symm
   simp only[List.mem_append,List.mem_cons] at b⊢;rcases b with b|b|b
   .exact .inl b
   .exact absurd b n
   .exact .inr b)
  simp only[List.length_cons,List.length_append] at k⊢;omega
theorem aU.fit{w:World}{b n:Nat}{f:K→Option Value}{kvs:T}(h:aU w b n f)(l:∀k,(f k).isSome=(get kvs k).isSome):aU w b kvs.length f:=by
 obtain⟨D,g,i⟩:=h;refine⟨D,?_,i⟩;have m:=g;obtain⟨c,o,q,F,z,rfl⟩:=g;refine⟨c,o,q,F,?_,rfl⟩;have a:=Maps.fit_apart kJ F;have r:=uo ((c.toList.map (WideElems.rg Tryz.prog 9 RV)).map (·.1)) (kvs.map λp=>jJ p.1) (List.pairwise_map.2 a) (λx s=>by
  obtain⟨p,a,rfl⟩:=List.mem_map.1 s;obtain⟨v,t⟩:=Maps.fit_keys F p a;obtain⟨k, -,e,u⟩:=qm t;have d:=(vI m u true).2.1;have y:Maps.has (DataW.map ((c.toList.map (WideElems.rg Tryz.prog 9 RV)).foldr DataW.insert [])) (jJ k)=true:=by rw[Maps.has_eq,List.any_eq_true];exact⟨p,mem_sorted.2 a,by rw[e,uP];simp⟩
  rw[y,←i,l] at d;cases hg:get kvs k with
  |none=>rw[hg] at d;cases d
  |some j=>exact List.mem_map.2 ⟨(k,j),get_mem hg,e.symm⟩)
 simpa using r
theorem uq(u:Value)(h:u.oneCell'=true)(w:World):(Instr.buildSlice 151 1 #[(0,u)]).run Tryz.prog w=.ok (.slice (some ⟨w.heap.size,0,none⟩) 1 1) (w.alloc (.cells #[u] 20)):=by cases u<;>first|(simp[Value.oneCell'] at h;done)|kernel_rfl
theorem rG(cs:Y)(h:cs.length=7)(w:World):(Instr.buildSlice 24 1 #[(0,.agg cs.toArray)]).run Tryz.prog w=.ok (.slice (some ⟨w.heap.size,0,none⟩) 1 1) (w.alloc (.cells cs.toArray 26)):=by
 obtain⟨a,b,c,d,e,f,g,rfl⟩:∃a b c d e f g,cs=[a,b,c,d,e,f,g]:=by
  match cs,h with
  |[a,b,c,d,e,f,g],_=>exact⟨a,b,c,d,e,f,g,rfl⟩
 clear h
 kernel_rfl
theorem oG{ops:Array Oper}{rest:List Oper}{o:Oper}{a:Act}{w:World}{Q:ah}(b:o.guard=none){x:Operand}(c:o.op=.buildSlice 151 1 #[(0,x)]){u:Value}(d:a.eval x=u)(e:u.oneCell'=true)
  (h:wpList Tryz.prog ops Q rest (a.put o.dst (.slice (some ⟨w.heap.size,0,none⟩) 1 1)) (w.alloc (.cells #[u] 20))):wpList Tryz.prog ops Q (o::rest) a w:=by
 refine wpList_plain b λi f=> ?_
 have g:=uq u e w;unfold Oper.wp;simp only[execOp,c,List.map_toArray,List.map_cons,List.map_nil,d,Sem.run_bind,g,Result.andThen_ok];exact f _ _ h
theorem yA{ops:Array Oper}{rest:List Oper}{o:Oper}{a:Act}{w:World}{Q:ah}(b:o.guard=none){x:Operand}(c:o.op=.buildSlice 24 1 #[(0,x)]){cs:Y}(d:a.eval x=.agg cs.toArray)(e:cs.length=7)
  (h:wpList Tryz.prog ops Q rest (a.put o.dst (.slice (some ⟨w.heap.size,0,none⟩) 1 1)) (w.alloc (.cells cs.toArray 26))):wpList Tryz.prog ops Q (o::rest) a w:=by
 refine wpList_plain b λi f=> ?_
 have g:=rG cs e w;unfold Oper.wp;simp only[execOp,c,List.map_toArray,List.map_cons,List.map_nil,d,Sem.run_bind,g,Result.andThen_ok];exact f _ _ h
theorem dm{j:J}(h:dA j=true):∃t,j=.table t:=by cases j<;>simp[dA] at h;exact⟨_,rfl⟩
theorem yB{a:T}{k:K}{j:J}(h:dA j=false):gz a k j=j:=by cases j<;>first|rfl|simp[dA] at h
theorem zn{a:T}{k:K}{j:J}(h:get a k=none):gz a k j=j:=by cases j<;>simp[gz,h]
theorem yC{a:T}{k:K}{j x:J}(h:get a k=some x)(b:dA x=false):gz a k j=j:=by cases j<;>simp only[gz,h];cases x<;>first|rfl|simp[dA] at b
abbrev F9(ok:ae)(w:World)(r:Nat):ae:=λx=>okB ok w x∨r<x
theorem bC.old{ok:ae}{w wr:World}{v:Value}{j:J}(h:bC ok w v j)(c:O No w wr)(g:Nat):bC (F9 ok w g) wr v j:=
 ((h.mono (ok':=okB ok w) (λb d a=>⟨a,d⟩)).X c nE).mono (λb _ a=> .inl a)
theorem bC.dV{ok:ae}{w:World}{v:Value}{j:J}(h:bC ok w v j):bC (okB ok w) w v j:=h.mono (λb a c=>⟨c,a⟩)
structure rH (ok:ae) (w:World) (b n:Nat) (f:K→Option Value) (kvs:T):Prop where
 map:aU w b n f
 own:ok b
 dom:∀k,(f k).isSome=(get kvs k).isSome
 val:∀(k:K)(u:Value)(x:J),f k=some u→get kvs k=some x→bC ok w u x
theorem bC.tab{ok:ae}{w:World}{v:Value}{kvs:T}(h:bC ok w v (.table kvs)):∃b n f,v=.iface 67 (.map (some b))∧rH ok w b n f kvs:=by
 cases h with
 |table a c d e=>exact⟨_,_,_,rfl,a,c,d,e⟩
theorem rH.fit{ok:ae}{w:World}{b n:Nat}{f:K→Option Value}{kvs:T}(h:rH ok w b n f kvs):rH ok w b kvs.length f kvs:=⟨h.map.fit h.dom,h.own,h.dom,h.val⟩
theorem rH.some{ok:ae}{w:World}{b n:Nat}{f:K→Option Value}{kvs:T}(h:rH ok w b n f kvs){k:K}{u:Value}(c:f k=some u):∃x,get kvs k=some x∧bC ok w u x:=by
 have a:=h.dom k;rw[c] at a;cases hx:get kvs k with
 |none=>rw[hx] at a;cases a
 |some x=>exact⟨x,rfl,h.val k u x c hx⟩
theorem rH.none{ok:ae}{w:World}{b n:Nat}{f:K→Option Value}{kvs:T}(h:rH ok w b n f kvs){k:K}(c:f k=none):get kvs k=none:=by
 have a:=h.dom k;rw[c] at a;cases hx:get kvs k with
 |none=>rfl
 |some x=>rw[hx] at a;cases a
structure MM (ok:ae) (w:World) (a b:T) (fa fb:K→Option Value) (bb g r na nb:Nat) (wx:World) (left:K→Bool) (cnt no:Nat) (fo:K→Option Value):Prop where
 fO:bM wx bb r nb fb left cnt
 num:no+cnt<=na+nb
 o:aU wx g no fo
 vK:∀k j,left k=false→get b k=some j→∃u,fo k=some u∧bC (F9 ok w r) wx u (gz a k j)
 kU:∀k,(left k=true∨get b k=Option.none)→fo k=fa k
 X:O No w wx
 gr:g<r
 wg:w.heap.size<=g
theorem MM.step{ok:ae}{w:World}{a b:T}{v m:K→Option Value}{n g r y o:Nat}{A w2:World}{f:K→Bool}{B p q:Nat}{s:K→Option Value}(h:MM ok w a b v m n g r y o A f B p s)
  {k:K} {u:Value} {j:J} (E:bM w2 n r o m (λz=>f z && !(z==k)) q) (R:q<B) (F:aU w2 g (p+1) (λz=>if z=k then some u else s z)) (C:O (λx=>x=g∨x=r) A w2)
  (D:get b k=some j) (G:bC (F9 ok w r) w2 u (gz a k j)):MM ok w a b v m n g r y o w2 (λz=>f z && !(z==k)) q (p+1) (λz=>if z=k then some u else s z):=by
 have H:=h.gr;have I:=h.wg;refine⟨E,by have:=h.num;omega,F,λd L M t=> ?_,λd c=> ?_,h.X.trans C (λi S e=>by omega),H,I⟩
 .by_cases e:d=k
  .subst e;rw[D] at t;cases t;exact⟨u,if_pos rfl,G⟩
  .have N:f d=false:=(by simpa[e] using M);obtain⟨u',P,Q⟩:=h.vK d L N t;refine⟨u',by simp only[if_neg e];exact P,Q.keep C (λx _ l U=> ?_)⟩;rcases l with l|l
   .have:=l.2;omega
   .omega
 .have e:d≠k:=by
   rintro rfl;rcases c with c|c
   .simp at c
   .rw[D] at c;cases c
  simp only[if_neg e];refine h.kU d ?_;rcases c with c|c
  .exact .inl (by simpa[e] using c)
  .exact .inr c
theorem MM.done{ok:ae}{w:World}{a b:T}{l s:K→Option Value}{ba t g r m v:Nat}{n:World}{o:K→Bool}{z A:Nat}{B:K→Option Value}(h:MM ok w a b l s t g r m v n o z A B)(p:∀k,o k=false)
  (q:rH ok w ba m l a):bC (λx=>ok x∨w.heap.size<=x) n (.iface 67 (.map (some g))) (.table (merged a b)):=by
 have E:=h.gr;have C:=h.wg;refine .table h.o (.inr C) (λk=> ?_) (λk u x i c=> ?_)
 .rw[uj];cases hb:get b k with
  |none=>simp only;rw[h.kU k (.inr hb),q.dom]
  |some j=>obtain⟨u,d, -⟩:=h.vK k j (p k) hb;simp only;rw[d];rfl
 .rw[uj] at c;cases hb:get b k with
  |none=>rw[hb] at c;rw[h.kU k (.inr hb)] at i;exact((q.val k u x i c).keep h.X (λ_ _ _ e=>e)).mono (λ_ _ e=> .inl e)
  |some j=>
   obtain⟨u',d,D⟩:=h.vK k j (p k) hb;rw[hb] at c;rw[i] at d;cases d;cases c;refine D.mono (λy _ f=> ?_);rcases f with f|f
   .exact .inl f.1
   .exact .inr (by omega)
def rJ(ok:ae)(w:World)(j:J)(e:Ending)(a:World):Prop:=
 ∃r,e=.returned (.map (some r))∧bC (λx=>ok x∨w.heap.size<=x) a (.iface 67 (.map (some r))) j∧O No w a
theorem zo(n m:Nat)(dX:n+m<1099511627776)(d:Nat):∀(ok:ae)(a b:T)(va vb:Value)(w:World),bC ok w (.iface 67 va) (.table a)→bC ok w (.iface 67 vb) (.table b)→Wf n d (.table a)→Wf m d (.table b)→
  Calls Tryz.prog 95 #[va,vb] w (rJ ok w (.table (merged a b))):=by
 induction d with
 |zero=>intro ok a b va vb w _ _ h;exact h.elim
 |succ d ih=>
  intro ok a b va vb w ha hb wa wb;obtain⟨ba,F,fa,ea,R⟩:=ha.tab;obtain⟨bb,S,fb,eb,U⟩:=hb.tab;cases ea;cases eb;replace R:=R.fit;replace U:=U.fit;obtain⟨F,bn⟩:∃F,F=a.length:=⟨_,rfl⟩;obtain⟨S,bu⟩:∃S,S=b.length:=⟨_,rfl⟩;rw[←bn] at R;rw[←bu] at U;have HN:=Z (show F+S<1099511627776 by have h1:=wa.2.1;have h2:=wb.2.1;omega);clear bn bu;have HA:=Z R;have I:=Z U;have WA:=Z wa;have WB:=Z wb;have IH:=Z ih;have aA:=R.map;have dn:=aA.lt;have dw:=U.map.lt;clear ha hb wa wb ih R U;go_enter Tryz.func95,Tryz.ntmps95;obtain⟨g,hg⟩:∃g,g=w.heap.size:=⟨_,rfl⟩;obtain⟨lc, -,dB⟩:=aA.len;have dY:=oD;go_wp2_with (first|(at_range;refine dR rfl rfl rfl (aA.alloc _) ?_;intro w0 dZ aH dC aB aI;go_frame));have bz:(w.alloc (.map #[] 0)).heap.size=g+1:=(by simp[hg]);rw[bz] at aH aI⊢;rw[←hg] at dn dw⊢;have HG:=Z hg;have eu:=Z aI;have dD:=Z aB;have bD:aU w0 g 0 (λ_=>none):=by have h:=aU.made w;rw[←hg] at h;exact h.X aB id
  clear hg aI bz aB dB;go_loopw [6] (λ_ wr=>∃(V:K→Bool)(W D:Nat)(G:K→Option Value),bM wr ba (g+1) F fa V W∧D+W<=F∧aU wr g D G∧(∀k,G k=if V k then none else fa k)∧O No w wr) (λ_ wr=>wr.rangeLeft ba (g+1));case atStart=>refine⟨_,_,0,_,aH,by omega,bD,λk=> ?_,((O.refl No w).alloc _).trans' dD.o⟩;cases h:fa k<;>simp
  case round=>
   obtain⟨V,W,D,G,af,dE,aJ,hA,bF⟩:=hrel;have aK:=Z hA;have aN:=Z bF;clear hA bF aH bD dC aA;go_wp2_with (first|(at_next;refine ed rfl rfl rfl af ?_ ?_))
   .intro aB bG;have dF:G=fa:=funext λk=>by rw[aK.o,bG];rfl
    subst dF;have bH:=I.o.map.X aN.o id;have eF:=af.lt;clear bG aK;go_wp2_with (first|(at_range;refine dR rfl rfl rfl bH ?_;intro wq dG ai dH aO dI;go_frame));obtain⟨o,aP⟩:∃o,o=wr.heap.size:=⟨_,rfl⟩;rw[←aP] at ai⊢;have aS:=Z (show MM ok w a b G fb bb g o F S wq (λk=>(fb k).isSome) dG D G from
     ⟨ai,by omega,aJ.X aO id,λk j hl hb=>(by have h:=I.o.dom k;rw[hl,hb] at h;cases h),λk _=>rfl,aN.o.trans' aO,by omega,by have:=HG.o;omega⟩)
    have eG:=Z aP;clear ai dH aO dI aJ af dE bH aP;go_loopw [8] (λ_ wx=>∃(V:K→Bool)(W D:Nat)(bI:K→Option Value),MM ok w a b G fb bb g o F S wx V W D bI∧o<wx.heap.size) (λ_ wx=>wx.rangeLeft bb o);case atStart=>exact⟨_,_,_,_,aS.o,aS.o.fO.lt⟩
    case round=>
     obtain⟨V,W,D,bI,aT,eH⟩:=hrel;have c:=Z aT;have af:=aT.fO;clear aT aS;go_wp2_with (first|(at_next;refine ed rfl rfl rfl af ?_ ?_))
     .intro H bJ;have dJ:=Z bJ;clear bJ;go_wp2;go_ret;exact⟨g,rfl,c.o.done dJ.o HA.o,c.o.X⟩
     .intro k v J bK hk aC ay aF aG aj az dK;obtain⟨j,bP,bQ⟩:=I.o.some ay;have L:=Z hk;have dM:=Z aC;have HJ:=Z bP;have HV:=Z bQ;have E:=Z aG;have ak:=Z aj;have bT:=Z az;have aV:=Z aF;clear hk aC ay bP bQ aG aj az aF;have au:D<maxLen:=by
       have h1:=c.o.num;have h2:=HN.o;unfold maxLen;have h3:=E.o;omega
      have p:=c.o.o.X ak.o (by have:=c.o.gr;omega);have C:O (λx=>x=g∨x=o) wr J:=ak.o.mono (λi _ e=> .inr e);have bU:=Z (c.o.kU k (.inl dM.o));have aW:=Z (HV.o.old (c.o.X.trans ak.o (λi hi e=>by have:=c.o.gr;have:=c.o.wg;omega)) o);by_cases hj:dA j=true
      .obtain⟨y,rfl⟩:=dm hj;obtain⟨ax,ny,fy,rfl,bV⟩:=HV.o.tab;have bV:=Z bV;clear hj;have dN:∀z,(Instr.typeAssert (.iface 67 (.map (some ax))) 20 67 true).run Tryz.prog z=.ok (.tuple #[.map (some ax),.bool true]) z:=λz=>dP HV.o.dL
       cases KI:G k with
       |none=>
        have bW:=HA.o.none KI;have r:bC (F9 ok w o) J (.iface 67 (.map (some ax))) (gz a k (.table y)):=by rw[zn bW];exact aW.o
        have M:=bU.o;rw[KI] at M;have HF:=Z M;have q:=aV.o;clear bW M;go_upto_region 16 with(first|(at_lookup;refine aQ rfl rfl rfl p rfl L.o ?_;rw[HF.o];go_frame))
        have N:=Z r;have s:=Z C;have P:=Z q;clear r C q;go_wp2_with (first|(at_mapUpdate;refine bY (u:=.iface 67 (.map (some ax))) rfl rfl rfl p au rfl L.o rfl ?_;intro w3 t A aX;go_frame));have l:=Z A;have Q:=Z t;clear A t p;have aY:=I.o.map.lt;have aZ:=c.o.wg;have bf:=c.o.gr;have B:=P.o.X l.o (by omega) (by omega);go_roundw
        case rel=>
         refine⟨_,_,_,_,c.o.step B E.o Q.o (s.o.trans l.o (λi _ e=> .inl e)) HJ.o (N.o.keep l.o (λx _ f e=> ?_)),by have:=s.o.size;omega⟩;rcases f with f|f
         .have:=f.2;omega
         .omega
        case measure=>rw[B.left_eq,c.o.fO.left_eq];exact E.o
       |some u=>
        obtain⟨x,bZ,cu⟩:=HA.o.some KI;have HX:=Z cu;have bg:=Z bZ;have M:=bU.o;rw[KI] at M;have HF:=Z M;have q:=aV.o;clear cu bZ M;by_cases f:dA x=true
        .obtain⟨xt,rfl⟩:=dm f;obtain⟨bx,nx,fx,rfl,cO⟩:=HX.o.tab;have cO:=Z cO;clear f;have dO:∀z,(Instr.typeAssert (.iface 67 (.map (some bx))) 20 67 true).run Tryz.prog z=.ok (.tuple #[.map (some bx),.bool true]) z:=λz=>dP HX.o.dL
         go_wp2_with (first|(at_lookup;refine aQ rfl rfl rfl p rfl L.o ?_;rw[HF.o];go_frame))
         have cZ:=Z (show O No w J from c.o.X.trans ak.o (λi hi e=>by have:=c.o.gr;have:=c.o.wg;omega));have dQ:=Z (show o<J.heap.size by have:=bT.o;omega);refine(IH.o (okB ok w) xt y _ _ _ (HX.o.dV.X cZ.o nE) (HV.o.dV.X cZ.o nE) (WA.o.get bg.o).2 (WB.o.get HJ.o).2).mono ?_;rintro e w2 ⟨rn,rfl,df,H⟩;have r:bC (F9 ok w o) w2 (.iface 67 (.map (some rn))) (gz a k (.table y)):=by
          rw[show gz a k (.table y)=.table (merged xt y) by simp only[gz,bg.o]];refine df.mono (λz _ hz=> ?_);rcases hz with hz|hz
          .exact .inl hz
          .exact .inr (by have:=dQ.o;omega)
         replace p:=p.X H id;replace C:=C.trans' H;replace q:=q.X H id id;clear df H;have N:=Z r;have s:=Z C;have P:=Z q;clear r C q;go_wp2_with (first|(at_mapUpdate;refine bY (u:=.iface 67 (.map (some rn))) rfl rfl rfl p au rfl L.o rfl ?_;intro w3 t A aX;go_frame));have l:=Z A;have Q:=Z t;clear A t p;have aY:=I.o.map.lt;have aZ:=c.o.wg;have bf:=c.o.gr;have B:=P.o.X l.o (by omega) (by omega);go_roundw
         case rel=>
          refine⟨_,_,_,_,c.o.step B E.o Q.o (s.o.trans l.o (λi _ e=> .inl e)) HJ.o (N.o.keep l.o (λx _ f e=> ?_)),by have:=s.o.size;omega⟩;rcases f with f|f
          .have:=f.2;omega
          .omega
         case measure=>rw[B.left_eq,c.o.fO.left_eq];exact E.o
        .have dh:dA x=false:=(by simpa using f);have r:bC (F9 ok w o) J (.iface 67 (.map (some ax))) (gz a k (.table y)):=by rw[yC bg.o dh];exact aW.o
         have dO:∀z,(Instr.typeAssert u 20 67 true).run Tryz.prog z=.ok (.tuple #[mapOf u,.bool false]) z:=λz=>dh▸dP HX.o.dL
         go_upto_region 16 with(first|(at_lookup;refine aQ rfl rfl rfl p rfl L.o ?_;rw[HF.o];go_frame))
         have N:=Z r;have s:=Z C;have P:=Z q;clear r C q;go_wp2_with (first|(at_mapUpdate;refine bY (u:=.iface 67 (.map (some ax))) rfl rfl rfl p au rfl L.o rfl ?_;intro w3 t A aX;go_frame));have l:=Z A;have Q:=Z t;clear A t p;have aY:=I.o.map.lt;have aZ:=c.o.wg;have bf:=c.o.gr;have B:=P.o.X l.o (by omega) (by omega);go_roundw
         case rel=>
          refine⟨_,_,_,_,c.o.step B E.o Q.o (s.o.trans l.o (λi _ e=> .inl e)) HJ.o (N.o.keep l.o (λx _ f e=> ?_)),by have:=s.o.size;omega⟩;rcases f with f|f
          .have:=f.2;omega
          .omega
         case measure=>rw[B.left_eq,c.o.fO.left_eq];exact E.o
      .have di:dA j=false:=(by simpa using hj);have r:bC (F9 ok w o) J v (gz a k j):=by rw[yB di];exact aW.o
       have q:=aV.o;have dN:∀z,(Instr.typeAssert v 20 67 true).run Tryz.prog z=.ok (.tuple #[mapOf v,.bool false]) z:=λz=>di▸dP HV.o.dL
       clear hj;go_upto_region 16 with fail
       have N:=Z r;have s:=Z C;have P:=Z q;clear r C q;go_wp2_with (first|(at_mapUpdate;refine bY (u:=v) rfl rfl rfl p au rfl L.o rfl ?_;intro w3 t A aX;go_frame));have l:=Z A;have Q:=Z t;clear A t p;have aY:=I.o.map.lt;have aZ:=c.o.wg;have bf:=c.o.gr;have B:=P.o.X l.o (by omega) (by omega);go_roundw
       case rel=>
        refine⟨_,_,_,_,c.o.step B E.o Q.o (s.o.trans l.o (λi _ e=> .inl e)) HJ.o (N.o.keep l.o (λx _ f e=> ?_)),by have:=s.o.size;omega⟩;rcases f with f|f
        .have:=f.2;omega
        .omega
       case measure=>rw[B.left_eq,c.o.fO.left_eq];exact E.o
   .intro k v J bK hk aC ay aF aG aj az dK;have dS:=aJ.X aj (by omega);have ak:=Z aj;have bT:=Z az;have dU:=Z ay;have eP:=HN.o;have au:D<maxLen:=by unfold maxLen;omega
    clear aj az ay aC;go_wp2_with (first|(at_mapUpdate;refine bY (u:=v) rfl rfl rfl dS au rfl hk rfl ?_;intro w2 dW H eQ;go_frame));have ai:=aF.X H (by omega) (by omega);go_roundw
    case rel=>
     refine⟨_,bK,_,_,ai,by omega,dW,λz=> ?_,(aN.o.trans ak.o (λi hi e=>by have:=HG.o;omega)).trans H (λi hi e=>by have:=HG.o;omega)⟩;by_cases e:z=k
     .subst e;simp[dU.o]
     .simp only[if_neg e,aK.o];simp[e]
    case measure=>rw[ai.left_eq,af.left_eq];exact aG
mutual
def sz:J→Nat
 | .list xs=>1+iO xs
 | .table kvs=>1+pJ kvs
 | .null=>1
 | .bool _=>1
 | .int _=>1
 | .float _=>1
 | .text _=>1
def iO:List J→Nat
 |[]=>0
 |x::r=>sz x+iO r
def pJ:List (K × J)→Nat
 |[]=>0
 |p::r=>MI p+pJ r
def MI:K × J→Nat
 |(_,x)=>sz x
end
theorem Di(j:J):1<=sz j:=by cases j<;>simp[sz]
theorem Hm(p:K × J):MI p=sz p.2:=by cases p;rfl
theorem BP(xs:List J)(n:Nat)(x:J)(h:xs[n]?=some x):iO (xs.take n)+sz x=iO (xs.take (n+1)):=by
 induction xs generalizing n with
 |nil=>simp at h
 |cons y r a=>
  cases n with
  |zero=>simp at h;subst h;simp[iO]
  |succ n=>simp at h;have:=a n h;simp[iO];omega
theorem BQ(xs:T)(n:Nat)(p:K × J)(h:xs[n]?=some p):pJ (xs.take n)+sz p.2=pJ (xs.take (n+1)):=by
 induction xs generalizing n with
 |nil=>simp at h
 |cons y r a=>
  cases n with
  |zero=>simp at h;subst h;simp[pJ];rw[Hm]
  |succ n=>simp at h;have:=a n h;simp[pJ];omega
theorem KJ(xs:List J)(n:Nat):iO (xs.take n)<=iO xs:=by
 induction xs generalizing n with
 |nil=>simp[iO]
 |cons y r a=>cases n with
  |zero=>simp[iO]
  |succ n=>have:=a n;simp[iO];omega
theorem KN(xs:T)(n:Nat):pJ (xs.take n)<=pJ xs:=by
 induction xs generalizing n with
 |nil=>simp[pJ]
 |cons y r a=>cases n with
  |zero=>simp[pJ]
  |succ n=>have:=a n;simp[pJ];omega
theorem rM(xs:List J):xs.length<=iO xs:=by
 induction xs with
 |nil=>simp
 |cons y r a=>have:=Di y;simp[iO];omega
theorem ay.setCell{w:World}{g:Nat}{cs:Y}{a:TypeId}(h:ay w g cs a)(i:Nat)(v:Value):
  ay (w.setCell ⟨g,i,none⟩ v) g (cs.set i v) a∧O (·=g) w (w.setCell ⟨g,i,none⟩ v)∧(w.setCell ⟨g,i,none⟩ v).heap.size=w.heap.size:=by
 have b:(w.setCell ⟨g,i,none⟩ v).heap.size=w.heap.size:=(by simp[World.setCell]);refine⟨?_,(O.refl (·=g) w).setCell (p:=⟨g,i,none⟩) (λ_=>rfl) v,b⟩;have c:=h.lt;unfold ay at*;have d:w.heap[g]=.cells cs.toArray a (0,0):=by rw[Array.getElem?_eq_getElem c] at h;exact Option.some.inj h
 rw[Array.getElem?_eq_getElem (by rw[b];exact c)];simp only[World.setCell,Array.getElem_modify,if_pos,d];simp
theorem aB.made{w:World}{a e size:Nat}(b:a<=w.heap.size):aB (w.alloc (.cells #[] e)) a e size (.slice (some ⟨w.heap.size,0,none⟩) 0 0) []:=
 ⟨by simp,by simp,.inr ⟨_,0,#[],rfl,b,heap_alloc_new w _,by simp,by simp,by simp,by simp⟩⟩
theorem rO:iJ Tryz.prog 151 20 1 16:=by refine⟨Tryz.underlying151,?_,by decide⟩;have h:(Tryz.prog.info? 20).map (λi=>(i.zero,i.size,i.bytes))=some (some .nilIface,1,16):=(by kernel_rfl);obtain⟨i,a,b,c,d⟩:=info_parts h;exact⟨i,_,a,b,c,d,rfl⟩
theorem bC.one{ok:ae}{w:World}{v:Value}{j:J}(h:bC ok w v j):v.oneCell'=true:=by cases h<;>rfl
theorem aG.Dj{ok S:ae}{w c:World}{cs:Y}{j:J}(h:aG ok w cs j)(d:O S w c)(e:∀b,b<w.heap.size→ok b→¬S b):aG (okB ok w) c cs j:=
 (h.mono (ok':=okB ok w) (λb a f=>⟨f,a⟩)).X d (λb a=>e b a.2 a.1)
abbrev okF(B:Nat)(v:Value):ae:=λx=>B<=x∧v.ownBlock≠some x
structure AL (w:World) (p c g:Nat) (bx:Y) (xs:List J) (wr:World) (n:Nat) (v:Value) (vs:Y):Prop where
 le:n<=xs.length
 o:aB wr (g+1) 20 1 v (vs.map λu=> [u])
 len:vs.length=n
 val:∀(i:Nat)(u:Value)(x:J),vs[i]?=some u→xs[i]?=some x→bC (okF w.heap.size v) wr u x
 X:O (·=p) w wr
 cnt:ay wr p [.int .i64 ((c+1+iO (xs.take n):Nat):Int)] 3
 box:ay wr g bx 26
 size:g<wr.heap.size
theorem AL.done{w:World}{p c g:Nat}{d:Y}{xs:List J}{wr:World}{v:Value}{vs:Y}(h:AL w p c g d xs wr xs.length v vs)(i:w.heap.size<=g):bC (λx=>w.heap.size<=x) wr (.iface 151 v) (.list xs):=by refine .list (h.o.rowAt.mono (λb _ a=> ?_) (by decide)) h.len (λn u x e f=>(h.val n u x e f).mono (λb _ a=>a.1));have:=(h.o.elem a).1;omega
theorem AL.step{w:World}{p c g:Nat}{A:Y}{xs:List J}{wr:World}{n:Nat}{v:Value}{vs:Y}(h:AL w p c g A xs wr n v vs)(R:w.heap.size<=g)(S:p<w.heap.size){x:J}(o:xs[n]?=some x)
  {w3 d w6:World} {u v':Value} (B:O No wr w3) (C:O (·=p) w3 d) (G:bC (λy=>w3.heap.size<=y) d u x) (H:ay d p [.int .i64 ((c+1+iO (xs.take n)+sz x:Nat):Int)] 3)
  (q:O (λb=>v.ownBlock=some b) (d.alloc (.cells #[u] 20)) w6) (I:aB w6 (g+1) 20 1 v' (vs.map (λu=> [u])++[[u]])) (f:v'.ownBlock=v.ownBlock∨∀k,v'.ownBlock=some k→(d.alloc (.cells #[u] 20)).heap.size<=k):
  AL w p c g A xs w6 (n+1) v' (vs++[u]):=by
 have K:n<xs.length:=(gS'.1 o).1;have j:∀k,v.ownBlock=some k→g+1<=k∧k<wr.heap.size:=λk D=>⟨(h.o.elem D).1,(h.o.elem D).2.1⟩
 have L:O (λb=>b=p∨v.ownBlock=some b) w3 w6:=((C.mono (λi _ e=> .inl e)).alloc _).trans q (λi _ e=> .inr e);have m:O (λb=>b=p∨v.ownBlock=some b) wr w6:=(B.mono (λi _ e=>e.elim)).trans L (λi _ e=>e);have T:=B.size;have U:=C.size;refine⟨K,by simpa using I,by simp[h.len],λi u' M l r=> ?_,h.X.trans m (λi E e=> ?_),?_,h.box.X m (λe=> ?_),Nat.lt_of_lt_of_le h.size m.size⟩
 .have F:∀b,b<d.heap.size→v.ownBlock≠some b→v'.ownBlock≠some b:=λb a N e=>by
   rcases f with f|f
   .exact N (f▸e)
   .have:=f b e;simp at this;omega
  by_cases E:i<vs.length
  .rw[List.getElem?_append_left E] at l;have s:=(h.val i u' M l r).mono (ok':=λb=>okF w.heap.size v b∧b<wr.heap.size) (λb a t=>⟨t,a⟩);have z:=s.X m (λb a e=>by
    rcases e with e|e
    .have:=a.1.1;omega
    .exact a.1.2 e)
   exact z.mono (λb _ a=>⟨a.1.1,F b (by have:=a.2;omega) a.1.2⟩)
  .have P:i=vs.length:=by
    have:=(gS'.1 l).1;simp at this;omega
   subst P;rw[List.getElem?_append_right lR',Nat.sub_self] at l;cases l;rw[h.len,o] at r;cases r;have s:=G.mono (ok':=λb=>w3.heap.size<=b∧b<d.heap.size) (λb a t=>⟨t,a⟩);have z:=s.X ((O.refl No d).alloc (.cells #[u] 20)) (λb a e=>e);have Q:=z.X q (λb a e=>by have:=(j b e).2;have:=a.1;omega);refine Q.mono (λb _ a=>⟨by have:=h.size;have:=a.1;omega,F b a.2 (λe=> ?_)⟩);have:=(j b e).2;have:=a.1;omega
 .rcases e with e|e
  .exact e
  .have:=(j i e).1;omega
 .rw[←BP xs n x o,←Nat.add_assoc];exact(H.alloc _).X q (λe=>by have:=(j p e).1;omega)
 .rcases e with e|e
  .omega
  .have:=(j g e).1;omega
structure AM (w:World) (p c g m:Nat) (bx:Y) (kvs:T) (wr:World) (n:Nat) (f:K→Option Value):Prop where
 le:n<=kvs.length
 o:aU wr m n f
 vK:∀(k:K)(j:J),get (kvs.take n) k=some j→∃u,f k=some u∧bC (λx=>w.heap.size<=x∧x≠m) wr u j
 kU:∀(k:K),get (kvs.take n) k=none→f k=none
 X:O (·=p) w wr
 cnt:ay wr p [.int .i64 ((c+1+pJ (kvs.take n):Nat):Int)] 3
 box:ay wr g bx 26
 gm:g<m
theorem AM.done{w:World}{p c g m:Nat}{l:Y}{kvs:T}{wr:World}{f:K→Option Value}(h:AM w p c g m l kvs wr kvs.length f)(r:w.heap.size<=g):bC (λx=>w.heap.size<=x) wr (.iface 67 (.map (some m))) (.table kvs):=by
 have e:=h.vK;have i:=h.kU;rw[List.take_length] at e i;refine .table h.o (by have:=h.gm;omega) (λk=> ?_) (λk u x n a=> ?_)
 .cases a:get kvs k with
  |none=>rw[i k a];rfl
  |some j=>obtain⟨u,d, -⟩:=e k j a;rw[d];rfl
 .obtain⟨u',d,o⟩:=e k x a;rw[n] at d;cases d;exact o.mono (λb _ q=>q.1)
theorem AM.step{w:World}{p c g m:Nat}{C:Y}{kvs:T}{wr:World}{n:Nat}{f:K→Option Value}(h:AM w p c g m C kvs wr n f)(D:Sorted kvs)(R:w.heap.size<=g)(S:p<w.heap.size){q:K × J}(r:kvs[n]?=some q)
  {d w6:World} {u:Value} (s:O (·=p) wr d) (E:bC (λy=>wr.heap.size<=y) d u q.2) (F:ay d p [.int .i64 ((c+1+pJ (kvs.take n)+sz q.2:Nat):Int)] 3)
  (t:O (·=m) d w6) (G:aU w6 m (n+1) (λz=>if z=q.1 then some u else f z)):
  AM w p c g m C kvs w6 (n+1) (λz=>if z=q.1 then some u else f z):=by
 have H:n<kvs.length:=(gS'.1 r).1;have I:=h.gm;have v:kvs.take (n+1)=kvs.take n++[q]:=by rw[List.take_add_one,r];rfl
 have x:=nD D (n+1);rw[v] at x;have A:O (λb=>b=p∨b=m) wr w6:=(s.mono (λi _ e=> .inl e)).trans t (λi _ e=> .inr e);have U:=h.o.lt;have V:=s.size;refine⟨H,G,λk j l=> ?_,λk o=> ?_,h.X.trans A (λi W e=>by omega),?_,h.box.X A (λe=>by omega),I⟩
 .rw[v,wZ x] at l;by_cases e:q.1=k
  .rw[if_pos e] at l;cases l;refine⟨u,if_pos e.symm,?_⟩;have L:=E.mono (ok':=λb=>wr.heap.size<=b∧b<d.heap.size) (λb a M=>⟨M,a⟩);have N:=L.X t (λb a e=>by have:=a.1;omega);exact N.mono (λb _ a=>⟨by have:=a.1;omega,by have:=a.1;omega⟩)
  .rw[if_neg e] at l;obtain⟨u',P,Q⟩:=h.vK k j l;refine⟨u',by simp only[if_neg (λB:k=q.1=>e B.symm)];exact P,?_⟩;exact Q.keep A (λb _ a e=>by have h3:=a.1;have s:=a.2;omega)
 .rw[v,wZ x] at o;by_cases e:q.1=k
  .rw[if_pos e] at o;cases o
  .rw[if_neg e] at o;simp only[if_neg (λB:k=q.1=>e B.symm)];exact h.kU k o
 .rw[←BQ kvs n q r,←Nat.add_assoc];exact F.X t (λe=>by omega)
def Js(w:World)(p c:Nat)(j:J)(e:Ending)(a:World):Prop:=
 ∃v,e=.returned (.tuple #[v,.bool true])∧bC (λx=>w.heap.size<=x) a v j∧O (·=p) w a∧ay a p [.int .i64 ((c+sz j:Nat):Int)] 3
theorem zq(N:Nat)(hN:N<1099511627776)(d:Nat):∀(ok:ae)(j:J)(cs:Y)(w:World)(p c z:Nat),aG ok w cs j→Wf N d j→ay w p [.int .i64 (c:Int)] 3→¬ok p→c+sz j<=2000→z+d<=61→
  Calls Tryz.prog 82 #[.agg cs.toArray,.int .i64 (z:Int),.pointer (some ⟨p,0,none⟩)] w (Js w p c j):=by
 induction d with
 |zero=>intro ok j cs w p c z _ h;exact h.elim
 |succ d ih=>
  intro ok j cs w p c z hv wf hp bM hc hd;obtain⟨k,b,i,f,t,kv,lv,rfl⟩:=hv.seven;have dn:=Di j;have dw:w.cell? ⟨p,0,none⟩=some (.int .i64 (c:Int)):=hp.cell 0;have dA:=hp.frozen 0;have dB:=hp.lt;have HV:=Z hv;have WF:=Z wf;have IH:=Z ih;have HP:=Z hp;have L:=Z bM;have dN:(c:Int)<2000:=(by omega);have dO:(z:Int)<=60:=(by omega);have dP:(z:Int)+1<=61:=(by omega);have bn:=Z hc;have HD:=Z hd;clear hv wf ih hp bM hc hd dn;go_enter Tryz.func82,Tryz.ntmps82;unfold ai;go_upto_region 2 with fail
  obtain⟨R,aF,bu⟩:=HP.o.setCell 0 (.int .i64 ((c:Int)+1));obtain⟨g,hg⟩:∃g,g=w.heap.size:=⟨_,rfl⟩;have aH:=ay.new (w.setCell ⟨p,0,none⟩ (.int .i64 ((c:Int)+1))) (ai k b i f t kv lv) 26;replace R:=R.alloc (.cells (ai k b i f t kv lv).toArray 26);replace aF:=aF.alloc (.cells (ai k b i f t kv lv).toArray 26);have aJ:g<((w.setCell ⟨p,0,none⟩ (.int .i64 ((c:Int)+1))).alloc (.cells (ai k b i f t kv lv).toArray 26)).heap.size:=(by simp[bu,hg]);rw[bu,←hg] at aH;rw[←hg] at dB⊢;have HG:=Z hg;unfold ai at aH R aF aJ;generalize (w.setCell ⟨p,0,none⟩ (.int .i64 ((c:Int)+1))).alloc _=B at aH R aF aJ⊢;have aK:=Z R;have G:=Z aF;have bP:B.cell? ⟨p,0,none⟩=some (.int .i64 ((c:Int)+1)):=R.cell 0;have dQ:¬(2000:Int)<(c:Int)+1:=(by omega);have dR:¬(60:Int)<(z:Int):=(by omega);have A:=Z aH;have bQ:B.cell? ⟨g,0,none⟩=some (.int .i64 k):=aH.cell 0;clear aH;clear dw dA bu R aF hg;have bT:∀(j:J),c+sz j=c+1→ay B p [.int .i64 ((c+sz j:Nat):Int)] 3:=λj hj=>by rw[hj];exact aK.o
  have S:=Z bT;clear bT;cases HV.o with
  |null a l=>clear a l;go_wp2;go_ret2;exact⟨_,rfl,.null,G.o,S.o .null rfl⟩
  |bool a l=>clear a l;have aX:=A.o.cell 1;simp only[List.getElem?_cons_succ,List.getElem?_cons_zero] at aX;go_wp2;go_ret2;exact⟨_,rfl,.bool,G.o,S.o (.bool b) rfl⟩
  |int a l=>clear a l;have dC:=A.o.cell 2;simp only[List.getElem?_cons_succ,List.getElem?_cons_zero] at dC;go_wp2;go_ret2;exact⟨_,rfl,.int,G.o,S.o (.int i) rfl⟩
  |float a l=>clear a l;have dD:=A.o.cell 3;simp only[List.getElem?_cons_succ,List.getElem?_cons_zero] at dD;go_wp2;go_ret2;exact⟨_,rfl,.float,G.o,S.o (.float f) rfl⟩
  |text a l=>clear a l;have dE:=A.o.cell 4;simp only[List.getElem?_cons_succ,List.getElem?_cons_zero] at dE;go_wp2;go_ret2;exact⟨_,rfl,.text,G.o,S.o (.text t) rfl⟩
  |@list _ _ _ _ _ _ E xs a l hn hr=>
   have HR:=Z hr;have HL:=Z l;have HN:=Z hn;have aY:=l.1;obtain⟨-, -,T,M,rfl, -, -⟩:=l;unfold maxLen at aY;have aO:B.cell? ⟨g,6,none⟩=some (.slice T E.length M):=A.o.cell 6;clear a hr hn;go_wp2_with fail;have H:=Z (show w.heap.size<=g∧p<w.heap.size by have:=HG.o;omega);have bU:=Z (show AL w p c g (ai 6 b i f t kv (.slice T E.length M)) xs (B.alloc (.cells #[] 20)) 0 (.slice (some ⟨B.heap.size,0,none⟩) 0 0) [] from
    ⟨zL',aB.made (by omega),rfl,λi u x h=>by simp at h,G.o.alloc _,by simpa[iO] using aK.o.alloc (.cells #[] 20),A.o.alloc _,by simp;omega⟩)
   clear bQ aO aJ aK G S A bP;go_loopw [8,61] (λv U wr=>∃(n:Nat)(vs:Y),U=.int .i64 n∧AL w p c g (ai 6 b i f t kv (.slice T E.length M)) xs wr n v vs) (λ_ U _=>xs.length - (intOf U).toNat);case atStart=>exact⟨0,[],rfl,bU.o⟩
   case round=>
    obtain⟨n,vs,rfl,o⟩:=hrel;have aZ:=Z o;clear o bU;by_cases I:n<xs.length
    .have P:xs[n]?=some (xs[n]):=List.getElem?_eq_getElem I;have bz:n<E.length:=by rw[HN.o];exact I
     obtain⟨r,W⟩:=gX' E n (bz);obtain⟨lb,lo,rfl,bC,aP⟩:=HL.o.at (i:=n) (r:=r) W;have aQ:=aP.X aZ.o.X (λe=>L.o (e▸bC));have af:=Z (HR.o n r _ W P);obtain⟨rk,rb,ri,rf,rt,aj,ax,rfl⟩:=af.o.seven;have dF:(n:Int)<(E.length:Int):=(by omega);have dG:(ai rk rb ri rf rt aj ax).all (·.oneCell')=true:=af.o.one;have F:=Z P;clear W aP P;generalize xs[n]=x at F af;go_wp2_with (first|(with_reducible refine V rfl au rfl rfl aQ rfl ?_)|(with_reducible refine ak rfl au rfl rfl rfl rfl rfl dG ?_)|(with_reducible refine V rfl au rfl rfl (ay.new wr (ai rk rb ri rf rt aj ax) 26).cells rfl ?_));have o:=aZ.o;have aS:c+1+iO (xs.take n)+sz x<=2000:=by have C:=BP xs n x F.o;have h2:=KJ xs (n+1);have h3:=bn.o;simp only[sz] at h3;omega
     have az:=IH.o (okB ok w) x (ai rk rb ri rf rt aj ax) (wr.alloc (.cells (ai rk rb ri rf rt aj ax).toArray 26)) p (c+1+iO (xs.take n)) (z+1) (af.o.Dj (o.X.alloc _) (λy hy bD e=>L.o (e▸bD))) (WF.o.2 _ (mG' F.o)) (o.cnt.alloc _) (λh=>L.o h.1) aS (by have:=HD.o;omega);rw[show((z+1:Nat):Int)=(z:Int)+1 by omega] at az;refine az.mono ?_;rintro e w4 ⟨u,rfl,aI,D,aT⟩;have bf:=Z (λw6 v'=>o.step (w6:=w6) (v':=v') H.o.1 H.o.2 F.o ((O.refl No wr).alloc _) D aI aT);have bV:=(o.o.X (((O.refl No wr).alloc (.cells (ai rk rb ri rf rt aj ax).toArray 26)).trans' (O.refl No _)) nE).X D (λk a e=>by have:=(o.o.elem a).1;omega);have bF:=aI.one;have dS:=uq u bF;have dH:(vs.map λu=> [u]).length+1<=1099511627776:=by have C:=rM xs;have h3:=bn.o;simp only[sz] at h3;rw[List.length_map,o.len];omega
     have dI:g+1<=w4.heap.size+1:=by have:=o.size;have:=D.size;simp at this;omega
     have dU:=Z (Nat.lt_of_lt_of_le o.size (Nat.le_trans (Nat.le_succ _) (by simpa using D.size)));clear az aI aT aQ aS o D;go_wp2_with (first|(refine oG rfl rfl rfl bF ?_)|(at_builtin;refine aN rfl rO rfl rfl (bV.alloc _) rfl (aC.gX w4 [u] 20 1 rfl) (by simp[bF]) dH (by decide) (by simpa using dI) ?_;intro v' w6 bW Q bZ dJ;go_frame));have aV:=Z (bf.o w6 v' Q bW bZ);clear bW Q bZ dJ bV;go_roundw;case rel=>exact⟨n+1,vs++[u],by go_num,aV.o⟩
     case measure=>simp[intOf];omega
    .have bG:n=xs.length:=Nat.le_antisymm aZ.o.le (Nat.not_lt.1 I);subst bG;have dV:¬((xs.length:Nat):Int)<(E.length:Int):=by rw[HN.o];omega
     go_wp2_with fail
     go_ret2;have o:=aZ.o;refine⟨_,rfl,o.done H.o.1,o.X,?_⟩;have C:=o.cnt;rw[List.take_length] at C;simpa[sz,Nat.add_assoc] using C
  |@table _ _ _ _ _ _ E kvs a l hn hr=>
   have HR:=Z hr;have HL:=Z l;have bH:=Z a;have HN:=Z hn;have aY:=l.1;have aX:=a.1;obtain⟨-, -,T,M,rfl, -, -⟩:=l;obtain⟨-, -,ka,kc,rfl, -, -⟩:=a;simp only[List.length_map] at aX A HV bH;unfold maxLen at aY aX;rw[hn] at HL A HV aY;have bI:B.cell? ⟨g,5,none⟩=some (.slice ka kvs.length kc):=A.o.cell 5;have aO:B.cell? ⟨g,6,none⟩=some (.slice T kvs.length M):=A.o.cell 6;clear hr hn;have dW:=gW;have H:=Z (show w.heap.size<=g∧p<w.heap.size by have:=HG.o;omega);go_wp2_with fail;have bJ:=Z (show AM w p c g B.heap.size (ai 7 b i f t (.slice ka kvs.length kc) (.slice T kvs.length M)) kvs (B.alloc (.map #[] 0)) 0 (λ_=>none) from
    ⟨zL',aU.made B,λk j h=>by simp[get] at h,λk h=>rfl,G.o.alloc _,by simpa[pJ] using aK.o.alloc (.map #[] 0),A.o.alloc _,aJ⟩)
   obtain⟨m,hm⟩:∃m,m=B.heap.size:=⟨_,rfl⟩;rw[←hm] at bJ⊢;clear bQ aO aJ aK G S A bP bI hm;go_loopw [95] (λU wr=>∃(n:Nat)(fo:K→Option Value),U=.int .i64 n∧AM w p c g m (ai 7 b i f t (.slice ka kvs.length kc) (.slice T kvs.length M)) kvs wr n fo) (λU _=>kvs.length - (intOf U).toNat);case atStart=>exact⟨0,_,rfl,bJ.o⟩
   case round=>
    obtain⟨n,fo,rfl,s⟩:=hrel;have aA:=Z s;clear s bJ;by_cases I:n<kvs.length
    .obtain⟨q,P⟩:=gX' kvs n (I);have bz:n<E.length:=by rw[HN.o];exact I
     obtain⟨r,W⟩:=gX' E n (bz);obtain⟨lb,lo,rfl,bC,aP⟩:=HL.o.at (i:=n) (r:=r) W;obtain⟨kb,ko,rfl,cu,bg⟩:=bH.o.at (i:=n) (r:=[.string q.1]) (by simp[P]);have aQ:=aP.X aA.o.X (λe=>L.o (e▸bC));have bg:=(bg.X aA.o.X (λe=>L.o (e▸cu))).one;simp only[Nat.mul_one] at bg;have af:=Z (HR.o n r _ W P);obtain⟨rk,rb,ri,rf,rt,aj,ax,rfl⟩:=af.o.seven;have dF:(n:Int)<(kvs.length:Int):=Int.ofNat_lt.2 I;have bI:wr.cell? ⟨g,5,none⟩=some (.slice (some ⟨kb,ko,none⟩) kvs.length kc):=aA.o.box.cell 5;have aO:wr.cell? ⟨g,6,none⟩=some (.slice (some ⟨lb,lo,none⟩) kvs.length M):=aA.o.box.cell 6;have F:=Z P;clear W aP P;go_wp2_with (first|(with_reducible refine V rfl au rfl rfl aQ rfl ?_));have s:=aA.o;have aS:c+1+pJ (kvs.take n)+sz q.2<=2000:=by have C:=BQ kvs n q F.o;have h2:=KN kvs (n+1);have h3:=bn.o;simp only[sz] at h3;omega
     have az:=IH.o (okB ok w) q.2 (ai rk rb ri rf rt aj ax) wr p (c+1+pJ (kvs.take n)) (z+1) (af.o.Dj s.X (λy hy bD e=>L.o (e▸bD))) (WF.o.2.2 _ (mG' F.o)).2 s.cnt (λh=>L.o h.1) aS (by have:=HD.o;omega);rw[show((z+1:Nat):Int)=(z:Int)+1 by omega] at az;refine az.mono ?_;rintro e w4 ⟨u,rfl,aI,D,aT⟩;have bf:=Z (λw6=>s.step (w6:=w6) WF.o.1 H.o.1 H.o.2 F.o D aI aT);have cO:aU w4 m n fo:=s.o.X D (λe=>by have:=s.gm;have:=H.o;omega);have cZ:n<maxLen:=by have C:=WF.o.2.1;unfold maxLen;omega
     have df:q.1.size<=maxLen:=by have C:=(WF.o.2.2 _ (mG' F.o)).1;unfold fK at C;unfold maxLen;omega
     have dh:=s.box.X D (λe=>by have:=H.o;omega);have dX:w4.cell? ⟨g,5,none⟩=some (.slice (some ⟨kb,ko,none⟩) kvs.length kc):=dh.cell 5;have di:=Z df;have dK:=Z (s.X.trans D (λi _ e=>e));clear az aI aT aQ aS s D bg bI aO dh df;by_cases dL:n=0
     .subst dL;go_wp2_with (first|(at_mapUpdate;refine bY (u:=u) rfl rfl rfl cO cZ rfl di.o rfl ?_;intro w6 aW Q dM;go_frame));have aV:=Z (bf.o w6 Q aW);clear aW Q;go_roundw;case rel=>exact⟨0+1,_,by go_num,aV.o⟩
      case measure=>simp[intOf];omega
     .obtain⟨n',rfl⟩:∃n',n=n'+1:=⟨n - 1,by omega⟩;obtain⟨q',dm⟩:∃q,kvs[n']?=some q:=⟨_,List.getElem?_eq_getElem (by omega)⟩;obtain⟨dY,dZ,he,ed,bK⟩:=bH.o.at (i:=n') (r:=[.string q'.1]) (by simp[dm]);cases he;have bK:=(bK.X dK.o (λe=>L.o (e▸cu))).one;simp only[Nat.mul_one] at bK;have eu:Op.bytesLess q'.1.toList q.1.toList=true:=by
       rw[jM];simpa using List.pairwise_iff_getElem.1 WF.o.1 n' (n'+1) (by omega) I (by omega)|>λh=>by rw[(gS'.1 dm).2,(gS'.1 F.o).2] at h;exact h
      go_wp2_with (first|(at_mapUpdate;refine bY (u:=u) rfl rfl rfl cO cZ rfl di.o rfl ?_;intro w6 aW Q dM;go_frame))
      have aV:=Z (bf.o w6 Q aW);clear aW Q;go_roundw;case rel=>exact⟨n'+1+1,_,by go_num,aV.o⟩
      case measure=>simp[intOf];omega
    .have bG:n=kvs.length:=Nat.le_antisymm aA.o.le (Nat.not_lt.1 I);subst bG;go_wp2_with fail;go_ret2;have s:=aA.o;refine⟨_,rfl,s.done H.o.1,s.X,?_⟩;have C:=s.cnt;rw[List.take_length] at C;simpa[sz,Nat.add_assoc] using C
theorem O.drewN(w:World)(n:Nat):O No w (w.drewN n):=⟨rfl,rfl,rfl,lR',λ_ _ _=>rfl⟩
theorem qo{ok:ae}{w:World}{kvs:T}{cs:Y}{N d:Nat}(u:N<1099511627776)(g:aG ok w cs (.table kvs))(m:Wf N d (.table kvs))(n:sz (.table kvs)<=2000)(F:d<=61):
  Calls Tryz.prog 45 #[.agg cs.toArray] w λe o=>∃b,e=.returned (.tuple #[.map (some b),.bool true])∧bC (λx=>w.heap.size<=x) o (.iface 67 (.map (some b))) (.table kvs)∧O No w o:=by
 obtain⟨b,i,f,t,a,c,rfl⟩:=g.fV;have y:=Z g;have A:=Z m;have B:=Z n;clear g m n;go_enter Tryz.func45,Tryz.ntmps45;unfold ai;have p:=ay.new w (ai 7 b i f t a c) 26;have G:=p.lt;go_wp2_with (first|(with_reducible refine V rfl au rfl rfl (p.alloc _).cells rfl ?_));have C:=ay.new (w.alloc (.cells (ai 7 b i f t a c).toArray 26)) [.int .i64 0] 3;have q:=zq N u d (okB ok w) (.table kvs) (ai 7 b i f t a c) ((w.alloc (.cells (ai 7 b i f t a c).toArray 26)).alloc (.cells [.int .i64 0].toArray 3)) (w.heap.size+1) 0 0 (y.o.Dj (((O.refl No w).alloc _).alloc _) (λ_ _ _ e=>e)) A.o (by simpa using C) (λh=>by have:=h.2;omega) (by have:=B.o;omega) (by omega);refine q.mono ?_;rintro e w3 ⟨v,rfl,j,r, -⟩;obtain⟨k,H,I,rfl,D⟩:=j.tab;have s:=Z j;have E:=Z r;have J:∀z,(Instr.typeAssert (.iface 67 (.map (some k))) 20 67 true).run Tryz.prog z=.ok (.tuple #[.map (some k),.bool true]) z:=λz=>dP s.o.dL
 clear q j r D;go_wp2_with fail
 go_quiet (fail)
 go_wp2;go_ret2;exact⟨k,rfl,(s.o.X (O.drewN _ _) nE).mono (λx _ l=>by simp at l;omega),((((O.refl No w).alloc _).alloc _).trans E.o (λx l e=>absurd l (by omega))).trans' (O.drewN _ _)⟩
theorem EG{ok:ae}{w:World}{cs:Y}{N d:Nat}(p:N<1099511627776)(g:aG ok w cs .null)(l:Wf N d .null)(m:sz .null<=2000)(C:d<=61):
  Calls Tryz.prog 45 #[.agg cs.toArray] w λe q=>e=.returned (.tuple #[.map none,.bool true])∧O No w q:=by
 obtain⟨b,i,f,t,a,c,rfl⟩:∃b i f t a c,cs=ai 0 b i f t a c:=by cases g;exact⟨_,_,_,_,_,_,rfl⟩
 have r:=Z g;have s:=Z l;have u:=Z m;clear g l m;go_enter Tryz.func45,Tryz.ntmps45;unfold ai;have j:=ay.new w (ai 0 b i f t a c) 26;have D:=j.lt;go_wp2_with (first|(with_reducible refine V rfl au rfl rfl (j.alloc _).cells rfl ?_));have y:=ay.new (w.alloc (.cells (ai 0 b i f t a c).toArray 26)) [.int .i64 0] 3;have n:=zq N p d (okB ok w) .null (ai 0 b i f t a c) ((w.alloc (.cells (ai 0 b i f t a c).toArray 26)).alloc (.cells [.int .i64 0].toArray 3)) (w.heap.size+1) 0 0 (r.o.Dj (((O.refl No w).alloc _).alloc _) (λ_ _ _ e=>e)) s.o (by simpa using y) (λh=>by have:=h.2;omega) (by have:=u.o;omega) (by omega);refine n.mono ?_;rintro e w3 ⟨v,rfl,o,k, -⟩;obtain rfl:v=.nilIface:=by cases o;rfl
 have E:∀z,(Instr.typeAssert .nilIface 20 67 true).run Tryz.prog z=.ok (.tuple #[.map none,.bool false]) z:=λz=>by kernel_rfl
 have F:w3.cell? ⟨w.heap.size,0,none⟩=some (.int .i64 0):=(((j.alloc (.cells [Value.int .i64 0].toArray 3)).X k (by omega)).cell 0);have A:=Z k;clear n o k;go_wp2_with fail
 go_quiet (fail)
 go_wp2;go_ret2;exact⟨rfl,((((O.refl No w).alloc _).alloc _).trans A.o (λx B e=>absurd B (by omega))).trans' (O.drewN _ _)⟩
theorem xk{a b:Value}{w:World}{ok:ae}{j:J}(h:Calls Tryz.prog 95 #[a,b] w (rJ ok w j)):Calls Tryz.prog 61 #[a,b] w (rJ ok w j):=by go_enter Tryz.func61,Tryz.ntmps61;go_wp2_with fail;refine h.mono ?_;rintro e f ⟨r,rfl,c,d⟩;go_wp2;go_ret;exact⟨r,rfl,c,d⟩
end Go.Proofs.YtljaoopfomcaoaaGreatDoor
namespace Go.Proofs.YtljaoopfomcaoaaGreatDoor
open Go.RowKit Go.Shelf Go.Sort
def vM:Go.Shelf.Ren:=⟨fun|190=>119|125=>148|258=>147|128=>172|129=>173|302=>163|303=>164|304=>165|305=>166|306=>167|307=>168|308=>169|309=>170|310=>171|333=>197|329=>198|330=>199|334=>200|335=>201|336=>202|344=>214|n=>n,fun|31=>23|9=>9|3=>3|46=>201|0=>0|51=>228|53=>230|4=>4|183=>221|182=>220|131=>225|5=>5|218=>258|222=>85|228=>280|229=>281|n=>n,fun|n=>n⟩
theorem EH:Go.Proofs.Lays.n190 Tryz.prog vM:={
 mixed:=by kernel_rfl
 f125:=Tryz.func148.trans (congrArg some (by kernel_rfl))
 f128:=Tryz.func172.trans (congrArg some (by kernel_rfl))
 f129:=Tryz.func173.trans (congrArg some (by kernel_rfl))
 f190:=Tryz.func119.trans (congrArg some (by kernel_rfl))
 f258:=Tryz.func147.trans (congrArg some (by kernel_rfl))
 f302:=Tryz.func163.trans (congrArg some (by kernel_rfl))
 f303:=Tryz.func164.trans (congrArg some (by kernel_rfl))
 f304:=Tryz.func165.trans (congrArg some (by kernel_rfl))
 f305:=Tryz.func166.trans (congrArg some (by kernel_rfl))
 f306:=Tryz.func167.trans (congrArg some (by kernel_rfl))
 f307:=Tryz.func168.trans (congrArg some (by kernel_rfl))
 f308:=Tryz.func169.trans (congrArg some (by kernel_rfl))
 f309:=Tryz.func170.trans (congrArg some (by kernel_rfl))
 f310:=Tryz.func171.trans (congrArg some (by kernel_rfl))
 f329:=Tryz.func198.trans (congrArg some (by kernel_rfl))
 f330:=Tryz.func199.trans (congrArg some (by kernel_rfl))
 f333:=Tryz.func197.trans (congrArg some (by kernel_rfl))
 f334:=Tryz.func200.trans (congrArg some (by kernel_rfl))
 f335:=Tryz.func201.trans (congrArg some (by kernel_rfl))
 f336:=Tryz.func202.trans (congrArg some (by kernel_rfl))
 f344:=Tryz.func214.trans (congrArg some (by kernel_rfl))
 t0:=Tryz.underlying0
 a0:=Tryz.isAgg0
 z0:=Tryz.sizeOf0
 v0:=Tryz.zeroValue0
 t3:=Tryz.underlying3
 a3:=Tryz.isAgg3
 z3:=Tryz.sizeOf3
 v3:=Tryz.zeroValue3
 t4:=Tryz.underlying4
 a4:=Tryz.isAgg4
 z4:=Tryz.sizeOf4
 v4:=Tryz.zeroValue4
 t5:=Tryz.underlying5
 a5:=Tryz.isAgg5
 z5:=Tryz.sizeOf5
 v5:=Tryz.zeroValue5
 t9:=Tryz.underlying9
 a9:=Tryz.isAgg9
 z9:=Tryz.sizeOf9
 v9:=Tryz.zeroValue9
 t31:=Tryz.underlying23
 a31:=Tryz.isAgg23
 z31:=Tryz.sizeOf23
 v31:=Tryz.zeroValue23
 t46:=Tryz.underlying201
 a46:=Tryz.isAgg201
 z46:=Tryz.sizeOf201
 v46:=Tryz.zeroValue201
 t51:=Tryz.underlying228
 a51:=Tryz.isAgg228
 z51:=Tryz.sizeOf228
 v51:=Tryz.zeroValue228
 t53:=Tryz.underlying230
 a53:=Tryz.isAgg230
 z53:=Tryz.sizeOf230
 v53:=Tryz.zeroValue230
 t131:=Tryz.underlying225
 a131:=Tryz.isAgg225
 z131:=Tryz.sizeOf225
 v131:=Tryz.zeroValue225
 t182:=Tryz.underlying220
 a182:=Tryz.isAgg220
 z182:=Tryz.sizeOf220
 v182:=Tryz.zeroValue220
 t183:=Tryz.underlying221
 a183:=Tryz.isAgg221
 z183:=Tryz.sizeOf221
 v183:=Tryz.zeroValue221
 t218:=Tryz.underlying258
 a218:=Tryz.isAgg258
 z218:=Tryz.sizeOf258
 v218:=Tryz.zeroValue258
 t222:=Tryz.underlying85
 a222:=Tryz.isAgg85
 z222:=Tryz.sizeOf85
 v222:=Tryz.zeroValue85
 t228:=Tryz.underlying280
 a228:=Tryz.isAgg280
 z228:=Tryz.sizeOf280
 v228:=Tryz.zeroValue280
 t229:=Tryz.underlying281
 a229:=Tryz.isAgg281
 z229:=Tryz.sizeOf281
 v229:=Tryz.zeroValue281}
abbrev aH(ks:List K):List (Y):=ks.map λk=> [Value.string k]
theorem Gf{w:World}{s:Nat}{v:Value}{ks:List K}(h:aB w s 9 1 v (aH ks))(R:ks.length<1099511627776):
  Calls Tryz.prog 119 #[v] w λe m=>e=.returned (.tuple #[])∧∃o:List K,o.Perm ks∧o.Pairwise (λa b=>a.data.toList<=b.data.toList)∧aB m s 9 1 v (aH o)∧O (λb=>v.ownBlock=some b) w m:=by
 have S:vM.f 190=119:=rfl;rcases h.2.2 with⟨rfl,B⟩|⟨g,cap,T,rfl,C,p,t,D,E,q⟩
 .have F:ks=[]:=(by simpa using B);subst F;refine(Any.slices_Sort_string_none EH none 0 w).mono ?_;rintro e m ⟨rfl,rfl⟩;exact⟨rfl,[],.refl _,List.Pairwise.nil,aB.nil _ _ _ _,O.refl _ _⟩
 .obtain⟨d,j⟩:∃d:List (List UInt8),d=ks.map λk=>k.data.toList:=⟨_,rfl⟩
  have u:∀l:List K,(aH l).flatten=(l.map λk=>k.data.toList).map encStr:=λl=>by
   induction l with
   |nil=>rfl
   |cons a r z=>
    simp only[aH,List.map_cons,List.flatten_cons] at z⊢;rw[z]
    rfl
  have G:(aH ks).length=d.length:=(by simp[j]);rw[G] at t q⊢;rw[u,←j,Nat.mul_one] at q;have H:=holds_of_block p q;refine(Any.slices_Sort_string EH g 0 cap d w H (Array.getElem?_eq_some_iff.1 p).1 (by rw[j];simp;omega)).mono ?_;rintro e m ⟨rfl,n,os,rfl⟩;have I:=List.mergeSort_perm d (λx y=>decide (x<=y));have J:∀l:List (List UInt8),(l.map λb=>(⟨b.toArray⟩:K)).map (λk=>k.data.toList)=l:=λl=>by rw[List.map_map];exact List.map_id'' (λx=>rfl) l
  have L:∀l:List K,(l.map λk=>k.data.toList).map (λb=>(⟨b.toArray⟩:K))=l:=λl=>by rw[List.map_map];exact List.map_id'' (λx=>rfl) l
  refine⟨rfl,(d.mergeSort λx y=>decide (x<=y)).map λb=>(⟨b.toArray⟩:K),?_,?_,⟨by simp,?_⟩,(O.grown (grownBy_sorted _)).mono (λi _ e=>by cases e;rfl)⟩
  .have A:=I.map (λb=>(⟨b.toArray⟩:K));rw[j,L] at A;rw[j];exact A
  .rw[List.pairwise_map];have M:=List.pairwise_mergeSort (le:=λx y:List UInt8=>decide (x<=y)) (λa b c N P=>by simp at*;exact List.le_trans N P) (λa b=>by simpa using List.le_total a b) d;exact M.imp (λh=>by simpa using h)
  .have Q:=ownsRow_sorted (n:=n) (os:=os) (ts:=d.mergeSort λx y=>decide (x<=y)) (by simp) C p t D E;rw[u,J];simpa using Q
end Go.Proofs.YtljaoopfomcaoaaGreatDoor
namespace Go.Proofs.YtljaoopfomcaoaaGreatDoor
open Go.RowKit
def Fact.Jt(B:Nat)(x:J):Fact:=
 ⟨λv w=>∃(t:Nat)(cs:Y),v=.slice (some ⟨t,0,Option.none⟩) 1 1∧B<=t∧ay w t cs 26∧aG (λb=>B<=b) w cs x,λS _=>∀k,S k→k<B,
  λS v w j h a c=>by
  obtain⟨t,cs,f,g,d,i⟩:=h;exact⟨t,cs,f,g,d.X a (λe=>by have:=c t e;omega),i.X a (λb d e=>by have:=c b e;omega)⟩,λ_ _ e=>e.elim⟩
def uu(h B:Nat)(lv:Value)(rows:List (Y))(x:J)(v:Value)(w:World):Prop:=
 ∃cs:Y,aB w (h+1) 26 7 v (rows++[cs])∧aG (λb=>B<=b∧v.ownBlock≠some b) w cs x∧(v.ownBlock=lv.ownBlock∨∀k,v.ownBlock=some k→B<=k)
theorem uu.X{h B:Nat}{lv:Value}{rows:List (Y)}{x:J}{v:Value}{S:ae}{w a:World}(g:uu h B lv rows x v w)(c:O S w a)(d:∀k,S k→k<=h)(m:h<B):uu h B lv rows x v a:=by obtain⟨cs,f,i,j⟩:=g;exact⟨cs,f.X c (λk l e=>by have:=(f.elem l).1;have:=d k e;omega),i.X c (λb n e=>by have:=d b e;omega),j⟩
def Fact.LZ(h B:Nat)(lv:Value)(rows:List (Y))(x:J)(a:h<B):Fact:=
 ⟨λv w=>uu h B lv rows x v w,λS _=>∀k,S k→k<=h,λS v w f b c d=>b.X c d a,λ_ _ e=>e.elim⟩
structure VG (h:Nat) (mk:Value→Y) (lv:Value) (rows:List (Y)) (x:J) (wr w:World) (da ds:Bool):Prop where
 size:wr.heap.size<=w.heap.size
 X:O (λb=>b=h∨lv.ownBlock=some b) wr w
 own:da=false→aB w (h+1) 26 7 lv rows
 low:∀k,lv.ownBlock=some k→h+1<=k∧k<wr.heap.size
 hB:h<wr.heap.size
 box:∃l',ay w h (mk l') 26∧(ds=false→l'=lv)∧(ds=true→uu h wr.heap.size lv rows x l' w)
section
variable {h:Nat} {mk:Value→Y} {lv:Value} {rows:List (Y)} {x:J} {wr w:World} {da ds:Bool}
theorem VG.start(a:aB wr (h+1) 26 7 lv rows)(b:ay wr h (mk lv) 26):VG h mk lv rows x wr wr.drew false false:=
 ⟨lR',(O.refl _ wr).drew,λ_=>a.X ((O.refl No wr).drew) nE,λk c=>⟨(a.elem c).1,(a.elem c).2.1⟩,b.lt,lv,b.drew,λ_=>rfl,λe=>(by cases e)⟩
theorem VG.df{b:World}(g:VG h mk lv rows x wr w da ds)(a:O No w b):VG h mk lv rows x wr b da ds:=by obtain⟨c,d,f,i⟩:=g.box;exact⟨Nat.le_trans g.size a.size,g.X.trans' a,λe=>(g.own e).X a nE,g.low,g.hB,c,d.X a id,f,λe=>(i e).X a (λ_ e=>e.elim) g.hB⟩
theorem VG.app{c:World}(g:VG h mk lv rows x wr w false false)(a:O (λb=>lv.ownBlock=some b) w c):VG h mk lv rows x wr c true false:=by obtain⟨d,f,j,k⟩:=g.box;exact⟨Nat.le_trans g.size a.size,g.X.trans a (λi _ e=> .inr e),λe=>(by cases e),g.low,g.hB,d,f.X a (λe=>by have:=(g.low h e).1;omega),j,λe=>(by cases e)⟩
theorem VG.store{a:World}{v:Value}(g:VG h mk lv rows x wr w true false)(c:ay a h (mk v) 26)(b:O (·=h) w a)(d:uu h wr.heap.size lv rows x v w):VG h mk lv rows x wr a true true:=
 ⟨Nat.le_trans g.size b.size,g.X.trans b (λi _ e=> .inl e),λe=>(by cases e),g.low,g.hB,v,c,λe=>(by cases e),λ_=>d.X b (λk e=>by omega) g.hB⟩
end
theorem jE{P:Program}{f:FuncId}(i:∀(args:Array Value)(w:World),(callFunc f args).run P w=.ok (.enter f args) w){o:Oper}{a:Act}{w:World}{K:ag}{Q:ah}{x y:Operand}{ts:Array TypeId}(j:o.op=.call {callee:=.value (.func f),args:=#[x,y],argTypes:=ts})
  {u d:Value} (c:a.eval x=u) (g:a.eval y=d) {R:Ending→World→Prop} (k:Calls P f #[u,d] w R) (h:∀e b,R e b→∃v,e=.returned v∧K (a.put o.dst v) b):o.wp P a w K Q:=by
 unfold Oper.wp;have l:(execOp a.eval o).run P w=.ok (.enter f #[u,d]) w:=by simp only[execOp,j,List.map_toArray,List.map_cons,List.map_nil,c,g];simp[resolve,Act.eval,go_sem,i];exact⟨by rw[←c];cases x<;>simp[Act.eval],by rw[←g];cases y<;>simp[Act.eval]⟩
 rw[l,Oper.upon_enter];refine k.mono λe b m=> ?_
 obtain⟨v,rfl,n⟩:=h e b m;exact n
theorem qp{o:Oper}{a:Act}{w:World}{K:ag}{Q:ah}{x:Operand}(b:o.op=.buildSlice 24 1 #[(0,x)]){cs:Y}(c:a.eval x=.agg cs.toArray)(d:cs.length=7)
  (h:K (a.put o.dst (.slice (some ⟨w.heap.size,0,none⟩) 1 1)) (w.alloc (.cells cs.toArray 26))):o.wp Tryz.prog a w K Q:=by
 have e:=rG cs d w;unfold Oper.wp;simp only[execOp,b,List.map_toArray,List.map_cons,List.map_nil,c,Sem.run_bind,e,Result.andThen_ok];exact h
theorem Gg{o:Oper}{a:Act}{w:World}{c:ag}{Q:ah}{m x:Operand}(d:o.op=Op.lookup 67 m x false){b n:Nat}{f:K→Option Value}(e:a.eval m=.map (some b))(g:aU w b n f)
  {k:K} (h:a.eval x=.string k) (i:k.size<=maxLen) (j:c (a.put o.dst ((f k).getD .nilIface)) w):o.wp Tryz.prog a w c Q:=by
 obtain⟨D,l,p⟩:=g;obtain⟨q, -⟩:=vI l i false;unfold Oper.wp;simp only[execOp,d,e,h,Sem.run_bind,q,Result.andThen_ok,if_false,Bool.false_eq_true];rw[←p];exact j
theorem pK{P:Program}{j:Array Oper}{rest:List Oper}{o:Oper}{a:Act}{w:World}{Q:ah}(r:o.guard=none){k:TypeId}{x y:Operand}(s:o.op=.store k x y)
  {g i:Nat} {c:Option Addr} {d e:Nat} (u:a.eval x=.pointer (some ⟨g,i,none⟩)) (v:a.eval y=.slice c d e) (z:∀w,(Go.sizeOf k).run P w=.ok 1 w) {cs:Y} {t:TypeId} (f:ay w g cs t) (A:i<cs.length)
  (h:∀b,ay b g (cs.set i (.slice c d e)) t→O (·=g) w b→b.heap.size=w.heap.size→wpList P j Q rest (a.put o.dst undef) b):wpList P j Q (o::rest) a w:=by
 refine wpList_plain r λK l=> ?_
 have m:=f.cell i;have B:=f.frozen i;rw[List.getElem?_eq_getElem A] at m;obtain⟨n,p,q⟩:=f.setCell i (.slice c d e);have C:=l _ _ (h _ n p q);clear h l n p q;unfold Oper.wp execOp;simp only[s,u,v];simp[go_sem,z,m,B];exact C
theorem MJ(v:Value)(w:World):(Instr.typeAssert (.iface 4 v) 20 4 true).run Tryz.prog w=.ok (.tuple #[v,.bool true]) w:=by kernel_rfl
theorem Ju(v:Value)(w:World):(Instr.typeAssert (.iface 4 v) 20 151 true).run Tryz.prog w=.ok (.tuple #[.slice none 0 0,.bool false]) w:=by kernel_rfl
theorem MK(v:Value)(w:World):(Instr.typeAssert (.iface 2 v) 20 4 true).run Tryz.prog w=.ok (.tuple #[.bool false,.bool false]) w:=by kernel_rfl
theorem ML(v:Value)(w:World):(Instr.typeAssert (.iface 2 v) 20 2 true).run Tryz.prog w=.ok (.tuple #[v,.bool true]) w:=by kernel_rfl
theorem Jv(v:Value)(w:World):(Instr.typeAssert (.iface 2 v) 20 151 true).run Tryz.prog w=.ok (.tuple #[.slice none 0 0,.bool false]) w:=by kernel_rfl
theorem KO(v:Value)(w:World):(Instr.typeAssert (.iface 22 v) 20 4 true).run Tryz.prog w=.ok (.tuple #[.bool false,.bool false]) w:=by kernel_rfl
theorem KP(v:Value)(w:World):(Instr.typeAssert (.iface 22 v) 20 2 true).run Tryz.prog w=.ok (.tuple #[.int .i64 0,.bool false]) w:=by kernel_rfl
theorem Jw(v:Value)(w:World):(Instr.typeAssert (.iface 22 v) 20 22 true).run Tryz.prog w=.ok (.tuple #[v,.bool true]) w:=by kernel_rfl
theorem IE(v:Value)(w:World):(Instr.typeAssert (.iface 22 v) 20 151 true).run Tryz.prog w=.ok (.tuple #[.slice none 0 0,.bool false]) w:=by kernel_rfl
theorem MN(v:Value)(w:World):(Instr.typeAssert (.iface 9 v) 20 4 true).run Tryz.prog w=.ok (.tuple #[.bool false,.bool false]) w:=by kernel_rfl
theorem MO(v:Value)(w:World):(Instr.typeAssert (.iface 9 v) 20 2 true).run Tryz.prog w=.ok (.tuple #[.int .i64 0,.bool false]) w:=by kernel_rfl
theorem KQ(v:Value)(w:World):(Instr.typeAssert (.iface 9 v) 20 22 true).run Tryz.prog w=.ok (.tuple #[.float .f64 0,.bool false]) w:=by kernel_rfl
theorem MP(v:Value)(w:World):(Instr.typeAssert (.iface 9 v) 20 9 true).run Tryz.prog w=.ok (.tuple #[v,.bool true]) w:=by kernel_rfl
theorem Jy(v:Value)(w:World):(Instr.typeAssert (.iface 9 v) 20 151 true).run Tryz.prog w=.ok (.tuple #[.slice none 0 0,.bool false]) w:=by kernel_rfl
theorem Jz(v:Value)(w:World):(Instr.typeAssert (.iface 151 v) 20 4 true).run Tryz.prog w=.ok (.tuple #[.bool false,.bool false]) w:=by kernel_rfl
theorem JA(v:Value)(w:World):(Instr.typeAssert (.iface 151 v) 20 2 true).run Tryz.prog w=.ok (.tuple #[.int .i64 0,.bool false]) w:=by kernel_rfl
theorem IG(v:Value)(w:World):(Instr.typeAssert (.iface 151 v) 20 22 true).run Tryz.prog w=.ok (.tuple #[.float .f64 0,.bool false]) w:=by kernel_rfl
theorem JB(v:Value)(w:World):(Instr.typeAssert (.iface 151 v) 20 9 true).run Tryz.prog w=.ok (.tuple #[.string ByteArray.empty,.bool false]) w:=by kernel_rfl
theorem zt(v:Value)(w:World):(Instr.typeAssert (.iface 151 v) 20 151 true).run Tryz.prog w=.ok (.tuple #[v,.bool true]) w:=by kernel_rfl
theorem Ho(v:Value)(w:World):(Instr.typeAssert (.iface 67 v) 20 4 true).run Tryz.prog w=.ok (.tuple #[.bool false,.bool false]) w:=by kernel_rfl
theorem Hq(v:Value)(w:World):(Instr.typeAssert (.iface 67 v) 20 2 true).run Tryz.prog w=.ok (.tuple #[.int .i64 0,.bool false]) w:=by kernel_rfl
theorem EI(v:Value)(w:World):(Instr.typeAssert (.iface 67 v) 20 22 true).run Tryz.prog w=.ok (.tuple #[.float .f64 0,.bool false]) w:=by kernel_rfl
theorem Hr(v:Value)(w:World):(Instr.typeAssert (.iface 67 v) 20 9 true).run Tryz.prog w=.ok (.tuple #[.string ByteArray.empty,.bool false]) w:=by kernel_rfl
theorem BR(v:Value)(w:World):(Instr.typeAssert (.iface 67 v) 20 151 true).run Tryz.prog w=.ok (.tuple #[.slice none 0 0,.bool false]) w:=by kernel_rfl
theorem Ht(v:Value)(w:World):(Instr.typeAssert (.iface 67 v) 20 3 true).run Tryz.prog w=.ok (.tuple #[.int .i64 0,.bool false]) w:=by kernel_rfl
theorem BU(v:Value)(w:World):(Instr.typeAssert (.iface 67 v) 20 120 true).run Tryz.prog w=.ok (.tuple #[.pointer none,.bool false]) w:=by kernel_rfl
theorem EJ(v:Value)(w:World):(Instr.typeAssert (.iface 67 v) 20 86 true).run Tryz.prog w=.ok (.tuple #[.map none,.bool false]) w:=by kernel_rfl
theorem EK(v:Value)(w:World):(Instr.typeAssert (.iface 67 v) 20 67 true).run Tryz.prog w=.ok (.tuple #[v,.bool true]) w:=by kernel_rfl
theorem jO(b:Nat)(w:World):(Go.binOp BinOp.eql 67 (.map (some b)) (.map none)).run Tryz.prog w=.ok (.bool false) w:=by kernel_rfl
theorem rP(w:World):(Go.binOp BinOp.eql 67 (.map none) (.map none)).run Tryz.prog w=.ok (.bool true) w:=by kernel_rfl
theorem dN(ok:ae)(w:World)(size:Nat):aC ok w (.slice none 0 0) size []:=⟨by simp,by simp,none,0,rfl,λ_=>rfl,λh=>absurd rfl h⟩
def rQ(w:World)(j:J)(e:Ending)(a:World):Prop:=
 ∃cs:Y,e=.returned (.agg cs.toArray)∧aG (λx=>w.heap.size<=x) a cs j∧O No w a
abbrev NC(h:Nat)(v:Value):ae:=λx=>h<x∧v.ownBlock≠some x
structure VL (w:World) (h:Nat) (kd:Int) (ks:List K) (kv:Value) (xs:List J) (wr:World) (n:Nat) (lv:Value) (rows:List (Y)):Prop where
 le:n<=xs.length
 own:aB wr (h+1) 26 7 lv rows
 keys:aB wr (h+1) 9 1 kv (aH ks)
 len:rows.length=n
 val:∀(i:Nat)(r:Y)(x:J),rows[i]?=some r→xs[i]?=some x→aG (NC h lv) wr r x
 X:O No w wr
 res:ay wr w.heap.size bu 26
 box:ay wr h (ai kd false 0 0 ⟨#[]⟩ kv lv) 26
 hw:w.heap.size<h
theorem VL.step{w:World}{h:Nat}{j:Int}{ks:List K}{m:Value}{xs:List J}{wr q:World}{n:Nat}{o:Value}{c:List (Y)}{x:J}(v:VL w h j ks m xs wr n o c)(s:xs[n]?=some x)
  (g:VG h (λl=>ai j false 0 0 ⟨#[]⟩ m l) o c x wr q true true):∃z A,VL w h j ks m xs q (n+1) z A:=by
 obtain⟨B,a, -,C⟩:=g.box;obtain⟨cs,D,E,d⟩:=C rfl;have F:n<xs.length:=(gS'.1 s).1;have G:=v.hw;have N:=g.hB;refine⟨B,c++[cs],F,D,v.keys.X g.X (λk t e=> ?_),by simp[v.len],λi r y f p=> ?_,v.X.trans g.X (λi u e=> ?_),v.res.X g.X (λe=> ?_),a,G⟩
 .rcases e with e|e
  .have:=(v.keys.elem t).1;omega
  .exact v.own.apart v.keys (by decide) e t
 .by_cases u:i<c.length
  .rw[List.getElem?_append_left u] at f;have H:=(v.val i r y f p).mono (ok':=λb=>NC h o b∧b<wr.heap.size) (λb a I=>⟨I,a⟩);have L:=H.X g.X (λb a e=>by
    rcases e with e|e
    .have:=a.1.1;omega
    .exact a.1.2 e)
   refine L.mono (λb _ a=>⟨a.1.1,λe=> ?_⟩);rcases d with d|d
   .exact a.1.2 (d▸e)
   .have:=d b e;have:=a.2;omega
  .have M:i=c.length:=by
    have:=(gS'.1 f).1;simp at this;omega
   subst M;rw[List.getElem?_append_right lR',Nat.sub_self] at f;cases f;rw[v.len,s] at p;cases p;exact E.mono (λb _ a=>⟨by have:=a.1;omega,a.2⟩)
 .rcases e with e|e
  .omega
  .have:=(g.low i e).1;omega
 .rcases e with e|e
  .omega
  .have:=(g.low _ e).1;omega
theorem VL.list{w:World}{h:Nat}{xs:List J}{wr:World}{c:Value}{d:List (Y)}(v:VL w h 6 [] (.slice none 0 0) xs wr xs.length c d):aG (λb=>h<b) wr (ai 6 false 0 0 ⟨#[]⟩ (.slice none 0 0) c) (.list xs):=
 .list (dN _ _ _) (v.own.rowAt.mono (λb _ a=>(v.own.elem a).1) (by decide)) v.len (λn r x e f=>(v.val n r x e f).mono (λb _ a=>a.1))
theorem VL.table{w:World}{h:Nat}{kvs:T}{c:Value}{wr:World}{d:Value}{e:List (Y)}(v:VL w h 7 (kvs.map (·.1)) c (kvs.map (·.2)) wr kvs.length d e):aG (λb=>h<b) wr (ai 7 false 0 0 ⟨#[]⟩ c d) (.table kvs):=
 .table (by have f:=v.keys.rowAt.mono (ok':=λb=>h<b) (λb _ a=>(v.keys.elem a).1) (by decide);simpa[aH,List.map_map,Function.comp_def] using f) (v.own.rowAt.mono (λb _ a=>(v.own.elem a).1) (by decide)) v.len (λn r p g i=>(v.val n r p.2 g (by simp[i])).mono (λb _ a=>a.1))
theorem bM.apart{w:World}{b r n:Nat}{f:K→Option Value}{c:K→Bool}{d:Nat}(h:bM w b r n f c d){g e size:Nat}{v:Value}{i:List (Y)}(j:aB w g e size v i){k:Nat}(m:v.ownBlock=some k):k≠r∧k≠b:=by
 obtain⟨D,l,o, -, -⟩:=h;obtain⟨s,t,u,x,y,p, -, -, -,q, -⟩:=o;obtain⟨-, -,z,a⟩:=j.elem m
 constructor
 .rintro rfl;rw[q] at a;cases a
 .rintro rfl;rw[p] at a;cases a
theorem zu(l:List K)(k:K):get (l.map λk=>(k,J.null)) k=if k∈l then some .null else none:=by
 induction l with
 |nil=>simp[get]
 |cons a r b=>
  simp only[List.map_cons,get,List.mem_cons];by_cases e:a=k
  .rw[if_pos e,if_pos (.inl e.symm)]
  .rw[if_neg e,b];by_cases h:k∈r
   .rw[if_pos h,if_pos (.inr h)]
   .rw[if_neg h,if_neg (λc=>c.elim (λd=>e d.symm) h)]
theorem Dk{l m:List K}(a:l.Pairwise jg)(b:m.Pairwise jg)(h:∀k,k∈l↔k∈m):l=m:=by
 have e:(l.map λk=>(k,J.null))=m.map λk=>(k,J.null):=by
  refine rC (by simpa[Sorted,List.pairwise_map] using a) (by simpa[Sorted,List.pairwise_map] using b) λk=> ?_
  rw[zu,zu];simp only[h]
 have c:=congrArg (List.map Prod.fst) e;simpa[List.map_map,Function.comp_def] using c
structure KC (w:World) (h b r n:Nat) (f:K→Option Value) (wr:World) (left:K→Bool) (cnt:Nat) (kv:Value) (ks:List K):Prop where
 fO:bM wr b r n f left cnt
 num:ks.length+cnt<=n
 own:aB wr (h+1) 9 1 kv (aH ks)
 nodup:ks.Nodup
 mem:∀k,k∈ks↔((f k).isSome=true∧left k=false)
 X:O No w wr
 res:ay wr w.heap.size bu 26
 box:ay wr h (ai 7 false 0 0 ⟨#[]⟩ kv (.slice none 0 0)) 26
 hw:w.heap.size<h
 hr:h<r
 hb:b<w.heap.size
theorem KC.step{w:World}{h b r n:Nat}{f:K→Option Value}{wr:World}{m:K→Bool}{x:Nat}{j:Value}{ks:List K}(v:KC w h b r n f wr m x j ks){k:K}{u:Value}(C:m k=true)(D:f k=some u)
  {p w6:World} {q:Nat} (E:bM p b r n f (λz=>m z && !(z==k)) q) (M:q<x) (F:O (·=r) wr p) {kv':Value} (y:O (λi=>j.ownBlock=some i) (p.alloc (.cells #[.string k] 9)) w6)
  (A:aB w6 (h+1) 9 1 kv' (aH ks++[[.string k]])):
  ay w6 h (ai 7 false 0 0 ⟨#[]⟩ j (.slice none 0 0)) 26∧∀w7,ay w7 h (ai 7 false 0 0 ⟨#[]⟩ kv' (.slice none 0 0)) 26→O (·=h) w6 w7→KC w h b r n f w7 (λz=>m z && !(z==k)) q kv' (ks++[k]):=by
 have G:=v.hw;have H:=v.hr;have I:=v.hb;have l:∀i,j.ownBlock=some i→h+1<=i∧i<wr.heap.size∧i≠r∧i≠b:=λi d=>⟨(v.own.elem d).1,(v.own.elem d).2.1,(v.fO.apart v.own d).1,(v.fO.apart v.own d).2⟩
 have s:O (λi=>i=r∨j.ownBlock=some i) wr w6:=((F.mono (λi _ e=> .inl e)).alloc _).trans y (λi _ e=> .inr e);have N:=v.fO.lt;refine⟨v.box.X s (λe=> ?_),λw7 J o=>⟨?_,by have:=v.num;simp;omega,?_,?_,λz=> ?_,(v.X.trans s (λi d e=> ?_)).trans o (λi d e=>by omega),(v.res.X s (λe=> ?_)).X o (by omega),J,G,H,I⟩⟩
 .rcases e with e|e
  .omega
  .have:=(l h e).1;omega
 .refine((E.alloc _).X y (λe=>(l b e).2.2.2 rfl) (λe=>(l r e).2.2.1 rfl)).X o (by omega) (by omega)
 .have g:=A.X o (λi d e=>by have:=(A.elem d).1;omega);simpa[aH] using g
 .rw[List.nodup_append];refine⟨v.nodup,by simp,λa L c B e=> ?_⟩;simp only[List.mem_singleton] at B;subst B;subst e;have:=((v.mem a).1 L).2;rw[C] at this;cases this
 .simp only[List.mem_append,List.mem_singleton,Bool.and_eq_false_iff,Bool.not_eq_false',beq_iff_eq]
  constructor
  .rintro(g|rfl)
   .exact⟨((v.mem z).1 g).1,.inl ((v.mem z).1 g).2⟩
   .exact⟨by rw[D];rfl,.inr rfl⟩
  .rintro⟨g,t|t⟩
   .exact .inl ((v.mem z).2 ⟨g,t⟩)
   .exact .inr t
 .rcases e with e|e
  .have:=v.X.size;have:=v.fO.ne;omega
  .have:=(l i e).1;omega
 .rcases e with e|e
  .omega
  .have:=(l _ e).1;omega
theorem KC.keys{w:World}{h b r n:Nat}{f:K→Option Value}{wr:World}{g:K→Bool}{l:Nat}{m:Value}{ks d:List K}(v:KC w h b r n f wr g l m ks)(o:∀k,g k=false){kvs:T}(i:Sorted kvs)(q:∀k,(f k).isSome=(get kvs k).isSome)
  (e:d.Perm ks) (s:d.Pairwise (λa b=>a.data.toList<=b.data.toList)):d=kvs.map (·.1):=by
 have t:d.Pairwise (λa b=>a≠b):=(e.nodup_iff).2 v.nodup;have u:d.Pairwise jg:=(s.and t).imp (fun{a b} j=>by
  rcases Decidable.em (jg a b) with c|c
  .exact c
  .exact absurd (F5 (List.le_antisymm j.1 (List.not_lt.1 c))) j.2)
 refine Dk u (by simpa[Sorted,List.pairwise_map] using i) λk=> ?_
 rw[e.mem_iff,v.mem,q]
 constructor
 .rintro⟨c, -⟩;cases hg:get kvs k with
  |none=>rw[hg] at c;cases c
  |some x=>exact List.mem_map.2 ⟨(k,x),get_mem hg,rfl⟩
 .intro y;obtain⟨p,e,rfl⟩:=List.mem_map.1 y;rw[zi i e];exact⟨rfl,o _⟩
theorem Dl(N:Nat)(hN:N<1099511627776)(d:Nat):∀(ok:ae)(j:J)(v:Value)(w:World)(H:Nat),bC ok w v j→Wf N d j→H+d<=4001→
  Calls Tryz.prog 94 #[v,.int .i64 (H:Int)] w (rQ w j):=by
 induction d with
 |zero=>intro ok j v w H _ h;exact h.elim
 |succ d ih=>
  intro ok j v w H hv wf E;have HV:=Z hv;have WF:=Z wf;have IH:=Z ih;have gZ:¬(4000:Int)<(H:Int):=(by omega);have ig:(H:Int)+1<=4001:=(by omega);have HD:=Z E;clear hv wf ih E;have bn:=ay.new w bu 26;cases HV.o with
  |null=>go_enter Tryz.func94,Tryz.ntmps94;go_wp2;exact bodyPost_ret (bU rfl au rfl (ay.new w (ai 0 false 0 0 ⟨#[]⟩ (.slice none 0 0) (.slice none 0 0)) 26) rfl) rfl ⟨_,rfl,.null (dN _ _ _) (dN _ _ _),(O.refl _ _).alloc _⟩
  |@bool b=>have f4:=MJ;go_enter Tryz.func94,Tryz.ntmps94;go_wp2;exact bodyPost_ret (bU rfl au rfl (ay.new w (ai 1 b 0 0 ⟨#[]⟩ (.slice none 0 0) (.slice none 0 0)) 26) rfl) rfl ⟨_,rfl,.bool (dN _ _ _) (dN _ _ _),(O.refl _ _).alloc _⟩
  |@int i=>have f4:=MK;have f2:=ML;go_enter Tryz.func94,Tryz.ntmps94;go_wp2;exact bodyPost_ret (bU rfl au rfl (ay.new w (ai 2 false i 0 ⟨#[]⟩ (.slice none 0 0) (.slice none 0 0)) 26) rfl) rfl ⟨_,rfl,.int (dN _ _ _) (dN _ _ _),(O.refl _ _).alloc _⟩
  |@float f=>have f4:=KO;have f2:=KP;have bz:=Jw;go_enter Tryz.func94,Tryz.ntmps94;go_wp2;exact bodyPost_ret (bU rfl au rfl (ay.new w (ai 4 false 0 f ⟨#[]⟩ (.slice none 0 0) (.slice none 0 0)) 26) rfl) rfl ⟨_,rfl,.float (dN _ _ _) (dN _ _ _),(O.refl _ _).alloc _⟩
  |@text t=>have f4:=MN;have f2:=MO;have bz:=KQ;have f9:=MP;go_enter Tryz.func94,Tryz.ntmps94;go_wp2;exact bodyPost_ret (bU rfl au rfl (ay.new w (ai 5 false 0 0 t (.slice none 0 0) (.slice none 0 0)) 26) rfl) rfl ⟨_,rfl,.text (dN _ _ _) (dN _ _ _),(O.refl _ _).alloc _⟩
  |@list v vs xs T hn W=>
   have f4:=Jz;have f2:=JA;have bz:=IG;have f9:=JB;have eG:=zt;have HR:=Z T;have HN:=Z hn;have HU:=Z W;have bD:=T.1;obtain⟨-, -,la,lc,rfl, -, -⟩:=T;simp only[List.length_map] at bD HR HV⊢;unfold maxLen at bD;clear hn W;go_enter Tryz.func94,Tryz.ntmps94;go_wp2_with fail;obtain⟨h,hh⟩:∃h,h=w.heap.size+1:=⟨_,rfl⟩;have aS:=(ay.newAt (w:=w.alloc (.cells bu.toArray 26)) (n:=h) (by simp[hh]) (ai 6 false 0 0 ⟨#[]⟩ (.slice none 0 0) (.slice none 0 0)) 26);have aJ:=Z (show VL w h 6 [] (.slice none 0 0) xs _ 0 (.slice none 0 0) [] from
    ⟨zL',aB.nil _ _ _ _,aB.nil _ _ _ _,rfl,λi r x T=>by simp at T,((O.refl No w).alloc _).alloc _,bn.alloc _,aS,by omega⟩)
   rw[←hh];have HH:=Z hh;clear bn aS hh;unfold ai bu at aJ;go_loopw [54] (λct wr=>∃(n:Nat)(M:Value) (R:List (Y)),ct=.int .i64 n∧VL w h 6 [] (.slice none 0 0) xs wr n M R) (λct _=>xs.length - (intOf ct).toNat);case atStart=>exact⟨0,_,_,rfl,aJ.o⟩
   case round=>
    obtain⟨n,M,R,rfl,I⟩:=hrel;have D:=Z I;clear I aJ;by_cases af:n<xs.length
    .obtain⟨x,hx⟩:=gX' xs n (af);have eH:n<vs.length:=by rw[HN.o];exact af
     obtain⟨u,hu⟩:=gX' vs n (eH);obtain⟨kb,ko,rfl,eP,F⟩:=HR.o.at (i:=n) (r:=[u]) (by simp[hu]);have F:=(F.X D.o.X id).one;simp only[Nat.mul_one] at F;have eQ:(n:Int)<(vs.length:Int):=(by omega);have bF:=Z (HU.o n u x hu hx);have HX:=Z hx;have eU:IntKind.i64.wrap ((H:Int)+1)=(H:Int)+1:=IntWalk.i64_in _ (by omega);have HB:=Z D.o.box.lt;have bG:=Z (show R.length+1<=1099511627776 by have S:=D.o.len;have h2:=D.o.le;have h3:=WF.o.1;omega);clear hu hx;go_upto_region 25 with(fail)
     refine aT (FI [.eq (.pointer (some ⟨h,6,none⟩)),.eq M,.eq u,.eq (.int .i64 (H:Int)),.eq (.int .i64 ((H:Int)+1)),.val (λb=>wr.heap.size<=b) x,.Jt wr.heap.size x,.LZ h wr.heap.size M R x HB.o,.eq (.pointer (some ⟨h,6,none⟩)),.any])
      (λC w'=>VG h (λl=>ai 6 false 0 0 ⟨#[]⟩ (.slice none 0 0) l) M R x wr w' (C 7) (C 9))
      (by kernel_rfl) (by kernel_rfl) (VG.start D.o.own D.o.box) ?_ ?_
     .refine⟨?_,?_,?_,?_,?_,?_,?_,?_,?_,?_,trivial⟩
      .intro C a z K E A o q m g s;have eX:a.tmps[11]?.getD undef=.pointer (some ⟨h,0,none⟩):=q 11 rfl;clear A o q m;go_simp;exact s _ _ rfl (by simpa[dn] using g) Sy
      .intro C a z K E A o q m g s;have ik:=fq (o 0 58 rfl (m 0 rfl));have nS:C 9=false:=by
        cases Gh:C 9 with
        |false=>rfl
        |true=>have ak:=A 9 7 rfl Gh;have aU:=A 7 1 rfl ak;rw[E] at aU;cases aU
       obtain⟨l',y,S, -⟩:=g.box;obtain rfl:l'=M:=S nS;have c6:z.cell? ⟨h,6,none⟩=some l':=y.cell 6;clear A o q m;clear y S;go_simp;exact s _ _ rfl (by simpa[dn] using g) Sy
      .intro C a z K E A o q m g s;have iq:a.tmps[13]?.getD undef=u:=q 13 rfl;clear A o q m;go_simp;exact s _ _ rfl (by simpa[dn] using g) Sy
      .intro C a z K E A o q m g s;have e1:a.tmps[1]?.getD undef=.int .i64 (H:Int):=q 1 rfl;clear A o q m;go_simp;exact s _ _ rfl (by simpa[dn] using g) Sy
      .intro C a z K E A o q m g s;have iw:=fq (o 3 61 rfl (m 3 rfl));clear A o q m;go_simp;exact s _ _ rfl (by simpa[dn] using g) Sy
      .intro C a z K E A o q m g s;have eY:=fq (o 2 60 rfl (m 2 rfl));have fA:=fq (o 4 62 rfl (m 4 rfl));have aW:=IH.o (okB ok w) x u z (H+1) (bF.o.dV.keep (D.o.X.trans g.X (λi hi e=>by rcases e with e|e;(have:=D.o.hw;omega);(have:=(g.low i e).1;have:=D.o.hw;omega))) (λ_ _ _ e=>e)) (WF.o.2 _ (mG' HX.o)) (by have:=HD.o;omega);rw[show((H+1:Nat):Int)=(H:Int)+1 by omega] at aW;refine ax rfl ?_;refine jE Tryz.call94 rfl (vE eY) (vE fA) aW ?_;rintro e w2 ⟨cs,rfl,B,aY⟩;have aK:=g.size;exact⟨_,rfl,s _ _ ⟨cs,rfl,B.mono (λb _ y=>Nat.le_trans aK y)⟩ (by simpa[dn] using g.df aY) (λ_ _ _ _ h=>h.aP aY)⟩
      .intro C a z K E A o q m g s;obtain⟨cs,fB,B⟩:=o 5 63 rfl (m 5 rfl);refine ax rfl ?_;refine qp rfl (vE fB) B.length ?_;have aK:=g.size;refine s _ _ ⟨_,cs,rfl,aK,ay.new _ cs _,B.X ((O.refl No _).alloc _) nE⟩ (by simpa[dn] using g.df ((O.refl _ _).alloc _)) (λ_ _ _ _ h=>h.aP ((O.refl _ _).alloc _))
      .intro C a z K E A o q m g s;have fC:=fq (o 1 59 rfl (m 1 rfl));obtain⟨t,cs,fD,af,bH,B⟩:=o 6 64 rfl (m 6 rfl);have nS:C 9=false:=by
        cases Gh:C 9 with
        |false=>rfl
        |true=>have ak:=A 9 7 rfl Gh;rw[E] at ak;cases ak
       have G:VG h (λl=>ai 6 false 0 0 ⟨#[]⟩ (.slice none 0 0) l) M R x wr z false false:=by have P:=g;rw[E,nS] at P;exact P
       refine ax rfl ?_;refine bJ nC rfl (vE fC) (G.own rfl) (vE fD) (bH.kT B.length) (by intro r T;obtain rfl:=List.mem_singleton.1 T;exact B.one) (by simp only[List.length_singleton];have:=bG.o;omega) (by decide) (Nat.le_trans G.hB G.size) λv' w' U Q L fE=> ?_
       have aQ:uu h wr.heap.size M R x v' w':=by
        have bI:=B.mono (ok':=λb=>wr.heap.size<=b∧b<z.heap.size) (λb y az=>⟨az,y⟩);have bK:=bI.X Q (λb y e=>by have:=(G.low b e).2;have:=y.1;omega);refine⟨cs,U,bK.mono (λb _ y=>⟨y.1,λe=> ?_⟩),?_⟩
        .rcases L with L|L
         .have:=(G.low b (L▸e)).2;have:=y.1;omega
         .have:=L b e;have:=y.2;omega
        .rcases L with L|L
         .exact .inl L
         .exact .inr (λk hk=>Nat.le_trans G.size (L k hk))
       have aZ:=G.low;refine s v' w' aQ (by have P:=G.app Q;simpa[dn,nS] using P) ?_;refine λj B _ u' hu=>hu.keep Q (aV (i:=7) (λj hl B=> ?_) j B)
       match j,B with
       |0,_|1,_|2,_|3,_|4,_=>exact trivial
       |5,_=>exact λb y e=>by have:=(aZ b e).2;omega
       |6,_=>exact λk hk=>(aZ k hk).2
       |7,B=>exact absurd rfl B
       |8,_|9,_=>exact trivial
       |j+10,_=>exact absurd hl (by simp)
      .intro C a z K E A o q m g s;have eX:a.tmps[11]?.getD undef=.pointer (some ⟨h,0,none⟩):=q 11 rfl;clear A o q m;go_simp;exact s _ _ rfl (by simpa[dn] using g) Sy
      .intro C a z K E A o q m g s;have iy:=fq (o 8 66 rfl (m 8 rfl));have U:=o 7 65 rfl (m 7 rfl);change uu _ _ _ _ _ _ _ at U;obtain⟨sa,sn,sc,hv⟩:=U.choose_spec.1.slice;rw[hv] at U;have iC:=hv;have G:VG h (λl=>ai 6 false 0 0 ⟨#[]⟩ (.slice none 0 0) l) M R x wr z true false:=by have P:=g;rw[m 7 rfl,E] at P;exact P
       obtain⟨l',y, -, -⟩:=G.box;have c6:z.cell? ⟨h,6,none⟩=some l':=y.cell 6;have f6:z.frozen? ⟨h,6,none⟩=false:=y.frozen 6;obtain⟨az,Q, -⟩:=y.setCell 6 (.slice sa sn sc);have bM:=Z (G.store az Q U);have bP:=Z Q;have bQ:=Z (m 7 rfl);clear A o q m;clear hv g G U y az Q;go_simp;refine s undef _ trivial (by have P:=bM.o;simpa[dn,bQ.o] using P) ?_;have Q:=bP.o;refine λj B _ u' hu=>hu.keep Q (aV (i:=9) (λj hl B=> ?_) j B)
       match j,B with
       |0,_|1,_|2,_|3,_|4,_=>exact trivial
       |5,_=>exact λb y e=>by have:=HB.o;omega
       |6,_=>exact λk hk=>by have:=HB.o;omega
       |7,_=>exact λk hk=>by omega
       |8,_=>exact trivial
       |9,B=>exact absurd rfl B
       |j+10,_=>exact absurd hl (by simp)
     .intro vs w2 bT _ g;obtain⟨bV,bW,I⟩:=D.o.step HX.o g;have bY:=Z I;clear I g bT;simp only[aX,Act.put,List.setIfInBounds_toArray,List.set_cons_succ,List.set_cons_zero];go_wp2_with fail;go_roundw;case rel=>exact⟨n+1,bV,bW,by go_num,bY.o⟩
      case measure=>simp[intOf];omega
    .have bZ:n=xs.length:=Nat.le_antisymm D.o.le (Nat.not_lt.1 af);subst bZ;have iD:¬((xs.length:Nat):Int)<(vs.length:Int):=by rw[HN.o];omega
     have I:=D.o;have cu:=I.box;have cO:=I.res;have W:=I.list;have cZ:=W.one;have dh:=Z W;clear I W;go_wp2_with (first|(with_reducible refine V rfl au rfl rfl cu.cells rfl ?_)|(with_reducible refine aA rfl au rfl rfl rfl cO rfl rfl cZ ?_;intro w6 di aF fF));exact bodyPost_ret (bU rfl au rfl di rfl) rfl ⟨_,rfl,(dh.o.X aF (λb y e=>by have:=D.o.hw;omega)).mono (λb _ y=>by have:=D.o.hw;omega),D.o.X.trans aF (λi hi e=>absurd e (by omega))⟩
  |@table bm nm fm kvs aO dD dm W=>
   have f4:=Ho;have f2:=Hq;have bz:=EI;have f9:=Hr;have eG:=BR;have f3:=Ht;have iE:=BU;have iF:=EJ;have iG:=EK;have aO:=aO.fit dm;have iH:=jO;obtain⟨nk,dw⟩:∃nk,nk=kvs.length:=⟨_,rfl⟩;rw[←dw] at aO;have dE:=Z dw;have HU:=Z W;have dF:=Z dm;have iI:=Z dD;have fG:=Z aO;have fH:=aO.lt;clear W dm dD dw;go_enter Tryz.func94,Tryz.ntmps94;go_wp2_with (first|(at_range;refine dR rfl rfl rfl ((aO.alloc _).alloc _) ?_;intro w0 fJ dA dG bf dH;go_frame));obtain⟨h,hh⟩:∃h,h=w.heap.size+1:=⟨_,rfl⟩;have aS:=(ay.newAt (w:=w.alloc (.cells bu.toArray 26)) (n:=h) (by simp[hh]) (ai 7 false 0 0 ⟨#[]⟩ (.slice none 0 0) (.slice none 0 0)) 26);obtain⟨r,T⟩:∃r,r=w.heap.size+1+1:=⟨_,rfl⟩;have dI:∀o1 o2,((w.alloc o1).alloc o2).heap.size=r:=λ_ _=>by simp[T]
   rw[dI] at dA dH;rw[←T];have dJ:=Z (show KC w h bm r nk fm w0 (λk=>(fm k).isSome) fJ (.slice none 0 0) [] from
    ⟨dA,by simpa using dG,aB.nil _ _ _ _,List.nodup_nil,λk=>(by cases h:fm k<;>simp),(((O.refl No w).alloc _).alloc _).trans' bf,(bn.alloc _).X bf id,aS.X bf id,by omega,by omega,fH⟩)
   rw[←hh];clear bn aS hh T dI dA dG bf dH aO;go_loopw [19] (λ_ wr=>∃(dK:K→Bool)(dL:Nat)(kv:Value)(ks:List K),KC w h bm r nk fm wr dK dL kv ks) (λ_ wr=>wr.rangeLeft bm r);case atStart=>exact⟨_,_,_,_,dJ.o⟩
   case round=>
    obtain⟨dK,dL,kv,ks,F⟩:=hrel;have aj:=Z F;have dB:=F.fO;clear F dJ;go_wp2_with (first|(at_next;refine ed rfl rfl rfl dB ?_ ?_))
    .intro bf dM;have fM:=Z dM;have F:=aj.o;have c5:wr.cell? ⟨h,5,none⟩=some kv:=F.box.cell 5;have bg:=Z F.own;have fP:ks.length<1099511627776:=by have S:=F.num;have h2:=WF.o.2.1;have h3:=dE.o;omega
     clear dM F;go_wp2_with fail;refine(Gf bg.o fP).mono ?_;rintro e z ⟨rfl,iJ,dO,dP,aI,aG⟩;have fQ:=aj.o.keys fM.o WF.o.1 dF.o dO dP;subst fQ;obtain⟨qa,qc,rfl⟩:∃a c,kv=.slice a kvs.length c:=by obtain⟨-, -,a,c,e, -, -⟩:=aI.rowAt;exact⟨a,c,by simpa using e⟩
     have aJ:=Z (show VL w h 7 (kvs.map (·.1)) (.slice qa kvs.length qc) (kvs.map (·.2)) z 0 (.slice none 0 0) [] from
      ⟨zL',aB.nil _ _ _ _,aI,rfl,λi r x T=>by simp at T,aj.o.X.trans aG (λi hi e=>by have:=(bg.o.elem e).1;have:=aj.o.hw;omega),
       aj.o.res.X aG (λe=>by have:=(bg.o.elem e).1;have:=aj.o.hw;omega),aj.o.box.X aG (λe=>by have:=(bg.o.elem e).1;omega),aj.o.hw⟩)
     have fU:z.cell? ⟨h,5,none⟩=some (.slice qa kvs.length qc):=aJ.o.box.cell 5;have bD:kvs.length<=2 ^ 63 - 1:=by have:=WF.o.2.1;omega
     clear dO dP aI aG c5 bg dB;go_wp2_with fail;clear fU;go_loopw [124] (λct wr=>∃(n:Nat)(M:Value) (R:List (Y)),ct=.int .i64 n∧VL w h 7 (kvs.map (·.1)) (.slice qa kvs.length qc) (kvs.map (·.2)) wr n M R) (λct _=>kvs.length - (intOf ct).toNat);case atStart=>exact⟨0,_,_,rfl,aJ.o⟩
     case round=>
      obtain⟨n,M,R,rfl,I⟩:=hrel;have D:=Z I;clear I aJ;by_cases af:n<kvs.length
      .obtain⟨p,hp⟩:=gX' kvs n (af);have dQ:=Z (zi WF.o.1 (mG' hp));obtain⟨u,dC⟩:∃u,fm p.1=some u:=by
        have S:=dF.o p.1;rw[dQ.o] at S;cases hf:fm p.1 with
        |none=>rw[hf] at S;cases S
        |some u=>exact⟨u,rfl⟩
       have fV:=Z dC;have dS:=D.o.keys.rowAt;obtain⟨kb,ko,rfl,eP,F⟩:=dS.at (i:=n) (r:=[.string p.1]) (by simp[hp]);have F:=F.one;simp only[Nat.mul_one] at F;have eQ:(n:Int)<(kvs.length:Int):=Int.ofNat_lt.2 af;have bF:=Z (HU.o p.1 u p.2 dC dQ.o);have HX:=Z (show(kvs.map (·.2))[n]?=some p.2 by simp[hp]);have HP:=Z hp;have eU:IntKind.i64.wrap ((H:Int)+1)=(H:Int)+1:=IntWalk.i64_in _ (by omega);have HB:=Z D.o.box.lt;have bG:=Z (show R.length+1<=1099511627776 by have S:=D.o.len;have h2:=WF.o.2.1;omega);have fZ:=Z (show p.1.size<=maxLen by have S:=(WF.o.2.2 _ (mG' hp)).1;unfold fK at S;unfold maxLen;omega);clear dC hp dS;go_upto_region 50 with(fail)
       refine aT (FI [.eq (.pointer (some ⟨h,6,none⟩)),.eq M,.eq (.map (some bm)),.eq (.string p.1),.eq u,.eq (.int .i64 (H:Int)),.eq (.int .i64 ((H:Int)+1)),.val (λb=>wr.heap.size<=b) p.2,.Jt wr.heap.size p.2,.LZ h wr.heap.size M R p.2 HB.o,.eq (.pointer (some ⟨h,6,none⟩)),.any])
        (λC w'=>VG h (λl=>ai 7 false 0 0 ⟨#[]⟩ (.slice (some ⟨kb,ko,none⟩) kvs.length qc) l) M R p.2 wr w' (C 9) (C 11))
        (by kernel_rfl) (by kernel_rfl) (VG.start D.o.own D.o.box) ?_ ?_
       .refine⟨?_,?_,?_,?_,?_,?_,?_,?_,?_,?_,?_,?_,trivial⟩
        .intro C a z K E A o q m g s;have gm:a.tmps[18]?.getD undef=.pointer (some ⟨h,0,none⟩):=q 18 rfl;clear A o q m;go_simp;exact s _ _ rfl (by simpa[dn] using g) Sy
        .intro C a z K E A o q m g s;have iL:=fq (o 0 128 rfl (m 0 rfl));have nS:C 11=false:=by
          cases Gh:C 11 with
          |false=>rfl
          |true=>have ak:=A 11 9 rfl Gh;have aU:=A 9 1 rfl ak;rw[E] at aU;cases aU
         obtain⟨l',y,S, -⟩:=g.box;obtain rfl:l'=M:=S nS;have c6:z.cell? ⟨h,6,none⟩=some l':=y.cell 6;clear A o q m;clear y S;go_simp;exact s _ _ rfl (by simpa[dn] using g) Sy
        .intro C a z K E A o q m g s;have iM:a.tmps[17]?.getD undef=.map (some bm):=q 17 rfl;clear A o q m;go_simp;exact s _ _ rfl (by simpa[dn] using g) Sy
        .intro C a z K E A o q m g s;have iO:a.tmps[21]?.getD undef=.string p.1:=q 21 rfl;clear A o q m;go_simp;exact s _ _ rfl (by simpa[dn] using g) Sy
        .intro C a z K E A o q m g s;have gp:=fq (o 2 130 rfl (m 2 rfl));have gq:=fq (o 3 131 rfl (m 3 rfl));have gu:=(fG.o.X D.o.X id).X g.X (λe=>by rcases e with e|e;(have:=D.o.hw;omega);(have:=(g.low _ e).1;have:=D.o.hw;omega));refine ax rfl ?_;refine Gg rfl (vE gp) gu (vE gq) fZ.o ?_;rw[fV.o];exact s _ _ rfl (by simpa[dn] using g) Sy
        .intro C a z K E A o q m g s;have e1:a.tmps[1]?.getD undef=.int .i64 (H:Int):=q 1 rfl;clear A o q m;go_simp;exact s _ _ rfl (by simpa[dn] using g) Sy
        .intro C a z K E A o q m g s;have iP:=fq (o 5 133 rfl (m 5 rfl));clear A o q m;go_simp;exact s _ _ rfl (by simpa[dn] using g) Sy
        .intro C a z K E A o q m g s;have gy:=fq (o 4 132 rfl (m 4 rfl));have gz:=fq (o 6 134 rfl (m 6 rfl));have aW:=IH.o (okB ok w) p.2 u z (H+1) (bF.o.dV.keep (D.o.X.trans g.X (λi hi e=>by rcases e with e|e;(have:=D.o.hw;omega);(have:=(g.low i e).1;have:=D.o.hw;omega))) (λ_ _ _ e=>e)) (WF.o.2.2 _ (mG' HP.o)).2 (by have:=HD.o;omega);rw[show((H+1:Nat):Int)=(H:Int)+1 by omega] at aW;refine ax rfl ?_;refine jE Tryz.call94 rfl (vE gy) (vE gz) aW ?_;rintro e w2 ⟨cs,rfl,B,aY⟩;have aK:=g.size;exact⟨_,rfl,s _ _ ⟨cs,rfl,B.mono (λb _ y=>Nat.le_trans aK y)⟩ (by simpa[dn] using g.df aY) (λ_ _ _ _ h=>h.aP aY)⟩
        .intro C a z K E A o q m g s;obtain⟨cs,gB,B⟩:=o 7 135 rfl (m 7 rfl);refine ax rfl ?_;refine qp rfl (vE gB) B.length ?_;have aK:=g.size;refine s _ _ ⟨_,cs,rfl,aK,ay.new _ cs _,B.X ((O.refl No _).alloc _) nE⟩ (by simpa[dn] using g.df ((O.refl _ _).alloc _)) (λ_ _ _ _ h=>h.aP ((O.refl _ _).alloc _))
        .intro C a z K E A o q m g s;have gG:=fq (o 1 129 rfl (m 1 rfl));obtain⟨t,cs,gI,af,bH,B⟩:=o 8 136 rfl (m 8 rfl);have nS:C 11=false:=by
          cases Gh:C 11 with
          |false=>rfl
          |true=>have ak:=A 11 9 rfl Gh;rw[E] at ak;cases ak
         have G:VG h (λl=>ai 7 false 0 0 ⟨#[]⟩ (.slice (some ⟨kb,ko,none⟩) kvs.length qc) l) M R p.2 wr z false false:=by have P:=g;rw[E,nS] at P;exact P
         refine ax rfl ?_;refine bJ nC rfl (vE gG) (G.own rfl) (vE gI) (bH.kT B.length) (by intro r T;obtain rfl:=List.mem_singleton.1 T;exact B.one) (by simp only[List.length_singleton];have:=bG.o;omega) (by decide) (Nat.le_trans G.hB G.size) λv' w' U Q L fE=> ?_
         have aQ:uu h wr.heap.size M R p.2 v' w':=by
          have bI:=B.mono (ok':=λb=>wr.heap.size<=b∧b<z.heap.size) (λb y az=>⟨az,y⟩);have bK:=bI.X Q (λb y e=>by have:=(G.low b e).2;have:=y.1;omega);refine⟨cs,U,bK.mono (λb _ y=>⟨y.1,λe=> ?_⟩),?_⟩
          .rcases L with L|L
           .have:=(G.low b (L▸e)).2;have:=y.1;omega
           .have:=L b e;have:=y.2;omega
          .rcases L with L|L
           .exact .inl L
           .exact .inr (λk hk=>Nat.le_trans G.size (L k hk))
         have aZ:=G.low;refine s v' w' aQ (by have P:=G.app Q;simpa[dn,nS] using P) ?_;refine λj B _ u' hu=>hu.keep Q (aV (i:=9) (λj hl B=> ?_) j B)
         match j,B with
         |0,_|1,_|2,_|3,_|4,_|5,_|6,_=>exact trivial
         |7,_=>exact λb y e=>by have:=(aZ b e).2;omega
         |8,_=>exact λk hk=>(aZ k hk).2
         |9,B=>exact absurd rfl B
         |10,_|11,_=>exact trivial
         |j+12,_=>exact absurd hl (by simp)
        .intro C a z K E A o q m g s;have gm:a.tmps[18]?.getD undef=.pointer (some ⟨h,0,none⟩):=q 18 rfl;clear A o q m;go_simp;exact s _ _ rfl (by simpa[dn] using g) Sy
        .intro C a z K E A o q m g s;have iQ:=fq (o 10 138 rfl (m 10 rfl));have U:=o 9 137 rfl (m 9 rfl);change uu _ _ _ _ _ _ _ at U;obtain⟨sa,sn,sc,hv⟩:=U.choose_spec.1.slice;rw[hv] at U;have iR:=hv;have G:VG h (λl=>ai 7 false 0 0 ⟨#[]⟩ (.slice (some ⟨kb,ko,none⟩) kvs.length qc) l) M R p.2 wr z true false:=by have P:=g;rw[m 9 rfl,E] at P;exact P
         obtain⟨l',y, -, -⟩:=G.box;have c6:z.cell? ⟨h,6,none⟩=some l':=y.cell 6;have f6:z.frozen? ⟨h,6,none⟩=false:=y.frozen 6;obtain⟨az,Q, -⟩:=y.setCell 6 (.slice sa sn sc);have bM:=Z (G.store az Q U);have bP:=Z Q;have bQ:=Z (m 9 rfl);clear A o q m;clear hv g G U y az Q;go_simp;refine s undef _ trivial (by have P:=bM.o;simpa[dn,bQ.o] using P) ?_;have Q:=bP.o;refine λj B _ u' hu=>hu.keep Q (aV (i:=11) (λj hl B=> ?_) j B)
         match j,B with
         |0,_|1,_|2,_|3,_|4,_|5,_|6,_=>exact trivial
         |7,_=>exact λb y e=>by have:=HB.o;omega
         |8,_=>exact λk hk=>by have:=HB.o;omega
         |9,_=>exact λk hk=>by omega
         |10,_=>exact trivial
         |11,B=>exact absurd rfl B
         |j+12,_=>exact absurd hl (by simp)
       .intro vs w2 bT _ g;obtain⟨bV,bW,I⟩:=D.o.step HX.o g;have bY:=Z I;clear I g bT;simp only[aX,Act.put,List.setIfInBounds_toArray,List.set_cons_succ,List.set_cons_zero];go_wp2_with fail;go_roundw;case rel=>exact⟨n+1,bV,bW,by go_num,bY.o⟩
        case measure=>simp[intOf];omega
      .have bZ:n=kvs.length:=Nat.le_antisymm (by have:=D.o.le;simpa using this) (Nat.not_lt.1 af);subst bZ;have I:=D.o;have cu:=I.box;have cO:=I.res;have W:=I.table;have cZ:=W.one;have dh:=Z W;clear I W;go_wp2_with (first|(with_reducible refine V rfl au rfl rfl cu.cells rfl ?_)|(with_reducible refine aA rfl au rfl rfl rfl cO rfl rfl cZ ?_;intro w6 di aF fF));exact bodyPost_ret (bU rfl au rfl di rfl) rfl ⟨_,rfl,(dh.o.X aF (λb y e=>by have:=D.o.hw;omega)).mono (λb _ y=>by have:=D.o.hw;omega),D.o.X.trans aF (λi hi e=>absurd e (by omega))⟩
    .intro k u z iT hk dU dW dX af aG gJ iU;have dY:=Z (λw6 kv'=>aj.o.step (w6:=w6) (kv':=kv') dU dW dX af aG);have F:=aj.o;have aQ:=F.own.X aG (λi hi e=>(F.fO.apart F.own hi).1 e);have c5:z.cell? ⟨h,5,none⟩=some kv:=(F.box.X aG (by have:=F.hr;omega)).cell 5;have gK:(aH ks).length+1<=1099511627776:=by
      have S:=F.num;have h2:=WF.o.2.1;have h3:=dE.o;simp only[aH,List.length_map];omega
     have gQ:h+1<=z.heap.size+1:=by have S:=F.hr;have h2:=F.fO.lt;omega
     have gU:=Z af;have gV:=Z F.fO.left_eq;clear F dU dW dX af aG gJ dB;go_wp2_with (first|(at_builtin;refine aN rfl iK rfl rfl (aQ.alloc _) rfl (aC.gX z [.string k] 9 1 rfl) (by simp[Value.oneCell']) gK (by decide) (by simpa using gQ) ?_;intro kv' w6 aI aF gW gY;(obtain⟨sa,sn,sc,rfl⟩:=aI.slice);go_frame)|(refine pK rfl rfl rfl rfl Tryz.sizeOf23 (dY.o w6 _ aF aI).1 (show 5<7 by decide) ?_;intro w7 dZ eu iV));go_frame;have eF:=Z ((dY.o w6 _ aF aI).2 w7 dZ eu);clear aI aF gW gY aQ dZ eu;go_roundw;case rel=>exact⟨_,_,_,_,eF.o⟩
     case measure=>rw[eF.o.fO.left_eq,gV.o];exact gU.o
def cutAt(s:K)(c:Nat)(i:Nat):Bool:=if h:i<s.size then s[i].toNat==c else true
def dE(s:K)(c:Nat):Nat→Nat→Nat→List K
 |0,_,_=> []
 |k+1,i,b=>if cutAt s c i then s.extract b i::dE s c k (i+1) (i+1) else dE s c k (i+1) b
def parts(s:K)(c:Nat):List K:=dE s c (s.size+1) 0 0
theorem kK(s:K)(c:Nat):∀k i b,(dE s c k i b).length<=k
 |0,_,_=>lR'
 |k+1,i,b=>by
  unfold dE
  split
  .have:=kK s c k (i+1) (i+1);simp only[List.length_cons];omega
  .have:=kK s c k (i+1) b;omega
theorem nJ{s:K}{c n b:Nat}(d:n<=s.size)(h:cutAt s c n=true)(a:List K):(a++[s.extract b n])++dE s c (s.size+1 - (n+1)) (n+1) (n+1)=a++dE s c (s.size+1 - n) n b:=by rw[show s.size+1 - n=(s.size+1 - (n+1))+1 by omega,dE,if_pos h];simp
theorem rU{s:K}{c n b:Nat}(a:n<=s.size)(h:cutAt s c n=false):dE s c (s.size+1 - (n+1)) (n+1) b=dE s c (s.size+1 - n) n b:=by rw[show s.size+1 - n=(s.size+1 - (n+1))+1 by omega,dE,if_neg (by rw[h];decide)]
theorem aB.dY{w:World}{d e size:Nat}{v:Value}{b:List (Y)}(h:aB w d e size v b):∃a c,v=.slice a b.length c:=by obtain⟨-, -,a,c,h, -⟩:=h.rowAt;exact⟨a,c,h⟩
theorem nX{w wr w6:World}{v v':Value}{a:List K}{k:K}(c:aB wr w.heap.size 9 1 v (aH a))(d:O No w wr)(f:O (λb=>v.ownBlock=some b) (wr.alloc (.cells #[.string k] 9)) w6)
  (g:aB w6 w.heap.size 9 1 v' (aH a++[[.string k]])):aB w6 w.heap.size 9 1 v' (aH (a++[k]))∧O No w w6:=by
 refine⟨by simpa[aH] using g,?_⟩;have h:O No w (wr.alloc (.cells #[.string k] 9)):=d.alloc _;exact h.trans f (λi j e=>by have:=(c.elem e).1;omega)
theorem lV(s:K)(F:s.size<1099511627776)(w:World):
  Calls Tryz.prog 77 #[.string s] w λe t=>∃v,e=.returned v∧aB t w.heap.size 9 1 v (aH (parts s 46))∧O No w t:=by
 have G:=Z F;go_enter Tryz.func77,Tryz.ntmps77;go_wp2_with fail;go_loopw [3,4,5] (λv H o wr=>∃(a:List K)(b n:Nat),H=.int .i64 b∧o=.int .i64 n∧b<=n∧n<=s.size+1∧aB wr w.heap.size 9 1 v (aH a)∧a.length<=n∧a++dE s 46 (s.size+1 - n) n b=parts s 46∧O No w wr)
  (λ_ _ o _=>s.size+1 - (intOf o).toNat)
 case atStart=>exact⟨[],0,0,rfl,rfl,lR',zL',aB.nil _ _ _ _,lR',rfl,O.refl _ _⟩
 case round=>
  obtain⟨a,b,n,rfl,rfl,P,u,c,x,y,p⟩:=hrel;obtain⟨Q,R,rfl⟩:=c.dY;have i:=Z y;have j:=Z p;have k:=Z x;have I:=Z u;have z:w.heap.size<=wr.heap.size+1:=by have:=p.size;omega
  have l:=Z c;clear y p x u;by_cases A:n<=s.size
  .have B:(aH a).length+1<=1099511627776:=by have:=k.o;have:=G.o;simp only[aH,List.length_map];omega
   by_cases J:n=s.size
   .subst J;have hcut:cutAt s 46 s.size=true:=by unfold cutAt;rw[dif_neg (Nat.lt_irrefl _)]
    have d:=Z hcut;clear hcut;have L:(ByteArray.size s:Int)<=(ByteArray.size s:Int):=Int.le_refl _;go_wp2_with (first|(at_builtin;refine aN rfl iK rfl rfl (c.alloc _) rfl (aC.gX wr [.string (ByteArray.extract s b s.size)] 9 1 rfl) (by simp[Value.oneCell']) B (by decide) (by simpa using z) ?_;intro v' w6 f g q r;go_frame));have h:=Z (nX l.o j.o g f);clear f g q r c;go_roundw;case rel=>exact⟨a++[s.extract b s.size],s.size+1,s.size+1,by go_num,by go_num,lR',lR',h.o.1,(by have:=k.o;simp;omega),(by rw[nJ lR' d.o];exact i.o),h.o.2⟩
    case measure=>simp[intOf]
   .have C:n<s.size:=(by omega);have S:((n:Int)==(s.size:Int))=false:=by simp;omega
    by_cases m:(s[n].toNat:Int)=46
    .have M:((s[n].toNat:Int)==46)=true:=(by simpa using m);have d:=Z (show cutAt s 46 n=true by unfold cutAt;rw[dif_pos C];simp;omega);clear m;go_wp2_with (first|(at_builtin;refine aN rfl iK rfl rfl (c.alloc _) rfl (aC.gX wr [.string (ByteArray.extract s b n)] 9 1 rfl) (by simp[Value.oneCell']) B (by decide) (by simpa using z) ?_;intro v' w6 f g q r;go_frame));have h:=Z (nX l.o j.o g f);clear f g q r c;go_roundw;case rel=>exact⟨a++[s.extract b n],n+1,n+1,by go_num,by go_num,lR',by omega,h.o.1,(by have:=k.o;simp;omega),(by rw[nJ A d.o];exact i.o),h.o.2⟩
     case measure=>simp[intOf];omega
    .have M:((s[n].toNat:Int)==46)=false:=(by simpa using m);have d:=Z (show cutAt s 46 n=false by unfold cutAt;rw[dif_pos C];simp;omega);clear m;go_wp2_with fail;go_roundw;case rel=>exact⟨a,b,n+1,rfl,by go_num,by omega,by omega,l.o,(by have:=k.o;omega),(by rw[rU A d.o];exact i.o),j.o⟩
     case measure=>simp[intOf];omega
  .have N:n=s.size+1:=by have:=I.o;omega
   have L:¬(n:Int)<=(s.size:Int):=(by omega);go_wp2;go_ret;have D:=i.o;rw[N,Nat.sub_self,dE,List.append_nil] at D;rw[←D];have E:=l.o;simp only[aH,List.length_map] at E;exact⟨_,rfl,E,j.o⟩
theorem qw(N:Nat)(n:N<1099511627776){d:Nat}(t:d<=4001){ok:ae}{j:J}{v:Value}{w:World}(f:bC ok w v j)(g:Wf N d j):
  Calls Tryz.prog 59 #[v] w (rQ w j):=by
 have h:=Dl N n d (okB ok w) j v (w.alloc (.cells bu.toArray 26)) 0 (f.dV.X ((O.refl No w).alloc _) nE) g (by omega);have o:=Z h;have a:=ay.new w bu 26;clear h f g;go_enter Tryz.func59,Tryz.ntmps59;go_wp2_with fail;refine o.o.mono ?_;rintro e u ⟨cs,rfl,c,k⟩;have p:=a.X k id;have l:=c.length;have q:=c.one;have r:=Z c;clear c;go_wp2_with (first|(with_reducible refine aA rfl au rfl rfl rfl p rfl l q ?_;intro w6 s m x));refine bodyPost_ret (bU rfl au rfl s l) rfl ⟨_,rfl,?_,(((O.refl No w).alloc _).trans' k).trans m (λi y e=>absurd e (by omega))⟩;refine((r.o.X m (λb a e=> ?_)).mono (λb _ a=> ?_))
 .simp at a;omega
 .simp at a;omega
theorem KR(p q:Value)(w:World):CallsD Tryz.prog 60 #[p,q] .returning w λe u' a=>e=.returned (.tuple #[])∧u'=.returning∧a=w:=by
 refine callsD_of_wpS Tryz.func60 rfl λb cs c=> ?_
 apply wpS_seq;apply wpS_region;simp[wpOpsS,go_sem,recoverD,c,Tryz.ntmps60,Exit.thenS];refine wpS_cond (t:=false) (by simp[Act.eval,Array.replicate]) ?_;simp only[Bool.false_eq_true,if_false];refine wpS_of_wp (wp_skip ?_);cases b
 simp_all [bodyPostS,results,Tryz.results60]
theorem iP{P:Program}{e:Func}{p q:Tmp}{f d n:Nat}(h:e.results=#[.cell p f,.cell q d])(i:jG P f n){c:Array Value}{w:World}{g:Nat}{cs:Y}{t:TypeId}
  (j:c.getD p undef=.pointer (some ⟨g,0,none⟩)) (k:ay w g cs t) (l:cs.length=n) (m:∀w,(isAgg d).run P w=.ok false w) {a:Addr} {v:Value} (r:c.getD q undef=.pointer (some a)) (s:w.cell? a=some v):
  (results e c).run P w=.ok (.tuple #[.agg cs.toArray,v]) w:=by
 have u:=qh w i (b:=g) (o:=0) k.cells l;have x:(loadVar d a).run P w=.ok v w:=(by simp[loadVar,Sem.run_bind,m,go_sem,s]);have y:c[p]?.getD undef=.pointer (some ⟨g,0,none⟩):=(by simpa using j);have z:c[q]?.getD undef=.pointer (some a):=(by simpa using r);simp only[results,h];simp[Sem.run_bind,y,z,asAddr,Result.andThen,u,x]
theorem vN(n m:Nat)(N:n+m<1099511627776){d:Nat}(P:d<=61){ok:ae}{a b:T}{Q R:Y}{w:World}(D:aG ok w Q (.table a))(h:aG ok w R (.table b))
  (S:Wf n d (.table a)) (U:Wf m d (.table b)) (sa:sz (.table a)<=2000) (sb:sz (.table b)<=2000):
  Calls Tryz.prog 23 #[.agg Q.toArray,.agg R.toArray] w λe w'=>∃cs:Y,e=.returned (.tuple #[.agg cs.toArray,.int .i64 0])∧aG (λx=>w.heap.size<=x) w' cs (.table (merged a b))∧O No w w':=by
 obtain⟨ab,aj,af,at_,ak,ax,rfl⟩:=D.fV;obtain⟨bb,bi,bf,bt,az,aB,rfl⟩:=h.fV;have bz:∀(fn:Fn)(first cap:Array Value)(w:World),(Instr.makeFunc fn first cap).run Tryz.prog w=.ok (.func fn first cap) w:=λ_ _ _ _=>rfl
 have HA:=Z D;have HB:=Z h;have E:=Z S;have F:=Z U;have SA:=Z sa;have SB:=Z sb;clear D h S U sa sb;have aC:∀W,(((w.alloc (.cells (ai 7 ab aj af at_ ak ax).toArray 26)).alloc (.cells (ai 7 bb bi bf bt az aB).toArray 26)).alloc (.cells bu.toArray 26)).alloc (.cells [.int .i64 0].toArray 3)=W→
   ay W w.heap.size (ai 7 ab aj af at_ ak ax) 26∧ay W (w.heap.size+1) (ai 7 bb bi bf bt az aB) 26∧ay W (w.heap.size+1+1) bu 26∧ay W (w.heap.size+1+1+1) [.int .i64 0] 3∧O No w W:=by
  rintro W rfl;exact⟨(((ay.new _ _ _).alloc _).alloc _).alloc _,((ay.newAt (by simp) _ _).alloc _).alloc _,(ay.newAt (by simp) _ _).alloc _,ay.newAt (by simp) _ _,((((O.refl No w).alloc _).alloc _).alloc _).alloc _⟩
 have HF:=Z aC;clear aC
 go_enter_defers Tryz.func23,Tryz.ntmps23
 unfold ai;go_upto_region 2 with fail
 generalize aF:World.alloc _ _=W;obtain⟨G,o,g,c,c4⟩:=HF.o W aF;clear aF HF;have H:=Z c4;have I:=c.lt;clear c4;obtain⟨u,aH⟩:∃u,u=w.heap.size:=⟨_,rfl⟩;obtain⟨v,aI⟩:∃v,v=w.heap.size+1:=⟨_,rfl⟩;obtain⟨j,aJ⟩:∃j,j=w.heap.size+1+1:=⟨_,rfl⟩;obtain⟨r,aK⟩:∃r,r=w.heap.size+1+1+1:=⟨_,rfl⟩;rw[←aK] at c I⊢;rw[←aJ] at g⊢;rw[←aI] at o⊢;rw[←aH] at G⊢;have k:=Z (show u=w.heap.size∧u<v∧v<j∧j<r by omega);have J:=Z I;clear aH aI aJ aK I;go_wp2_with (first|(with_reducible refine V rfl au rfl rfl G.cells rfl ?_));refine(qo (by omega:n<1099511627776) (HA.o.dV.X H.o nE) E.o SA.o P).mono ?_;rintro e w5 ⟨ma,rfl,aN,s⟩;replace o:=o.X s id;replace g:=g.X s id;replace c:=c.X s id;have aT:=Z aN;have l:=Z s;clear aN s G;go_wp2_with (first|(with_reducible refine V rfl au rfl rfl o.cells rfl ?_));refine(qo (by omega:m<1099511627776) (HB.o.dV.X (H.o.trans' l.o) nE) F.o SB.o P).mono ?_;rintro e w6 ⟨mb,rfl,aO,y⟩;replace g:=g.X y id;replace c:=c.X y id;have aU:=Z aO;have t:=Z y;clear aO y o;go_wp2_with fail;refine(xk (zo n m N d (λx=>W.heap.size<=x) a b (.map (some ma)) (.map (some mb)) w6 (aT.o.X t.o nE) (aU.o.mono (λx _ hx=>Nat.le_trans l.o.size hx)) E.o F.o)).mono ?_;rintro e w7 ⟨mr,rfl,aP,z⟩;replace g:=g.X z id;replace c:=c.X z id;have aV:=Z aP;have A:=Z z;clear aP z;go_wp2_with fail;refine(qw (n+m) N (by omega:d<=4001) aV.o (E.o.merged F.o)).mono ?_;rintro e w8 ⟨cs,rfl,B,C⟩;replace g:=g.X C id;replace c:=c.X C id;have hl:=B.length;have ho:=B.one;have aW:=Z B;have aX:=Z C;clear B C;have aY:=Z c;clear c;have aQ:¬r=j:=by have:=k.o;omega
 have aS:=Z aQ;clear aQ;go_wp2_with (first|(with_reducible refine aA rfl au rfl rfl rfl g rfl hl ho ?_;intro w9 aZ K bC;(have L:=aY.o.X K aS.o);(have k3:=L.cell 0);(have f3:=L.frozen 0);(simp only[List.getElem?_cons_zero] at k3)));obtain⟨bg,M, -⟩:=L.setCell 0 (.int .i64 0);have bn:=aZ.X M (by have:=aS.o;omega);refine leaves_cons (f:=60) (args:=#[.pointer (some ⟨j,0,none⟩),.pointer (some ⟨r,0,none⟩)]) (by simp) (by simp[go_sem]) ?_;refine(KR _ _ _).mono ?_;rintro e u' bD ⟨rfl,rfl,rfl⟩;refine⟨_,iP (p:=4) (q:=5) rfl au rfl bn hl Tryz.isAgg3 rfl (bg.cell 0),_,rfl,?_,?_⟩
 .have h1:=(aW.o.X K (λb h e=>by have:=J.o;have:=k.o;have:=l.o.size;have:=t.o.size;have:=A.o.size;omega)).X M (λb h e=>by have:=J.o;have:=k.o;have:=l.o.size;have:=t.o.size;have:=A.o.size;omega);exact h1.mono (λb _ h=>by have:=J.o;have:=k.o;have:=l.o.size;have:=t.o.size;have:=A.o.size;omega)
 .exact((((((H.o.trans' l.o).trans' t.o).trans' A.o).trans' aX.o).trans K (λi hi e=>absurd e (by have:=k.o;omega))).trans M (λi hi e=>absurd e (by have:=k.o;omega)))
def nest(l:List K)(j:J):J:=l.foldr (λk a=> .table [(k,a)]) j
def dB:K:=⟨#[46]⟩
def fJ(a:K)(j:J):J:=if a=dB then j else nest (parts a 46) j
theorem zx{l:List K}{m:Nat}{k:K}(h:l[m]?=some k)(j:J):nest (l.drop m) j=.table [(k,nest (l.drop (m+1)) j)]:=by obtain⟨a,rfl⟩:=gS'.1 h;rw[List.drop_eq_getElem_cons a];rfl
theorem ik(s:K)(c:Nat):(parts s c).length<=s.size+1:=kK s c _ _ _
structure PG (g:Nat) (cs:Y) (ok':ae) (j:J) (wr w:World) (ds:Bool):Prop where
 size:wr.heap.size<=w.heap.size
 X:O (·=g) wr w
 box:∃c,ay w g c 26∧(ds=false→c=cs)∧(ds=true→aG ok' w c j)
theorem PG.start{g:Nat}{cs:Y}{ok':ae}{j:J}{wr:World}(a:ay wr g cs 26):PG g cs ok' j wr wr.drew false:=
 ⟨lR',(O.refl _ wr).drew,cs,a.drew,λ_=>rfl,λe=>by cases e⟩
theorem PG.df{g:Nat}{cs:Y}{ok':ae}{j:J}{wr w b:World}{d:Bool}(h:PG g cs ok' j wr w d)(a:O No w b):PG g cs ok' j wr b d:=by obtain⟨c,f,i,k⟩:=h.box;exact⟨Nat.le_trans h.size a.size,h.X.trans' a,c,f.X a id,i,λe=>(k e).X a nE⟩
theorem PG.fill{g:Nat}{cs c:Y}{ok':ae}{j:J}{wr w a:World}{i:Bool}(h:PG g cs ok' j wr w i)(d:ay a g c 26)(f:O (·=g) w a)(k:aG ok' w c j)(l:¬ok' g):PG g cs ok' j wr a true:=
 ⟨Nat.le_trans h.size f.size,h.X.trans f nE,c,d,λe=>(by cases e),λ_=>k.X f (λb d e=>l (e▸d))⟩
abbrev Gi(ok:ae)(w:World)(g:Nat):ae:=λb=>okB ok w b∨g+1<b
theorem nK(A:K)(hp:A.size<1099511627776){ok:ae}{cs:Y}{j:J}{w:World}(h:aG ok w cs j):
  Calls Tryz.prog 40 #[.string A,.agg cs.toArray] w λe w'=>∃aJ,e=.returned (.agg aJ.toArray)∧aG (λb=>ok b∨w.heap.size<=b) w' aJ (fJ A j)∧O No w w':=by
 have HV:=Z h;have HP:=Z hp;obtain⟨kk,kb,ki,kf,kt,kv,lv,rfl⟩:=h.seven;have aK:∀W,(w.alloc (.cells (ai kk kb ki kf kt kv lv).toArray 26)).alloc (.cells bu.toArray 26)=W→
   ay W w.heap.size (ai kk kb ki kf kt kv lv) 26∧ay W (w.heap.size+1) bu 26∧O No w W∧W.heap.size=w.heap.size+2:=by
  rintro W rfl;exact⟨(ay.new _ _ _).alloc _,ay.newAt (by simp) _ _,((O.refl No w).alloc _).alloc _,by simp⟩
 have HF:=Z aK;clear h hp aK;go_enter Tryz.func40,Tryz.ntmps40;unfold ai;go_upto_region 1 with fail
 generalize aN:World.alloc _ _=W;obtain⟨E,F,c1,aC⟩:=HF.o W aN;clear aN HF;obtain⟨g,hg⟩:∃g,g=w.heap.size:=⟨_,rfl⟩;rw[←hg] at E F aC⊢;have N:=Z hg;have aQ:=Z aC;have aU:=Z c1;have af:=Z E;have aj:=Z F;have P:=Z (show aG (Gi ok w g) W (ai kk kb ki kf kt kv lv) j from((HV.o.mono (ok':=okB ok w) (λb o h=>⟨h,o⟩)).X c1 nE).mono (λb _ h=> .inl h));have G:¬Gi ok w g g:=λe=>by rcases e with e|e<;>first|omega|(have:=e.2;omega)
 have bH:=Z G;have aW:¬Gi ok w g (g+1):=λe=>by rcases e with e|e<;>first|omega|(have:=e.2;omega)
 have aY:=Z aW;clear c1 hg aC G aW E F;by_cases H:A=dB
 .have bI:(A.toList==[46])=true:=by rw[H,show dB.toList=[46] from by rw[ByteArray.toList_eq];rfl];rfl
  have HD:=Z H;clear H;have E:=af.o;have F:=aj.o;have aF:=P.o.one;go_wp2_with (first|(with_reducible refine V rfl au rfl rfl E.cells rfl ?_)|(with_reducible refine aA rfl au rfl rfl rfl F rfl rfl aF ?_;intro w2 z Q aZ));refine bodyPost_ret (bU rfl au rfl z rfl) rfl ⟨_,rfl,?_,aU.o.trans Q (λi hi e=>by have:=N.o;omega)⟩;rw[fJ,if_pos HD.o];exact(P.o.X Q (λb o e=>aY.o (e▸o))).mono (λb _ o=>o.imp (λh=>h.1) (λh=>by have:=N.o;omega))
 .have bI:(A.toList==[46])=false:=by
   have x:=aS A dB;rw[decide_eq_false H,show dB.toList=[46] from by rw[ByteArray.toList_eq];rfl] at x;exact x
  have HD:=Z H;clear H;go_wp2_with fail;refine(lV A HP.o W).mono ?_;rintro e y ⟨v,rfl,ak,I⟩;have az:=ak.rowAt.mono (ok':=λb=>g+1<b) (λb _ o=>by have:=(ak.elem o).1;have:=aQ.o;omega) (by decide);obtain⟨na,nc,rfl⟩:=ak.dY;obtain⟨L,hL⟩:∃L,L=parts A 46:=⟨_,rfl⟩;rw[←hL] at az⊢;have bf:(aH L).length=L.length:=(by simp[aH]);have bJ:L.length<=1099511627776:=by rw[hL];have:=ik A 46;have:=HP.o;omega
  have dC:(L.length:Int)<=1099511627776:=(by omega);rw[bf] at az⊢;have bK:=Z az;have HC:=Z I;have bM:=Z hL;have af:=Z (af.o.X I id);have aj:=Z (aj.o.X I id);have P:=Z (P.o.X I nE);have bP:=I.size;have bQ:=Z (show g+1<y.heap.size by have:=aQ.o;omega);clear az ak I hL bf bP bJ;go_wp2_with fail;go_loopw [6] (λct wr=>∃(m:Nat)(c:Y),ct=.int .i64 ((m:Int) - 1)∧m<=L.length∧ay wr g c 26∧aG (Gi ok w g) wr c (nest (L.drop m) j)∧O (·=g) y wr) (λct _=>(intOf ct+1).toNat)
  case atStart=>exact⟨L.length,_,by go_num,lR',af.o,(by rw[List.drop_length];exact P.o),O.refl _ _⟩
  case round=>
   obtain⟨m,c,rfl,hm,bg,bn,bz⟩:=hrel;have bC:=Z bg;have D:=Z bn;have R:=Z bz;clear bg bn bz;cases m with
   |zero=>have E:=bC.o;have F:=aj.o.X R.o (by omega);have aF:=D.o.one;have aI:=D.o.length;go_wp2_with (first|(with_reducible refine V rfl au rfl rfl E.cells aI ?_)|(with_reducible refine aA rfl au rfl rfl rfl F rfl aI aF ?_;intro w2 z Q aZ));refine bodyPost_ret (bU rfl au rfl z aI) rfl ⟨c,rfl,?_,((aU.o.trans' HC.o).trans R.o (λi hi e=>by have:=N.o;omega)).trans Q (λi hi e=>by have:=N.o;omega)⟩;have x:=D.o;rw[List.drop_zero] at x;rw[fJ,if_neg HD.o,←bM.o];exact(x.X Q (λb o e=>aY.o (e▸o))).mono (λb _ o=>o.imp (λh=>h.1) (λh=>by have:=N.o;omega))
   |succ m=>
    rw[show(((m+1:Nat):Int)) - 1=(m:Int) by omega];obtain⟨k,S⟩:=gX' L m ((by omega));obtain⟨nb,no,rfl,bD,T⟩:=bK.o.at (i:=m) (r:=[.string k]) (by simp[aH,S]);have T:=(T.X R.o (λe=>by omega)).one;simp only[Nat.mul_one] at T;have bT:=Z T;have bV:=Z bD;have bW:=Z S;have aB:=Z (show g+1<wr.heap.size by have:=R.o.size;have:=bQ.o;omega);have dD:(m:Int)<(L.length:Int):=(by omega);have G:=bH.o;clear T bD S;go_upto_region 7 with fail
    refine aT (FI [.eq (.slice (some ⟨nb,no,none⟩) L.length nc),.eq (.int .i64 (m:Int)),.eq (.pointer (some ⟨nb,no+m,none⟩)),.eq (.string k),.ng wr.heap.size [.string k] 9,.eq (.agg c.toArray),.ng wr.heap.size c 26,.val (Gi ok w g) (.table [(k,nest (L.drop (m+1)) j)]),.any])
     (λB w'=>PG g c (Gi ok w g) (.table [(k,nest (L.drop (m+1)) j)]) wr w' (B 8)) (by kernel_rfl) (by kernel_rfl) (PG.start bC.o) ?_ ?_
    .refine⟨?_,?_,?_,?_,?_,?_,?_,?_,?_,trivial⟩
     .intro B a y K C s f q l d t;have e5:a.tmps[5]?.getD undef=.slice (some ⟨nb,no,none⟩) L.length nc:=q 5 rfl;clear s f q l;go_simp;exact t _ _ rfl (by simpa[dn] using d) Sy
     .intro B a y K C s f q l d t;have e6:a.tmps[6]?.getD undef=.int .i64 (m:Int):=q 6 rfl;clear s f q l;go_simp;exact t _ _ rfl (by simpa[dn] using d) Sy
     .intro B a y K C s f q l d t;have dE:=fq (f 0 19 rfl (l 0 rfl));have dF:=fq (f 1 20 rfl (l 1 rfl));clear s f q l;go_simp;exact t _ _ rfl (by simpa[dn] using d) Sy
     .intro B a y K C s f q l d t;have dG:=fq (f 2 21 rfl (l 2 rfl));have c9:y.cell? ⟨nb,no+m,none⟩=some (.string k):=d.X.cell bT.o (λe=>by have:=bV.o;simp only at e;omega);clear s f q l;go_simp;exact t _ _ rfl (by simpa[dn] using d) Sy
     .intro B a y K C s f q l d t;have dI:=fq (f 3 22 rfl (l 3 rfl));clear s f q l;go_simp;refine t _ _ ⟨_,rfl,d.size,ay.new _ [.string k] _⟩ (by simpa[dn] using d.df ((O.refl _ _).alloc _)) (λ_ _ _ _ h=>h.aP ((O.refl _ _).alloc _))
     .intro B a y K C s f q l d t;have e3:a.tmps[3]?.getD undef=.pointer (some ⟨g,0,none⟩):=q 3 rfl;have n8:=ny1 s 8 7 rfl (ny1 s 7 6 rfl (ny1 s 6 5 rfl C));rw[n8] at d;obtain⟨c',o,x, -⟩:=d.box;obtain rfl:=x rfl;refine ax rfl ?_;refine aO au rfl (vE e3) o.cells D.o.length ?_;exact t _ _ rfl (by simpa[dn,n8] using d) Sy
     .intro B a y K C s f q l d t;have bY:=fq (f 5 24 rfl (l 5 rfl));refine ax rfl ?_;refine qp rfl (vE bY) D.o.length ?_;refine t _ _ ⟨_,rfl,d.size,ay.new _ c _⟩ (by simpa[dn] using d.df ((O.refl _ _).alloc _)) (λ_ _ _ _ h=>h.aP ((O.refl _ _).alloc _))
     .intro B a y K C s f q l d t;obtain⟨t1,dJ,bZ,bF⟩:=f 4 23 rfl (l 4 rfl);obtain⟨t2,dK,cu,z⟩:=f 6 25 rfl (l 6 rfl);have bG:aG (Gi ok w g) y (ai 7 false 0 0 ByteArray.empty (.slice (some ⟨t1,0,none⟩) 1 1) (.slice (some ⟨t2,0,none⟩) 1 1)) (.table [(k,nest (L.drop (m+1)) j)]):=aG.table (kvs:=[(k,nest (L.drop (m+1)) j)]) ((bF.kT rfl).mono (λb _ o=> .inr (by have:=aB.o;omega)) (by simp)) ((z.kT D.o.length).mono (λb _ o=> .inr (by have:=aB.o;omega)) (by simp)) rfl (λn r p x h2=>by
       cases n with
       |zero=>simp at x h2;subst x;subst h2;exact D.o.X d.X (λb o e=>G (e▸o))
       |succ n=>simp at x)
      have cO:=Z bG;clear bG bZ cu bF z;have n8:=d;clear s f q l;have dL:=EF 7;go_simp;exact t _ _ ⟨_,rfl,cO.o⟩ (by simpa[dn] using d) Sy
     .intro B a y K C s f q l d t;have e3:a.tmps[3]?.getD undef=.pointer (some ⟨g,0,none⟩):=q 3 rfl;obtain⟨c2,cZ,M⟩:=f 7 26 rfl (l 7 rfl);rw[C] at d;obtain⟨c',o,x, -⟩:=d.box;obtain rfl:=x rfl;refine ax rfl ?_;refine dH au rfl (vE e3) (vE cZ) o D.o.length M.length M.one ?_;intro w2 z hC aZ;refine t undef _ trivial (by simpa[dn] using d.fill z hC M G) ?_;refine λj U _ u hu=>hu.keep hC (aV (i:=8) (λj hl U=> ?_) j U)
      match j,U with
      |0,_|1,_|2,_|3,_=>exact trivial
      |4,_=>exact λk S=>by have:=aB.o;omega
      |5,_=>exact trivial
      |6,_=>exact λk S=>by have:=aB.o;omega
      |7,_=>exact λb o e=>G (e▸o)
      |8,U=>exact absurd rfl U
      |j+9,_=>exact absurd hl (by simp)
    .intro vs w2 dh di d;obtain⟨c2,z, -,M⟩:=d.box;have dm:=Z z;have dw:=Z (M rfl);have dA:=Z (R.o.trans d.X nE);clear z M d dh di;simp only[aX,Act.put,List.setIfInBounds_toArray,List.set_cons_succ,List.set_cons_zero];go_wp2_with fail;go_roundw;case rel=>exact⟨m,c2,rfl,by omega,dm.o,(by rw[zx bW.o];exact dw.o),dA.o⟩
     case measure=>simp[intOf]
end Go.Proofs.YtljaoopfomcaoaaGreatDoor
