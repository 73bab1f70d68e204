/- A part of the proof. -/
import Derived.Laws.Strings
import Derived.Laws.StructEq
import Derived.Test.YtljaoopfomcaoaaGreatDoorProg
import Derived.WalkKit
import Derived.WalkLawsBesides
import Derived.WalkSpells
import Derived.Lib.Hide
import Derived.Deep.MidRow
import Derived.Laws.AppendOwnNone
import Derived.KernelRfl
import Derived.Orders
import Derived.Deep.DeepCutAuto
set_option linter.unusedVariables false
set_option linter.unusedSimpArgs false
set_option maxRecDepth 100000
set_option maxHeartbeats 4000000
namespace Go.Proofs.YtljaoopfomcaoaaGreatDoor
theorem Z {p : Prop} (h : p) : Go.RowKit.Hid p := h
theorem _root_.Go.RowKit.Hid.o {p : Prop} (h : Go.RowKit.Hid p) : p := h.out
abbrev ae := Nat → Prop
abbrev Y := List Go.Value
abbrev ag := Go.Act → Go.World → Prop
abbrev ah := Go.Exit → Go.Act → Go.World → Prop
theorem mG' {α : Type} {l : List α} {i : Nat} {a : α} (h : l[i]? = some a) : a ∈ l := List.mem_of_getElem? h
theorem gS' {α : Type} {l : List α} {i : Nat} {a : α} : l[i]? = some a ↔ ∃ h : i < l.length, l[i] = a := List.getElem?_eq_some_iff
theorem lR' {n : Nat} : n ≤ n := Nat.le_refl n
theorem zL' {n : Nat} : 0 ≤ n := Nat.zero_le n
theorem nE {α : Type} {p q : α → Prop} : ∀ x, p x → q x → q x := fun _ _ h => h
theorem gX' {α : Type} (l : List α) (n : Nat) (h : n < l.length) : ∃ x, l[n]? = some x := ⟨_, List.getElem?_eq_getElem h⟩
theorem ny1 {d : Nat → Bool} {F : Nat → Nat → Bool} (hcl : ∀ j k, F j k = true → d j = true → d k = true) (x c : Nat) (h : F x c = true) (hd : d c = false) : d x = false := by
 cases hh : d x with
 | false => rfl
 | true => have := hcl x c h hh; rw [hd] at this; cases this
theorem vE {a : Go.Act} {t : Nat} {v : Go.Value} (h : a.tmps[t]?.getD Go.undef = v) : a.eval (.tmp t) = v := by simpa [Go.Act.eval] using h
theorem Sy {I : Nat → Go.Value → Go.World → Prop} {i : Nat} {d : Nat → Bool} {w : Go.World} : ∀ j, j ≠ i → d j = true → ∀ u, I j u w → I j u w := fun _ _ _ _ h => h
end Go.Proofs.YtljaoopfomcaoaaGreatDoor
namespace Go.Proofs.YtljaoopfomcaoaaGreatDoor
abbrev K:=ByteArray
def jg(a b:K):Prop:=a.data.toList<b.data.toList
instance (a b:K):Decidable (jg a b):=by unfold jg;exact inferInstance
theorem F5{a b:K}(h:a.data.toList=b.data.toList):a=b:=by cases a;cases b;congr 1;exact Array.toList_inj.1 h
theorem ry(a:K):¬jg a a:=by unfold jg;exact List.lt_irrefl _
theorem uO{a b c:K}(d:jg a b)(e:jg b c):jg a c:=List.lt_trans d e
theorem qf{a b:K}(h:jg a b):¬jg b a:=λc=>ry a (uO h c)
theorem ny{a b:K}(h:jg a b):a≠b:=λe=>ry b (e▸h)
theorem vw{a b:K}(c:¬jg a b)(d:a≠b):jg b a:=by
 unfold jg at*;have f:b.data.toList<=a.data.toList:=List.not_lt.1 c;rcases Decidable.em (b.data.toList<a.data.toList) with h|h
 .exact h
 .exact absurd (List.le_antisymm (List.not_lt.1 h) f) (λe=>d (F5 e))
theorem ui:∀(x y:List UInt8),Op.bytesLess x y=decide (x<y)
 |x,[]=>by cases x<;>simp[Op.bytesLess]
 |[],b::y=>by simp[Op.bytesLess]
 |a::x,b::y=>by rw[Op.bytesLess,ui x y,Bool.eq_iff_iff];simp[List.cons_lt_cons_iff]
theorem jM(a b:K):Op.bytesLess a.toList b.toList=decide (jg a b):=by rw[ui,ByteArray.toList_eq,ByteArray.toList_eq];rfl
theorem aS(a b:K):(a.toList==b.toList)=decide (a=b):=by
 rw[ByteArray.toList_eq,ByteArray.toList_eq];by_cases h:a=b
 .subst h;simp
 .rw[decide_eq_false h,beq_eq_false_iff_ne];exact λe=>h (F5 e)
inductive J where
 |null
 |bool (b:Bool)
 |int (n:Int)
 |float (bits:Nat)
 |text (s:K)
 |list (xs:List J)
 |table (kvs:List (K × J))
 deriving Inhabited
abbrev T:=List (K × J)
def get:T→K→Option J
 |[],_=>none
 |(a,v)::r,k=>if a=k then some v else get r k
def keys(t:T):List K:=t.map (·.1)
def Sorted(t:T):Prop:=t.Pairwise (λa b=>jg a.1 b.1)
def ins:T→K→J→T
 |[],k,v=> [(k,v)]
 |(a,v')::r,k,v=>if jg k a then(k,v)::(a,v')::r else if k=a then(k,v)::r else(a,v')::ins r k v
def del(t:T)(k:K):T:=t.filter (λx=>x.1≠k)
theorem jy(t:T)(k x:K)(v:J):get (ins t k v) x=if k=x then some v else get t x:=by
 induction t with
 |nil=>simp[ins,get]
 |cons a r b=>
  obtain⟨c,v'⟩:=a;simp only[ins]
  split
  .simp[get]
  .split
   .rename_i h;subst h
    simp only[get];split<;>rfl
   .rename_i h1 h2
    simp only[get,b];by_cases e:c=x
    .subst e;simp[h2]
    .simp[e]
theorem Jm{t:T}{k:K}{v:J}{p:K × J}(h:p∈ins t k v):p=(k,v)∨p∈t:=by
 induction t with
 |nil=>simp[ins] at h;exact .inl h
 |cons a r b=>
  obtain⟨c,v'⟩:=a;simp only[ins] at h
  split at h
  .simpa using h
  .split at h
   .rcases List.mem_cons.1 h with h|h
    .exact .inl h
    .exact .inr (List.mem_cons_of_mem _ h)
   .rcases List.mem_cons.1 h with h|h
    .exact .inr (by simp[h])
    .rcases b h with h|h
     .exact .inl h
     .exact .inr (List.mem_cons_of_mem _ h)
theorem kR{t:T}(k:K)(v:J)(h:Sorted t):Sorted (ins t k v):=by
 induction t with
 |nil=>simp[ins,Sorted]
 |cons a r d=>
  obtain⟨f,v'⟩:=a;have c:=List.pairwise_cons.1 h;simp only[ins]
  split
  .rename_i hl
   refine List.pairwise_cons.2 ⟨λx b=> ?_,h⟩;rcases List.mem_cons.1 b with e|b
   .subst e;exact hl
   .exact uO hl (c.1 x b)
  .split
   .rename_i e;subst e
    exact List.pairwise_cons.2 ⟨c.1,c.2⟩
   .rename_i h1 h2
    refine List.pairwise_cons.2 ⟨λx b=> ?_,d c.2⟩;rcases Jm b with e|b
    .subst e;exact vw h1 h2
    .exact c.1 x b
theorem get_mem{t:T}{k:K}{v:J}(h:get t k=some v):(k,v)∈t:=by
 induction t with
 |nil=>simp[get] at h
 |cons a r b=>
  obtain⟨c,v'⟩:=a;simp only[get] at h
  split at h
  .rename_i e;subst e;simp at h;simp[h]
  .exact List.mem_cons_of_mem _ (b h)
theorem Iu{t:T}{k:K}{v:J}(h:get t k=some v):k∈keys t:=List.mem_map.2 ⟨_,get_mem h,rfl⟩
theorem Df{t:T}{k:K}(h:k∈keys t):∃v,get t k=some v:=by
 induction t with
 |nil=>simp[keys] at h
 |cons a r c=>
  obtain⟨d,v'⟩:=a;simp only[get]
  split
  .exact⟨_,rfl⟩
  .rename_i Dh
   simp[keys] at h;rcases h with h|⟨b,h⟩
   .exact absurd h.symm Dh
   .exact c (List.mem_map.2 ⟨_,h,rfl⟩)
theorem get_none{t:T}{k:K}:get t k=none↔k∉keys t:=by
 constructor
 .intro h b;obtain⟨v,a⟩:=Df b;rw[h] at a;cases a
 .intro h;cases hg:get t k with
  |none=>rfl
  |some v=>exact absurd (Iu hg) h
theorem get_of_mem{t:T}(h:Sorted t){k:K}{v:J}(b:(k,v)∈t):get t k=some v:=by
 induction t with
 |nil=>simp at b
 |cons a r d=>
  obtain⟨f,v'⟩:=a;have c:=List.pairwise_cons.1 h;simp only[get];rcases List.mem_cons.1 b with e|b
  .injection e with e1 e2;subst e1;subst e2;simp
  .rw[if_neg (ny (c.1 _ b))];exact d c.2 b
theorem rC{a b:T}(o:Sorted a)(q:Sorted b)(h:∀k,get a k=get b k):a=b:=by
 induction a generalizing b with
 |nil=>
  cases b with
  |nil=>rfl
  |cons y s=>have:=h y.1;simp[get] at this
 |cons x r t=>
  cases b with
  |nil=>have:=h x.1;simp[get] at this
  |cons y s=>
   obtain⟨k,v⟩:=x;obtain⟨d,v'⟩:=y;have f:=List.pairwise_cons.1 o;have g:=List.pairwise_cons.1 q;have u:k=d:=by
    by_cases e:k=d
    .exact e
    .exfalso
     by_cases m:jg k d
     .have c:=h k;simp only[get,if_true] at c;rw[if_neg (Ne.symm e)] at c;have i:=get_mem c.symm;exact qf m (g.1 _ i)
     .have w:=vw m e;have c:=h d;simp only[get,if_true] at c;rw[if_neg e] at c;have i:=get_mem c;exact qf w (f.1 _ i)
   subst u;have z:v=v':=by have:=h k;simpa[get] using this
   subst z
   congr 1
   refine t f.2 g.2 λx=> ?_
   have n:=h x;simp only[get] at n;by_cases e:k=x
   .subst e;have A:get r k=none:=get_none.2 (λj=>by
     obtain⟨p,l,e⟩:=List.mem_map.1 j;exact ny (f.1 p l) e.symm)
    have B:get s k=none:=get_none.2 (λj=>by obtain⟨p,l,e⟩:=List.mem_map.1 j;exact ny (g.1 p l) e.symm);rw[A,B]
   .simpa[e] using n
theorem sorted_del{t:T}(k:K)(h:Sorted t):Sorted (del t k):=List.Pairwise.filter _ h
theorem Jn(t:T)(k x:K):get (del t k) x=if k=x then none else get t x:=by
 induction t with
 |nil=>simp[del,get]
 |cons a r d=>
  obtain⟨c,v'⟩:=a;unfold del at*;by_cases e:c=k
  .subst e;rw[List.filter_cons_of_neg (by simp),d];simp only[get];by_cases b:c=x<;>simp[b]
  .rw[List.filter_cons_of_pos (by simp[e])];simp only[get,d];by_cases b:c=x
   .subst b;simp[Ne.symm e]
   .simp[b]
theorem lT(a b:K):(a==b)=decide (a=b):=by rw[beq_toListBytes,aS]
instance:LawfulBEq K where
 eq_of_beq {a b} h:=by rw[lT] at h;exact of_decide_eq_true h
 rfl {a}:=by rw[lT];simp
theorem F6{t:T}{n:Nat}{p:K × J}{k:K}(h:t[n]?=some p)(c:p.1=k)(b:∀q∈t.take n,q.1≠k):get t k=some p.2:=by
 induction t generalizing n with
 |nil=>simp at h
 |cons a r d=>
  obtain⟨e,v'⟩:=a;cases n with
  |zero=>simp at h;subst h;simp only[get];rw[if_pos c]
  |succ n=>simp only[List.take_succ_cons,List.mem_cons,forall_eq_or_imp] at b;simp only[List.getElem?_cons_succ] at h;simp only[get];rw[if_neg b.1];exact d h b.2
theorem Iw{t:T}{n:Nat}{p:K × J}{k:K}(h:t[n]?=some p)(b:p.1≠k)(c:∀q∈t.take n,q.1≠k):∀q∈t.take (n+1),q.1≠k:=by
 intro q a;rw[List.take_add_one,h] at a;rcases List.mem_append.1 a with a|a
 .exact c q a
 .simp at a;subst a;exact b
theorem vz{t:T}{k:K}(a:∀q∈t,q.1≠k):get t k=none:=by
 refine get_none.2 λb=> ?_
 obtain⟨p,c,e⟩:=List.mem_map.1 b;exact a p c e
theorem Jo{t:T}{k:K}{x:J}(h:∀p∈t,jg p.1 k):ins t k x=t++[(k,x)]:=by
 induction t with
 |nil=>rfl
 |cons a r d=>
  obtain⟨b,v'⟩:=a;have c:jg b k:=h (b,v') (by simp);simp only[ins];rw[if_neg (qf c),if_neg (Ne.symm (ny c)),d (λp e=>h p (by simp[e]))]
  rfl
theorem Iy{t:T}{k:K}{x:J}{p:K × J}(h:∀p∈t,jg p.1 k)(c:¬jg p.1 k):ins (t++[p]) k x=t++(k,x)::(if p.1=k then [] else [p]):=by
 induction t with
 |nil=>
  obtain⟨b,v'⟩:=p;simp only[List.nil_append,ins];by_cases e:b=k
  .subst e;simp[ry]
  .rw[if_pos (vw c e),if_neg e]
 |cons a r f=>obtain⟨b,v'⟩:=a;have d:jg b k:=h (b,v') (by simp);simp only[List.cons_append,ins];rw[if_neg (qf d),if_neg (Ne.symm (ny d)),f (λp c=>h p (by simp[c]))]
theorem Iz{t:T}{k:K}{x:J}{p:K × J}(h:∃q∈t,¬jg q.1 k):ins (t++[p]) k x=ins t k x++[p]:=by
 induction t with
 |nil=>obtain⟨q,b, -⟩:=h;simp at b
 |cons a r i=>
  obtain⟨f,v'⟩:=a;simp only[List.cons_append,ins];by_cases c:jg k f
  .rw[if_pos c,if_pos c];rfl
  .rw[if_neg c,if_neg c];by_cases d:k=f
   .rw[if_pos d,if_pos d];rfl
   .rw[if_neg d,if_neg d,i ?_]
    .rfl
    .obtain⟨q,b,g⟩:=h;rcases List.mem_cons.1 b with e|b
     .subst e;exact absurd (vw c d) g
     .exact⟨q,b,g⟩
theorem xR(t:T)(k:K)(x:J):(ins t k x).length<=t.length+1:=by
 induction t with
 |nil=>simp[ins]
 |cons a r b=>
  obtain⟨c,v'⟩:=a;simp only[ins]
  split
  .simp
  .split
   .simp
   .simp only[List.length_cons];omega
def mk(ks:List K)(f:K→Option J):T:=
 ks.foldr (λk a=>match f k with|some v=>ins a k v|none=>a) []
theorem yZ(ks:List K)(f:K→Option J)(x:K):get (mk ks f) x=if x∈ks then f x else none:=by
 induction ks with
 |nil=>simp[mk,get]
 |cons k r a=>
  simp only[mk,List.foldr_cons] at*;cases hf:f k with
  |none=>
   simp only[a,List.mem_cons];by_cases e:x=k
   .subst e;simp[hf]
   .simp[e]
  |some v=>
   simp only[jy,a,List.mem_cons];by_cases e:k=x
   .subst e;simp[hf]
   .simp[e,Ne.symm e]
theorem qg(ks:List K)(f:K→Option J):Sorted (mk ks f):=by
 induction ks with
 |nil=>simp[mk,Sorted]
 |cons k r a=>
  simp only[mk,List.foldr_cons] at*;cases f k with
  |none=>exact a
  |some v=>exact kR _ _ a
theorem sizeOf_get{t:T}{k:K}{v:J}(h:get t k=some v):SizeOf.sizeOf v<SizeOf.sizeOf t:=by have:=List.sizeOf_lt_of_mem (get_mem h);have e:SizeOf.sizeOf (k,v)=1+SizeOf.sizeOf k+SizeOf.sizeOf v:=rfl;omega
theorem oU{t:T}{k:K}{s:T}(h:get t k=some (.table s)):SizeOf.sizeOf s<SizeOf.sizeOf t:=by have:=sizeOf_get h;have e:SizeOf.sizeOf (J.table s)=1+SizeOf.sizeOf s:=J.table.sizeOf_spec s;omega
def merged(a b:T):T:=mk (keys a++keys b) λk=>
 match _h:get b k with
 |none=>get a k
 |some (.table y)=>match get a k with
  |some (.table x)=>some (.table (merged x y))
  | _=>some (.table y)
 |some v=>some v
termination_by SizeOf.sizeOf b
decreasing_by exact oU _h
theorem oV(a b:T)(k:K):get (merged a b) k=
  match get b k with
  |none=>get a k
  |some (.table y)=>match get a k with
   |some (.table x)=>some (.table (merged x y))
   | _=>some (.table y)
  |some v=>some v:=by
 rw[merged,yZ];by_cases c:k∈keys a++keys b
 .rw[if_pos c];split<;>simp_all
 .rw[if_neg c];have d:get a k=none:=get_none.2 (λh=>c (List.mem_append_left _ h));have e:get b k=none:=get_none.2 (λh=>c (List.mem_append_right _ h));rw[d,e]
theorem oz(a b:T):Sorted (merged a b):=by rw[merged];exact qg _ _
end Go.Proofs.YtljaoopfomcaoaaGreatDoor
namespace Go.Proofs.YtljaoopfomcaoaaGreatDoor
open Go.RowKit
structure O (S:ae) (w w':World):Prop where
 os:w'.os=w.os
 tape:w'.tape=w.tape
 output:w'.output=w.output
 size:w.heap.size<=w'.heap.size
 block:∀k,k<w.heap.size→¬S k→w'.heap[k]?=w.heap[k]?
abbrev No:ae:=λ_=>False
theorem O.refl(S:ae)(w:World):O S w w:=⟨rfl,rfl,rfl,lR',λ_ _ _=>rfl⟩
theorem O.trans{S S':ae}{a b c:World}(h:O S a b)(k:O S' b c)(g:∀i,i<a.heap.size→S' i→S i):O S a c:=
 ⟨k.os.trans h.os,k.tape.trans h.tape,k.output.trans h.output,Nat.le_trans h.size k.size,λi d f=>(k.block i (Nat.lt_of_lt_of_le d h.size) (λe=>f (g i d e))).trans (h.block i d f)⟩
theorem O.mono{S S':ae}{a b:World}(h:O S a b)(d:∀i,i<a.heap.size→S i→S' i):O S' a b:=
 ⟨h.os,h.tape,h.output,h.size,λi c f=>h.block i c (λe=>f (d i c e))⟩
theorem O.trans'{S:ae}{a b c:World}(h:O S a b)(k:O No b c):O S a c:=h.trans k (λ_ _ e=>e.elim)
theorem O.below{B:Nat}{w a:World}(h:Below B w a):O (λk=>B<=k) w a:=
 ⟨h.os,h.tape,h.output,h.size,λk _ b=>h.block k (Nat.lt_of_not_le b)⟩
theorem O.Jp{w a:World}(h:Below w.heap.size w a):O No w a:=(O.below h).mono (λi b e=>(Nat.not_le.2 b e).elim)
theorem O.grown{w a:World}{b:Option Nat}(h:w.grownBy a b):O (λk=>b=some k) w a:=
 ⟨h.os,h.tape,h.output,h.size,λk c d=>h.block k c (λe=>d e.symm)⟩
theorem O.alloc{S:ae}{a w:World}(h:O S a w)(o:Obj):O S a (w.alloc o):=
 h.trans (S':=No) ⟨rfl,rfl,rfl,by simp,λk b _=>Below.heap_alloc _ _ _ b⟩ (λ_ _ e=>e.elim)
theorem O.drew{S:ae}{a w:World}(h:O S a w):O S a w.drew:=⟨h.os,h.tape,h.output,h.size,h.block⟩
theorem O.setCell{S:ae}{a w:World}(h:O S a w){p:Addr}(b:p.block<a.heap.size→S p.block)(u:Value):O S a (w.setCell p u):=
 h.trans (S':=λk=>k=p.block) ⟨rfl,rfl,rfl,by simp[World.setCell],λk f c=>Below.heap_setCell _ _ _ _ c⟩ (λi d e=>by subst e;exact b d)
theorem O.heap{S:ae}{w a:World}(h:O S w a){k:Nat}(b:k<w.heap.size)(c:¬S k):a.heap[k]?=w.heap[k]? :=h.block k b c
theorem O.cell{S:ae}{w a:World}(h:O S w a){p:Addr}{v:Value}(b:w.cell? p=some v)(c:¬S p.block):a.cell? p=some v:=
 (World.cell?_of_block (w:=w) (h.block p.block (World.block_lt_of_cell? w p b) c)).trans b
theorem O.KF{S:ae}{w a:World}(h:O S w a){p:Addr}(b:p.block<w.heap.size)(c:¬S p.block):a.cell? p=w.cell? p:=
 World.cell?_of_block (w:=w) (h.block p.block b c)
theorem O.IA{S:ae}{w a:World}(h:O S w a){p:Addr}(b:p.block<w.heap.size)(c:¬S p.block):a.frozen? p=w.frozen? p:=
 World.frozen?_of_block (w:=w) (h.block p.block b c)
def aC(ok:ae)(w:World)(v:Value)(size:Nat)(c:List (Y)):Prop:=
 c.length<=maxLen∧(∀r∈c,r.length=size)∧∃a cap,v=.slice a c.length cap∧(a=none→cap=0)∧
  (c≠ []→∃b d,a=some ⟨b,d,none⟩∧ok b∧∀i r,c[i]?=some r→∀j u,r[j]?=some u→w.cell? ⟨b,d+i*size+j,none⟩=some u)
theorem aC.X{ok S:ae}{w c:World}{v:Value}{size:Nat}{d:List (Y)}(h:aC ok w v size d)(f:O S w c)
  (g:∀b,ok b→¬S b):aC ok c v size d:=by
 obtain⟨k,l,a,cap,m,n,o⟩:=h;refine⟨k,l,a,cap,m,n,λp=> ?_⟩;obtain⟨b,q,s,e,t⟩:=o p;exact⟨b,q,s,e,λi r x j u y=>f.cell (t i r x j u y) (g b e)⟩
theorem aC.mono{ok ok':ae}{w:World}{v:Value}{size:Nat}{c:List (Y)}(h:aC ok w v size c)
  (g:∀b,b<w.heap.size→ok b→ok' b) (q:0<size):aC ok' w v size c:=by
 obtain⟨i,d,a,cap,j,k,l⟩:=h;refine⟨i,d,a,cap,j,k,λe=> ?_⟩;obtain⟨b,m,n,o,f⟩:=l e;refine⟨b,m,n,g b ?_ o,f⟩;cases c with
 |nil=>exact absurd rfl e
 |cons r s=>
  have p:=d r (by simp);cases r with
  |nil=>simp at p;omega
  |cons u t=>exact World.block_lt_of_cell? w _ (f 0 _ rfl 0 u rfl)
def ai(k:Int)(b:Bool)(i:Int)(f:Nat)(t:K)(a c:Value):Y:=
 [.int .i64 k,.bool b,.int .i64 i,.float .f64 f,.string t,a,c]
def rD(f:Nat):Prop:=(FloatKind.f64.format.order f f==some .eq)=true
inductive aG (ok:ae) (w:World):Y→J→Prop where
 |null {b i f t kv lv} (hk:aC ok w kv 1 []) (hl:aC ok w lv 7 []):aG ok w (ai 0 b i f t kv lv) .null
 |bool {b i f t kv lv} (hk:aC ok w kv 1 []) (hl:aC ok w lv 7 []):aG ok w (ai 1 b i f t kv lv) (.bool b)
 |int {b i f t kv lv} (hk:aC ok w kv 1 []) (hl:aC ok w lv 7 []):aG ok w (ai 2 b i f t kv lv) (.int i)
 |float {b i f t kv lv} (hk:aC ok w kv 1 []) (hl:aC ok w lv 7 []):aG ok w (ai 4 b i f t kv lv) (.float f)
 |text {b i f t kv lv} (hk:aC ok w kv 1 []) (hl:aC ok w lv 7 []):aG ok w (ai 5 b i f t kv lv) (.text t)
 |list {b i f t kv lv} {rows:List (Y)} {xs:List J} (hk:aC ok w kv 1 []) (hl:aC ok w lv 7 rows) (hn:rows.length=xs.length)
   (h:∀(n:Nat)(r:Y)(x:J),rows[n]?=some r→xs[n]?=some x→aG ok w r x):aG ok w (ai 6 b i f t kv lv) (.list xs)
 |table {b i f t kv lv} {rows:List (Y)} {kvs:T} (hk:aC ok w kv 1 (kvs.map λp=> [.string p.1])) (hl:aC ok w lv 7 rows) (hn:rows.length=kvs.length)
   (h:∀(n:Nat)(r:Y)(p:K × J),rows[n]?=some r→kvs[n]?=some p→aG ok w r p.2):aG ok w (ai 7 b i f t kv lv) (.table kvs)
theorem aG.X{ok S:ae}{w i:World}{cs:Y}{j:J}(h:aG ok w cs j)(a:O S w i)(c:∀b,ok b→¬S b):aG ok i cs j:=by
 induction h with
 |null d e=>exact .null (d.X a c) (e.X a c)
 |bool d e=>exact .bool (d.X a c) (e.X a c)
 |int d e=>exact .int (d.X a c) (e.X a c)
 |float d e=>exact .float (d.X a c) (e.X a c)
 |text d e=>exact .text (d.X a c) (e.X a c)
 |list d e f _ g=>exact .list (d.X a c) (e.X a c) f g
 |table d e f _ g=>exact .table (d.X a c) (e.X a c) f g
theorem aG.mono{ok ok':ae}{w:World}{cs:Y}{j:J}(h:aG ok w cs j)(a:∀b,b<w.heap.size→ok b→ok' b):aG ok' w cs j:=by
 induction h with
 |null c d=>exact .null (c.mono a (by decide)) (d.mono a (by decide))
 |bool c d=>exact .bool (c.mono a (by decide)) (d.mono a (by decide))
 |int c d=>exact .int (c.mono a (by decide)) (d.mono a (by decide))
 |float c d=>exact .float (c.mono a (by decide)) (d.mono a (by decide))
 |text c d=>exact .text (c.mono a (by decide)) (d.mono a (by decide))
 |list c d e _ f=>exact .list (c.mono a (by decide)) (d.mono a (by decide)) e f
 |table c d e _ f=>exact .table (c.mono a (by decide)) (d.mono a (by decide)) e f
theorem aG.seven{ok:ae}{w:World}{cs:Y}{j:J}(h:aG ok w cs j):∃k b i f t a c,cs=ai k b i f t a c:=by cases h<;>exact⟨_,_,_,_,_,_,_,rfl⟩
theorem aG.length{ok:ae}{w:World}{cs:Y}{j:J}(h:aG ok w cs j):cs.length=7:=by obtain⟨k,b,i,f,t,a,c,rfl⟩:=h.seven;rfl
abbrev bu:Y:=ai 0 false 0 0 ByteArray.empty (.slice none 0 0) (.slice none 0 0)
def yz:J→K→Option J
 | .table kvs,k=>get kvs k
 | _,_=>none
def je(w:World)(b o:Nat)(cs:Y):Prop:=∀j u,cs[j]?=some u→w.cell? ⟨b,o+j,none⟩=some u
theorem aC.one{ok:ae}{w:World}{v:Value}{size:Nat}{b:List (Y)}(h:aC ok w v size b):v.oneCell'=true:=by obtain⟨-, -,a,cap,rfl, -, -⟩:=h;rfl
theorem gU{k b i f t kv lv}(a:Value.oneCell' kv=true)(c:Value.oneCell' lv=true):(ai k b i f t kv lv).all (·.oneCell')=true:=by simp only[ai,List.all_cons,List.all_nil,a,c];rfl
theorem aG.one{ok:ae}{w:World}{cs:Y}{j:J}(h:aG ok w cs j):cs.all (·.oneCell')=true:=by
 cases h with
 |null a b=>exact gU a.one b.one
 |bool a b=>exact gU a.one b.one
 |int a b=>exact gU a.one b.one
 |float a b=>exact gU a.one b.one
 |text a b=>exact gU a.one b.one
 |list a b _ _=>exact gU a.one b.one
 |table a b _ _=>exact gU a.one b.one
theorem aC.at{ok:ae}{w:World}{a:Option Addr}{n cap size:Nat}{d:List (Y)}(h:aC ok w (.slice a n cap) size d){i:Nat}{r:Y}(f:d[i]?=some r):
  ∃b c,a=some ⟨b,c,none⟩∧ok b∧je w b (c+i*size) r:=by
 obtain⟨s,t,v,x,g, -,k⟩:=h;cases g;have l:d≠ []:=λe=>by subst e;simp at f
 obtain⟨b,c,m,o,p⟩:=k l;exact⟨b,c,m,o,λj u q=>p i r f j u q⟩
theorem je.X{S:ae}{w a:World}{b o:Nat}{cs:Y}(h:je w b o cs)(c:O S w a)(d:¬S b):je a b o cs:=
 λj u e=>c.cell (h j u e) d
theorem je.one{w:World}{b o:Nat}{v:Value}(h:je w b o [v]):w.cell? ⟨b,o,none⟩=some v:=h 0 v rfl
def jG(P:Program)(a n:Nat):Prop:=(∃b,P.underlying a=some (.struct b))∧(P.info? a).map (·.size)=some n
theorem add_eq(b o j:Nat):(⟨b,o,none⟩:Addr).add j=⟨b,o+j,none⟩:=by unfold Addr.add;split<;>simp_all
theorem qh{P:Program}(w:World){a n:Nat}(d:jG P a n){b o:Nat}{cs:Y}(e:je w b o cs)(f:cs.length=n):
  (loadVar a ⟨b,o,none⟩).run P w=.ok (.agg cs.toArray) w:=by
 obtain⟨⟨p,g⟩,c⟩:=d;have h:=run_loadCells_list (P:=P) w ⟨b,o,none⟩ cs (λj v k=>by rw[add_eq];exact e j v k);cases hq:P.info? a with
 |none=>simp[hq] at c
 |some i=>
  have l:i.size=cs.length:=(by simpa[hq,f] using c);have m:(isAgg a).run P w=.ok true w:=by
   unfold isAgg;rw[Sem.run_bind,run_underlying g w]
   rfl
  simp[loadVar,Sem.run_bind,m,sizeOf,typeInfo,hq,l,h]
theorem aO{P:Program}{o:Oper}{a:Act}{w:World}{K:ag}{Q:ah}{c n:Nat}(e:jG P c n){x:Operand}(f:o.op=.load c x)
  {b d:Nat} (g:a.eval x=.pointer (some ⟨b,d,none⟩)) {cs:Y} (i:je w b d cs) (j:cs.length=n)
  (h:K (a.put o.dst (.agg cs.toArray)) w):o.wp P a w K Q:=by
 unfold Oper.wp execOp;simp only[f,g,Instr.loadAt,Instr.sureAddr,Sem.run_bind,Sem.run_pure,Result.andThen_ok,qh w e i j];exact h
theorem V{P:Program}{c:Array Oper}{rest:List Oper}{o:Oper}{a:Act}{w:World}{Q:ah}{d n:Nat}(f:o.guard=none)(g:jG P d n){x:Operand}(i:o.op=.load d x)
  {b e:Nat} (j:a.eval x=.pointer (some ⟨b,e,none⟩)) {cs:Y} (k:je w b e cs) (l:cs.length=n)
  (h:wpList P c Q rest (a.put o.dst (.agg cs.toArray)) w):wpList P c Q (o::rest) a w:=
 wpList_plain f λ_ m=>aO g i j k l (m _ _ h)
def ay(w:World)(g:Nat)(cs:Y)(a:TypeId):Prop:=w.heap[g]?=some (.cells cs.toArray a (0,0))
theorem ay.cells{w:World}{g:Nat}{cs:Y}{a:TypeId}(h:ay w g cs a):je w g 0 cs:=by intro j u b;rw[Nat.zero_add,cell_of_row w g j _ _ _ h];simpa using b
theorem ay.cell{w:World}{g:Nat}{cs:Y}{a:TypeId}(h:ay w g cs a)(j:Nat):w.cell? ⟨g,j,none⟩=cs[j]? :=by rw[cell_of_row w g j _ _ _ h];simp
theorem ay.frozen{w:World}{g:Nat}{cs:Y}{a:TypeId}(h:ay w g cs a)(j:Nat):w.frozen? ⟨g,j,none⟩=false:=frozen_of_row w g j _ _ h
theorem ay.lt{w:World}{g:Nat}{cs:Y}{a:TypeId}(h:ay w g cs a):g<w.heap.size:=(Array.getElem?_eq_some_iff.1 h).1
theorem ay.X{S:ae}{w a:World}{g:Nat}{cs:Y}{b:TypeId}(h:ay w g cs b)(c:O S w a)(d:¬S g):ay a g cs b:=
 (c.block g h.lt d).trans h
theorem ay.alloc{w:World}{g:Nat}{cs:Y}{a:TypeId}(h:ay w g cs a)(o:Obj):ay (w.alloc o) g cs a:=(Below.heap_alloc _ _ _ h.lt).trans h
theorem ay.drew{w:World}{g:Nat}{cs:Y}{a:TypeId}(h:ay w g cs a):ay w.drew g cs a:=h
theorem ay.new(w:World)(cs:Y)(a:TypeId):ay (w.alloc (.cells cs.toArray a)) w.heap.size cs a:=heap_alloc_new w _
theorem EE{w:World}{g:Nat}{a cs:Y}{t:TypeId}(b:ay w g a t):ay (w.setRow g cs.toArray) g cs t∧O (·=g) w (w.setRow g cs.toArray)∧(w.setRow g cs.toArray).heap.size=w.heap.size:=
 ⟨setRow_heap w g _ _ t _ b,⟨rfl,rfl,rfl,by simp,λk d c=>setRow_other w g k _ c⟩,by simp⟩
theorem ay.newAt{w:World}{n:Nat}(h:n=w.heap.size)(cs:Y)(a:TypeId):ay (w.alloc (.cells cs.toArray a)) n cs a:=by subst h;exact ay.new w cs a
theorem dH{P:Program}{o:Oper}{a:Act}{w:World}{K:ag}{Q:ah}{c n:Nat}(i:jG P c n){x y:Operand}(j:o.op=.store c x y)
  {g:Nat} {t:TypeId} {d cs:Y} (k:a.eval x=.pointer (some ⟨g,0,none⟩)) (l:a.eval y=.agg cs.toArray) (e:ay w g d t) (m:d.length=n) (f:cs.length=n) (p:cs.all (·.oneCell')=true)
  (h:∀b,ay b g cs t→O (·=g) w b→b.heap.size=w.heap.size→K (a.put o.dst undef) b):o.wp P a w K Q:=by
 obtain⟨q,r,s⟩:=EE (cs:=cs) e;refine wp_store_row c x y j g cs.toArray k l t d.toArray e (by simpa[f] using i.2) (by simp[m,f]) (by simpa using p) (h _ q r s)
theorem aA{P:Program}{e:Array Oper}{rest:List Oper}{o:Oper}{a:Act}{w:World}{Q:ah}{f n:Nat}(j:o.guard=none)(k:jG P f n){x y:Operand}(l:o.op=.store f x y)
  {g:Nat} {t:TypeId} {i cs:Y} (m:a.eval x=.pointer (some ⟨g,0,none⟩)) (p:a.eval y=.agg cs.toArray) (q:ay w g i t) (r:i.length=n) (s:cs.length=n) (u:cs.all (·.oneCell')=true)
  (h:∀d,ay d g cs t→O (·=g) w d→d.heap.size=w.heap.size→wpList P e Q rest (a.put o.dst undef) d):wpList P e Q (o::rest) a w:=
 wpList_plain j λ_ v=>dH k l m p q r s u λd a b c=>v _ _ (h d a b c)
theorem ak{P:Program}{f:Array Oper}{rest:List Oper}{o:Oper}{a:Act}{w:World}{Q:ah}{c n:Nat}(i:o.guard=none)(j:jG P c n){x y:Operand}(l:o.op=.store c x y)
  {t:TypeId} {b cs:Y} (m:a.eval x=.pointer (some ⟨w.heap.size,0,none⟩)) (p:a.eval y=.agg cs.toArray) (q:b.length=n) (g:cs.length=n) (d:cs.all (·.oneCell')=true)
  (h:wpList P f Q rest (a.put o.dst undef) (w.alloc (.cells cs.toArray t))):wpList P f Q (o::rest) a (w.alloc (.cells b.toArray t)):=by
 refine wpList_plain i λK r=> ?_
 refine wp_store_row c x y l w.heap.size cs.toArray m p t b.toArray (ay.new w b t) (by simpa[g] using j.2) (by simp[q,g]) (by simpa using d) ?_;have e:(w.alloc (.cells b.toArray t)).setRow w.heap.size cs.toArray=w.alloc (.cells cs.toArray t):=by
  simp only[World.setRow,World.alloc]
  congr 1
  apply Array.ext
  .simp
  .intro k d s;simp only[Array.getElem_modify,Array.getElem_push];simp at d
   split
   .rename_i hk;subst hk;simp
   .rename_i hk
    rw[dif_pos (by omega),dif_pos (by omega)]
 rw[e];exact r _ _ h
theorem aW{P:Program}{c:Func}{p u:Tmp}{d n:Nat}(h:c.results=#[.cell p d,.tmp u])(e:jG P d n){a:Array Value}{w:World}{g:Nat}{cs:Y}{t:TypeId}
  (f:a.getD p undef=.pointer (some ⟨g,0,none⟩)) (i:ay w g cs t) (j:cs.length=n):
  (results c a).run P w=.ok (.tuple #[.agg cs.toArray,a.getD u undef]) w:=by
 rw[results_cell_tmp h,f];simp[asAddr,Result.andThen,qh w e (b:=g) (o:=0) i.cells j]
theorem bU{P:Program}{b:Func}{p:Tmp}{c n:Nat}(h:b.results=#[.cell p c])(d:jG P c n){a:Array Value}{w:World}{g:Nat}{cs:Y}{t:TypeId}
  (e:a.getD p undef=.pointer (some ⟨g,0,none⟩)) (f:ay w g cs t) (i:cs.length=n):
  (results b a).run P w=.ok (.agg cs.toArray) w:=by
 obtain⟨⟨l,j⟩,k⟩:=d;exact results_cell_row h a w g t cs.toArray (0,0) _ e f j rfl (by simpa[i] using k)
theorem au:jG Tryz.prog 26 7:=⟨⟨_,Tryz.underlying26⟩,by kernel_rfl⟩
theorem aK:jG Tryz.prog 30 11:=⟨⟨_,Tryz.underlying30⟩,by kernel_rfl⟩
theorem dD:jG Tryz.prog 79 7:=⟨⟨_,Tryz.underlying79⟩,by kernel_rfl⟩
theorem kH:jG Tryz.prog 110 4:=⟨⟨_,Tryz.underlying110⟩,by kernel_rfl⟩
structure iJ (P:Program) (t e size bytes:Nat):Prop where
 und:P.underlying t=some (.slice e)
 info:∃i z,P.info? e=some i∧i.zero=some z∧i.size=size∧i.bytes=bytes∧z.cells.size=size
 pos:0<size
def aB(w:World)(b e size:Nat)(v:Value)(a:List (Y)):Prop:=
 (∀r∈a,r.length=size)∧w.ownsRow b e size v a.length a.flatten
theorem aB.nil(w:World)(a e size:Nat):aB w a e size (.slice none 0 0) []:=⟨by simp,World.ownsRow_nil w a e size⟩
theorem aB.X{S:ae}{w b:World}{c e size:Nat}{v:Value}{d:List (Y)}(h:aB w c e size v d)(i:O S w b)(j:∀k,v.ownBlock=some k→¬S k):aB b c e size v d:=by
 obtain⟨l,m,a⟩:=h;refine⟨l,m,?_⟩;rcases a with a|⟨g,cap,n,rfl,o,f,r⟩
 .exact .inl a
 .exact .inr ⟨g,cap,n,rfl,o,(i.block g (Array.getElem?_eq_some_iff.1 f).1 (j g rfl)).trans f,r⟩
theorem aB.alloc{w:World}{a e size:Nat}{v:Value}{b:List (Y)}(h:aB w a e size v b)(o:Obj):aB (w.alloc o) a e size v b:=
 h.X (S:=No) ((O.refl _ _).alloc o) nE
theorem aB.elem{w:World}{b e size:Nat}{v:Value}{f:List (Y)}(h:aB w b e size v f){k:Nat}(c:v.ownBlock=some k):b<=k∧k<w.heap.size∧∃a,w.heap[k]?=some (.cells a e (0,0)):=by
 obtain⟨-, -,i⟩:=h;rcases i with⟨rfl, -⟩|⟨g,cap,a,rfl,j,d,r⟩
 .cases c
 .cases c;exact⟨j,(Array.getElem?_eq_some_iff.1 d).1,a,d⟩
theorem aB.apart{w:World}{b e size c e' d:Nat}{v v':Value}{f g:List (Y)}(h:aB w b e size v f)(i:aB w c e' d v' g)(j:e≠e'){k:Nat}(l:v.ownBlock=some k):¬v'.ownBlock=some k:=by intro m;obtain⟨-, -,o,n⟩:=h.elem l;obtain⟨-, -,p,a⟩:=i.elem m;rw[n] at a;cases a;exact j rfl
theorem nz{c:List (Y)}{size:Nat}(h:∀r∈c,r.length=size){i j:Nat}{r:Y}{u:Value}(b:c[i]?=some r)(d:r[j]?=some u):c.flatten[i*size+j]?=some u:=by
 induction c generalizing i with
 |nil=>simp at b
 |cons a k f=>
  have e:a.length=size:=h a (by simp);cases i with
  |zero=>simp at b;subst b;have g:j<a.length:=(gS'.1 d).1;simp only[List.flatten_cons,Nat.zero_mul,Nat.zero_add];rw[List.getElem?_append_left g];exact d
  |succ i=>simp only[List.getElem?_cons_succ] at b;have:=f (λr b=>h r (by simp[b])) b;simp only[List.flatten_cons];rw[List.getElem?_append_right (by rw[e,Nat.add_mul];omega),e];rw[show(i+1)*size+j - size=i*size+j by rw[Nat.add_mul];omega];exact this
theorem bW{b:List (Y)}{size:Nat}(h:∀r∈b,r.length=size):b.flatten.length=b.length*size:=by
 induction b with
 |nil=>simp
 |cons a e c=>rw[List.flatten_cons,List.length_append,c (λr d=>h r (by simp[d])),h a (by simp),List.length_cons,Nat.add_mul];omega
theorem aB.rowAt{w:World}{d e size:Nat}{v:Value}{a:List (Y)}(h:aB w d e size v a):aC (λb=>v.ownBlock=some b) w v size a:=by
 obtain⟨c,x,f⟩:=h;rcases f with⟨rfl,k⟩|⟨g,cap,l,rfl,y,m,n,o,z,p⟩
 .have:a=[]:=List.eq_nil_of_length_eq_zero k;subst this;exact⟨by simp,by simp,none,0,rfl,λ_=>rfl,λq=>absurd rfl q⟩
 .refine⟨Nat.le_trans n o,c,some ⟨g,0,none⟩,cap,rfl,(by intro e;cases e),λ_=>⟨g,0,rfl,rfl,λi r s j u t=> ?_⟩⟩;rw[cell_of_row w g _ l e (0,0) m];have:=nz c s t;rw[←p] at this;rw[List.getElem?_take] at this
  split at this
  .rw[Nat.zero_add];simpa using this
  .cases this
theorem aC.flat{ok:ae}{w:World}{a:Option Addr}{n cap size:Nat}{c:List (Y)}(h:aC ok w (.slice a n cap) size c)(g:0<size){i:Addr}(q:a=some i):
  ∀j u,c.flatten[j]?=some u→w.cell? (i.add j)=some u:=by
 subst q;intro j u d;obtain⟨B,f,C,D,r, -,s⟩:=h;cases r;have t:c≠ []:=λe=>by subst e;simp at d
 obtain⟨b,k,v,E,x⟩:=s t;cases v;have l:j<c.flatten.length:=(gS'.1 d).1;rw[bW f] at l;have m:j / size<c.length:=(Nat.div_lt_iff_lt_mul g).2 l;have o:=List.getElem?_eq_getElem m;have y:=f _ (List.getElem_mem m);have z:j % size<(c[j / size]).length:=by rw[y];exact Nat.mod_lt _ g
 have p:=List.getElem?_eq_getElem z;have e:=nz f o p;have A:j / size*size+j % size=j:=by rw[Nat.mul_comm];exact Nat.div_add_mod j size
 rw[A,d] at e;cases e;have:=x _ _ o _ _ p;rw[add_eq];rw[show k+j / size*size+j % size=k+j by omega] at this;exact this
theorem qP{P:Program}{w:World}{t e size q l:Nat}(W:iJ P t e size q)(o:TypeId){v:Value}{d:List (Y)}(h:aB w l e size v d)
  {ok:ae} {x:Value} {c:List (Y)} (N:aC ok w x size c) (h1:∀r∈c,r.all (·.oneCell')=true)
  (hn:d.length+c.length<=1099511627776) (D:q<=128) (af:l<=w.heap.size):
  ∃v' m,(Builtin.append_ #[t,t] o #[v,x]).run P w=.ok v' m∧aB m l e size v' (d++c)∧O (λb=>v.ownBlock=some b) w m∧
   (v'.ownBlock=v.ownBlock∨∀k,v'.ownBlock=some k→w.heap.size<=k)∧aB m l e size v d:=by
 obtain⟨n,⟨i,z,p,E,s,F,ai⟩,Q⟩:=W;have aj:=N;obtain⟨hm,j,a,cap,rfl,ak,au⟩:=aj;have ax:∀r∈d++c,r.length=size:=λr f=>(List.mem_append.1 f).elim (h.1 r) (j r)
 have G:(d.length+c.length)*q<=140737488355328:=by have:=Nat.mul_le_mul hn D;omega
 have H:d.length+c.length<=maxLen:=by unfold maxLen;omega
 cases a with
 |none=>
  have ay:c=[]:=by
   cases c with
   |nil=>rfl
   |cons r rs=>obtain⟨b,aO,D, -⟩:=au (by simp);cases D
  subst ay;have f:=run_append_owned_none (P:=P) w l t o e i size n p v d.length _ h.2;obtain rfl:=ak rfl;exact⟨_,_,f,by simpa using h,O.refl _ _,.inl rfl,h⟩
 |some y=>
  have A:=N.flat Q rfl;have R:∀u∈c.flatten,u.oneCell'=true:=λu n=>by obtain⟨r,f,az⟩:=List.mem_flatten.1 n;exact List.all_eq_true.1 (h1 r f) u az
  obtain⟨v',m,B,aA,aF,aG⟩:=run_append_own (P:=P) w l t o e i z size q n p E s F ai Q v d.length _ h.2 y c.length cap _ (bW j) A R H G af;have hO:aB m l e size v' (d++c):=⟨ax,by simpa using aA⟩;suffices j:(v'.ownBlock=v.ownBlock∨∀k,v'.ownBlock=some k→w.heap.size<=k)∧aB m l e size v d from⟨v',m,B,hO,(O.grown aF).mono nE,j.1,j.2⟩
  rcases h.2.2 with⟨rfl,T⟩|⟨g,C,I,rfl,aH,U,aI,aJ,V,aK⟩
  .by_cases aN:c.length=0
   .have J:d=[]:=List.eq_nil_of_length_eq_zero T;subst J;exact⟨.inl (by rw[aG.2 ⟨rfl,aN⟩]),aB.nil _ _ _ _⟩
   .have J:d=[]:=List.eq_nil_of_length_eq_zero T;subst J;refine⟨.inr ?_,aB.nil _ _ _ _⟩;subst s;have f:=run_append_nil (P:=P) w t o e i z n p E y c.length cap _ (bW j) A (by omega) (by unfold maxLen at H;omega) (by subst F;simp at G;omega);rw[B] at f;cases f;intro k K;cases K;exact lR'
  .by_cases L:d.length+c.length<=C
   .subst s;have f:=run_append_room (P:=P) w t o e i n p g d.length C I U y c.length cap _ (bW j) A R L (by rw[bW j,V,←Nat.add_mul];exact Nat.mul_le_mul_right _ L);rw[B] at f;cases f;refine⟨.inl rfl,h.1,h.2.1,.inr ⟨g,C,_,rfl,aH,setRow_heap w g I _ e _ U,aI,aJ,?_,?_⟩⟩
    .have M:=bW j;have h3:d.length*i.size+c.flatten.length<=I.size:=by rw[M,V,←Nat.add_mul];exact Nat.mul_le_mul_right _ L
     simp only[List.size_toArray,List.length_append,List.length_take,List.length_drop,Array.length_toList];omega
    .rw[aK,List.append_assoc];have M:=bW h.1;rw[←M];exact List.take_left
   .subst s;subst F;have f:=run_append_grow (P:=P) w t o e i z n p E ⟨g,0,none⟩ d.length C _ h.2.1 (h.2.cells (g:=g) rfl) y c.length cap _ (bW j) A (by omega) (by unfold maxLen at H;omega) (growslice_fits (by omega) G);rw[B] at f;cases f;exact⟨.inr (by intro k K;cases K;exact lR'),h.X (S:=No) (((O.refl _ _).drew).alloc _) nE⟩
theorem bJ{P:Program}{o:Oper}{a:Act}{w:World}{K:ag}{Q:ah}{t e size i d:Nat}(l:iJ P t e size i){s x:Operand}
  (m:o.op=.call {callee:=.builtin .append,args:=#[s,x],argTypes:=#[t,t]}) {v:Value} {f:List (Y)} (n:a.eval s=v) (p:aB w d e size v f)
  {ok:ae} {j:Value} {g:List (Y)} (q:a.eval x=j) (u:aC ok w j size g) (y:∀r∈g,r.all (·.oneCell')=true)
  (z:f.length+g.length<=1099511627776) (A:i<=128) (B:d<=w.heap.size)
  (h:∀v' c,aB c d e size v' (f++g)→O (λb=>v.ownBlock=some b) w c→(v'.ownBlock=v.ownBlock∨∀k,v'.ownBlock=some k→w.heap.size<=k)→aB c d e size v f→K (a.put o.dst v') c):o.wp P a w K Q:=by
 obtain⟨v',c,C,D,E,F,G⟩:=qP (P:=P) l o.type p u y z A B;unfold Oper.wp execOp;simp only[m,resolve,invoke,builtin,Sem.run_bind,Sem.run_pure,Result.andThen_ok,List.map_toArray,List.map_cons,List.map_nil,n,q,C];exact h v' c D E F G
theorem aN{P:Program}{l:Array Oper}{rest:List Oper}{o:Oper}{a:Act}{w:World}{Q:ah}(p:o.guard=none){t e size m g:Nat}(q:iJ P t e size m){s x:Operand}
  (u:o.op=.call {callee:=.builtin .append,args:=#[s,x],argTypes:=#[t,t]}) {v:Value} {i:List (Y)} (y:a.eval s=v) (z:aB w g e size v i)
  {ok:ae} {n:Value} {j:List (Y)} (A:a.eval x=n) (B:aC ok w n size j) (C:∀r∈j,r.all (·.oneCell')=true)
  (D:i.length+j.length<=1099511627776) (E:m<=128) (F:g<=w.heap.size)
  (h:∀v' f,aB f g e size v' (i++j)→O (λb=>v.ownBlock=some b) w f→(v'.ownBlock=v.ownBlock∨∀k,v'.ownBlock=some k→w.heap.size<=k)→aB f g e size v i→wpList P l Q rest (a.put o.dst v') f):
  wpList P l Q (o::rest) a w:=
 wpList_plain p λ_ G=>bJ q u y z A B C D E F λv' f a b c d=>G _ _ (h v' f a b c d)
theorem aC.gX(w:World)(cs:Y)(c size:Nat)(h:cs.length=size):aC (λb=>b=w.heap.size) (w.alloc (.cells cs.toArray c)) (.slice (some ⟨w.heap.size,0,none⟩) 1 1) size [cs]:=by
 refine⟨by simp[maxLen],by simpa using h,_,_,rfl,(by intro e;cases e),λ_=>⟨_,_,rfl,rfl,λi r a j u d=> ?_⟩⟩;cases i with
 |zero=>simp at a;subst a;have:=(ay.new w cs c).cell j;rw[Nat.zero_mul,Nat.add_zero,Nat.zero_add,this,d]
 |succ i=>simp at a
theorem iK:iJ Tryz.prog 23 9 1 16:=by refine⟨Tryz.underlying23,?_,by decide⟩;have h:(Tryz.prog.info? 9).map (λi=>(i.zero,i.size,i.bytes))=some (some (.string ByteArray.empty),1,16):=(by kernel_rfl);obtain⟨i,a,b,c,d⟩:=info_parts h;exact⟨i,_,a,b,c,d,rfl⟩
theorem nC:iJ Tryz.prog 24 26 7 96:=by refine⟨Tryz.underlying24,?_,by decide⟩;have h:(Tryz.prog.info? 26).map (λi=>(i.zero,i.size,i.bytes))=some (some (.agg bu.toArray),7,96):=(by kernel_rfl);obtain⟨i,a,b,c,d⟩:=info_parts h;exact⟨i,_,a,b,c,d,rfl⟩
@[go_sem] theorem IB {P:Program} {w:World} {a:Addr} {m:Mode} (k:FloatKind) (n:Nat):(store a (.float k n) m).run P w=stored P w a (.float k n) m:=run_store P w a _ m rfl
theorem zh(w:World):(Instr.build 26 #[]).run Tryz.prog w=.ok (.agg bu.toArray) w:=by kernel_rfl
theorem kN(k:Int)(w:World):(Instr.build 26 #[(0,.int .i64 k)]).run Tryz.prog w=.ok (.agg (ai k false 0 0 ByteArray.empty (.slice none 0 0) (.slice none 0 0)).toArray) w:=by kernel_rfl
theorem F7(k:Int)(b:Bool)(w:World):(Instr.build 26 #[(0,.int .i64 k),(1,.bool b)]).run Tryz.prog w=.ok (.agg (ai k b 0 0 ByteArray.empty (.slice none 0 0) (.slice none 0 0)).toArray) w:=by kernel_rfl
theorem EF(k:Int)(a b:Option Addr)(n m c d:Nat)(w:World):(Instr.build 26 #[(0,.int .i64 k),(5,.slice a n c),(6,.slice b m d)]).run Tryz.prog w=.ok (.agg (ai k false 0 0 ByteArray.empty (.slice a n c) (.slice b m d)).toArray) w:=by kernel_rfl
end Go.Proofs.YtljaoopfomcaoaaGreatDoor
namespace Go.Proofs.YtljaoopfomcaoaaGreatDoor
def fK(k:K):Prop:=k.size<=140737488355328
def Wf(n:Nat):Nat→J→Prop
 |0,_=>False
 |d+1,j=>match j with
  | .float f=>rD f
  | .list xs=>xs.length<=n∧∀x∈xs,Wf n d x
  | .table kvs=>Sorted kvs∧kvs.length<=n∧∀p∈kvs,fK p.1∧Wf n d p.2
  | _=>True
theorem Wf.mono{n m d e:Nat}{j:J}(h:Wf n d j)(g:n<=m)(i:d<=e):Wf m e j:=by
 induction d generalizing e j with
 |zero=>exact h.elim
 |succ d a=>
  obtain⟨e,rfl⟩:∃e',e=e'+1:=⟨e - 1,by omega⟩;cases j with
  |float f=>exact h
  |list xs=>exact⟨by have:=h.1;omega,λx c=>a (h.2 x c) (by omega)⟩
  |table kvs=>exact⟨h.1,by have:=h.2.1;omega,λp b=>⟨(h.2.2 p b).1,a (h.2.2 p b).2 (by omega)⟩⟩
  |null|bool|int|text=>trivial
theorem Wf.get{n d:Nat}{kvs:T}{k:K}{v:J}(h:Wf n (d+1) (.table kvs))(a:get kvs k=some v):fK k∧Wf n d v:=h.2.2 _ (get_mem a)
theorem zi{t:T}(h:Sorted t){p:K × J}(a:p∈t):Go.Proofs.YtljaoopfomcaoaaGreatDoor.get t p.1=some p.2:=get_of_mem h a
theorem F8(ks:List K)(f:K→Option J):(mk ks f).length<=ks.length:=by
 induction ks with
 |nil=>simp[mk]
 |cons k r a=>
  simp only[mk,List.foldr_cons] at*;cases f k with
  |none=>simp only[List.length_cons];omega
  |some v=>exact Nat.le_trans (xR _ _ _) (Nat.succ_le_succ a)
theorem vC(t:T):(keys t).length=t.length:=by simp[keys]
theorem zk(a b:T):(merged a b).length<=a.length+b.length:=by rw[merged];refine Nat.le_trans (F8 _ _) ?_;simp[vC]
theorem Wf.merged{n m d:Nat}:∀{a b:T},Wf n d (.table a)→Wf m d (.table b)→Wf (n+m) d (.table (merged a b)):=by
 induction d with
 |zero=>intro a b h;exact h.elim
 |succ d j=>
  intro a b g i;refine⟨oz a b,?_,λp k=> ?_⟩
  .have:=zk a b;have:=g.2.1;have:=i.2.1;omega
  .have c:=zi (oz a b) k;rw[oV] at c
   split at c
   .obtain⟨e,f⟩:=g.get c;exact⟨e,f.mono (by omega) lR'⟩
   .rename_i y hy
    obtain⟨e,f⟩:=i.get hy
    split at c
    .rename_i x hx
     rw[←Option.some.inj c];exact⟨e,j (g.get hx).2 f⟩
    .rw[←Option.some.inj c];exact⟨e,f.mono (by omega) lR'⟩
   .rename_i v _ hy
    rw[←Option.some.inj c];obtain⟨e,f⟩:=i.get hy;exact⟨e,f.mono (by omega) lR'⟩
def dA:J→Bool
 | .table _=>true
 | _=>false
def gz(a:T)(k:K)(v:J):J:=
 match v with
 | .table y=>match get a k with
  |some (.table x)=> .table (merged x y)
  | _=> .table y
 |v=>v
theorem nD{t:T}(h:Sorted t)(n:Nat):Sorted (t.take n):=List.Pairwise.sublist (List.take_sublist _ _) h
theorem wZ{t:T}{p:K × J}(h:Sorted (t++[p]))(k:K):get (t++[p]) k=if p.1=k then some p.2 else get t k:=by
 induction t with
 |nil=>obtain⟨a,b⟩:=p;simp[get]
 |cons a r d=>
  obtain⟨f,v'⟩:=a;have c:=List.pairwise_cons.1 h;simp only[List.cons_append,get];by_cases e:f=k
  .rw[if_pos e,if_pos e,if_neg (λg=>ny (c.1 p (by simp)) (e.trans g.symm))]
  .rw[if_neg e,if_neg e,d c.2]
theorem uj(a b:T)(k:K):get (merged a b) k=match get b k with|none=>get a k|some v=>some (gz a k v):=by
 rw[oV];cases hb:get b k with
 |none=>rfl
 |some v=>cases v<;>simp only[gz]<;>(cases get a k with|none=>rfl|some x=>cases x<;>rfl)
def bV(m:Bool)(a b:T):T:=mk (keys a++keys b) λk=>
 match _h:get a k with
 |none=>get b k
 |some (.table x)=>match get b k with
  |some (.table y)=>some (.table (bV m x y))
  | _=>some (.table x)
 |some .null=>match get b k with
  |none=>some .null
  |some .null=>some .null
  |some _=>if m then some .null else none
 |some v=>some v
termination_by SizeOf.sizeOf a
decreasing_by exact oU _h
def dM(m:Bool)(x y:Option J):Option J:=
 match x with
 |none=>y
 |some (.table x)=>match y with
  |some (.table y)=>some (.table (bV m x y))
  | _=>some (.table x)
 |some .null=>match y with
  |none=>some .null
  |some .null=>some .null
  |some _=>if m then some .null else none
 |some v=>some v
theorem kS(m:Bool)(a b:T)(k:K):get (bV m a b) k=dM m (get a k) (get b k):=by
 rw[bV,yZ];by_cases c:k∈keys a++keys b
 .rw[if_pos c];unfold dM
  split<;>simp_all
 .rw[if_neg c];have d:get a k=none:=get_none.2 (λh=>c (List.mem_append_left _ h));have e:get b k=none:=get_none.2 (λh=>c (List.mem_append_right _ h));rw[d,e];rfl
theorem vF(m:Bool)(a b:T):Sorted (bV m a b):=by rw[bV];exact qg _ _
def jo(m:Bool)(a:Bool)(x y:Option J):Option J:=
 match x with
 |none=>y
 |some .null=>if m then some .null else match y with|none=>some .null|some _=>none
 |some (.table x)=>match y with
  |some (.table y)=>some (.table (bV (m||a) x y))
  | _=>some (.table x)
 |some v=>some v
def over(m:Bool)(a:K→Bool)(v c:T):T:=mk (keys v++keys c) λk=>jo m (a k) (get v k) (get c k)
theorem pF(m:Bool)(b:K→Bool)(v c:T)(k:K):get (over m b v c) k=jo m (b k) (get v k) (get c k):=by
 rw[over,yZ];by_cases a:k∈keys v++keys c
 .rw[if_pos a]
 .rw[if_neg a];have d:get v k=none:=get_none.2 (λh=>a (List.mem_append_left _ h));have e:get c k=none:=get_none.2 (λh=>a (List.mem_append_right _ h));rw[d,e];rfl
theorem qi(m:Bool)(a:K→Bool)(v c:T):Sorted (over m a v c):=qg _ _
def gK : K := "global".toUTF8
def lh(x y:Option J):Option J:=
 match y with
 |none=>x
 |some (.table v)=>match x with
  |none=>some (.table v)
  |some (.table x)=>some (.table (bV true v x))
  |some z=>some z
 |some v=>match x with
  |some (.table x)=>some (.table x)
  | _=>some v
def jH(a b:T):T:=mk (keys a++keys b) λk=>lh (get a k) (get b k)
theorem lU(a b:T)(k:K):get (jH a b) k=lh (get a k) (get b k):=by
 rw[jH,yZ];by_cases c:k∈keys a++keys b
 .rw[if_pos c]
 .rw[if_neg c];have d:get a k=none:=get_none.2 (λh=>c (List.mem_append_left _ h));have e:get b k=none:=get_none.2 (λh=>c (List.mem_append_right _ h));rw[d,e];rfl
theorem um(a b:T):Sorted (jH a b):=qg _ _
def bH(t:T)(k:K):Option T:=
 match get t k with
 |none=>some []
 |some (.table x)=>some x
 |some _=>none
def globals(c d:T):T:=
 match bH c gK,bH d gK with
 |some a,some b=>ins c gK (.table (jH a b))
 | _,_=>c
structure iy where
 plain:K
 child:K
 parent:K
 isMap:Bool
structure Want where
 name:K
 version:K
 condition:K
 bF:K
 tags:List K
 enabled:Bool
 imports:List iy
inductive Ch where
 |mk (name version:K) (vals:J) (deps:List Ch) (wants:List Want)
namespace Ch
def name:Ch→K| .mk n _ _ _ _=>n
def version:Ch→K| .mk _ v _ _ _=>v
def vals:Ch→J| .mk _ _ v _ _=>v
def deps:Ch→List Ch| .mk _ _ _ d _=>d
def wants:Ch→List Want| .mk _ _ _ _ w=>w
end Ch
def fM:J→T
 | .table t=>t
 | _=> []
def bn(a:List Ch)(k:K):Bool:=a.any λd=>decide (d.name=k)
mutual
def dJ(m:Bool):Ch→T→Option T
 | .mk _ _ vals a _,v=>ja m a (over m (bn a) v (fM vals))
def ja(m:Bool):List Ch→T→Option T
 |[],a=>some a
 |d::r,a=>match bH a d.name with
  |none=>none
  |some x=>match dJ m d (globals x a) with
   |none=>none
   |some y=>ja m r (ins a d.name (.table y))
end
def WU(U:List K)(n:Nat):Nat→J→Prop
 |0,_=>False
 |d+1,j=>match j with
  | .float f=>rD f
  | .list xs=>xs.length<=n∧∀x∈xs,WU U n d x
  | .table kvs=>Sorted kvs∧∀p∈kvs,p.1∈U∧WU U n d p.2
  | _=>True
theorem xe{α:Type}[DecidableEq α]:∀{l m:List α},l.Nodup→(∀x∈l,x∈m)→l.length<=m.length
 |[],_,_,_=>zL'
 |a::r,m,f,b=>by obtain⟨g,h⟩:=List.nodup_cons.1 f;have c:=b a (by simp);have i:r.length<=(m.erase a).length:=xe h (λx d=>(List.mem_erase_of_ne (λe=>g (by rw[←e];exact d))).2 (b x (by simp[d])));rw[List.length_erase_of_mem c] at i;have:=List.length_pos_of_mem c;simp only[List.length_cons];omega
theorem xU{U:List K}{kvs:T}(a:Sorted kvs)(b:∀p∈kvs,p.1∈U):kvs.length<=U.length:=by
 rw[←vC];refine xe ?_ (λx c=> ?_)
 .exact List.pairwise_map.2 (a.imp (λh=>ny h))
 .obtain⟨p,d,rfl⟩:=List.mem_map.1 c;exact b p d
theorem WU.wf{U:List K}{n:Nat}(c:∀k∈U,fK k)(g:U.length<=n){d:Nat}:∀{j:J},WU U n d j→Wf n d j:=by
 induction d with
 |zero=>intro j h;exact h.elim
 |succ d b=>
  intro j h;cases j with
  |float f=>exact h
  |list xs=>exact⟨h.1,λx e=>b (h.2 x e)⟩
  |table kvs=>refine⟨h.1,?_,λp a=>⟨c _ (h.2 p a).1,b (h.2 p a).2⟩⟩;have:=xU h.1 (λp a=>(h.2 p a).1);omega
  |null|bool|int|text=>trivial
theorem WU.mono{U V:List K}{n m d e:Nat}{j:J}(h:WU U n d j)(c:∀k∈U,k∈V)(i:n<=m)(l:d<=e):WU V m e j:=by
 induction d generalizing e j with
 |zero=>exact h.elim
 |succ d a=>
  obtain⟨e,rfl⟩:∃e',e=e'+1:=⟨e - 1,by omega⟩;cases j with
  |float f=>exact h
  |list xs=>exact⟨by have:=h.1;omega,λx g=>a (h.2 x g) (by omega)⟩
  |table kvs=>exact⟨h.1,λp b=>⟨c _ (h.2 p b).1,a (h.2 p b).2 (by omega)⟩⟩
  |null|bool|int|text=>trivial
def zl:Nat→J→List K
 |0,_=> []
 |d+1,.list xs=>xs.flatMap (zl d)
 |d+1,.table kvs=>kvs.flatMap λp=>p.1::zl d p.2
 | _+1,_=> []
theorem Wf.wu{U:List K}{n:Nat}{d:Nat}:∀{j:J},Wf n d j→(∀k∈zl d j,k∈U)→WU U n d j:=by
 induction d with
 |zero=>intro j h;exact h.elim
 |succ d e=>
  intro j h a;cases j with
  |float f=>exact h
  |list xs=>exact⟨h.1,λx g=>e (h.2 x g) (λk b=>a k (List.mem_flatMap.2 ⟨x,g,b⟩))⟩
  |table kvs=>refine⟨h.1,λp c=>⟨a _ (List.mem_flatMap.2 ⟨p,c,by simp⟩),e (h.2.2 p c).2 (λk b=>a k (List.mem_flatMap.2 ⟨p,c,by simp[b]⟩))⟩⟩
  |null|bool|int|text=>trivial
theorem WU.get{U:List K}{n d:Nat}{t:T}{k:K}{v:J}(h:WU U n (d+1) (.table t))(a:get t k=some v):k∈U∧WU U n d v:=h.2 _ (get_mem a)
theorem WU.y5{U:List K}{n d:Nat}{t:T}(a:Sorted t)(h:∀k v,Go.Proofs.YtljaoopfomcaoaaGreatDoor.get t k=some v→k∈U∧WU U n d v):WU U n (d+1) (.table t):=
 ⟨a,λp b=>h p.1 p.2 (get_of_mem a b)⟩
theorem WU.bV{U:List K}{n d:Nat}(m:Bool):∀{a b:T},WU U n d (.table a)→WU U n d (.table b)→WU U n d (.table (bV m a b)):=by
 induction d with
 |zero=>intro a b h;exact h.elim
 |succ d g=>
  intro a b i f;refine WU.y5 (vF _ _ _) λk v c=> ?_
  rw[kS] at c;cases eF:Go.Proofs.YtljaoopfomcaoaaGreatDoor.get a k with
  |none=>rw[eF] at c;exact f.get c
  |some x=>
   obtain⟨j,e⟩:=i.get eF;rw[eF] at c;refine⟨j,?_⟩;cases jV:Go.Proofs.YtljaoopfomcaoaaGreatDoor.get b k with
   |none=>rw[jV] at c;cases x<;>(cases c;exact e)
   |some y=>
    obtain⟨o,l⟩:=f.get jV;rw[jV] at c;cases x with
    |table x=>
     cases y with
     |table y=>cases c;exact g e l
     | _=>cases c;exact e
    |null=>cases y<;>simp only[dM] at c<;>first|(cases c;exact e)|(split at c<;>cases c;exact e)
    | _=>cases c;exact e
theorem WU.over{U:List K}{n d:Nat}(m:Bool)(h:K→Bool){a b:T}(f:WU U n d (.table a))(g:WU U n d (.table b)):WU U n d (.table (over m h a b)):=by
 cases d with
 |zero=>exact f.elim
 |succ d=>
  refine WU.y5 (qi _ _ _ _) λk v c=> ?_
  rw[pF] at c;cases eF:Go.Proofs.YtljaoopfomcaoaaGreatDoor.get a k with
  |none=>rw[eF] at c;exact g.get c
  |some x=>
   obtain⟨i,e⟩:=f.get eF;rw[eF] at c;refine⟨i,?_⟩;cases x with
   |table x=>
    cases jV:Go.Proofs.YtljaoopfomcaoaaGreatDoor.get b k with
    |none=>rw[jV] at c;cases c;exact e
    |some y=>
     rw[jV] at c;cases y with
     |table y=>cases c;exact WU.bV _ e (g.get jV).2
     | _=>cases c;exact e
   |null=>
    simp only[jo] at c
    split at c
    .cases c;exact e
    .split at c<;>cases c;exact e
   | _=>cases c;exact e
theorem WU.jH{U:List K}{n d:Nat}{a b:T}(e:WU U n d (.table a))(h:WU U n d (.table b)):WU U n d (.table (jH a b)):=by
 cases d with
 |zero=>exact e.elim
 |succ d=>
  refine WU.y5 (um _ _) λk v c=> ?_
  rw[lU] at c;cases jV:Go.Proofs.YtljaoopfomcaoaaGreatDoor.get b k with
  |none=>rw[jV] at c;exact e.get c
  |some y=>
   obtain⟨i,f⟩:=h.get jV;rw[jV] at c;refine⟨i,?_⟩;cases eF:Go.Proofs.YtljaoopfomcaoaaGreatDoor.get a k with
   |none=>rw[eF] at c;cases y<;>(cases c;exact f)
   |some x=>obtain⟨-,g⟩:=e.get eF;rw[eF] at c;cases y<;>cases x<;>cases c<;>first|exact f|exact g|exact WU.bV _ f g
theorem WU.ins{U:List K}{n d:Nat}{t:T}{k:K}{v:J}(b:WU U n (d+1) (.table t))(c:k∈U)(f:WU U n d v):WU U n (d+1) (.table (ins t k v)):=by
 refine WU.y5 (kR _ _ b.1) λx y a=> ?_
 rw[jy] at a
 split at a
 .rename_i e;subst e;cases a;exact⟨c,f⟩
 .exact b.get a
theorem WU.nil{U:List K}{n d:Nat}:WU U n (d+1) (.table []):=⟨List.Pairwise.nil,λp a=>by cases a⟩
theorem WU.bH{U:List K}{n d:Nat}{t x:T}{k:K}(h:WU U n (d+2) (.table t))(a:bH t k=some x):WU U n (d+1) (.table x):=by
 unfold Go.Proofs.YtljaoopfomcaoaaGreatDoor.bH at a
 split at a
 .cases a;exact WU.nil
 .rename_i y hy;cases a;exact(h.get hy).2
 .cases a
theorem WU.globals{U:List K}{n d:Nat}(e:gK∈U){a b:T}(c:WU U n (d+2) (.table a))(f:WU U n (d+2) (.table b)):WU U n (d+2) (.table (globals a b)):=by
 unfold Go.Proofs.YtljaoopfomcaoaaGreatDoor.globals
 split
 .rename_i x y hx hy
  exact c.ins e (WU.jH (c.bH hx) (f.bH hy))
 .exact c
end Go.Proofs.YtljaoopfomcaoaaGreatDoor
namespace Go.Proofs.YtljaoopfomcaoaaGreatDoor
open Go.RowKit
theorem aY(k i:Int)(b:Bool)(f:Nat)(t:ByteArray)(ks a:Value)(w:World):
  Calls Tryz.prog 21 #[.agg (ai k b i f t ks a).toArray] w λe c=>e=.returned (.bool (k==7))∧O No w c:=by
 unfold ai;go_enter Tryz.func21,Tryz.ntmps21;go_wp2;go_ret;exact⟨rfl,(O.refl _ _).alloc _⟩
def KG(ok:ae)(j:J)(b:K)(w:World)(e:Ending)(a:World):Prop:=
 O No w a∧match yz j b with
  |some x=>∃cs,e=.returned (.tuple #[.agg cs.toArray,.bool true])∧aG ok a cs x
  |none=>e=.returned (.tuple #[.agg bu.toArray,.bool false])
theorem jW(ok:ae)(kvs:T)(a:K)(b:Bool)(i:Int)(f:Nat)(t:K)(G H:Value)(w:World)(h:aG ok w (ai 7 b i f t G H) (.table kvs)):
  Calls Tryz.prog 50 #[.agg (ai 7 b i f t G H).toArray,.string a] w (KG ok (.table kvs) a w):=by
 cases h with
 |@table _ _ _ _ _ _ j _ m I o d=>
 have J:=Z m;have HL:=Z I;have L:=m.1;obtain⟨-, -,ka,kc,rfl, -, -⟩:=m;obtain⟨-, -,M,N,rfl, -, -⟩:=I;simp only[List.length_map] at L J⊢;unfold maxLen at L;have HR:=Z d;have HN:=Z o;clear d o;go_enter Tryz.func50,Tryz.ntmps50;unfold ai;go_wp2_with fail;go_loopw [11] (λc wr=>∃n:Nat,n<=kvs.length∧c=.int .i64 n∧(∀p∈kvs.take n,p.1≠a)∧O No w wr∧
   ay wr w.heap.size (ai 7 b i f t (Value.slice ka (List.length kvs) kc) (Value.slice M j.length N)) 26∧ay wr (w.heap.size+1) bu 26) (λc _=>kvs.length - (intOf c).toNat)
 case atStart=>exact⟨0,zL',rfl,by simp,((O.refl _ _).alloc _).alloc _,(ay.new _ _ _).alloc _,ay.newAt (by simp) _ _⟩
 case round=>
  obtain⟨n,o,rfl,P,Q,q,s⟩:=hrel;have u:=Z Q;have v:=Z P;clear P Q;by_cases R:n<kvs.length
  .obtain⟨p,x⟩:=gX' kvs n (R);obtain⟨kb,ko,rfl,aB,y⟩:=J.o.at (i:=n) (r:=[.string p.1]) (by simp[x]);have y:=(y.X u.o id).one;simp only[Nat.mul_one] at y;have z:=Z x;clear x;go_wp2_with (first|(refine V rfl au rfl rfl q.cells rfl ?_));refine(aY _ _ _ _ _ _ _ _).mono ?_;rintro e w1 ⟨rfl,k⟩;have S:=q.X k id;have U:=s.X k id;have A:=Z (u.o.trans' k);clear k q s;have h6:w1.cell? ⟨w.heap.size,6,none⟩=some (.slice M j.length N):=S.cell 6;have aj:n<j.length:=by rw[HN.o];exact R
   obtain⟨r,d⟩:=gX' j n (aj);obtain⟨lb,lo,rfl,aC,W⟩:=HL.o.at (i:=n) (r:=r) d;have ak:=W.X A.o id;have B:=Z (HR.o n r p d z.o);have C:r.length=7:=B.o.length;have h1:=B.o.one;clear d W;by_cases g:p.1=a
   .have ax:(p.1.toList==a.toList)=true:=by rw[aS];simpa using g
    have D:=Z g;clear g;go_wp2_with (first|(refine V rfl au rfl rfl ak C ?_)|(refine aA rfl au rfl rfl rfl U rfl C h1 ?_;intro w2 E F az));have l:O No w w2:=A.o.trans F (by intro i hi e;omega);refine bodyPost_ret (aW rfl au rfl E C) rfl ⟨l,?_⟩;rw[show yz (.table kvs) a=some p.2 from F6 z.o D.o v.o];exact⟨r,rfl,B.o.X l nE⟩
   .have ax:(p.1.toList==a.toList)=false:=by rw[aS];simpa using g
    have D:=Z g;clear g;go_wp2_with fail;go_roundw;case rel=>exact⟨n+1,by omega,by go_num,Iw z.o D.o v.o,A.o,S,U⟩
    case measure=>simp[intOf];omega
  .go_wp2_with (first|(refine aA rfl au rfl rfl rfl s rfl rfl rfl ?_;intro w2 E F az))
   have l:O No w w2:=u.o.trans F (by intro i hi e;omega);refine bodyPost_ret (aW rfl au rfl E rfl) rfl ⟨l,?_⟩;have af:=v.o;rw[List.take_of_length_le (by omega)] at af;rw[show yz (.table kvs) a=none from vz af]
   rfl
def dn(a:Nat→Bool)(i:Nat):Nat→Bool:=λj=>a j||j==i
def oC(k:Nat)(o:Oper):Bool:=o.after.toList.any λe=>Region.binds .any e && e.on==k
theorem Me{a:Nat→Bool}{i j:Nat}(h:(j==i)=false):dn a i j=a j:=by simp[dn,h]
theorem rE(a:Nat→Bool)(i:Nat):dn a i i=true:=by simp[dn]
theorem jC{k:Nat}{o:Oper}(h:oC k o=true):∃e∈o.after,Region.binds .any e=true∧e.on=k:=by obtain⟨e,b,a⟩:=List.any_eq_true.1 h;simp only[Bool.and_eq_true,beq_iff_eq] at a;exact⟨e,by simpa using b,a.1,a.2⟩
def Hl(P:Program)(c:Array Oper)(Q:ah)(a0:Act)(I:Nat→Value→World→Prop)(G:(Nat→Bool)→World→Prop)(i:Nat)(o:Oper):Prop:=
 ∀(b:Nat→Bool)(a:Act)(w:World)(K:ag),
  b i=false→(∀j k,((c[j]?).map (oC k)).getD false=true→b j=true→b k=true)→
  (∀j d,(c[j]?).bind (·.dst)=some d→b j=true→I j (a.tmps[d]?.getD undef) w)→
  (∀t:Nat,(c.toList.all λo=>o.dst !=some t)=true→a.tmps[t]?.getD undef=a0.tmps[t]?.getD undef)→
  (∀k,oC k o=true→b k=true)→G b w→
  (∀v e,I i v e→G (dn b i) e→(∀j,j≠i→b j=true→∀u,I j u w→I j u e)→K (a.put o.dst v) e)→
  (if Region.wanted o (yielded c a.tmps) then o.wp P a w K Q else K (a.put o.dst undef) w)
def pG(P:Program)(a:Array Oper)(Q:ah)(a0:Act)(I:Nat→Value→World→Prop)(G:(Nat→Bool)→World→Prop):Nat→List Oper→Prop
 | _,[]=>True
 |n,o::rest=>Hl P a Q a0 I G n o∧pG P a Q a0 I G (n+1) rest
theorem pG.get{P:Program}{c:Array Oper}{Q:ah}{a0:Act}{I:Nat→Value→World→Prop}{G:(Nat→Bool)→World→Prop}:∀{l:List Oper}{n:Nat},pG P c Q a0 I G n l→∀{i:Nat}{o:Oper},l[i]?=some o→Hl P c Q a0 I G (n+i) o
 |[],_,_,i,o,h=>by simp at h
 |a::r,n,b,0,o,h=>by simp at h;subst h;exact b.1
 |a::r,n,b,i+1,o,h=>by
  have:=pG.get b.2 (i:=i) (o:=o) (by simpa using h)
  rwa[show n+1+i=n+(i+1) by omega] at this
def tidy(a:List Oper)(size:Nat):Bool:=
 (a.filterMap (·.dst)).Nodup && (a.all λo=>match o.dst with|some d=>decide (d<size)|none=>true) &&
 (List.range a.length).all λi=>((a[i]?).map λo=>o.after.all λe=> !Region.binds .any e||decide (e.on<i)).getD true
def aX(vs:Nat→Value):Nat→List Oper→Act→Act
 | _,[],a=>a
 |n,o::rest,a=>aX vs (n+1) rest (a.put o.dst (vs n))
theorem pI(a:Act)(d:Option Tmp)(v:Value):(a.put d v).tmps.size=a.tmps.size:=by cases d<;>simp[Act.put]
theorem nG(a:Act)(d:Option Tmp)(v:Value):(a.put d v).defers=a.defers:=by cases d<;>rfl
theorem nH(vs:Nat→Value):∀(l:List Oper)(n:Nat)(a:Act),(aX vs n l a).tmps.size=a.tmps.size
 |[],_,_=>rfl
 |o::r,n,a=>by rw[aX,nH vs r,pI]
theorem lq(vs:Nat→Value):∀(l:List Oper)(n:Nat)(a:Act),(aX vs n l a).defers=a.defers
 |[],_,_=>rfl
 |o::r,n,a=>by rw[aX,lq vs r,nG]
theorem kz(vs:Nat→Value)(t:Nat):∀(l:List Oper)(n:Nat)(a:Act),(∀o∈l,o.dst≠some t)→(aX vs n l a).tmps[t]?=a.tmps[t]?
 |[],_,_,_=>rfl
 |o::r,n,a,h=>by
  rw[aX,kz vs t r _ _ (λo b=>h o (by simp[b]))];have c:=h o (by simp);cases hd:o.dst with
  |none=>rfl
  |some d=>
   have:d≠t:=λe=>c (by rw[hd,e])
   simp[Act.put,Array.getElem?_setIfInBounds_ne this]
theorem qj(vs:Nat→Value):∀(l:List Oper)(n:Nat)(a:Act)(i:Nat)(o:Oper)(d:Nat),(l.filterMap (·.dst)).Nodup→l[i]?=some o→o.dst=some d→d<a.tmps.size→
  (aX vs n l a).tmps[d]?=some (vs (n+i))
 |[],_,_,i,o,d,_,h,_,_=>by simp at h
 |x::r,n,a,0,o,d,b,h,c,f=>by simp at h;subst h;simp only[List.filterMap_cons,c,List.nodup_cons] at b;rw[aX,kz vs d r _ _ (λo g e=>b.1 (List.mem_filterMap.2 ⟨o,g,e⟩)),c];simp[Act.put,f]
 |x::r,n,a,i+1,o,d,b,h,c,f=>by
  have j:(r.filterMap (·.dst)).Nodup:=by
   simp only[List.filterMap_cons] at b
   split at b
   .exact b
   .exact(List.nodup_cons.1 b).2
  rw[aX,qj vs r (n+1) _ i o d j (by simpa using h) c (by rw[pI];exact f),show n+1+i=n+(i+1) by omega]
theorem vG:∀{l:List Oper}{i j:Nat}{o p:Oper}{d:Nat},(l.filterMap (·.dst)).Nodup→l[i]?=some o→l[j]?=some p→o.dst=some d→p.dst=some d→i=j
 |[],i,j,o,p,d,_,h,_,_,_=>by simp at h
 |x::r,0,0,o,p,d,_,_,_,_,_=>rfl
 |x::r,0,j+1,o,p,d,a,b,c,e,f=>by simp at b c;subst b;simp only[List.filterMap_cons,e,List.nodup_cons] at a;exact absurd (List.mem_filterMap.2 ⟨p,mG' c,f⟩) a.1
 |x::r,i+1,0,o,p,d,a,b,c,e,f=>by simp at b c;subst c;simp only[List.filterMap_cons,f,List.nodup_cons] at a;exact absurd (List.mem_filterMap.2 ⟨o,mG' b,e⟩) a.1
 |x::r,i+1,j+1,o,p,d,a,b,c,e,f=>by
  have g:(r.filterMap (·.dst)).Nodup:=by
   simp only[List.filterMap_cons] at a
   split at a
   .exact a
   .exact(List.nodup_cons.1 a).2
  simp at b c;rw[vG g b c e f]
theorem eval_eq(a b:Act)(t:Nat)(h:a.tmps[t]?=b.tmps[t]?):a.eval (.tmp t)=b.eval (.tmp t):=by simp[Act.eval,h]
section
variable {P:Program} {l:List Oper} {Q:ah} {a0:Act} {I:Nat→Value→World→Prop} {G:(Nat→Bool)→World→Prop}
structure xg (l:List Oper) (a0:Act) (I:Nat→Value→World→Prop) (G:(Nat→Bool)→World→Prop) (listed:Array Bool) (a:Act) (w:World):Prop where
 size:listed.size=l.length
 ql:a.tmps.size=a0.tmps.size
 defers:a.defers=a0.defers
 closed:∀j oj,l.toArray[j]?=some oj→listed.getD j false=true→∀e∈oj.after,Region.binds .any e=true→listed.getD e.on false=true
 slots:∀j oj d,l.toArray[j]?=some oj→oj.dst=some d→listed.getD j false=true→I j (a.eval (.tmp d)) w
 mute:∀j oj,l.toArray[j]?=some oj→oj.dst=none→listed.getD j false=true→∃u,I j u w
 other:∀t,(∀j oj,l.toArray[j]?=some oj→oj.dst=some t→listed.getD j false=false)→a.tmps[t]?=a0.tmps[t]?
 BM:G (λj=>listed.getD j false) w
theorem jX(a:Act){x:Option Tmp}{t:Nat}(v:Value)(h:x≠some t):(a.put x v).tmps[t]?=a.tmps[t]? :=by
 cases x with
 |none=>rfl
 |some d=>
  have:d≠t:=λe=>h (by rw[e])
  simp[Act.put,Array.getElem?_setIfInBounds_ne this]
theorem dZ(a:Array Bool)(i j:Nat)(b:i<a.size):(a.setIfInBounds i true).getD j false=(a.getD j false||j==i):=by
 by_cases e:j=i
 .subst e;simp[b]
 .have e':i≠j:=λh=>e h.symm
  have:(j==i)=false:=(by simpa using e);simp[this,Array.getElem?_setIfInBounds_ne e']
theorem IC(D:tidy l a0.tmps.size=true)(hs:pG P l.toArray Q a0 I G 0 l)
  (ay:∀(vs:Nat→Value)(r:World),(∀j f,l[j]?=some f→f.dst≠none→I j (vs j) r)→(∀j f,l[j]?=some f→f.dst=none→∃u,I j u r)→G (λj=>decide (j<l.length)) r→Q .normal (aX vs 0 l a0) r):
  ∀(B:Nat)(b:Array Bool)(a:Act)(w:World),xg l a0 I G b a w→((List.range l.length).filter λi=> !b.getD i false).length<=B→wpAny P .any l.toArray Q B b a w:=by
 simp only[tidy,Bool.and_eq_true,decide_eq_true_eq,List.all_eq_true] at D;obtain⟨⟨V,az⟩,aA⟩:=D;have W:∀(j:Nat)(f:Oper)(d:Nat),l[j]?=some f→f.dst=some d→d<a0.tmps.size:=λj f d c g=>by have:=az f (mG' c);simpa[g] using this
 have aB:∀(b:Array Bool),b.size=l.length→Region.ready .any l.toArray b=[]→∀i,i<l.length→b.getD i false=true:=by
  intro b aC M i;induction i using Nat.strongRecOn with
  | _ i N=>
   intro p;by_cases m:b.getD i false=true
   .exact m
   .exfalso
    have X:i∈Region.ready .any l.toArray b:=by
     unfold Region.ready;refine List.mem_filter.2 ⟨List.mem_range.2 (by simpa using p),?_⟩;have A:l.toArray[i]?=some l[i]:=(by simp[p]);have aF:b.getD i true=false:=by have:i<b.size:=(by omega);simp[this] at m⊢;exact m
     rw[aF,A];simp only[Bool.not_false,Bool.true_and,Option.map_some,Option.getD_some,Array.all_eq_true_iff_forall_mem];intro e s;have O:=aA i (List.mem_range.2 p);rw[List.getElem?_eq_getElem p] at O;simp only[Option.map_some,Option.getD_some,Array.all_eq_true_iff_forall_mem] at O;have R:=O e s;by_cases n:Region.binds .any e=true
     .rw[n] at R⊢;simp at R;have:=N e.on R (by omega);simpa using this
     .simp at n;simp[n]
    rw[M] at X;cases X
 have af:∀(b:Array Bool)(a:Act)(w:World),xg l a0 I G b a w→(∀i,i<l.length→b.getD i false=true)→Q .normal a w:=by
  intro b a w h E;have hg:(λj=>b.getD j false)=λj=>decide (j<l.length):=by
   funext j
   by_cases c:j<l.length
   .simp only[E j c,decide_eq_true c]
   .have:¬j<b.size:=by rw[h.size];exact c
    simp[c,this]
  have ai:∀{j:Nat}{f:Oper},l[j]?=some f→j<l.length:=λc=>(gS'.1 c).1
  have hq:=ay (λj=>match(l[j]?).bind (·.dst) with|some d=>a.eval (.tmp d)|none=>undef) w
   (λj f c F=>by
    cases g:f.dst with
    |none=>exact absurd g F
    |some d=>simp only[c,Option.bind_some,g];exact h.slots j f d (by simpa using c) g (E j (ai c)))
   (λj f c g=>h.mute j f (by simpa using c) g (E j (ai c)))
   (hg▸h.BM)
  have ea:aX (λj=>match(l[j]?).bind (·.dst) with|some d=>a.eval (.tmp d)|none=>undef) 0 l a0=a:=by
   have aC:=nH (λj=>match(l[j]?).bind (·.dst) with|some d=>a.eval (.tmp d)|none=>undef) l 0 a0;have J:=lq (λj=>match(l[j]?).bind (·.dst) with|some d=>a.eval (.tmp d)|none=>undef) l 0 a0;have S:(aX (λj=>match(l[j]?).bind (·.dst) with|some d=>a.eval (.tmp d)|none=>undef) 0 l a0).tmps=a.tmps:=by
    apply Array.ext_getElem?;intro t;by_cases x:∃(j:Nat)(f:Oper),l[j]?=some f∧f.dst=some t
    .obtain⟨j,f,c,g⟩:=x;have n:=W j f t c g;rw[qj _ l 0 a0 j f t V c g n];simp only[Nat.zero_add,c,Option.bind_some,g];have:t<a.tmps.size:=by rw[h.ql];exact n
     simp[Act.eval,this]
    .rw[kz _ t l 0 a0 (λo A e=>by
      obtain⟨j,c⟩:=List.getElem?_of_mem A;exact x ⟨j,o,c,e⟩)]
     exact(h.other t (λj f c g=>(x ⟨j,f,by simpa using c,g⟩).elim)).symm
   rw[←h.defers] at J;cases hp:aX (λj=>match(l[j]?).bind (·.dst) with|some d=>a.eval (.tmp d)|none=>undef) 0 l a0 with
   |mk tm df=>rw[hp] at S J;cases a;simp at S J;simp[S,J]
  rw[ea] at hq;exact hq
 intro B;induction B with
 |zero=>
  intro b a w h hc;have E:∀i,i<l.length→b.getD i false=true:=by
   intro i p;by_cases m:b.getD i false=true
   .exact m
   .exfalso
    have:i∈(List.range l.length).filter λi=> !b.getD i false:=List.mem_filter.2 ⟨List.mem_range.2 p,by simpa using m⟩
    have:=List.length_pos_of_mem this;omega
  refine⟨?_,af b a w h E⟩;unfold Region.ready;rw[List.filter_eq_nil_iff];intro i p;have hi':i<l.length:=(by simpa using p);have y:=E i hi';have:i<b.size:=by rw[h.size];exact hi'
  simp[this] at y⊢;intro x;rw[y] at x;cases x
 |succ B N=>
  intro b a w h hc;refine⟨λM=>af b a w h (aB b h.size M),λi p=> ?_⟩;unfold Region.ready at p;obtain⟨aG,T⟩:=List.mem_filter.1 p;have H:i<l.length:=(by simpa using aG);have A:l.toArray[i]?=some l[i]:=(by simp[H]);have C:i<b.size:=by rw[h.size];exact H
  rw[A] at T;simp only[Option.map_some,Option.getD_some,Bool.and_eq_true,Bool.not_eq_true',Array.all_eq_true_iff_forall_mem,Bool.or_eq_true] at T;obtain⟨K,aH⟩:=T;have aj:b.getD i false=false:=by simp[C] at K⊢;exact K
  have ak:=hs.get (i:=i) (o:=l[i]) (by simp[H]);rw[Nat.zero_add] at ak;have au:∀e∈(l[i]).after,Region.binds .any e=true→b.getD e.on false=true:=λe s n=>by
   rcases aH e s with y|y
   .rw[n] at y;cases y
   .exact y
  have aI:((List.range l.length).filter λj=> !(b.setIfInBounds i true).getD j false).length<=B:=by
   have aK:((List.range l.length).filter λj=> !(b.setIfInBounds i true).getD j false).length<((List.range l.length).filter λj=> !b.getD j false).length:=by
    have e1:((List.range l.length).filter λj=> !(b.setIfInBounds i true).getD j false)=(((List.range l.length).filter λj=> !b.getD j false).filter λj=> !(j==i)):=by
     rw[List.filter_filter]
     congr 1
     funext j
     rw[dZ b i j C];cases b.getD j false<;>cases(j==i)<;>rfl
    rw[e1];refine List.length_filter_lt_length_iff_exists.2 ⟨i,List.mem_filter.2 ⟨List.mem_range.2 H,by rw[aj];rfl⟩,by simp⟩
   omega
  have aJ:∀v r,I i v r→G (dn (λj=>b.getD j false) i) r→(∀j,j≠i→b.getD j false=true→∀u,I j u w→I j u r)→wpAny P .any l.toArray Q B (b.setIfInBounds i true) (a.put (l[i]).dst v) r:=by
   intro v r hI hG ax;refine N _ _ _ ⟨by simpa using h.size,by rw[pI];exact h.ql,by rw[nG];exact h.defers,?_,?_,?_,?_,?_⟩ aI
   .intro j f c m e s n;rw[dZ b i _ C] at m⊢;by_cases q:j=i
    .subst q;rw[A] at c;cases c;rw[au e s n];rfl
    .have:(j==i)=false:=(by simpa using q);rw[this,Bool.or_false] at m;rw[h.closed j f c m e s n];rfl
   .intro j f d c g m;rw[dZ b i _ C] at m;have n:d<a.tmps.size:=by rw[h.ql];exact W j f d (by simpa using c) g
    by_cases q:j=i
    .subst q;rw[A] at c;cases c;have:(a.put (l[j]).dst v).eval (.tmp d)=v:=by rw[g];simp[Act.eval,Act.put,n]
     rw[this];exact hI
    .have x:(j==i)=false:=(by simpa using q);rw[x,Bool.or_false] at m;have F:(l[i]).dst≠some d:=λe=>q (vG V (by simpa using c) (by simp[H]) g e)
     rw[eval_eq _ a d (jX a v F)];exact ax j q m _ (h.slots j f d c g m)
   .intro j f c g m;rw[dZ b i _ C] at m;by_cases q:j=i
    .subst q;exact⟨v,hI⟩
    .have x:(j==i)=false:=(by simpa using q);rw[x,Bool.or_false] at m;obtain⟨u,K⟩:=h.mute j f c g m;exact⟨u,ax j q m u K⟩
   .intro t D;have F:(l[i]).dst≠some t:=λe=>by
     have:=D i l[i] A e;rw[dZ b i _ C] at this;simp at this
    rw[jX a v F];refine h.other t λj f c g=> ?_
    have:=D j f c g;rw[dZ b i _ C] at this;simp only[Bool.or_eq_false_iff] at this;exact this.1
   .have:(λj=>(b.setIfInBounds i true).getD j false)=dn (λj=>b.getD j false) i:=by
     funext j
     rw[dZ b i _ C];rfl
    rw[this];exact hG
  have L:=ak (λj=>b.getD j false) a w (wpAny P .any l.toArray Q B (b.setIfInBounds i true)) aj
   (λj k z m=>by
    cases c:l.toArray[j]? with
    |none=>rw[c] at z;cases z
    |some f=>rw[c] at z;obtain⟨e,s,n,U⟩:=jC z;rw[←U];exact h.closed j f c m e s n)
   (λj d g m=>by
    cases c:l.toArray[j]? with
    |none=>rw[c] at g;cases g
    |some f=>rw[c] at g;have:=h.slots j f d c g m;simpa[Act.eval] using this)
   (λt D=>congrArg (·.getD undef) (h.other t (λj f c g=>by have y:=List.all_eq_true.1 D f (mG' (by simpa using c));rw[g] at y;simp at y)))
   (λk z=>by obtain⟨e,s,n,U⟩:=jC z;rw[←U];exact au e s n) h.BM aJ
  unfold wpOp;rw[A];simp only
  split
  .rename_i z;rw[if_pos z] at L;exact .inl L
  .rename_i z;rw[if_neg z] at L;exact L
theorem aT{g:Nat}{w:World}(I:Nat→Value→World→Prop)(G:(Nat→Bool)→World→Prop)(h:P.follows .mixedOrders=true)(i:tidy l a0.tmps.size=true)
  (k:G (λ_=>false) w.drew) (m:pG P l.toArray Q a0 I G 0 l)
  (n:∀(vs:Nat→Value)(c:World),(∀j a,l[j]?=some a→a.dst≠none→I j (vs j) c)→(∀j a,l[j]?=some a→a.dst=none→∃u,I j u c)→G (λj=>decide (j<l.length)) c→Q .normal (aX vs 0 l a0) c):
  (Code.region g l.toArray true).wp P Q a0 w:=by
 refine wp_region_any h (IC i m n _ _ _ _ ?_ ?_)
 .have e:∀j,(Array.replicate l.toArray.size false).getD j false=false:=λj=>by
   simp only[Array.getD_eq_getD_getElem?,Array.getElem?_replicate]
   split<;>rfl
  refine⟨by simp,rfl,rfl,?_,?_,?_,?_,?_⟩
  .intro j a f b;rw[e] at b;cases b
  .intro j a d f o b;rw[e] at b;cases b
  .intro j a f o b;rw[e] at b;cases b
  .intro t _;rfl
  .have:(λj=>(Array.replicate l.toArray.size false).getD j false)=λ_=>false:=funext e
   rw[this];exact k
 .exact Nat.le_trans (List.length_filter_le _ _) (by simp)
end
structure Fact where
 holds:Value→World→Prop
 safe:(ae)→World→Prop
 Nz:∀S v w w',holds v w→O S w w'→safe S w→holds v w'
 none:∀w,safe No w
def Fact.any:Fact:=⟨λ_ _=>True,λ_ _=>True,λ_ _ _ _ _ _ _=>trivial,λ_=>trivial⟩
def Fact.eq(a:Value):Fact:=⟨λv _=>v=a,λ_ _=>True,λ_ _ _ _ h _ _=>h,λ_=>trivial⟩
def Fact.ng(a:Nat)(b:Y)(e:TypeId):Fact:=
 ⟨λv w=>∃t,v=.slice (some ⟨t,0,Option.none⟩) 1 1∧a<=t∧ay w t b e,λS _=>∀k,S k→k<a,
  λS v w j h c d=>by obtain⟨t,f,g,i⟩:=h;exact⟨t,f,g,i.X c (λe=>by have:=d t e;omega)⟩,λ_ _ e=>e.elim⟩
def Fact.own(a e size:Nat)(b:List (Y)):Fact:=
 ⟨λv w=>aB w a e size v b,λS w=>∀k,S k→a<=k→¬∃c,w.heap[k]?=some (.cells c e (0,0)),
  λS v w m h d f=>h.X d (λk g i=>by obtain⟨j, -,l⟩:=h.elem g;exact f k i j l),λ_ _ e=>e.elim⟩
def Fact.val(ok:ae)(j:J):Fact:=
 ⟨λv w=>∃cs:Y,v=.agg cs.toArray∧aG ok w cs j,λS _=>∀b,ok b→¬S b,
  λS v w f h a c=>by obtain⟨cs,d,h⟩:=h;exact⟨cs,d,h.X a c⟩,λ_ _ _ e=>e⟩
def FI(a:List Fact)(i:Nat)(v:Value)(w:World):Prop:=(a.getD i Fact.any).holds v w
theorem FI.keep{a:List Fact}{i:Nat}{v:Value}{w b:World}{S:ae}(h:FI a i v w)(c:O S w b)(d:(a.getD i Fact.any).safe S w):FI a i v b:=
 (a.getD i Fact.any).Nz S v w b h c d
theorem FI.aP{a:List Fact}{i:Nat}{v:Value}{w b:World}(h:FI a i v w)(c:O No w b):FI a i v b:=h.keep c ((a.getD i Fact.any).none w)
theorem aB.iL{w:World}{c e e' size:Nat}{v:Value}{d:List (Y)}(h:aB w c e size v d)(f:e≠e'){k:Nat}(g:v.ownBlock=some k):¬∃a,w.heap[k]?=some (.cells a e' (0,0)):=by rintro⟨a,i⟩;obtain⟨-, -,j,b⟩:=h.elem g;rw[i] at b;cases b;exact f rfl
theorem aB.slice{w:World}{b e size:Nat}{v:Value}{d:List (Y)}(h:aB w b e size v d):∃a n c,v=.slice a n c:=by
 obtain⟨-, -,f⟩:=h;rcases f with⟨rfl, -⟩|⟨g,cap,i,rfl, -⟩
 .exact⟨_,_,_,rfl⟩
 .exact⟨_,_,_,rfl⟩
theorem ay.kT{w:World}{t:Nat}{a:Y}{d:TypeId}(h:ay w t a d){size:Nat}(f:a.length=size):aC (λb=>b=t) w (.slice (some ⟨t,0,none⟩) 1 1) size [a]:=by
 refine⟨by simp[maxLen],by simpa using f,_,_,rfl,(by intro e;cases e),λ_=>⟨_,_,rfl,rfl,λi r c j u g=> ?_⟩⟩;cases i with
 |zero=>simp at c;subst c;have:=h.cell j;rw[Nat.zero_mul,Nat.add_zero,Nat.zero_add,this,g]
 |succ i=>simp at c
theorem aV{a:List Fact}{i:Nat}{S:ae}{w:World}(h:∀j,j<a.length→j≠i→(a.getD j Fact.any).safe S w):∀j,j≠i→(a.getD j Fact.any).safe S w:=by
 intro j b;by_cases c:j<a.length
 .exact h j c b
 .rw[List.getD_eq_getElem?_getD,List.getElem?_eq_none (by omega)];trivial
theorem ax{o:Oper}{y:Nat→Option Bool}{A B:Prop}(a:o.guard=none)(h:A):if Region.wanted o y=true then A else B:=by rw[if_pos (by simp[Region.wanted,a])];exact h
theorem fq{v u:Value}{w:World}(h:(Fact.eq v).holds u w):u=v:=h
def Jq(ok:ae)(w:World)(a:List (Y))(b:T):Prop:=
 a.length=b.length∧∀(i:Nat)(r:Y)(p:K × J),a[i]?=some r→b[i]?=some p→aG ok w r p.2
def gp(a:T):List (Y):=a.map λp=> [.string p.1]
structure jA (kvs:T) (key:K) (x:J) (n:Nat) (d:Bool) (acc:T):Prop where
 BN:d=false→acc=kvs.take n∧∀p∈kvs.take n,jg p.1 key
 Jr:d=true→acc=ins (kvs.take n) key x∧∃q∈kvs.take n,¬jg q.1 key
structure nI (ok:ae) (w wr:World) (bs:List (Nat × Y)) (g base:Nat) (acc:T) (rows:List (Y)) (kv lv:Value):Prop where
 X:O No w wr
 og:w.heap.size<=g
 gb:g<base
 bb:base<=wr.heap.size
 bs:∀p∈bs,ay wr p.1 p.2 26∧p.1<base∧p.1≠g
 b:ay wr g (ai 7 false 0 0 ByteArray.empty kv lv) 26
 ck:aB wr base 9 1 kv (gp acc)
 cl:aB wr base 26 7 lv rows
 rv:Jq ok w rows acc
structure eP (ok:ae) (w wr:World) (lo:Nat) (bs:List (Nat × Y)) (g base:Nat) (acc:T) (rows:List (Y)) (kv lv:Value) (k:K) (r:Y) (d5 d6:Bool):Prop where
 X:O No w wr
 og:w.heap.size<=g
 gb:g<base
 bb:base<=lo
 lu:lo<=wr.heap.size
 bs:∀p∈bs,ay wr p.1 p.2 26∧p.1<base∧p.1≠g
 ck:aB wr base 9 1 kv (gp acc)
 cl:aB wr base 26 7 lv rows
 tZ:∀x,kv.ownBlock=some x→x<lo
 uf:∀x,lv.ownBlock=some x→x<lo
 b:∃k' l',ay wr g (ai 7 false 0 0 ByteArray.empty k' l') 26∧(if d5 then aB wr base 9 1 k' (gp acc++[[.string k]]) else k'=kv)∧(if d6 then aB wr base 26 7 l' (rows++[r]) else l'=lv)
theorem nI.mid{ok:ae}{w wr:World}{e:List (Nat × Y)}{g f:Nat}{i:T}{j:List (Y)}{a c:Value}(h:nI ok w wr e g f i j a c)(k:K)(r:Y):
  eP ok w wr.drew wr.heap.size e g f i j a c k r false false:=
 ⟨h.X.drew,h.og,h.gb,h.bb,lR',h.bs,h.ck,h.cl,λx d=>(h.ck.elem d).2.1,λx d=>(h.cl.elem d).2.1,⟨a,c,h.b,rfl,rfl⟩⟩
theorem eP.df{ok:ae}{w wr e:World}{f:Nat}{i:List (Nat × Y)}{g j:Nat}{l:T}{m:List (Y)}{n o:Value}{k:K}{r:Y}{c d:Bool}
  (h:eP ok w wr f i g j l m n o k r c d) (a:O No wr e):eP ok w e f i g j l m n o k r c d:=by
 obtain⟨u,v,x,q,s⟩:=h.b;refine⟨h.X.trans' a,h.og,h.gb,h.bb,Nat.le_trans h.lu a.size,λp t=>⟨(h.bs p t).1.X a id,(h.bs p t).2⟩,h.ck.X a nE,h.cl.X a nE,h.tZ,h.uf,u,v,x.X a id,?_,?_⟩
 .cases c
  .exact q
  .exact q.X a nE
 .cases d
  .exact s
  .exact s.X a nE
theorem eP.app{ok:ae}{w wr c:World}{q:Nat}{s:List (Nat × Y)}{g a:Nat}{f:T}{j:List (Y)}{l m:Value}{k:K}{r:Y}
  (h:eP ok w wr q s g a f j l m k r false false) {v:Value} (d:O (λb=>v.ownBlock=some b) wr c) (n:∀x,v.ownBlock=some x→a<=x)
  (t:aB c a 9 1 l (gp f)) (u:aB c a 26 7 m j):eP ok w c q s g a f j l m k r false false:=by
 obtain⟨y,z,A,B,C⟩:=h.b;have D:=h.gb;have E:=h.og;refine⟨h.X.trans d (λi F e=>by have:=n i e;omega),h.og,h.gb,h.bb,Nat.le_trans h.lu d.size,λp o=>⟨(h.bs p o).1.X d (λe=>by have:=n _ e;have:=(h.bs p o).2.1;omega),(h.bs p o).2⟩,t,u,h.tZ,h.uf,y,z,A.X d (λe=>by have:=n _ e;omega),B,C⟩
theorem eP.tH{ok:ae}{w wr:World}{m:Nat}{n:List (Nat × Y)}{g a:Nat}{f:T}{o:List (Y)}{q s:Value}{k:K}{r:Y}{j:Bool}
  (h:eP ok w wr m n g a f o q s k r false j) {v:Value} (A:aB wr a 9 1 v (gp f++[[.string k]])):
  eP ok w (wr.setCell ⟨g,5,none⟩ v) m n g a f o q s k r true j∧O (·=g) wr (wr.setCell ⟨g,5,none⟩ v):=by
 obtain⟨E,B,C,F,t⟩:=h.b;have G:=h.gb;have H:=h.og;have c:O (·=g) wr (wr.setCell ⟨g,5,none⟩ v):=O.setCell (S:=(·=g)) (O.refl _ _) (λ_=>rfl) _;have d:∀{e size:Nat}{u:Value} {y:List (Y)},aB wr a e size u y→aB (wr.setCell ⟨g,5,none⟩ v) a e size u y:=λz=>z.X c (λx D e=>by have:=(z.elem D).1;omega)
 refine⟨⟨h.X.trans c (λi I e=>by omega),h.og,h.gb,h.bb,by simpa using h.lu,λp l=>⟨(h.bs p l).1.X c (h.bs p l).2.2,(h.bs p l).2⟩,d h.ck,d h.cl,h.tZ,h.uf,v,B,?_,d A,?_⟩,c⟩
 .have:=heap_setCell_same wr g 5 _ _ v C;simpa[ay,ai] using this
 .cases j
  .exact t
  .exact d t
theorem eP.tJ{ok:ae}{w wr:World}{m:Nat}{n:List (Nat × Y)}{g a:Nat}{o:T}{f:List (Y)}{q s:Value}{k:K}{r:Y}{j:Bool}
  (h:eP ok w wr m n g a o f q s k r j false) {v:Value} (A:aB wr a 26 7 v (f++[r])):
  eP ok w (wr.setCell ⟨g,6,none⟩ v) m n g a o f q s k r j true∧O (·=g) wr (wr.setCell ⟨g,6,none⟩ v):=by
 obtain⟨B,E,C,t,F⟩:=h.b;have G:=h.gb;have H:=h.og;have c:O (·=g) wr (wr.setCell ⟨g,6,none⟩ v):=O.setCell (S:=(·=g)) (O.refl _ _) (λ_=>rfl) _;have d:∀{e size:Nat}{u:Value} {y:List (Y)},aB wr a e size u y→aB (wr.setCell ⟨g,6,none⟩ v) a e size u y:=λz=>z.X c (λx D e=>by have:=(z.elem D).1;omega)
 refine⟨⟨h.X.trans c (λi I e=>by omega),h.og,h.gb,h.bb,by simpa using h.lu,λp l=>⟨(h.bs p l).1.X c (h.bs p l).2.2,(h.bs p l).2⟩,d h.ck,d h.cl,h.tZ,h.uf,B,v,?_,?_,d A⟩,c⟩
 .have:=heap_setCell_same wr g 6 _ _ v C;simpa[ay,ai] using this
 .cases j
  .exact t
  .exact d t
theorem eP.o{ok:ae}{w wr:World}{s:Nat}{m:List (Nat × Y)}{g n:Nat}{f:T}{d:List (Y)}{t u:Value}{k:K}{r:Y}
  (h:eP ok w wr s m g n f d t u k r true true) {x:J} (e:Jq ok w d f) (v:aG ok w r x):
  ∃j l,nI ok w wr m g n (f++[(k,x)]) (d++[r]) j l:=by
 obtain⟨j,l,y,z,A⟩:=h.b;refine⟨j,l,h.X,h.og,h.gb,Nat.le_trans h.bb h.lu,h.bs,y,?_,A,?_⟩
 .simpa[gp] using z
 .refine⟨by simp[e.1],λi B p a c=> ?_⟩;by_cases o:i<d.length
  .rw[List.getElem?_append_left o] at a;rw[List.getElem?_append_left (by rw[←e.1];exact o)] at c;exact e.2 i B p a c
  .rw[List.getElem?_append_right (by omega)] at a;rw[List.getElem?_append_right (by rw[←e.1];omega)] at c;have q:i - d.length=0:=by
    have:=(gS'.1 a).1;simp at this;omega
   rw[q] at a;rw[←e.1,q] at c;simp at a c;subst a;subst c;exact v
theorem jA.len{kvs:T}{a:K}{x:J}{n:Nat}{d:Bool}{b:T}(h:jA kvs a x n d b):b.length<=n+1:=by
 cases d with
 |false=>obtain⟨rfl, -⟩:=h.BN rfl;have:=List.length_take_le n kvs;omega
 |true=>obtain⟨rfl, -⟩:=h.Jr rfl;have:=List.length_take_le n kvs;have:=xR (kvs.take n) a x;omega
theorem jA.MB{kvs:T}{a:K}{x:J}{n:Nat}{f:T}{p:K × J}(h:jA kvs a x n true f)(i:Sorted kvs)(j:kvs[n]?=some p):p.1≠a∧jA kvs a x (n+1) true (f++[p]):=by
 obtain⟨rfl,q,b,c⟩:=h.Jr rfl;have d:kvs.take (n+1)=kvs.take n++[p]:=by rw[List.take_add_one,j];rfl
 have k:jg q.1 p.1:=by have g:Sorted (kvs.take (n+1)):=List.Pairwise.sublist (List.take_sublist _ _) i;rw[d] at g;exact(List.pairwise_append.1 g).2.2 q b p (by simp)
 refine⟨λe=>c (e▸k),(by intro e;cases e),λ_=>⟨?_,q,?_,c⟩⟩
 .rw[d,Iz ⟨q,b,c⟩]
 .rw[d];exact List.mem_append_left _ b
theorem jA.MF{kvs:T}{b:K}{x:J}{n:Nat}{c:T}{p:K × J}(h:jA kvs b x n false c)(g:kvs[n]?=some p)(d:jg p.1 b):p.1≠b∧jA kvs b x (n+1) false (c++[p]):=by
 obtain⟨rfl,i⟩:=h.BN rfl;have f:kvs.take (n+1)=kvs.take n++[p]:=by rw[List.take_add_one,g];rfl
 refine⟨ny d,λ_=>⟨f.symm,λq a=> ?_⟩,(by intro e;cases e)⟩;rw[f] at a;rcases List.mem_append.1 a with a|a
 .exact i q a
 .obtain rfl:=List.mem_singleton.1 a;exact d
theorem jA.MH{kvs:T}{a:K}{x:J}{n:Nat}{b:T}{p:K × J}(h:jA kvs a x n false b)(f:kvs[n]?=some p)(c:¬jg p.1 a):jA kvs a x (n+1) true (b++(a,x)::if p.1=a then [] else [p]):=by
 obtain⟨rfl,g⟩:=h.BN rfl;have d:kvs.take (n+1)=kvs.take n++[p]:=by rw[List.take_add_one,f];rfl
 refine⟨(by intro e;cases e),λ_=>⟨?_,p,?_,c⟩⟩
 .rw[d,Iy g c]
 .rw[d];simp
theorem nI.val{ok:ae}{w wr:World}{i:List (Nat × Y)}{g c:Nat}{d:T}{j:List (Y)}{e f:Value}(h:nI ok w wr i g c d j e f):
  aG (λb=>(ok b∧b<w.heap.size)∨c<=b) wr (ai 7 false 0 0 ByteArray.empty e f) (.table d):=by
 refine .table (h.ck.rowAt.mono (λb _ a=> .inr (h.ck.elem a).1) (by decide)) (h.cl.rowAt.mono (λb _ a=> .inr (h.cl.elem a).1) (by decide)) h.rv.1 λn r p k l=> ?_
 exact((h.rv.2 n r p k l).mono (ok':=λb=>ok b∧b<w.heap.size) (λb m a=>⟨a,m⟩)).X h.X nE|>.mono (λb _ a=> .inl a)
theorem nI.done{ok:ae}{w wr w2:World}{m:List (Nat × Y)}{g d c:Nat}{f:T}{n:List (Y)}{j k:Value}(h:nI ok w wr m g d f n j k)
  (l:O (·=c) wr w2) (o:w.heap.size<=c) (p:c<d):aG (λb=>ok b∨w.heap.size<=b) w2 (ai 7 false 0 0 ByteArray.empty j k) (.table f)∧O No w w2:=by
 have q:=h.og;have r:=h.gb;refine⟨(h.val.X l (λb a e=> ?_)).mono (λb _ a=> ?_),h.X.trans l (λi s e=>by omega)⟩
 .rcases a with⟨-,a⟩|a<;>omega
 .rcases a with⟨a, -⟩|a
  .exact .inl a
  .exact .inr (by omega)
theorem aC.zero{ok:ae}{w:World}{size:Nat}:aC ok w (.slice none 0 0) size []:=⟨by simp,by simp,none,0,rfl,λ_=>rfl,λa=>absurd rfl a⟩
theorem jD(ok:ae)(kvs:T)(P:K)(x:J)(b:Bool)(i:Int)(f:Nat)(t:K)(kv lv:Value)(vs:Y)(w:World)
  (h:aG ok w (ai 7 b i f t kv lv) (.table kvs)) (G:aG ok w vs x) (hs:Sorted kvs) (hn:kvs.length<1099511627776):
  Calls Tryz.prog 51 #[.agg (ai 7 b i f t kv lv).toArray,.string P,.agg vs.toArray] w λe N=>∃cs,e=.returned (.agg cs.toArray)∧aG (λb=>ok b∨w.heap.size<=b) N cs (.table (ins kvs P x))∧O No w N:=by
 obtain⟨vk,vb,vi,vf,vt,aJ,aK,rfl⟩:=G.seven;cases h with
 |@table _ _ _ _ _ _ aZ _ y H dL hr=>
 have HK:=Z y;have HL:=Z H;obtain⟨-, -,ka,kc,rfl, -, -⟩:=y;obtain⟨-, -,la,lc,rfl, -, -⟩:=H;simp only[List.length_map] at HK⊢;have HR:=Z hr;have HN:=Z dL;have HV:=Z G;have HS:=Z hs;clear hr dL G hs;have fF:=kN 7;go_enter Tryz.func51,Tryz.ntmps51;unfold ai;go_wp2_with fail;obtain⟨g1,bY⟩:∃g1,g1=w.heap.size+1:=⟨_,rfl⟩;obtain⟨g2,bZ⟩:∃g2,g2=w.heap.size+1+1:=⟨_,rfl⟩;obtain⟨C,bK⟩:∃C,C=w.heap.size+1+1+1:=⟨_,rfl⟩;rw[←bK,←bZ,←bY];obtain⟨bf,cO⟩:∃bf,bf=[(w.heap.size,ai 7 b i f t (Value.slice ka (List.length kvs) kc) (Value.slice la aZ.length lc)),(g1,ai vk vb vi vf vt aJ aK),(g2,bu)]:=⟨_,rfl⟩;go_loopw [8,15] (λd c wr=>∃(n:Nat)(db:Bool)(U:T) (aN:List (Y)) (kv lv:Value),n<=kvs.length∧d=.bool db∧c=.int .i64 n∧
   jA kvs P x n db U∧nI ok w wr bf C (C+1) U aN kv lv) (λ_ c _=>kvs.length - (intOf c).toNat)
 case atStart=>
  refine⟨0,false,[],[],.slice none 0 0,.slice none 0 0,zL',rfl,rfl,⟨λ_=>⟨rfl,by simp⟩,(by intro e;cases e)⟩,⟨((((O.refl _ _).alloc _).alloc _).alloc _).alloc _,by omega,by omega,by simp[bK],?_,?_,aB.nil _ _ _ _,aB.nil _ _ _ _,rfl,by simp⟩⟩
  .subst cO;intro p hp;simp only[List.mem_cons,List.mem_nil_iff,or_false] at hp;rcases hp with rfl|rfl|rfl
   .exact⟨(((ay.new _ _ _).alloc _).alloc _).alloc _,by simp;omega,by simp;omega⟩
   .exact⟨((ay.newAt (by simp[bY]) _ _).alloc _).alloc _,by simp;omega,by simp;omega⟩
   .exact⟨(ay.newAt (by simp[bZ]) _ _).alloc _,by simp;omega,by simp;omega⟩
  .exact ay.newAt (by simp[bK]) _ _
 case round=>
  obtain⟨n,db,U,aN,kv,lv,fG,rfl,rfl,bD,hi⟩:=hrel;have HI:=Z hi;have HA:=Z bD;have fH:=Z bY;have cu:=Z bZ;have dM:=Z bK;have HB:=Z cO;clear hi bD bY bZ bK cO;have m0:(w.heap.size,ai 7 b i f t (Value.slice ka (List.length kvs) kc) (Value.slice la aZ.length lc))∈bf:=by rw[HB.o];exact .head _
  have m1:(g1,ai vk vb vi vf vt aJ aK)∈bf:=by rw[HB.o];exact .tail _ (.head _)
  have m2:(g2,bu)∈bf:=by rw[HB.o];exact .tail _ (.tail _ (.head _))
  have M0:=Z m0;have M1:=Z m1;have M2:=Z m2;clear m0 m1 m2;by_cases aW:n<kvs.length
  .obtain⟨p,hp⟩:=gX' kvs n (aW);have eu:n<aZ.length:=by rw[HN.o];exact aW
   obtain⟨r,cZ⟩:=gX' aZ n (eu);obtain⟨kb,ko,rfl,fJ,dh⟩:=HK.o.at (i:=n) (r:=[.string p.1]) (by simp[hp]);obtain⟨lb,lo,rfl,fK,dN⟩:=HL.o.at (i:=n) (r:=r) cZ;have dh:=(dh.X HI.o.X id).one;simp only[Nat.mul_one] at dh;have di:=dN;have bG:=Z (HR.o n r p cZ hp);obtain⟨W,rb,ri,rf,rt,af,aj,rfl⟩:=bG.o.seven;have dm:(ai W rb ri rf rt af aj).length=7:=rfl;have HP:=Z hp;have fM:(n:Int)<9223372036854775808:=(by omega);have fO:(n:Int)<(aZ.length:Int):=(by omega);clear hp cZ dN;have bH:=HA.o.len;cases db with
   |true=>
    obtain⟨aY,bF⟩:=HA.o.MB HS.o HP.o;have dw:(p.1.toList==P.toList)=false:=by rw[aS];simpa using aY
    have bI:=Z bF;clear aY bF;go_wp2_with fail;refine aT (FI [.eq (.pointer (some ⟨C,5,none⟩)),.eq kv,.eq (.string p.1),.ng wr.heap.size [.string p.1] 9,.own (C+1) 9 1 (gp U++[[.string p.1]]),.eq (.pointer (some ⟨C,6,none⟩)),.eq lv,.eq (.pointer (some ⟨w.heap.size,6,none⟩)),.eq (.slice (some ⟨lb,lo,none⟩) aZ.length lc),.eq (.int .i64 n),.eq (.pointer (some ⟨lb,lo+n*7,none⟩)),.eq (.agg (ai W rb ri rf rt af aj).toArray),.ng wr.heap.size (ai W rb ri rf rt af aj) 26,.own (C+1) 26 7 (aN++[(ai W rb ri rf rt af aj)]),.eq (.pointer (some ⟨C,5,none⟩)),.any,.eq (.pointer (some ⟨C,6,none⟩)),.any])
     (λv N=>eP ok w N wr.heap.size bf C (C+1) U aN kv lv p.1 (ai W rb ri rf rt af aj) (v 15) (v 17))
     (by kernel_rfl) (by kernel_rfl) (HI.o.mid _ _) ?_ ?_
    .refine⟨?_,?_,?_,?_,?_,?_,?_,?_,?_,?_,?_,?_,?_,?_,?_,?_,?_,?_,trivial⟩
     .intro v a B K z q l o m g s;have e7:a.tmps[7]?.getD undef=.pointer (some ⟨C,0,none⟩):=o 7 rfl;clear q l o m;go_simp;exact s _ _ rfl (by simpa[dn] using g) Sy
     .intro v a B K z q l o m g s;have dO:=fq (l 0 42 rfl (m 0 rfl));have R:v 15=false:=by
       cases h:v 15 with
       |false=>rfl
       |true=>have:=q 15 1 rfl h;rw[z] at this;cases this
      obtain⟨L,M,F,h1, -⟩:=g.b;rw[R] at h1;obtain rfl:L=kv:=h1;have c5:B.cell? ⟨C,5,none⟩=some L:=F.cell 5;clear q l o m;go_simp;exact s _ _ rfl (by simpa[dn] using g) Sy
     .intro v a B K z q l o m g s;have dP:a.tmps[10]?.getD undef=.string p.1:=o 10 rfl;clear q l o m;go_simp;exact s _ _ rfl (by simpa[dn] using g) Sy
     .intro v a B K z q l o m g s;have dQ:=fq (l 2 44 rfl (m 2 rfl));clear q l o m;go_simp;refine s _ _ ⟨_,rfl,g.lu,ay.new _ [.string p.1] _⟩ (by simpa[dn] using g.df ((O.refl _ _).alloc _)) (λ_ _ _ _ h=>h.aP ((O.refl _ _).alloc _))
     .intro v a B K z q l o m g s;have bM:=fq (l 1 43 rfl (m 1 rfl));obtain⟨t,bP,aW,ak⟩:=l 3 45 rfl (m 3 rfl);have R:v 15=false:=by
       cases h:v 15 with
       |false=>rfl
       |true=>have:=q 15 4 rfl h;rw[z] at this;cases this
      have S:v 17=false:=by
       cases h:v 17 with
       |false=>rfl
       |true=>have:=q 17 4 rfl h;rw[z] at this;cases this
      rw[R,S] at g;refine ax rfl ?_;refine bJ iK rfl (vE bM) g.ck (vE bP) (ak.kT rfl) (by simp[Value.oneCell']) (by simp only[gp,List.length_map,List.length_singleton];have:=bH;omega) (by decide) (Nat.le_trans g.bb g.lu) λv' N E D hB az=> ?_
      have aC:=g.cl.X D (λk y aF=>g.ck.apart g.cl (by decide) aF y);refine s v' N E (by simpa[dn,R,S] using g.app D (λk y=>(g.ck.elem y).1) az aC) ?_;refine λj A _ u I=>I.keep D (aV (i:=4) (λj H A=> ?_) j A)
      match j,A with
      |0,_|1,_|2,_=>exact trivial
      |3,_=>exact λk y=>g.tZ k y
      |4,A=>exact absurd rfl A
      |5,_|6,_|7,_|8,_|9,_|10,_|11,_=>exact trivial
      |12,_=>exact λk y=>g.tZ k y
      |13,_=>exact λk y _=>g.ck.iL (by decide) y
      |14,_|15,_|16,_|17,_=>exact trivial
      |j+18,_=>exact absurd H (by simp)
     .intro v a B K z q l o m g s;have e7:a.tmps[7]?.getD undef=.pointer (some ⟨C,0,none⟩):=o 7 rfl;clear q l o m;go_simp;exact s _ _ rfl (by simpa[dn] using g) Sy
     .intro v a B K z q l o m g s;have dR:=fq (l 5 47 rfl (m 5 rfl));have S:v 17=false:=by
       cases h:v 17 with
       |false=>rfl
       |true=>have:=q 17 6 rfl h;rw[z] at this;cases this
      obtain⟨L,M,F, -,h2⟩:=g.b;rw[S] at h2;obtain rfl:M=lv:=h2;have c6:B.cell? ⟨C,6,none⟩=some M:=F.cell 6;clear q l o m;go_simp;exact s _ _ rfl (by simpa[dn] using g) Sy
     .intro v a B K z q l o m g s;have e3:a.tmps[3]?.getD undef=.pointer (some ⟨w.heap.size,0,none⟩):=o 3 rfl;clear q l o m;go_simp;exact s _ _ rfl (by simpa[dn] using g) Sy
     .intro v a B K z q l o m g s;have dS:=fq (l 7 49 rfl (m 7 rfl));have c6:B.cell? ⟨w.heap.size,6,none⟩=some (.slice (some ⟨lb,lo,none⟩) aZ.length lc):=(g.bs _ M0.o).1.cell 6;clear q l o m;go_simp;exact s _ _ rfl (by simpa[dn] using g) Sy
     .intro v a B K z q l o m g s;have e9:a.tmps[9]?.getD undef=.int .i64 n:=o 9 rfl;clear q l o m;go_simp;exact s _ _ rfl (by simpa[dn] using g) Sy
     .intro v a B K z q l o m g s;have dU:=fq (l 8 50 rfl (m 8 rfl));have dV:=fq (l 9 51 rfl (m 9 rfl));clear q l o m;go_simp;exact s _ _ rfl (by simpa[dn] using g) Sy
     .intro v a B K z q l o m g s;have bQ:=fq (l 10 52 rfl (m 10 rfl));refine ax rfl ?_;refine aO au rfl (vE bQ) (di.X g.X id) dm ?_;exact s _ _ rfl (by simpa[dn] using g) Sy
     .intro v a B K z q l o m g s;have bT:=fq (l 11 53 rfl (m 11 rfl));clear q l o m;unfold ai at bT;go_simp;refine s _ _ ⟨_,rfl,g.lu,ay.new _ (ai W rb ri rf rt af aj) _⟩ (by simpa[dn] using g.df ((O.refl _ _).alloc _)) (λ_ _ _ _ h=>h.aP ((O.refl _ _).alloc _))
     .intro v a B K z q l o m g s;have bV:=fq (l 6 48 rfl (m 6 rfl));obtain⟨t,bW,aW,ak⟩:=l 12 54 rfl (m 12 rfl);have R:v 15=false:=by
       cases h:v 15 with
       |false=>rfl
       |true=>have:=q 15 13 rfl h;rw[z] at this;cases this
      have S:v 17=false:=by
       cases h:v 17 with
       |false=>rfl
       |true=>have:=q 17 13 rfl h;rw[z] at this;cases this
      rw[R,S] at g;refine ax rfl ?_;refine bJ nC rfl (vE bV) g.cl (vE bW) (ak.kT rfl) (by intro r hr;obtain rfl:=List.mem_singleton.1 hr;exact bG.o.one) (by simp only[List.length_singleton];have:=bH;have:=HI.o.rv.1;omega) (by decide) (Nat.le_trans g.bb g.lu) λv' N E D hB az=> ?_
      have aC:=g.ck.X D (λk y aF=>g.cl.apart g.ck (by decide) aF y);refine s v' N E (by simpa[dn,R,S] using g.app D (λk y=>(g.cl.elem y).1) aC az) ?_;refine λj A _ u I=>I.keep D (aV (i:=13) (λj H A=> ?_) j A)
      match j,A with
      |0,_|1,_|2,_=>exact trivial
      |3,_=>exact λk y=>g.uf k y
      |4,_=>exact λk y _=>g.cl.iL (by decide) y
      |5,_|6,_|7,_|8,_|9,_|10,_|11,_=>exact trivial
      |12,_=>exact λk y=>g.uf k y
      |13,A=>exact absurd rfl A
      |14,_|15,_|16,_|17,_=>exact trivial
      |j+18,_=>exact absurd H (by simp)
     .intro v a B K z q l o m g s;have e7:a.tmps[7]?.getD undef=.pointer (some ⟨C,0,none⟩):=o 7 rfl;clear q l o m;go_simp;exact s _ _ rfl (by simpa[dn] using g) Sy
     .intro v a B K z q l o m g s;have dW:=fq (l 14 56 rfl (m 14 rfl));have E:=l 4 46 rfl (m 4 rfl);obtain⟨sa,sn,sc,G⟩:=aB.slice E;rw[z] at g;obtain⟨L,M,F, -, -⟩:=g.b;have c5:B.cell? ⟨C,5,none⟩=some L:=F.cell 5;have f5:B.frozen? ⟨C,5,none⟩=false:=F.frozen 5;change aB _ _ _ _ _ _ at E;rw[G] at E;have dX:=G;obtain⟨Q,D⟩:=g.tH E;have aH:=Z Q;have aI:=Z D;have bz:=g.gb;have bC:=Nat.lt_of_lt_of_le g.gb g.bb;clear q l o m;clear G g E Q D;go_simp;refine s undef _ trivial (by simpa[dn] using aH.o) ?_;have D:=aI.o;refine λj A _ u I=>I.keep D (aV (i:=15) (λj H A=> ?_) j A)
      match j,A with
      |0,_|1,_|2,_=>exact trivial
      |3,_=>exact λk y=>by omega
      |4,_=>exact λk y F=>by omega
      |5,_|6,_|7,_|8,_|9,_|10,_|11,_=>exact trivial
      |12,_=>exact λk y=>by omega
      |13,_=>exact λk y F=>by omega
      |14,_=>exact trivial
      |15,A=>exact absurd rfl A
      |16,_|17,_=>exact trivial
      |j+18,_=>exact absurd H (by simp)
     .intro v a B K z q l o m g s;have e7:a.tmps[7]?.getD undef=.pointer (some ⟨C,0,none⟩):=o 7 rfl;clear q l o m;go_simp;exact s _ _ rfl (by simpa[dn] using g) Sy
     .intro v a B K z q l o m g s;have dY:=fq (l 16 57 rfl (m 16 rfl));have E:=l 13 55 rfl (m 13 rfl);obtain⟨sa,sn,sc,G⟩:=aB.slice E;rw[z] at g;obtain⟨L,M,F, -, -⟩:=g.b;have c5:B.cell? ⟨C,6,none⟩=some M:=F.cell 6;have f5:B.frozen? ⟨C,6,none⟩=false:=F.frozen 6;change aB _ _ _ _ _ _ at E;rw[G] at E;have dZ:=G;obtain⟨Q,D⟩:=g.tJ E;have aH:=Z Q;have aI:=Z D;have bz:=g.gb;have bC:=Nat.lt_of_lt_of_le g.gb g.bb;clear q l o m;clear G g E Q D;go_simp;refine s undef _ trivial (by simpa[dn] using aH.o) ?_;have D:=aI.o;refine λj A _ u I=>I.keep D (aV (i:=17) (λj H A=> ?_) j A)
      match j,A with
      |0,_|1,_|2,_=>exact trivial
      |3,_=>exact λk y=>by omega
      |4,_=>exact λk y F=>by omega
      |5,_|6,_|7,_|8,_|9,_|10,_|11,_=>exact trivial
      |12,_=>exact λk y=>by omega
      |13,_=>exact λk y F=>by omega
      |14,_|15,_|16,_=>exact trivial
      |17,A=>exact absurd rfl A
      |j+18,_=>exact absurd H (by simp)
    .intro vs w2 bg _ g;obtain⟨k9,l9,h9⟩:=eP.o g HI.o.rv bG.o;have H9:=Z h9;clear h9 g bg;simp only[aX,Act.put,List.setIfInBounds_toArray,List.set_cons_succ,List.set_cons_zero];go_wp2_with fail;go_roundw;case rel=>exact⟨n+1,true,U++[p],aN++[(ai W rb ri rf rt af aj)],k9,l9,by omega,rfl,by go_num,bI.o,H9.o⟩
     case measure=>simp[intOf];omega
   |false=>
    by_cases y:jg p.1 P
    .have eF:Op.bytesLess p.1.toList P.toList=true:=by rw[jM];simpa using y
     obtain⟨aY,bF⟩:=HA.o.MF HP.o y;have dw:(p.1.toList==P.toList)=false:=by rw[aS];simpa using aY
     have bI:=Z bF;clear aY bF y;go_wp2_with fail;refine aT (FI [.eq (.pointer (some ⟨C,5,none⟩)),.eq kv,.eq (.string p.1),.ng wr.heap.size [.string p.1] 9,.own (C+1) 9 1 (gp U++[[.string p.1]]),.eq (.pointer (some ⟨C,6,none⟩)),.eq lv,.eq (.pointer (some ⟨w.heap.size,6,none⟩)),.eq (.slice (some ⟨lb,lo,none⟩) aZ.length lc),.eq (.int .i64 n),.eq (.pointer (some ⟨lb,lo+n*7,none⟩)),.eq (.agg (ai W rb ri rf rt af aj).toArray),.ng wr.heap.size (ai W rb ri rf rt af aj) 26,.own (C+1) 26 7 (aN++[(ai W rb ri rf rt af aj)]),.eq (.pointer (some ⟨C,5,none⟩)),.any,.eq (.pointer (some ⟨C,6,none⟩)),.any])
      (λv N=>eP ok w N wr.heap.size bf C (C+1) U aN kv lv p.1 (ai W rb ri rf rt af aj) (v 15) (v 17))
      (by kernel_rfl) (by kernel_rfl) (HI.o.mid _ _) ?_ ?_
     .refine⟨?_,?_,?_,?_,?_,?_,?_,?_,?_,?_,?_,?_,?_,?_,?_,?_,?_,?_,trivial⟩
      .intro v a B K z q l o m g s;have e7:a.tmps[7]?.getD undef=.pointer (some ⟨C,0,none⟩):=o 7 rfl;clear q l o m;go_simp;exact s _ _ rfl (by simpa[dn] using g) Sy
      .intro v a B K z q l o m g s;have dO:=fq (l 0 42 rfl (m 0 rfl));have R:v 15=false:=by
        cases h:v 15 with
        |false=>rfl
        |true=>have:=q 15 1 rfl h;rw[z] at this;cases this
       obtain⟨L,M,F,h1, -⟩:=g.b;rw[R] at h1;obtain rfl:L=kv:=h1;have c5:B.cell? ⟨C,5,none⟩=some L:=F.cell 5;clear q l o m;go_simp;exact s _ _ rfl (by simpa[dn] using g) Sy
      .intro v a B K z q l o m g s;have dP:a.tmps[10]?.getD undef=.string p.1:=o 10 rfl;clear q l o m;go_simp;exact s _ _ rfl (by simpa[dn] using g) Sy
      .intro v a B K z q l o m g s;have dQ:=fq (l 2 44 rfl (m 2 rfl));clear q l o m;go_simp;refine s _ _ ⟨_,rfl,g.lu,ay.new _ [.string p.1] _⟩ (by simpa[dn] using g.df ((O.refl _ _).alloc _)) (λ_ _ _ _ h=>h.aP ((O.refl _ _).alloc _))
      .intro v a B K z q l o m g s;have bM:=fq (l 1 43 rfl (m 1 rfl));obtain⟨t,bP,aW,ak⟩:=l 3 45 rfl (m 3 rfl);have R:v 15=false:=by
        cases h:v 15 with
        |false=>rfl
        |true=>have:=q 15 4 rfl h;rw[z] at this;cases this
       have S:v 17=false:=by
        cases h:v 17 with
        |false=>rfl
        |true=>have:=q 17 4 rfl h;rw[z] at this;cases this
       rw[R,S] at g;refine ax rfl ?_;refine bJ iK rfl (vE bM) g.ck (vE bP) (ak.kT rfl) (by simp[Value.oneCell']) (by simp only[gp,List.length_map,List.length_singleton];have:=bH;omega) (by decide) (Nat.le_trans g.bb g.lu) λv' N E D hB az=> ?_
       have aC:=g.cl.X D (λk y aF=>g.ck.apart g.cl (by decide) aF y);refine s v' N E (by simpa[dn,R,S] using g.app D (λk y=>(g.ck.elem y).1) az aC) ?_;refine λj A _ u I=>I.keep D (aV (i:=4) (λj H A=> ?_) j A)
       match j,A with
       |0,_|1,_|2,_=>exact trivial
       |3,_=>exact λk y=>g.tZ k y
       |4,A=>exact absurd rfl A
       |5,_|6,_|7,_|8,_|9,_|10,_|11,_=>exact trivial
       |12,_=>exact λk y=>g.tZ k y
       |13,_=>exact λk y _=>g.ck.iL (by decide) y
       |14,_|15,_|16,_|17,_=>exact trivial
       |j+18,_=>exact absurd H (by simp)
      .intro v a B K z q l o m g s;have e7:a.tmps[7]?.getD undef=.pointer (some ⟨C,0,none⟩):=o 7 rfl;clear q l o m;go_simp;exact s _ _ rfl (by simpa[dn] using g) Sy
      .intro v a B K z q l o m g s;have dR:=fq (l 5 47 rfl (m 5 rfl));have S:v 17=false:=by
        cases h:v 17 with
        |false=>rfl
        |true=>have:=q 17 6 rfl h;rw[z] at this;cases this
       obtain⟨L,M,F, -,h2⟩:=g.b;rw[S] at h2;obtain rfl:M=lv:=h2;have c6:B.cell? ⟨C,6,none⟩=some M:=F.cell 6;clear q l o m;go_simp;exact s _ _ rfl (by simpa[dn] using g) Sy
      .intro v a B K z q l o m g s;have e3:a.tmps[3]?.getD undef=.pointer (some ⟨w.heap.size,0,none⟩):=o 3 rfl;clear q l o m;go_simp;exact s _ _ rfl (by simpa[dn] using g) Sy
      .intro v a B K z q l o m g s;have dS:=fq (l 7 49 rfl (m 7 rfl));have c6:B.cell? ⟨w.heap.size,6,none⟩=some (.slice (some ⟨lb,lo,none⟩) aZ.length lc):=(g.bs _ M0.o).1.cell 6;clear q l o m;go_simp;exact s _ _ rfl (by simpa[dn] using g) Sy
      .intro v a B K z q l o m g s;have e9:a.tmps[9]?.getD undef=.int .i64 n:=o 9 rfl;clear q l o m;go_simp;exact s _ _ rfl (by simpa[dn] using g) Sy
      .intro v a B K z q l o m g s;have dU:=fq (l 8 50 rfl (m 8 rfl));have dV:=fq (l 9 51 rfl (m 9 rfl));clear q l o m;go_simp;exact s _ _ rfl (by simpa[dn] using g) Sy
      .intro v a B K z q l o m g s;have bQ:=fq (l 10 52 rfl (m 10 rfl));refine ax rfl ?_;refine aO au rfl (vE bQ) (di.X g.X id) dm ?_;exact s _ _ rfl (by simpa[dn] using g) Sy
      .intro v a B K z q l o m g s;have bT:=fq (l 11 53 rfl (m 11 rfl));clear q l o m;unfold ai at bT;go_simp;refine s _ _ ⟨_,rfl,g.lu,ay.new _ (ai W rb ri rf rt af aj) _⟩ (by simpa[dn] using g.df ((O.refl _ _).alloc _)) (λ_ _ _ _ h=>h.aP ((O.refl _ _).alloc _))
      .intro v a B K z q l o m g s;have bV:=fq (l 6 48 rfl (m 6 rfl));obtain⟨t,bW,aW,ak⟩:=l 12 54 rfl (m 12 rfl);have R:v 15=false:=by
        cases h:v 15 with
        |false=>rfl
        |true=>have:=q 15 13 rfl h;rw[z] at this;cases this
       have S:v 17=false:=by
        cases h:v 17 with
        |false=>rfl
        |true=>have:=q 17 13 rfl h;rw[z] at this;cases this
       rw[R,S] at g;refine ax rfl ?_;refine bJ nC rfl (vE bV) g.cl (vE bW) (ak.kT rfl) (by intro r hr;obtain rfl:=List.mem_singleton.1 hr;exact bG.o.one) (by simp only[List.length_singleton];have:=bH;have:=HI.o.rv.1;omega) (by decide) (Nat.le_trans g.bb g.lu) λv' N E D hB az=> ?_
       have aC:=g.ck.X D (λk y aF=>g.cl.apart g.ck (by decide) aF y);refine s v' N E (by simpa[dn,R,S] using g.app D (λk y=>(g.cl.elem y).1) aC az) ?_;refine λj A _ u I=>I.keep D (aV (i:=13) (λj H A=> ?_) j A)
       match j,A with
       |0,_|1,_|2,_=>exact trivial
       |3,_=>exact λk y=>g.uf k y
       |4,_=>exact λk y _=>g.cl.iL (by decide) y
       |5,_|6,_|7,_|8,_|9,_|10,_|11,_=>exact trivial
       |12,_=>exact λk y=>g.uf k y
       |13,A=>exact absurd rfl A
       |14,_|15,_|16,_|17,_=>exact trivial
       |j+18,_=>exact absurd H (by simp)
      .intro v a B K z q l o m g s;have e7:a.tmps[7]?.getD undef=.pointer (some ⟨C,0,none⟩):=o 7 rfl;clear q l o m;go_simp;exact s _ _ rfl (by simpa[dn] using g) Sy
      .intro v a B K z q l o m g s;have dW:=fq (l 14 56 rfl (m 14 rfl));have E:=l 4 46 rfl (m 4 rfl);obtain⟨sa,sn,sc,G⟩:=aB.slice E;rw[z] at g;obtain⟨L,M,F, -, -⟩:=g.b;have c5:B.cell? ⟨C,5,none⟩=some L:=F.cell 5;have f5:B.frozen? ⟨C,5,none⟩=false:=F.frozen 5;change aB _ _ _ _ _ _ at E;rw[G] at E;have dX:=G;obtain⟨Q,D⟩:=g.tH E;have aH:=Z Q;have aI:=Z D;have bz:=g.gb;have bC:=Nat.lt_of_lt_of_le g.gb g.bb;clear q l o m;clear G g E Q D;go_simp;refine s undef _ trivial (by simpa[dn] using aH.o) ?_;have D:=aI.o;refine λj A _ u I=>I.keep D (aV (i:=15) (λj H A=> ?_) j A)
       match j,A with
       |0,_|1,_|2,_=>exact trivial
       |3,_=>exact λk y=>by omega
       |4,_=>exact λk y F=>by omega
       |5,_|6,_|7,_|8,_|9,_|10,_|11,_=>exact trivial
       |12,_=>exact λk y=>by omega
       |13,_=>exact λk y F=>by omega
       |14,_=>exact trivial
       |15,A=>exact absurd rfl A
       |16,_|17,_=>exact trivial
       |j+18,_=>exact absurd H (by simp)
      .intro v a B K z q l o m g s;have e7:a.tmps[7]?.getD undef=.pointer (some ⟨C,0,none⟩):=o 7 rfl;clear q l o m;go_simp;exact s _ _ rfl (by simpa[dn] using g) Sy
      .intro v a B K z q l o m g s;have dY:=fq (l 16 57 rfl (m 16 rfl));have E:=l 13 55 rfl (m 13 rfl);obtain⟨sa,sn,sc,G⟩:=aB.slice E;rw[z] at g;obtain⟨L,M,F, -, -⟩:=g.b;have c5:B.cell? ⟨C,6,none⟩=some M:=F.cell 6;have f5:B.frozen? ⟨C,6,none⟩=false:=F.frozen 6;change aB _ _ _ _ _ _ at E;rw[G] at E;have dZ:=G;obtain⟨Q,D⟩:=g.tJ E;have aH:=Z Q;have aI:=Z D;have bz:=g.gb;have bC:=Nat.lt_of_lt_of_le g.gb g.bb;clear q l o m;clear G g E Q D;go_simp;refine s undef _ trivial (by simpa[dn] using aH.o) ?_;have D:=aI.o;refine λj A _ u I=>I.keep D (aV (i:=17) (λj H A=> ?_) j A)
       match j,A with
       |0,_|1,_|2,_=>exact trivial
       |3,_=>exact λk y=>by omega
       |4,_=>exact λk y F=>by omega
       |5,_|6,_|7,_|8,_|9,_|10,_|11,_=>exact trivial
       |12,_=>exact λk y=>by omega
       |13,_=>exact λk y F=>by omega
       |14,_|15,_|16,_=>exact trivial
       |17,A=>exact absurd rfl A
       |j+18,_=>exact absurd H (by simp)
     .intro vs w2 bg _ g;obtain⟨k9,l9,h9⟩:=eP.o g HI.o.rv bG.o;have H9:=Z h9;clear h9 g bg;simp only[aX,Act.put,List.setIfInBounds_toArray,List.set_cons_succ,List.set_cons_zero];go_wp2_with fail;go_roundw;case rel=>exact⟨n+1,false,U++[p],aN++[(ai W rb ri rf rt af aj)],k9,l9,by omega,rfl,by go_num,bI.o,H9.o⟩
      case measure=>simp[intOf];omega
    .have eF:Op.bytesLess p.1.toList P.toList=false:=by rw[jM];simpa using y
     have bF:=HA.o.MH HP.o y;have dA:U.length<=n:=by obtain⟨e, -⟩:=HA.o.BN rfl;rw[e];exact List.length_take_le _ _
     clear y;have bI:=Z bF;clear bF;go_wp2_with fail;refine aT (FI [.eq (.pointer (some ⟨C,5,none⟩)),.eq kv,.eq (.string P),.ng wr.heap.size [.string P] 9,.own (C+1) 9 1 (gp U++[[.string P]]),.eq (.pointer (some ⟨C,6,none⟩)),.eq lv,.eq (.agg (ai vk vb vi vf vt aJ aK).toArray),.ng wr.heap.size (ai vk vb vi vf vt aJ aK) 26,.own (C+1) 26 7 (aN++[(ai vk vb vi vf vt aJ aK)]),.eq (.pointer (some ⟨C,5,none⟩)),.any,.eq (.pointer (some ⟨C,6,none⟩)),.any,.eq (.bool true)])
      (λv N=>eP ok w N wr.heap.size bf C (C+1) U aN kv lv P (ai vk vb vi vf vt aJ aK) (v 11) (v 13))
      (by kernel_rfl) (by kernel_rfl) (HI.o.mid _ _) ?_ ?_
     .refine⟨?_,?_,?_,?_,?_,?_,?_,?_,?_,?_,?_,?_,?_,?_,?_,trivial⟩
      .intro v a B K z q l o m g s;have e7:a.tmps[7]?.getD undef=.pointer (some ⟨C,0,none⟩):=o 7 rfl;clear q l o m;go_simp;exact s _ _ rfl (by simpa[dn] using g) Sy
      .intro v a B K z q l o m g s;have fP:=fq (l 0 27 rfl (m 0 rfl));have aQ:v 11=false:=by
        cases h:v 11 with
        |false=>rfl
        |true=>have:=q 11 1 rfl h;rw[z] at this;cases this
       obtain⟨L,M,F,h1, -⟩:=g.b;rw[aQ] at h1;obtain rfl:L=kv:=h1;have c5:B.cell? ⟨C,5,none⟩=some L:=F.cell 5;clear q l o m;go_simp;exact s _ _ rfl (by simpa[dn] using g) Sy
      .intro v a B K z q l o m g s;have e1:a.tmps[1]?.getD undef=.string P:=o 1 rfl;clear q l o m;go_simp;exact s _ _ rfl (by simpa[dn] using g) Sy
      .intro v a B K z q l o m g s;have fQ:=fq (l 2 29 rfl (m 2 rfl));clear q l o m;go_simp;refine s _ _ ⟨_,rfl,g.lu,ay.new _ [.string P] _⟩ (by simpa[dn] using g.df ((O.refl _ _).alloc _)) (λ_ _ _ _ h=>h.aP ((O.refl _ _).alloc _))
      .intro v a B K z q l o m g s;have eG:=fq (l 1 28 rfl (m 1 rfl));obtain⟨t,eH,aW,ak⟩:=l 3 30 rfl (m 3 rfl);have aQ:v 11=false:=by
        cases h:v 11 with
        |false=>rfl
        |true=>have:=q 11 4 rfl h;rw[z] at this;cases this
       have aU:v 13=false:=by
        cases h:v 13 with
        |false=>rfl
        |true=>have:=q 13 4 rfl h;rw[z] at this;cases this
       rw[aQ,aU] at g;refine ax rfl ?_;refine bJ iK rfl (vE eG) g.ck (vE eH) (ak.kT rfl) (by simp[Value.oneCell']) (by simp only[gp,List.length_map,List.length_singleton];have:=bH;omega) (by decide) (Nat.le_trans g.bb g.lu) λv' N E D hB az=> ?_
       have aC:=g.cl.X D (λk y aF=>g.ck.apart g.cl (by decide) aF y);refine s v' N E (by simpa[dn,aQ,aU] using g.app D (λk y=>(g.ck.elem y).1) az aC) ?_;refine λj A _ u I=>I.keep D (aV (i:=4) (λj H A=> ?_) j A)
       match j,A with
       |0,_|1,_|2,_=>exact trivial
       |3,_=>exact λk y=>g.tZ k y
       |4,A=>exact absurd rfl A
       |5,_|6,_|7,_=>exact trivial
       |8,_=>exact λk y=>g.tZ k y
       |9,_=>exact λk y _=>g.ck.iL (by decide) y
       |10,_|11,_|12,_|13,_|14,_=>exact trivial
       |j+15,_=>exact absurd H (by simp)
      .intro v a B K z q l o m g s;have e7:a.tmps[7]?.getD undef=.pointer (some ⟨C,0,none⟩):=o 7 rfl;clear q l o m;go_simp;exact s _ _ rfl (by simpa[dn] using g) Sy
      .intro v a B K z q l o m g s;have fU:=fq (l 5 32 rfl (m 5 rfl));have aU:v 13=false:=by
        cases h:v 13 with
        |false=>rfl
        |true=>have:=q 13 6 rfl h;rw[z] at this;cases this
       obtain⟨L,M,F, -,h2⟩:=g.b;rw[aU] at h2;obtain rfl:M=lv:=h2;have c6:B.cell? ⟨C,6,none⟩=some M:=F.cell 6;clear q l o m;go_simp;exact s _ _ rfl (by simpa[dn] using g) Sy
      .intro v a B K z q l o m g s;have e5:a.tmps[5]?.getD undef=.pointer (some ⟨g1,0,none⟩):=o 5 rfl;have dB:ay B g1 (ai vk vb vi vf vt aJ aK) 26:=(g.bs _ M1.o).1;refine ax rfl ?_;refine aO au rfl (vE e5) dB.cells rfl ?_;exact s _ _ rfl (by simpa[dn] using g) Sy
      .intro v a B K z q l o m g s;have eQ:=fq (l 7 34 rfl (m 7 rfl));clear q l o m;unfold ai at eQ;go_simp;refine s _ _ ⟨_,rfl,g.lu,ay.new _ (ai vk vb vi vf vt aJ aK) _⟩ (by simpa[dn] using g.df ((O.refl _ _).alloc _)) (λ_ _ _ _ h=>h.aP ((O.refl _ _).alloc _))
      .intro v a B K z q l o m g s;have eU:=fq (l 6 33 rfl (m 6 rfl));obtain⟨t,eX,aW,ak⟩:=l 8 35 rfl (m 8 rfl);have aQ:v 11=false:=by
        cases h:v 11 with
        |false=>rfl
        |true=>have:=q 11 9 rfl h;rw[z] at this;cases this
       have aU:v 13=false:=by
        cases h:v 13 with
        |false=>rfl
        |true=>have:=q 13 9 rfl h;rw[z] at this;cases this
       rw[aQ,aU] at g;refine ax rfl ?_;refine bJ nC rfl (vE eU) g.cl (vE eX) (ak.kT rfl) (by intro r hr;obtain rfl:=List.mem_singleton.1 hr;exact HV.o.one) (by simp only[List.length_singleton];have:=bH;have:=HI.o.rv.1;omega) (by decide) (Nat.le_trans g.bb g.lu) λv' N E D hB az=> ?_
       have aC:=g.ck.X D (λk y aF=>g.cl.apart g.ck (by decide) aF y);refine s v' N E (by simpa[dn,aQ,aU] using g.app D (λk y=>(g.cl.elem y).1) aC az) ?_;refine λj A _ u I=>I.keep D (aV (i:=9) (λj H A=> ?_) j A)
       match j,A with
       |0,_|1,_|2,_=>exact trivial
       |3,_=>exact λk y=>g.uf k y
       |4,_=>exact λk y _=>g.cl.iL (by decide) y
       |5,_|6,_|7,_=>exact trivial
       |8,_=>exact λk y=>g.uf k y
       |9,A=>exact absurd rfl A
       |10,_|11,_|12,_|13,_|14,_=>exact trivial
       |j+15,_=>exact absurd H (by simp)
      .intro v a B K z q l o m g s;have e7:a.tmps[7]?.getD undef=.pointer (some ⟨C,0,none⟩):=o 7 rfl;clear q l o m;go_simp;exact s _ _ rfl (by simpa[dn] using g) Sy
      .intro v a B K z q l o m g s;have fV:=fq (l 10 37 rfl (m 10 rfl));have E:=l 4 31 rfl (m 4 rfl);obtain⟨sa,sn,sc,G⟩:=aB.slice E;rw[z] at g;obtain⟨L,M,F, -, -⟩:=g.b;have c5:B.cell? ⟨C,5,none⟩=some L:=F.cell 5;have f5:B.frozen? ⟨C,5,none⟩=false:=F.frozen 5;change aB _ _ _ _ _ _ at E;rw[G] at E;have fZ:=G;obtain⟨Q,D⟩:=g.tH E;have aH:=Z Q;have aI:=Z D;have bz:=g.gb;have bC:=Nat.lt_of_lt_of_le g.gb g.bb;clear q l o m;clear G g E Q D;go_simp;refine s undef _ trivial (by simpa[dn] using aH.o) ?_;have D:=aI.o;refine λj A _ u I=>I.keep D (aV (i:=11) (λj H A=> ?_) j A)
       match j,A with
       |0,_|1,_|2,_=>exact trivial
       |3,_=>exact λk y=>by omega
       |4,_=>exact λk y F=>by omega
       |5,_|6,_|7,_=>exact trivial
       |8,_=>exact λk y=>by omega
       |9,_=>exact λk y F=>by omega
       |10,_=>exact trivial
       |11,A=>exact absurd rfl A
       |12,_|13,_|14,_=>exact trivial
       |j+15,_=>exact absurd H (by simp)
      .intro v a B K z q l o m g s;have e7:a.tmps[7]?.getD undef=.pointer (some ⟨C,0,none⟩):=o 7 rfl;clear q l o m;go_simp;exact s _ _ rfl (by simpa[dn] using g) Sy
      .intro v a B K z q l o m g s;have gm:=fq (l 12 38 rfl (m 12 rfl));have E:=l 9 36 rfl (m 9 rfl);obtain⟨sa,sn,sc,G⟩:=aB.slice E;rw[z] at g;obtain⟨L,M,F, -, -⟩:=g.b;have c5:B.cell? ⟨C,6,none⟩=some M:=F.cell 6;have f5:B.frozen? ⟨C,6,none⟩=false:=F.frozen 6;change aB _ _ _ _ _ _ at E;rw[G] at E;have gq:=G;obtain⟨Q,D⟩:=g.tJ E;have aH:=Z Q;have aI:=Z D;have bz:=g.gb;have bC:=Nat.lt_of_lt_of_le g.gb g.bb;clear q l o m;clear G g E Q D;go_simp;refine s undef _ trivial (by simpa[dn] using aH.o) ?_;have D:=aI.o;refine λj A _ u I=>I.keep D (aV (i:=13) (λj H A=> ?_) j A)
       match j,A with
       |0,_|1,_|2,_=>exact trivial
       |3,_=>exact λk y=>by omega
       |4,_=>exact λk y F=>by omega
       |5,_|6,_|7,_=>exact trivial
       |8,_=>exact λk y=>by omega
       |9,_=>exact λk y F=>by omega
       |10,_|11,_|12,_=>exact trivial
       |13,A=>exact absurd rfl A
       |14,_=>exact trivial
       |j+15,_=>exact absurd H (by simp)
      .intro v a B K z q l o m g s;clear q l o m;go_simp;exact s _ _ rfl (by simpa[dn] using g) Sy
     .intro vs w2 bg _ g;obtain⟨k7,l7,h7⟩:=eP.o g HI.o.rv HV.o;have e8:vs 14=.bool true:=bg 14 _ rfl (by simp);have bn:=Z h7;clear h7 g bg;simp only[aX,Act.put,List.setIfInBounds_toArray,List.set_cons_succ,List.set_cons_zero,e8];by_cases aY:p.1=P
      .have dw:(p.1.toList==P.toList)=true:=by rw[aS];simpa using aY
       have dC:=Z aY;clear aY;go_wp2_with fail;go_roundw;case rel=>exact⟨n+1,true,U++[(P,x)],aN++[(ai vk vb vi vf vt aJ aK)],k7,l7,by omega,rfl,by go_num,by have:=bI.o;rwa[if_pos dC.o] at this,bn.o⟩
       case measure=>simp[intOf];omega
      .have dw:(p.1.toList==P.toList)=false:=by rw[aS];simpa using aY
       have dC:=Z aY;clear aY;have ed:(U++[(P,x)]).length<=n+1:=by simp;omega
       go_wp2_with fail
       refine aT (FI [.eq (.pointer (some ⟨C,5,none⟩)),.eq k7,.eq (.string p.1),.ng w2.heap.size [.string p.1] 9,.own (C+1) 9 1 (gp (U++[(P,x)])++[[.string p.1]]),.eq (.pointer (some ⟨C,6,none⟩)),.eq l7,.eq (.pointer (some ⟨w.heap.size,6,none⟩)),.eq (.slice (some ⟨lb,lo,none⟩) aZ.length lc),.eq (.int .i64 n),.eq (.pointer (some ⟨lb,lo+n*7,none⟩)),.eq (.agg (ai W rb ri rf rt af aj).toArray),.ng w2.heap.size (ai W rb ri rf rt af aj) 26,.own (C+1) 26 7 ((aN++[(ai vk vb vi vf vt aJ aK)])++[(ai W rb ri rf rt af aj)]),.eq (.pointer (some ⟨C,5,none⟩)),.any,.eq (.pointer (some ⟨C,6,none⟩)),.any])
        (λv N=>eP ok w N w2.heap.size bf C (C+1) (U++[(P,x)]) (aN++[(ai vk vb vi vf vt aJ aK)]) k7 l7 p.1 (ai W rb ri rf rt af aj) (v 15) (v 17))
        (by kernel_rfl) (by kernel_rfl) (bn.o.mid _ _) ?_ ?_
       .refine⟨?_,?_,?_,?_,?_,?_,?_,?_,?_,?_,?_,?_,?_,?_,?_,?_,?_,?_,trivial⟩
        .intro v a B K z q l o m g s;have e7:a.tmps[7]?.getD undef=.pointer (some ⟨C,0,none⟩):=o 7 rfl;clear q l o m;go_simp;exact s _ _ rfl (by simpa[dn] using g) Sy
        .intro v a B K z q l o m g s;have dO:=fq (l 0 42 rfl (m 0 rfl));have R:v 15=false:=by
          cases h:v 15 with
          |false=>rfl
          |true=>have:=q 15 1 rfl h;rw[z] at this;cases this
         obtain⟨L,M,F,h1, -⟩:=g.b;rw[R] at h1;obtain rfl:L=k7:=h1;have c5:B.cell? ⟨C,5,none⟩=some L:=F.cell 5;clear q l o m;go_simp;exact s _ _ rfl (by simpa[dn] using g) Sy
        .intro v a B K z q l o m g s;have dP:a.tmps[10]?.getD undef=.string p.1:=o 10 rfl;clear q l o m;go_simp;exact s _ _ rfl (by simpa[dn] using g) Sy
        .intro v a B K z q l o m g s;have dQ:=fq (l 2 44 rfl (m 2 rfl));clear q l o m;go_simp;refine s _ _ ⟨_,rfl,g.lu,ay.new _ [.string p.1] _⟩ (by simpa[dn] using g.df ((O.refl _ _).alloc _)) (λ_ _ _ _ h=>h.aP ((O.refl _ _).alloc _))
        .intro v a B K z q l o m g s;have bM:=fq (l 1 43 rfl (m 1 rfl));obtain⟨t,bP,aW,ak⟩:=l 3 45 rfl (m 3 rfl);have R:v 15=false:=by
          cases h:v 15 with
          |false=>rfl
          |true=>have:=q 15 4 rfl h;rw[z] at this;cases this
         have S:v 17=false:=by
          cases h:v 17 with
          |false=>rfl
          |true=>have:=q 17 4 rfl h;rw[z] at this;cases this
         rw[R,S] at g;refine ax rfl ?_;refine bJ iK rfl (vE bM) g.ck (vE bP) (ak.kT rfl) (by simp[Value.oneCell']) (by simp only[gp,List.length_map,List.length_singleton];have:=ed;omega) (by decide) (Nat.le_trans g.bb g.lu) λv' N E D hB az=> ?_
         have aC:=g.cl.X D (λk y aF=>g.ck.apart g.cl (by decide) aF y);refine s v' N E (by simpa[dn,R,S] using g.app D (λk y=>(g.ck.elem y).1) az aC) ?_;refine λj A _ u I=>I.keep D (aV (i:=4) (λj H A=> ?_) j A)
         match j,A with
         |0,_|1,_|2,_=>exact trivial
         |3,_=>exact λk y=>g.tZ k y
         |4,A=>exact absurd rfl A
         |5,_|6,_|7,_|8,_|9,_|10,_|11,_=>exact trivial
         |12,_=>exact λk y=>g.tZ k y
         |13,_=>exact λk y _=>g.ck.iL (by decide) y
         |14,_|15,_|16,_|17,_=>exact trivial
         |j+18,_=>exact absurd H (by simp)
        .intro v a B K z q l o m g s;have e7:a.tmps[7]?.getD undef=.pointer (some ⟨C,0,none⟩):=o 7 rfl;clear q l o m;go_simp;exact s _ _ rfl (by simpa[dn] using g) Sy
        .intro v a B K z q l o m g s;have dR:=fq (l 5 47 rfl (m 5 rfl));have S:v 17=false:=by
          cases h:v 17 with
          |false=>rfl
          |true=>have:=q 17 6 rfl h;rw[z] at this;cases this
         obtain⟨L,M,F, -,h2⟩:=g.b;rw[S] at h2;obtain rfl:M=l7:=h2;have c6:B.cell? ⟨C,6,none⟩=some M:=F.cell 6;clear q l o m;go_simp;exact s _ _ rfl (by simpa[dn] using g) Sy
        .intro v a B K z q l o m g s;have e3:a.tmps[3]?.getD undef=.pointer (some ⟨w.heap.size,0,none⟩):=o 3 rfl;clear q l o m;go_simp;exact s _ _ rfl (by simpa[dn] using g) Sy
        .intro v a B K z q l o m g s;have dS:=fq (l 7 49 rfl (m 7 rfl));have c6:B.cell? ⟨w.heap.size,6,none⟩=some (.slice (some ⟨lb,lo,none⟩) aZ.length lc):=(g.bs _ M0.o).1.cell 6;clear q l o m;go_simp;exact s _ _ rfl (by simpa[dn] using g) Sy
        .intro v a B K z q l o m g s;have e9:a.tmps[9]?.getD undef=.int .i64 n:=o 9 rfl;clear q l o m;go_simp;exact s _ _ rfl (by simpa[dn] using g) Sy
        .intro v a B K z q l o m g s;have dU:=fq (l 8 50 rfl (m 8 rfl));have dV:=fq (l 9 51 rfl (m 9 rfl));clear q l o m;go_simp;exact s _ _ rfl (by simpa[dn] using g) Sy
        .intro v a B K z q l o m g s;have bQ:=fq (l 10 52 rfl (m 10 rfl));refine ax rfl ?_;refine aO au rfl (vE bQ) (di.X g.X id) dm ?_;exact s _ _ rfl (by simpa[dn] using g) Sy
        .intro v a B K z q l o m g s;have bT:=fq (l 11 53 rfl (m 11 rfl));clear q l o m;unfold ai at bT;go_simp;refine s _ _ ⟨_,rfl,g.lu,ay.new _ (ai W rb ri rf rt af aj) _⟩ (by simpa[dn] using g.df ((O.refl _ _).alloc _)) (λ_ _ _ _ h=>h.aP ((O.refl _ _).alloc _))
        .intro v a B K z q l o m g s;have bV:=fq (l 6 48 rfl (m 6 rfl));obtain⟨t,bW,aW,ak⟩:=l 12 54 rfl (m 12 rfl);have R:v 15=false:=by
          cases h:v 15 with
          |false=>rfl
          |true=>have:=q 15 13 rfl h;rw[z] at this;cases this
         have S:v 17=false:=by
          cases h:v 17 with
          |false=>rfl
          |true=>have:=q 17 13 rfl h;rw[z] at this;cases this
         rw[R,S] at g;refine ax rfl ?_;refine bJ nC rfl (vE bV) g.cl (vE bW) (ak.kT rfl) (by intro r hr;obtain rfl:=List.mem_singleton.1 hr;exact bG.o.one) (by simp only[List.length_singleton];have:=ed;have:=bn.o.rv.1;omega) (by decide) (Nat.le_trans g.bb g.lu) λv' N E D hB az=> ?_
         have aC:=g.ck.X D (λk y aF=>g.cl.apart g.ck (by decide) aF y);refine s v' N E (by simpa[dn,R,S] using g.app D (λk y=>(g.cl.elem y).1) aC az) ?_;refine λj A _ u I=>I.keep D (aV (i:=13) (λj H A=> ?_) j A)
         match j,A with
         |0,_|1,_|2,_=>exact trivial
         |3,_=>exact λk y=>g.uf k y
         |4,_=>exact λk y _=>g.cl.iL (by decide) y
         |5,_|6,_|7,_|8,_|9,_|10,_|11,_=>exact trivial
         |12,_=>exact λk y=>g.uf k y
         |13,A=>exact absurd rfl A
         |14,_|15,_|16,_|17,_=>exact trivial
         |j+18,_=>exact absurd H (by simp)
        .intro v a B K z q l o m g s;have e7:a.tmps[7]?.getD undef=.pointer (some ⟨C,0,none⟩):=o 7 rfl;clear q l o m;go_simp;exact s _ _ rfl (by simpa[dn] using g) Sy
        .intro v a B K z q l o m g s;have dW:=fq (l 14 56 rfl (m 14 rfl));have E:=l 4 46 rfl (m 4 rfl);obtain⟨sa,sn,sc,G⟩:=aB.slice E;rw[z] at g;obtain⟨L,M,F, -, -⟩:=g.b;have c5:B.cell? ⟨C,5,none⟩=some L:=F.cell 5;have f5:B.frozen? ⟨C,5,none⟩=false:=F.frozen 5;change aB _ _ _ _ _ _ at E;rw[G] at E;have dX:=G;obtain⟨Q,D⟩:=g.tH E;have aH:=Z Q;have aI:=Z D;have bz:=g.gb;have bC:=Nat.lt_of_lt_of_le g.gb g.bb;clear q l o m;clear G g E Q D;go_simp;refine s undef _ trivial (by simpa[dn] using aH.o) ?_;have D:=aI.o;refine λj A _ u I=>I.keep D (aV (i:=15) (λj H A=> ?_) j A)
         match j,A with
         |0,_|1,_|2,_=>exact trivial
         |3,_=>exact λk y=>by omega
         |4,_=>exact λk y F=>by omega
         |5,_|6,_|7,_|8,_|9,_|10,_|11,_=>exact trivial
         |12,_=>exact λk y=>by omega
         |13,_=>exact λk y F=>by omega
         |14,_=>exact trivial
         |15,A=>exact absurd rfl A
         |16,_|17,_=>exact trivial
         |j+18,_=>exact absurd H (by simp)
        .intro v a B K z q l o m g s;have e7:a.tmps[7]?.getD undef=.pointer (some ⟨C,0,none⟩):=o 7 rfl;clear q l o m;go_simp;exact s _ _ rfl (by simpa[dn] using g) Sy
        .intro v a B K z q l o m g s;have dY:=fq (l 16 57 rfl (m 16 rfl));have E:=l 13 55 rfl (m 13 rfl);obtain⟨sa,sn,sc,G⟩:=aB.slice E;rw[z] at g;obtain⟨L,M,F, -, -⟩:=g.b;have c5:B.cell? ⟨C,6,none⟩=some M:=F.cell 6;have f5:B.frozen? ⟨C,6,none⟩=false:=F.frozen 6;change aB _ _ _ _ _ _ at E;rw[G] at E;have dZ:=G;obtain⟨Q,D⟩:=g.tJ E;have aH:=Z Q;have aI:=Z D;have bz:=g.gb;have bC:=Nat.lt_of_lt_of_le g.gb g.bb;clear q l o m;clear G g E Q D;go_simp;refine s undef _ trivial (by simpa[dn] using aH.o) ?_;have D:=aI.o;refine λj A _ u I=>I.keep D (aV (i:=17) (λj H A=> ?_) j A)
         match j,A with
         |0,_|1,_|2,_=>exact trivial
         |3,_=>exact λk y=>by omega
         |4,_=>exact λk y F=>by omega
         |5,_|6,_|7,_|8,_|9,_|10,_|11,_=>exact trivial
         |12,_=>exact λk y=>by omega
         |13,_=>exact λk y F=>by omega
         |14,_|15,_|16,_=>exact trivial
         |17,A=>exact absurd rfl A
         |j+18,_=>exact absurd H (by simp)
       .intro vs w2 bg _ g;obtain⟨k9,l9,h9⟩:=eP.o g bn.o.rv bG.o;have H9:=Z h9;clear h9 g bg;simp only[aX,Act.put,List.setIfInBounds_toArray,List.set_cons_succ,List.set_cons_zero];go_wp2_with fail;go_roundw;case rel=>exact⟨n+1,true,(U++[(P,x)])++[p],(aN++[(ai vk vb vi vf vt aJ aK)])++[(ai W rb ri rf rt af aj)],k9,l9,by omega,rfl,by go_num,by have:=bI.o;rw[if_neg dC.o] at this;simpa using this,H9.o⟩
        case measure=>simp[intOf];omega
  .obtain rfl:n=kvs.length:=(by omega);have bH:=HA.o.len;cases db with
   |true=>
    have bD:U=ins kvs P x:=by have:=(HA.o.Jr rfl).1;rwa[List.take_length] at this
    have dD:=Z bD;clear bD;have dE:=HI.o.b;have dF:=(HI.o.bs _ M2.o).1;have dG:=gU (k:=7) (b:=false) (i:=0) (f:=0) (t:=ByteArray.empty) HI.o.ck.rowAt.one HI.o.cl.rowAt.one;go_wp2_with (first|(refine V rfl au rfl rfl dE.cells rfl ?_)|(refine aA rfl au rfl rfl rfl dF rfl rfl dG ?_;intro w4 dH dI eY));obtain⟨dJ,dK⟩:=HI.o.done dI (by rw[cu.o];omega) (by rw[cu.o,dM.o];omega);refine bodyPost_ret (bU rfl au rfl dH rfl) rfl ⟨_,rfl,?_,dK⟩;rw[←dD.o];exact dJ
   |false=>
    have bD:U++[(P,x)]=ins kvs P x:=by obtain⟨h1,h2⟩:=HA.o.BN rfl;rw[List.take_length] at h1 h2;rw[h1,Jo h2]
    have dD:=Z bD;have dA:U.length<=kvs.length:=by obtain⟨e, -⟩:=HA.o.BN rfl;rw[e];exact List.length_take_le _ _
    clear bD;go_wp2_with fail;refine aT (FI [.eq (.pointer (some ⟨C,5,none⟩)),.eq kv,.eq (.string P),.ng wr.heap.size [.string P] 9,.own (C+1) 9 1 (gp U++[[.string P]]),.eq (.pointer (some ⟨C,6,none⟩)),.eq lv,.eq (.agg (ai vk vb vi vf vt aJ aK).toArray),.ng wr.heap.size (ai vk vb vi vf vt aJ aK) 26,.own (C+1) 26 7 (aN++[(ai vk vb vi vf vt aJ aK)]),.eq (.pointer (some ⟨C,5,none⟩)),.any,.eq (.pointer (some ⟨C,6,none⟩)),.any])
     (λv N=>eP ok w N wr.heap.size bf C (C+1) U aN kv lv P (ai vk vb vi vf vt aJ aK) (v 11) (v 13))
     (by kernel_rfl) (by kernel_rfl) (HI.o.mid _ _) ?_ ?_
    .refine⟨?_,?_,?_,?_,?_,?_,?_,?_,?_,?_,?_,?_,?_,?_,trivial⟩
     .intro v a B K z q l o m g s;have e7:a.tmps[7]?.getD undef=.pointer (some ⟨C,0,none⟩):=o 7 rfl;clear q l o m;go_simp;exact s _ _ rfl (by simpa[dn] using g) Sy
     .intro v a B K z q l o m g s;have gu:=fq (l 0 61 rfl (m 0 rfl));have aQ:v 11=false:=by
       cases h:v 11 with
       |false=>rfl
       |true=>have:=q 11 1 rfl h;rw[z] at this;cases this
      obtain⟨L,M,F,h1, -⟩:=g.b;rw[aQ] at h1;obtain rfl:L=kv:=h1;have c5:B.cell? ⟨C,5,none⟩=some L:=F.cell 5;clear q l o m;go_simp;exact s _ _ rfl (by simpa[dn] using g) Sy
     .intro v a B K z q l o m g s;have e1:a.tmps[1]?.getD undef=.string P:=o 1 rfl;clear q l o m;go_simp;exact s _ _ rfl (by simpa[dn] using g) Sy
     .intro v a B K z q l o m g s;have gy:=fq (l 2 63 rfl (m 2 rfl));clear q l o m;go_simp;refine s _ _ ⟨_,rfl,g.lu,ay.new _ [.string P] _⟩ (by simpa[dn] using g.df ((O.refl _ _).alloc _)) (λ_ _ _ _ h=>h.aP ((O.refl _ _).alloc _))
     .intro v a B K z q l o m g s;have fA:=fq (l 1 62 rfl (m 1 rfl));obtain⟨t,fB,aW,ak⟩:=l 3 64 rfl (m 3 rfl);have aQ:v 11=false:=by
       cases h:v 11 with
       |false=>rfl
       |true=>have:=q 11 4 rfl h;rw[z] at this;cases this
      have aU:v 13=false:=by
       cases h:v 13 with
       |false=>rfl
       |true=>have:=q 13 4 rfl h;rw[z] at this;cases this
      rw[aQ,aU] at g;refine ax rfl ?_;refine bJ iK rfl (vE fA) g.ck (vE fB) (ak.kT rfl) (by simp[Value.oneCell']) (by simp only[gp,List.length_map,List.length_singleton];have:=dA;omega) (by decide) (Nat.le_trans g.bb g.lu) λv' N E D hB az=> ?_
      have aC:=g.cl.X D (λk y aF=>g.ck.apart g.cl (by decide) aF y);refine s v' N E (by simpa[dn,aQ,aU] using g.app D (λk y=>(g.ck.elem y).1) az aC) ?_;refine λj A _ u I=>I.keep D (aV (i:=4) (λj H A=> ?_) j A)
      match j,A with
      |0,_|1,_|2,_=>exact trivial
      |3,_=>exact λk y=>g.tZ k y
      |4,A=>exact absurd rfl A
      |5,_|6,_|7,_=>exact trivial
      |8,_=>exact λk y=>g.tZ k y
      |9,_=>exact λk y _=>g.ck.iL (by decide) y
      |10,_|11,_|12,_|13,_=>exact trivial
      |j+14,_=>exact absurd H (by simp)
     .intro v a B K z q l o m g s;have e7:a.tmps[7]?.getD undef=.pointer (some ⟨C,0,none⟩):=o 7 rfl;clear q l o m;go_simp;exact s _ _ rfl (by simpa[dn] using g) Sy
     .intro v a B K z q l o m g s;have gz:=fq (l 5 66 rfl (m 5 rfl));have aU:v 13=false:=by
       cases h:v 13 with
       |false=>rfl
       |true=>have:=q 13 6 rfl h;rw[z] at this;cases this
      obtain⟨L,M,F, -,h2⟩:=g.b;rw[aU] at h2;obtain rfl:M=lv:=h2;have c6:B.cell? ⟨C,6,none⟩=some M:=F.cell 6;clear q l o m;go_simp;exact s _ _ rfl (by simpa[dn] using g) Sy
     .intro v a B K z q l o m g s;have e5:a.tmps[5]?.getD undef=.pointer (some ⟨g1,0,none⟩):=o 5 rfl;have dB:ay B g1 (ai vk vb vi vf vt aJ aK) 26:=(g.bs _ M1.o).1;refine ax rfl ?_;refine aO au rfl (vE e5) dB.cells rfl ?_;exact s _ _ rfl (by simpa[dn] using g) Sy
     .intro v a B K z q l o m g s;have fC:=fq (l 7 68 rfl (m 7 rfl));clear q l o m;unfold ai at fC;go_simp;refine s _ _ ⟨_,rfl,g.lu,ay.new _ (ai vk vb vi vf vt aJ aK) _⟩ (by simpa[dn] using g.df ((O.refl _ _).alloc _)) (λ_ _ _ _ h=>h.aP ((O.refl _ _).alloc _))
     .intro v a B K z q l o m g s;have fD:=fq (l 6 67 rfl (m 6 rfl));obtain⟨t,fE,aW,ak⟩:=l 8 69 rfl (m 8 rfl);have aQ:v 11=false:=by
       cases h:v 11 with
       |false=>rfl
       |true=>have:=q 11 9 rfl h;rw[z] at this;cases this
      have aU:v 13=false:=by
       cases h:v 13 with
       |false=>rfl
       |true=>have:=q 13 9 rfl h;rw[z] at this;cases this
      rw[aQ,aU] at g;refine ax rfl ?_;refine bJ nC rfl (vE fD) g.cl (vE fE) (ak.kT rfl) (by intro r hr;obtain rfl:=List.mem_singleton.1 hr;exact HV.o.one) (by simp only[List.length_singleton];have:=dA;have:=HI.o.rv.1;omega) (by decide) (Nat.le_trans g.bb g.lu) λv' N E D hB az=> ?_
      have aC:=g.ck.X D (λk y aF=>g.cl.apart g.ck (by decide) aF y);refine s v' N E (by simpa[dn,aQ,aU] using g.app D (λk y=>(g.cl.elem y).1) aC az) ?_;refine λj A _ u I=>I.keep D (aV (i:=9) (λj H A=> ?_) j A)
      match j,A with
      |0,_|1,_|2,_=>exact trivial
      |3,_=>exact λk y=>g.uf k y
      |4,_=>exact λk y _=>g.cl.iL (by decide) y
      |5,_|6,_|7,_=>exact trivial
      |8,_=>exact λk y=>g.uf k y
      |9,A=>exact absurd rfl A
      |10,_|11,_|12,_|13,_=>exact trivial
      |j+14,_=>exact absurd H (by simp)
     .intro v a B K z q l o m g s;have e7:a.tmps[7]?.getD undef=.pointer (some ⟨C,0,none⟩):=o 7 rfl;clear q l o m;go_simp;exact s _ _ rfl (by simpa[dn] using g) Sy
     .intro v a B K z q l o m g s;have gB:=fq (l 10 71 rfl (m 10 rfl));have E:=l 4 65 rfl (m 4 rfl);obtain⟨sa,sn,sc,G⟩:=aB.slice E;rw[z] at g;obtain⟨L,M,F, -, -⟩:=g.b;have c5:B.cell? ⟨C,5,none⟩=some L:=F.cell 5;have f5:B.frozen? ⟨C,5,none⟩=false:=F.frozen 5;change aB _ _ _ _ _ _ at E;rw[G] at E;have gG:=G;obtain⟨Q,D⟩:=g.tH E;have aH:=Z Q;have aI:=Z D;have bz:=g.gb;have bC:=Nat.lt_of_lt_of_le g.gb g.bb;clear q l o m;clear G g E Q D;go_simp;refine s undef _ trivial (by simpa[dn] using aH.o) ?_;have D:=aI.o;refine λj A _ u I=>I.keep D (aV (i:=11) (λj H A=> ?_) j A)
      match j,A with
      |0,_|1,_|2,_=>exact trivial
      |3,_=>exact λk y=>by omega
      |4,_=>exact λk y F=>by omega
      |5,_|6,_|7,_=>exact trivial
      |8,_=>exact λk y=>by omega
      |9,_=>exact λk y F=>by omega
      |10,_=>exact trivial
      |11,A=>exact absurd rfl A
      |12,_|13,_=>exact trivial
      |j+14,_=>exact absurd H (by simp)
     .intro v a B K z q l o m g s;have e7:a.tmps[7]?.getD undef=.pointer (some ⟨C,0,none⟩):=o 7 rfl;clear q l o m;go_simp;exact s _ _ rfl (by simpa[dn] using g) Sy
     .intro v a B K z q l o m g s;have gI:=fq (l 12 72 rfl (m 12 rfl));have E:=l 9 70 rfl (m 9 rfl);obtain⟨sa,sn,sc,G⟩:=aB.slice E;rw[z] at g;obtain⟨L,M,F, -, -⟩:=g.b;have c5:B.cell? ⟨C,6,none⟩=some M:=F.cell 6;have f5:B.frozen? ⟨C,6,none⟩=false:=F.frozen 6;change aB _ _ _ _ _ _ at E;rw[G] at E;have gJ:=G;obtain⟨Q,D⟩:=g.tJ E;have aH:=Z Q;have aI:=Z D;have bz:=g.gb;have bC:=Nat.lt_of_lt_of_le g.gb g.bb;clear q l o m;clear G g E Q D;go_simp;refine s undef _ trivial (by simpa[dn] using aH.o) ?_;have D:=aI.o;refine λj A _ u I=>I.keep D (aV (i:=13) (λj H A=> ?_) j A)
      match j,A with
      |0,_|1,_|2,_=>exact trivial
      |3,_=>exact λk y=>by omega
      |4,_=>exact λk y F=>by omega
      |5,_|6,_|7,_=>exact trivial
      |8,_=>exact λk y=>by omega
      |9,_=>exact λk y F=>by omega
      |10,_|11,_|12,_=>exact trivial
      |13,A=>exact absurd rfl A
      |j+14,_=>exact absurd H (by simp)
    .intro vs w2 bg _ g;obtain⟨k7,l7,h7⟩:=eP.o g HI.o.rv HV.o;have bn:=Z h7;clear h7 g bg;simp only[aX,Act.put,List.setIfInBounds_toArray,List.set_cons_succ,List.set_cons_zero];have dE:=bn.o.b;have dF:=(bn.o.bs _ M2.o).1;have dG:=gU (k:=7) (b:=false) (i:=0) (f:=0) (t:=ByteArray.empty) bn.o.ck.rowAt.one bn.o.cl.rowAt.one;go_wp2_with (first|(refine V rfl au rfl rfl dE.cells rfl ?_)|(refine aA rfl au rfl rfl rfl dF rfl rfl dG ?_;intro w4 dH dI eY));obtain⟨dJ,dK⟩:=bn.o.done dI (by rw[cu.o];omega) (by rw[cu.o,dM.o];omega);refine bodyPost_ret (bU rfl au rfl dH rfl) rfl ⟨_,rfl,?_,dK⟩;rw[←dD.o];exact dJ
theorem aG.fV{ok:ae}{w:World}{cs:Y}{kvs:T}(h:aG ok w cs (.table kvs)):∃b i f t a c,cs=ai 7 b i f t a c:=by cases h;exact⟨_,_,_,_,_,_,rfl⟩
abbrev jI(ok:ae)(w:World)(g:Nat):ae:=λx=>(ok x∧x<w.heap.size)∨g<x
abbrev okB(ok:ae)(w:World):ae:=λx=>ok x∧x<w.heap.size
theorem aG.dV{ok:ae}{w:World}{cs:Y}{j:J}(h:aG ok w cs j):aG (okB ok w) w cs j:=h.mono (λb a c=>⟨c,a⟩)
theorem aJ{P:Program}{c:Array Oper}{rest:List Oper}{o:Oper}{a:Act}{w:World}{Q:ah}{d n:Nat}(f:Region.wanted o (yielded c a.tmps)=true)(g:jG P d n){x:Operand}(i:o.op=.load d x)
  {b e:Nat} (j:a.eval x=.pointer (some ⟨b,e,none⟩)) {cs:Y} (k:je w b e cs) (l:cs.length=n)
  (h:wpList P c Q rest (a.put o.dst (.agg cs.toArray)) w):wpList P c Q (o::rest) a w:=
 BigFrame.wpList_want f λ_ m=>aO g i j k l (m _ _ h)
end Go.Proofs.YtljaoopfomcaoaaGreatDoor
