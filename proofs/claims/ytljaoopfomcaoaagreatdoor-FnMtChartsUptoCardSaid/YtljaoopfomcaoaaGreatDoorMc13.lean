/- A part of the proof. -/
import Derived.Test.YtljaoopfomcaoaaGreatDoorMc12
import Derived.Test.YtljaoopfomcaoaaGreatDoorRows
set_option linter.unusedVariables false
set_option linter.unusedSimpArgs false
set_option maxRecDepth 100000
set_option maxHeartbeats 4000000
namespace Go.Proofs.YtljaoopfomcaoaaGreatDoor
open Go.RowKit Go.ChangeShapes Go.WideShapes
section
variable {H:Type} {enc:TypeId × Value→H} {W:World}
theorem Jj(d:DataW H):1<=Rows.uptoBulk d:=by
 cases d with
 |lit l=>cases l<;>simp[Rows.uptoBulk]
 | _=>simp[Rows.uptoBulk]
theorem nV{d:DataW H}:∀{l:List (DataW H)},d∈l→Rows.uptoBulk d<=Rows.uptoBulkAll l
 |x::l,h=>by
  unfold Rows.uptoBulkAll;rcases List.mem_cons.1 h with rfl|h
  .omega
  .have:=nV h;omega
theorem wW:∀l:List (DataW H),l.length<=Rows.uptoBulkAll l
 |[]=>by simp[Rows.uptoBulkAll]
 |x::l=>by have a:=wW l;have b:=Jj x;unfold Rows.uptoBulkAll;simp only[List.length_cons];omega
theorem lN{t e size:Nat}{s:Bool}{z:Nat}{v:Value}{x:DataW H × List MemPlace}(G:Tryz.prog.underlying t=some (.slice e))(Q:Tryz.prog.cellsOf e=size)(R:0<size)
  (h:DataW.trod enc Tryz.prog W 0 (λ_=>true) s z t [v]=some x):
  zO v∧∃g,aC (okW W) W v size g∧g.length<=Rows.uptoBulk x.1∧∃n,n<z∧∀r∈g,∃y,DataW.trod enc Tryz.prog W 0 (λ_=>true) s n e r=some y∧(∀m∈y.1.weights Tryz.prog e,m∈x.1.weights Tryz.prog t)∧Rows.uptoBulk y.1<=Rows.uptoBulk x.1:=by
 rcases DataW.trod_slice G h with⟨S, -⟩|⟨a,A,cap,l,rest,n,rfl,T,rfl, -,I,B,J,C, -, -⟩
 .cases S;refine⟨λa n c e=>by cases e;exact lR',[],⟨by simp[maxLen],by simp,none,0,rfl,λ_=>rfl,λe=>absurd rfl e⟩,by simp,0,by
   cases z with
   |zero=>simp[DataW.trod] at h
   |succ n=>omega,by simp⟩
 .cases T;rw[Q] at C;have U:∀y∈l,∀m∈y.1.weights Tryz.prog e,m∈DataW.weights Tryz.prog t (.slice (l.map (·.1)) (rest.map (·.1))):=by
   intro y p m B;unfold DataW.weights;rw[G];exact List.mem_cons_of_mem _ (List.mem_append_left _ (oP (List.mem_map_of_mem p) m B))
  have V:∀y∈l,Rows.uptoBulk y.1<=Rows.uptoBulk (.slice (l.map (·.1)) (rest.map (·.1))):=by intro y p;have q:=nV (List.mem_map_of_mem (f:=(·.1)) p);unfold Rows.uptoBulk at*;omega
  have K:l.length<=Rows.uptoBulk (.slice (l.map (·.1)) (rest.map (·.1))):=by have q:=wW (l.map (·.1));rw[List.length_map] at q;show _<=Rows.uptoBulkAll _+Rows.uptoBulkAll _+1;omega
  have L:∀i,i<A→∃cs,W.cells? 0 (a.add (i*size)) size=some cs∧∃y∈l,DataW.trod enc Tryz.prog W 0 (λ_=>true) s n e cs=some y:=by intro i d;have M:=C i d;rw[List.getElem?_eq_getElem (by omega)] at M;obtain⟨cs,q,D⟩:=Option.bind_eq_some_iff.1 M;exact⟨cs,q,_,List.getElem_mem _,D⟩
  have X:∃g:List (Y),g.length=A∧∀(i:Nat)(r:Y),g[i]?=some r→W.cells? 0 (a.add (i*size)) size=some r∧∃y∈l,DataW.trod enc Tryz.prog W 0 (λ_=>true) s n e r=some y:=by
   clear C J I B h;induction A with
   |zero=>exact⟨[],rfl,by simp⟩
   |succ k ih=>
    obtain⟨g,w,o⟩:=ih (λi d=>L i (by omega));obtain⟨cs,q,D⟩:=L k (by omega);refine⟨g++[cs],by simp[w],λi r d=> ?_⟩;by_cases af:i<g.length
    .rw[List.getElem?_append_left af] at d;exact o i r d
    .rw[List.getElem?_append_right (by omega)] at d;have:i=g.length:=by
      have:=(gS'.1 d).1;simp at this;omega
     subst this;rw[Nat.sub_self] at d;cases d;rw[w];exact⟨q,D⟩
  obtain⟨g,w,o⟩:=X;subst w;refine⟨λa n c e=>by cases e;exact I,g,⟨by omega,λr E=> ?_,some a,cap,rfl,(by intro e;cases e),λai=> ?_⟩,(by rw[J] at K;exact K),n,by omega,λr E=> ?_⟩
  .obtain⟨i,d⟩:=List.getElem?_of_mem E;exact(World.cells?_some (o i r d).1).2.1
  .obtain⟨r0,aj⟩:∃r,g[0]?=some r:=by
    cases g with
    |nil=>exact absurd rfl ai
    |cons r rs=>exact⟨r,rfl⟩
   obtain⟨ak,hb⟩:=rq (o 0 r0 aj).1 R;have N:a.spot=none:=(by simpa[Addr.add] using ak);have O:a.block<W.heap.size:=(by simpa[Addr.add] using hb);obtain⟨b,au,sp⟩:=a;simp only at N O;subst N;refine⟨b,au,rfl,O,λi r d j u P=> ?_⟩;have F:=(World.cells?_some (o i r d).1).2.2 j (by have:=(World.cells?_some (o i r d).1).2.1;have:=(gS'.1 P).1;omega);rw[P] at F;rw[add_eq,add_eq] at F;exact F
  .obtain⟨i,d⟩:=List.getElem?_of_mem E;obtain⟨y,p,h6⟩:=(o i r d).2;exact⟨y,h6,U y p,V y p⟩
theorem mY{t:Nat}{g:Bool}{k:Nat}{cs:Y}{x:DataW H × List MemPlace}{l:Array Field}(o:Tryz.prog.underlying t=some (.struct l))
  (h:DataW.trod enc Tryz.prog W 0 (λ_=>true) g k t cs=some x):∃n,k=n+1∧cs.length=Tryz.prog.cellsOf t∧
   ∀(i:Nat)(f:Field)(a b size:Nat),l[i]?=some f→f.type=a→f.offset=b→Tryz.prog.cellsOf a=size→∃y,DataW.trod enc Tryz.prog W 0 (λ_=>true) g n a ((cs.drop b).take size)=some y∧(∀m∈y.1.weights Tryz.prog a,m∈x.1.weights Tryz.prog t)∧Rows.uptoBulk y.1<=Rows.uptoBulk x.1:=by
 obtain⟨xs,n,rfl,rfl,q,z,r⟩:=DataW.trod_struct o h;refine⟨n,rfl,q,λi f a b size c s u v=> ?_⟩;subst s;subst u;subst v;have p:=r i f c;have e:i<xs.length:=by have:=(Array.getElem?_eq_some_iff.1 c).1;omega
 rw[List.getElem?_eq_getElem e] at p;refine⟨_,p,λm w=> ?_,?_⟩
 .unfold DataW.weights;rw[o];refine DataW.weights_mem_each (j:=i) (t:=f.type) (d:=xs[i].1) ?_ ?_ m w
  .simp[Array.getElem?_toList,c]
  .simp[List.getElem?_eq_getElem e]
 .have A:=nV (List.mem_map_of_mem (f:=(·.1)) (List.getElem_mem e));show _<=Rows.uptoBulkAll _+1;omega
theorem fD{b:Bool}{c:Nat}{cs:Y}{x:DataW H × List MemPlace}(h:DataW.trod enc Tryz.prog W 0 (λ_=>true) b c 9 cs=some x)(a:Rows.uptoBulk x.1<=1048576):
  ∃k:K,cs=[.string k]∧gq k:=by
 obtain⟨s,d,e,f⟩:=DataW.trod_string Tryz.underlying9 h;refine⟨s,d,?_⟩;rw[e] at a;have g:s.data.toList.length+1<=1048576:=a;have i:s.size=s.data.toList.length:=by rw[Array.length_toList];rfl
 unfold gq;omega
theorem AU{g:Bool}{i:Nat}{v:Value}{x:DataW H × List MemPlace}(h:DataW.trod enc Tryz.prog W 0 (λ_=>true) g i 23 [v]=some x)(u:Rows.uptoBulk x.1<=1048576):
  ∃ks:List K,aC (okW W) W v 1 (aH ks)∧ks.length<=1048576∧∀k∈ks,gq k:=by
 obtain⟨-,c,d,e,n, -,f⟩:=lN (size:=1) Tryz.underlying23 (by kernel_rfl) (by decide) h;have j:∃ks:List K,c=aH ks∧∀k∈ks,gq k:=by
  clear d e;induction c with
  |nil=>exact⟨[],rfl,by simp⟩
  |cons r w l=>
   obtain⟨ks,a,m⟩:=l (λr o=>f r (by simp[o]));obtain⟨y,p, -,z⟩:=f r (by simp);obtain⟨s,q,t⟩:=fD p (by omega);refine⟨s::ks,by rw[q,a];rfl,λk b=> ?_⟩;rcases List.mem_cons.1 b with rfl|b
   .exact t
   .exact m k b
 obtain⟨ks,rfl,a⟩:=j;exact⟨ks,d,by simp at e;omega,a⟩
theorem Ew:Tryz.prog.cellsOf 27=1:=by kernel_rfl
theorem Ey:Tryz.prog.cellsOf 28=1:=by kernel_rfl
theorem wX:Tryz.prog.cellsOf 30=11:=by kernel_rfl
theorem Ez:Tryz.prog.cellsOf 77=1:=by kernel_rfl
theorem wY:Tryz.prog.cellsOf 79=7:=by kernel_rfl
theorem uN:Tryz.prog.cellsOf 110=4:=by kernel_rfl
theorem Nr{cs:Y}(h:cs.length=4):∃a b c d,cs=[a,b,c,d]:=by
 match cs,h with
 |[a,b,c,d],_=>exact⟨a,b,c,d,rfl⟩
theorem LX{cs:Y}(h:cs.length=11):∃a b c d e f g i j k l,cs=[a,b,c,d,e,f,g,i,j,k,l]:=by
 match cs,h with
 |[a,b,c,d,e,f,g,i,j,k,l],_=>exact⟨a,b,c,d,e,f,g,i,j,k,l,rfl⟩
theorem BG{j:Bool}{k:Nat}{cs:Y}{x:DataW H × List MemPlace}(h:DataW.trod enc Tryz.prog W 0 (λ_=>true) j k 110 cs=some x)(w:Rows.uptoBulk x.1<=1048576):
  ∃i:iy,cs=[.string i.plain,.string i.child,.string i.parent,.bool i.isMap]∧gq i.plain∧gq i.child∧gq i.parent:=by
 obtain⟨n,rfl,c,a⟩:=mY Tryz.underlying110 h;rw[uN] at c;obtain⟨y,z,A,B,rfl⟩:=Nr c;obtain⟨C,d, -,D⟩:=a 0 _ 9 0 1 rfl rfl rfl iw;obtain⟨E,e, -,F⟩:=a 1 _ 9 1 1 rfl rfl rfl iw;obtain⟨G,f, -,I⟩:=a 2 _ 9 2 1 rfl rfl rfl iw;obtain⟨J,g, -, -⟩:=a 3 _ 4 3 1 rfl rfl rfl tu;simp only[List.drop_succ_cons,List.drop_zero,List.take_succ_cons,List.take_zero] at d e f g;obtain⟨l,m,o⟩:=fD d (by omega);obtain⟨p,q,r⟩:=fD e (by omega);obtain⟨s,t,u⟩:=fD f (by omega);obtain⟨b,v, -⟩:=DataW.trod_bool Tryz.underlying4 g;cases m;cases q;cases t;cases v;exact⟨⟨l,p,s,b⟩,rfl,o,r,u⟩
theorem AV{w:Bool}{z:Nat}{cs:Y}{x:DataW H × List MemPlace}(h:DataW.trod enc Tryz.prog W 0 (λ_=>true) w z 79 cs=some x)(A:Rows.uptoBulk x.1<=1048576):
  ∃x,dF (okW W) W cs x∧xq x:=by
 obtain⟨n,rfl,o,a⟩:=mY Tryz.underlying79 h;rw[wY] at o;obtain⟨X,c1,c2,c3,c4,c5,c6,rfl⟩:=KA o;obtain⟨y0,p, -,b0⟩:=a 0 _ 9 0 1 rfl rfl rfl iw;obtain⟨y1,q, -,b1⟩:=a 1 _ 9 1 1 rfl rfl rfl iw;obtain⟨y2,s, -,b2⟩:=a 2 _ 9 2 1 rfl rfl rfl iw;obtain⟨y3,d, -,b3⟩:=a 3 _ 9 3 1 rfl rfl rfl iw;obtain⟨y4,e, -,b4⟩:=a 4 _ 23 4 1 rfl rfl rfl wU;obtain⟨y5,t, -, -⟩:=a 5 _ 4 5 1 rfl rfl rfl tu;obtain⟨y6,f, -,B⟩:=a 6 _ 77 6 1 rfl rfl rfl Ez;simp only[List.drop_succ_cons,List.drop_zero,List.take_succ_cons,List.take_zero] at p q s d e t f;obtain⟨C,D,E⟩:=fD p (by omega);obtain⟨F,G,I⟩:=fD q (by omega);obtain⟨J,K,L⟩:=fD s (by omega);obtain⟨M,N,O⟩:=fD d (by omega);obtain⟨b,P, -⟩:=DataW.trod_bool Tryz.underlying4 t;obtain⟨ks,c,Q,R⟩:=AU e (by omega);obtain⟨-,u,g,j,m, -,v⟩:=lN Tryz.underlying77 uN (by decide) f;have S:∃l:List iy,u=dS l∧∀i∈l,gq i.plain∧gq i.child∧gq i.parent:=by
  clear g j;induction u with
  |nil=>exact⟨[],rfl,by simp⟩
  |cons r rs T=>
   obtain⟨l,d,e⟩:=T (λr g=>v r (by simp[g]));obtain⟨y,U, -,af⟩:=v r (by simp);obtain⟨i,rfl,f⟩:=BG U (by omega);refine⟨i::l,by rw[d];rfl,λk c=> ?_⟩;rcases List.mem_cons.1 c with rfl|c
   .exact f
   .exact e k c
 obtain⟨l,rfl,V⟩:=S;cases D;cases G;cases K;cases N;cases P;exact⟨⟨C,F,J,M,ks,b,l⟩,⟨_,_,rfl,c,g⟩,E,I,L,O,⟨Q,R⟩,⟨by simp only[List.length_map] at j;exact Nat.le_trans j (Nat.le_trans B A),V⟩⟩
theorem BH{C:Bool}(c:Nat):∀(cs:Y)(x:DataW H × List MemPlace),DataW.trod enc Tryz.prog W 0 (λ_=>true) C c 30 cs=some x→(∀n∈x.1.weights Tryz.prog 30,n<=reachBytes)→Rows.uptoBulk x.1<=1048576→kG (okW W) W cs:=by
 induction c using Nat.strongRecOn with
 | _ c D=>
  intro cs x h j hb;obtain⟨n,rfl,l,a⟩:=mY Tryz.underlying30 h;rw[wX] at l;obtain⟨c0,c1,E,F,G,I,J,o,p,c9,af,rfl⟩:=LX l;obtain⟨y0,s, -,b0⟩:=a 0 _ 9 0 1 rfl rfl rfl iw;obtain⟨y1,u, -,b1⟩:=a 1 _ 9 1 1 rfl rfl rfl iw;obtain⟨y2,v,w2, -⟩:=a 2 _ 26 2 7 rfl rfl rfl qO;obtain⟨y3,w,w3,b3⟩:=a 3 _ 27 9 1 rfl rfl rfl Ew;obtain⟨y4,z, -,b4⟩:=a 4 _ 28 10 1 rfl rfl rfl Ey;simp only[List.drop_succ_cons,List.drop_zero,List.take_succ_cons,List.take_zero] at s u v w z;obtain⟨k0,K,L⟩:=fD s (by omega);obtain⟨k1,M,N⟩:=fD u (by omega);have d:=wV _ _ _ v (λm A=>j m (w2 m A));obtain⟨O,aj,P, -,m,A,Q⟩:=lN Tryz.underlying27 wX (by decide) w;obtain⟨R,ak,S, -,m2, -,T⟩:=lN Tryz.underlying28 wY (by decide) z;have U:∃k b i f t,[E,F,G,I,J,o,p]=ai k b i f t o p:=by cases d;exact⟨_,_,_,_,_,rfl⟩
  obtain⟨k,b,i,f,t,B⟩:=U;rw[B] at d;cases K;cases M;cases B;refine kG.mk L N d O R P (λr e=> ?_) S (λr e=> ?_)
  .obtain⟨y,g,V,X⟩:=Q r e;exact D m (by omega) r y g (λq hq=>j q (w3 q (V q hq))) (by omega)
  .obtain⟨y,g, -,X⟩:=T r e;exact AV g (by omega)
end
end Go.Proofs.YtljaoopfomcaoaaGreatDoor
