/- A part of the proof. -/
import Derived.Test.YtljaoopfomcaoaaGreatDoorMc10
set_option linter.unusedVariables false
set_option linter.unusedSimpArgs false
set_option maxRecDepth 100000
set_option maxHeartbeats 4000000
namespace Go.Proofs.YtljaoopfomcaoaaGreatDoor
open Go.RowKit
theorem Ko(b:Nat)(w:World):(Go.binOp BinOp.neq 75 (.iface 175 (.pointer (some ⟨b,0,none⟩))) .nilIface).run Tryz.prog w=.ok (.bool true) w:=by kernel_rfl
theorem Kq(x:Operand)(b:Nat)(w:World):(eqGuard BinOp.neq 75 x (.const .nilIface) (.iface 175 (.pointer (some ⟨b,0,none⟩))) .nilIface).run Tryz.prog w=.ok () w:=by cases x<;>kernel_rfl
theorem yR(w:World):(Instr.makeMap 159 none).run Tryz.prog w=.ok (.map (some w.heap.size)) (w.alloc (.map #[] 0)):=rfl
theorem LJ(w:World):(Instr.build 160 #[]).run Tryz.prog w=.ok (.agg #[]) w:=by kernel_rfl
theorem yS(w:World):(Instr.buildSlice 123 0 #[]).run Tryz.prog w=.ok (.slice (some ⟨w.heap.size,0,none⟩) 0 0) (w.alloc (.cells #[] 70)):=by kernel_rfl
theorem yT(w:World):(Instr.buildSlice 117 0 #[]).run Tryz.prog w=.ok (.slice (some ⟨w.heap.size,0,none⟩) 0 0) (w.alloc (.cells #[] 152)):=by kernel_rfl
theorem Kr(a:Addr)(b:Option Addr)(c:Nat)(w:World):(Builtin.copy_ #[123,123] 3 #[.slice (some a) 0 0,.slice b 0 c]).run Tryz.prog w=.ok (.int .i64 0) w:=by cases b<;>kernel_rfl
theorem Kt(a:Addr)(b:Option Addr)(c:Nat)(w:World):(Builtin.copy_ #[117,117] 3 #[.slice (some a) 0 0,.slice b 0 c]).run Tryz.prog w=.ok (.int .i64 0) w:=by cases b<;>kernel_rfl
theorem zg:jG Tryz.prog 160 0:=⟨⟨_,Tryz.underlying160⟩,by kernel_rfl⟩
def kQ(a:List Want)(z:Nat × Want):Bool:= !(a.any λx=>decide (x.name=z.2.name) && !x.enabled)
theorem Jb{a:List Want}(l:(a.map (·.name)).Nodup){z:Nat × Want}(c:z.2∈a):kQ a z=z.2.enabled:=by
 unfold kQ;obtain⟨i,m⟩:=List.getElem?_of_mem c;obtain⟨n,d⟩:=gS'.1 m;have o:∀x∈a,x.name=z.2.name→x=z.2:=λx b e=>by
  obtain⟨j,p⟩:=List.getElem?_of_mem b;obtain⟨q,f⟩:=gS'.1 p;have g:=List.pairwise_iff_getElem.1 l;have k:(a.map (·.name))[i]'(by simpa using n)=(a.map (·.name))[j]'(by simpa using q):=(by simp[d,f,e]);rcases Nat.lt_trichotomy i j with h|h|h
  .exact absurd k (g i j _ _ h)
  .subst h;rw[←d,←f]
  .exact absurd k.symm (g j i _ _ h)
 cases GU:z.2.enabled with
 |true=>
  have:(a.any λx=>decide (x.name=z.2.name) && !x.enabled)=false:=by rw[List.any_eq_false];intro x b h;simp only[Bool.and_eq_true,decide_eq_true_eq,Bool.not_eq_true'] at h;rw[o x b h.1,GU] at h;exact absurd h.2 (by decide)
  rw[this];rfl
 |false=>have:(a.any λx=>decide (x.name=z.2.name) && !x.enabled)=true:=List.any_eq_true.2 ⟨z.2,c,by simp[GU]⟩;rw[this];rfl
theorem Bz{all:T}{a:K}{wants:List Want}(h:wants.Pairwise kL):((bG all a wants).map (·.name)).Nodup:=by
 have e:(bG all a wants).map (·.name)=wants.map named:=by
  unfold bG;simp only[List.map_map]
  rfl
 rw[e,List.Nodup,List.pairwise_map];exact h.imp (λh=>h.2.1)
theorem Jc{b:List Nat}{a:List Want}(g:a.length=b.length)(c:(a.map (·.name)).Nodup):((b.zip a).filter (kQ a)).map (·.2)=a.filter (·.enabled):=by
 have d:(b.zip a).filter (kQ a)=(b.zip a).filter ((λx:Want=>x.enabled) ∘ Prod.snd):=(by refine List.filter_congr (λz e=>Jb c (List.of_mem_zip e).2));rw[d];have f:a=(b.zip a).map Prod.snd:=(List.map_snd_zip (by omega)).symm
 conv=>rhs;rw[f]
 rw[List.filter_map]
def LK(ok S:ae)(w:World)(p:Nat):Option Ch→Ending→World→Prop
 |none,e,w'=>(∃b,e=.returned (.iface 175 (ptr b)))∧O S w w'
 |some c',e,w'=>e=.returned .nilIface∧O S w w'∧∃R S',bZ R w' p c' S'∧(∀x,R x→okB ok w x∨w.heap.size<=x)∧(∀x,S' x→S x∨w.heap.size<=x)∧∀x,R x→¬S' x
structure G8 (U:List K) (N L D:Nat) (ok S:ae) (w:World) (p:Nat) (c:Ch) (b:Nat) (v:T) (path:K):Prop where
 en:sU U L c
 ch:bZ ok w p c S
 no:∀x,ok x→¬S x
 aj:bC ok w (.iface 67 (.map (some b))) (.table v)
 wu:WU U N (D+2) (.table v)
 sh:dC (.table v)
 dd:50<=D+2∧D+L*50<=900
 ps:path.size+L*20<=50000
def G9(U:List K)(N L:Nat):Prop:=∀(D:Nat)(ok S:ae)(w:World)(p:Nat)(c:Ch)(b:Nat)(v:T)(a:K),G8 U N L D ok S w p c b v a→Calls Tryz.prog 86 #[ptr p,.map (some b),.string a] w (LK ok S w p (fF L c v a))
structure P3 (qc:ae) (w:World) (jl:List Nat) (ds:List Ch) (H:Nat→ae) (f:Ch→Option Ch) (n:Nat) (acc:List Ch) (okr:ae) (G:Nat→ae) (wr:World):Prop where
 le:n<=ds.length
 ac:eH f (ds.take n)=some acc
 cl:eu okr wr jl (acc++ds.drop n) G
 old:∀x,qc x→okr x
 ok:∀x,okr x→qc x∨w.heap.size<=x
 sub:∀i x,G i x→(∃j,H j x)∨w.heap.size<=x
 mX:∀i x,okr x→¬G i x
 X:O (λx=>∃j,H j x) w wr
section
variable {qc okr:ae} {w wr w':World} {jl:List Nat} {ds acc:List Ch} {H G:Nat→ae} {f:Ch→Option Ch} {n:Nat}
theorem P3.start(f:Ch→Option Ch)(h:eu qc w jl ds H)(a:∀i x,qc x→¬H i x):P3 qc w jl ds H f 0 [] qc H w:=
 ⟨zL',rfl,h,λ_ h=>h,λ_ h=> .inl h,λi x h=> .inl ⟨i,h⟩,a,O.refl _ _⟩
theorem P3.at(h:P3 qc w jl ds H f n acc okr G wr){d:Ch}(a:ds[n]?=some d):(acc++ds.drop n)[n]?=some d:=by
 have b:acc.length=n:=by rw[jF h.ac,List.length_take];have:=h.le;omega
 obtain⟨c,e⟩:=gS'.1 a;rw[List.getElem?_append_right (by omega),b,Nat.sub_self,List.drop_eq_getElem_cons c,e]
 rfl
theorem P3.step(h:P3 qc w jl ds H f n acc okr G wr)(s:∀x,qc x→x<w.heap.size){q:Nat}{d j:Ch}(t:jl[n]?=some q)(k:ds[n]?=some d)(u:f d=some j){R S':ae}(l:O (G n) wr w')(v:bZ R w' q j S')
  (o:∀x,R x→okB okr wr x∨wr.heap.size<=x) (m:∀x,S' x→G n x∨wr.heap.size<=x) (y:∀x,R x→¬S' x):∃z A,P3 qc w jl ds H f (n+1) (acc++[j]) z A w':=by
 have B:acc.length=n:=by rw[jF h.ac,List.length_take];have:=h.le;omega
 obtain⟨p,C⟩:=gS'.1 k;have D:ds.drop n=d::ds.drop (n+1):=(by rw[List.drop_eq_getElem_cons p,C]);have E:(acc++ds.drop n).set n j=(acc++[j])++ds.drop (n+1):=by rw[D,List.set_append_right _ _ (by omega),B,Nat.sub_self];simp
 have r:=h.cl.put t (h.at k) v l (λb F=>h.mX n b F) m;rw[E] at r;have I:=h.X.size;have J:=l.size;refine⟨_,_,p,?_,r,λx a=> .inl ⟨h.old x a,by have:=s x a;omega⟩,λx a=> ?_,λi x a=> ?_,λi x a g=> ?_,h.X.trans l (λx a e=> ?_)⟩
 .rw[List.take_add_one,k];exact qL h.ac u
 .rcases a with a|a
  .exact h.ok x a.1
  .rcases o x a with c|c
   .exact h.ok x c.1
   .exact .inr (by omega)
 .rcases a with⟨-,a⟩|⟨-,a⟩
  .rcases m x a with c|c
   .exact h.sub n x c
   .exact .inr (by omega)
  .exact h.sub i x a
 .rcases a with a|a<;>rcases g with⟨-,g⟩|⟨K,g⟩
  .rcases m x g with c|c
   .exact h.mX n x a.1 c
   .omega
  .exact h.mX i x a.1 g
  .exact y x a g
  .rcases o x a with c|c
   .exact h.mX i x c.1 g
   .have:=h.cl.lt g;omega
 .rcases h.sub n x e with c|c
  .exact c
  .omega
end
theorem Aq{P:Program}{w:World}{t e size d:Nat}(h:iJ P t e size d)(ty:TypeId){ok:ae}{x:Value}{b:List (Y)}(j:aC ok w x size b)(n:∀r∈b,r.all (·.oneCell')=true)(o:b.length<=1099511627776)(p:d<=128):
  ∃v' w',(Builtin.append_ #[t,t] ty #[.slice none 0 0,x]).run P w=.ok v' w'∧aB w' w.heap.size e size v' b∧O No w w'∧(b=[]→v'=.slice none 0 0):=by
 obtain⟨v',w',f,q,s, -, -⟩:=qP h ty (aB.nil w w.heap.size e size) j n (by simpa using o) p lR';refine⟨v',w',f,by simpa using q,s.mono (λ_ _ e=>by cases e),λu=> ?_⟩;obtain⟨k,⟨i,z,l,v,y,A,B⟩,C⟩:=h;subst u;obtain⟨F,G,a,cap,rfl,D,H⟩:=j;cases a with
 |none=>
  obtain rfl:=D rfl;have g:=run_append_owned_none (P:=P) w w.heap.size t ty e i size k l (.slice none 0 0) 0 [] (aB.nil w w.heap.size e size).2;have c:(Builtin.append_ #[t,t] ty #[.slice none 0 0,.slice none 0 0]).run P w=.ok v' w':=f;rw[g] at c;cases c
  rfl
 |some m=>obtain⟨I,w2,g, -, -,E⟩:=run_append_own (P:=P) w w.heap.size t ty e i z size d k l v y A B C (.slice none 0 0) 0 [] (aB.nil w w.heap.size e size).2 m 0 cap [] (by simp) (by simp) (by simp) (by decide) (by omega) lR';have c:(Builtin.append_ #[t,t] ty #[.slice none 0 0,.slice (some m) 0 cap]).run P w=.ok v' w':=f;rw[g] at c;cases c;exact E.2 ⟨rfl,rfl⟩
theorem uH{P:Program}{o:Oper}{a:Act}{w:World}{K:ag}{Q:ah}{t e size c:Nat}(f:iJ P t e size c){s x:Operand}
  (g:o.op=.call {callee:=.builtin .append,args:=#[s,x],argTypes:=#[t,t]}) (i:a.eval s=.slice none 0 0)
  {ok:ae} {d:Value} {b:List (Y)} (j:a.eval x=d) (k:aC ok w d size b) (l:∀r∈b,r.all (·.oneCell')=true) (m:b.length<=1099511627776) (n:c<=128)
  (h:∀v' w',aB w' w.heap.size e size v' b→O No w w'→(b=[]→v'=.slice none 0 0)→K (a.put o.dst v') w'):o.wp P a w K Q:=by
 obtain⟨v',w',p,q,u,v⟩:=Aq (P:=P) f o.type k l m n;unfold Oper.wp execOp;simp only[g,resolve,invoke,builtin,Sem.run_bind,Sem.run_pure,Result.andThen_ok,List.map_toArray,List.map_cons,List.map_nil,i,j,p];exact h v' w' q u v
structure rf (q:Nat) (mk:Value→Y) (ty:TypeId) (B e:Nat) (rows:List (Y)) (wr w:World) (ds:Bool):Prop where
 X:O (·=q) wr w
 box:∃l',ay w q (mk l') ty∧(ds=false→l'=.slice none 0 0)∧(ds=true→aB w B e 1 l' rows∧(rows=[]→l'=.slice none 0 0))
def Fact.Mc(B e:Nat)(rows:List (Y)):Fact:=
 ⟨λv w=>aB w B e 1 v rows∧(rows=[]→v=.slice Option.none 0 0),λS w=>∀k,S k→B<=k→¬∃a,w.heap[k]?=some (.cells a e (0,0)),
  λS v w w' h b c=>⟨h.1.X b (λk d f=>by obtain⟨g, -,i⟩:=h.1.elem d;exact c k f g i),h.2⟩,λ_ _ e=>e.elim⟩
section
variable {q:Nat} {mk:Value→Y} {ty:TypeId} {B e:Nat} {rows:List (Y)} {wr w w':World} {ds:Bool}
theorem rf.start(a:ay wr q (mk (.slice none 0 0)) ty):rf q mk ty B e rows wr wr.drew false:=
 ⟨(O.refl _ wr).drew,_,a.drew,λ_=>rfl,λe=>(by cases e)⟩
theorem rf.df(g:rf q mk ty B e rows wr w ds)(a:O No w w'):rf q mk ty B e rows wr w' ds:=by obtain⟨c,d,f,b⟩:=g.box;exact⟨g.X.trans' a,c,d.X a id,f,λe=>⟨(b e).1.X a nE,(b e).2⟩⟩
theorem rf.store{v:Value}(g:rf q mk ty B e rows wr w false)(c:e≠ty)(d:ay w' q (mk v) ty)(a:O (·=q) w w')(b:aB w B e 1 v rows)(f:rows=[]→v=.slice none 0 0):rf q mk ty B e rows wr w' true:=by obtain⟨l,h,m,n⟩:=g.box;exact⟨g.X.trans a (λi _ e=>e),v,d,λe=>(by cases e),λ_=>⟨b.X a (λk j e=>b.lI c h (j.trans (congrArg some e))),f⟩⟩
end
theorem Ha(U:List K)(N:Nat)(hN:N<1099511627776)(pK:400<=N)(pM:U.length<=N)(pO:∀k∈U,fK k)(lC:gK∈U)(L:Nat)(IH:G9 U N L):G9 U N (L+1):=by
 intro D ok S w p c b v bD hA;obtain⟨A,mv,lD,dv,wv,bQ,s,F,bT,jM,jO⟩:=PO.of (ok:=okB ok w) (hA.ch.mono (ok':=okB ok w) (λb t h=>⟨h,t⟩)) (λx o=>hA.no x o.1);have pU:w.cell? ⟨p,0,none⟩=some (ptr A):=bT.hp.cell 0;have pV:w.cell? ⟨A,2,none⟩=some wv:=bT.hm.cell 2;by_cases gm:c.wants=[]
 .have jP:=jO gm;subst jP;have fH:=Z (show fF (L+1) c v bD=some c by rw[fF,gm];rfl);have lF:=Z (And.intro hA.ch hA.no);have sW:∀w,(Go.binOp BinOp.eql 117 (.slice none 0 0) (.slice none 0 0)).run Tryz.prog w=.ok (.bool true) w:=λw=>by kernel_rfl
  clear bT jM jO hA IH gm;go_enter Tryz.func86,Tryz.ntmps86;go_wp2_with fail;go_step3;go_wp2;simp only[Exit.noGoto];go_ret;rw[fH.o];exact⟨rfl,O.refl _ _,okB ok w,S,lF.o.1.mono (λx o h=>⟨h,o⟩),λx o=> .inl o,λx o=> .inl o,λx o=>lF.o.2 x o.1⟩
 .have jQ:s≠ []:=by
   intro e;have h:=bT.nS;rw[e] at h;exact gm (List.eq_nil_of_length_eq_zero h.symm)
  obtain⟨wa,wc,rfl⟩:=zf bT.hw jQ;have pW:=bT.hd;obtain⟨-, -,da,dc,rfl, -, -⟩:=pW;have dE:(aF bQ).length=bQ.length:=(by simp[aF]);rw[dE] at bT;clear dE;have HA:=Z hA;have az:=Z bT;have dX:=Z jM;have iR:=Z gm;have lG:=Z jQ;have pX:=Z IH;have aH:=Z (show bQ.length<=20∧c.wants.length<=40∧bQ.length=c.deps.length∧s.length=c.wants.length from⟨by rw[bT.cl.len];exact hA.en.en.gQ.2.2.2.1,hA.en.en.gQ.2.2.2.2.2.2.1,bT.cl.len,bT.nS⟩);have lJ:=Z ((hA.en.ask 1).1);have gY:=Z (hA.en.en.gQ.2.2.2.2.2.2.2);have lK:=Z (show ∀b,okB ok w b→b<w.heap.size from λb h=>h.2);have pY:=Z (kZ bT.hp);have I:=qN wa s.length wc;clear bT jM jO hA IH gm jQ;go_enter Tryz.func86,Tryz.ntmps86;go_wp2_with fail;go_step3;go_wp2_with fail;go_step3;go_wp2_with fail;refine pY.o.mono ?_;rintro e wt ⟨rfl,fJ⟩;obtain rfl:=fJ.symm;go_wp2_with fail;go_loopw [7,47] (λv7 ct wr=>∃(n:Nat)(T:List Nat)(G:Nat→ae),ct=.int .i64 n∧P1 (okB ok w) w c.deps F (loneD c.wants) n v7 T G wr) (λ_ ct _=>bQ.length - (intOf ct).toNat)
  case atStart=>exact⟨0,[],_,rfl,P1.start _ _ _ _ (O.refl _ _) (aB.nil _ _ _ _)⟩
  case round=>
   obtain⟨n,T,G,rfl,dL⟩:=hrel;obtain⟨B,rfl⟩:∃B,B=wr:=⟨_,rfl⟩;obtain⟨va,vc,rfl⟩:=dL.own.dY;have aQ:(aF T).length=T.length:=(by simp[aF]);rw[aQ] at dL⊢;clear aQ;have bI:=Z dL;clear dL;by_cases aJ:n<bQ.length
   .obtain⟨q,E⟩:=gX' bQ n (aJ);obtain⟨d,V⟩:=gX' c.deps n ((by rw[←aH.o.2.2.1];exact aJ));have dF:=az.o.hd;have dE:(aF bQ).length=bQ.length:=(by simp[aF]);rw[←dE] at dF;obtain⟨lb,lo,jR,jS,bJ⟩:=dF.at (i:=n) (r:=[ptr q]) (by simp[E]);subst jR;have bJ:=(bJ.X bI.o.X id).one;simp only[Nat.mul_one] at bJ;have k0:B.cell? ⟨p,0,none⟩=some (ptr A):=(az.o.hp.X bI.o.X id).cell 0;have m2:B.cell? ⟨A,2,none⟩=some (.slice (some wa) s.length wc):=(az.o.hm.X bI.o.X id).cell 2;obtain⟨dZ,lM,lN,lQ,lS,dM⟩:=az.o.cl.LD E V;have iU:=Z (dM.X bI.o.X id id);have HQ:=Z E;have HD:=Z V;have bU:(n:Int)<(bQ.length:Int):=(by omega);have sZ:=aH.o.1;have qc:s.length<=40:=by rw[aH.o.2.2.2];exact aH.o.2.1
    clear E V dF dE dM;go_wp2_with fail;go_loopw [59] (λct w2=>∃k:Nat,ct=.int .i64 k∧k<=s.length∧((c.wants.take k).any λx=>bK x d)=false∧O No B w2) (λct _=>s.length - (intOf ct).toNat)
    case atStart=>exact⟨0,rfl,zL',rfl,O.refl _ _⟩
    case round=>
     obtain⟨k,rfl,hk,lT,aZ⟩:=hrel;obtain⟨w2,rfl⟩:∃w2,w2=wr:=⟨_,rfl⟩;have lU:=Z lT;have dh:=Z aZ;clear lT aZ;by_cases lV:k<s.length
     .obtain⟨q2,jT⟩:=gX' s k (lV);obtain⟨x,o⟩:=gX' c.wants k ((by rw[←aH.o.2.2.2];exact lV));have aK:=az.o.hw;have bn:(aF s).length=s.length:=(by simp[aF]);rw[←bn] at aK;obtain⟨iV,iY,dN, -,aW⟩:=aK.at (i:=k) (r:=[ptr q2]) (by simp[jT]);cases dN;have aW:=((aW.X bI.o.X id).X dh.o id).one;simp only[Nat.mul_one] at aW;obtain⟨gZ,ta,tn,tc,ia,jn,jc,aA, -, -⟩:=(az.o.hx k q2 x jT o).open;have gp:=Z ((aA.X bI.o.X id).X dh.o id);have ed:=Z (iU.o.X dh.o id id);have tq:w2.cell? ⟨q2,0,none⟩=some (.string x.name):=gp.o.cell 0;have tu:w2.cell? ⟨q2,1,none⟩=some (.string x.version):=gp.o.cell 1;have d0:w2.cell? ⟨q,0,none⟩=some (ptr dZ):=ed.o.1.cell 0;have d1:w2.cell? ⟨dZ,1,none⟩=some (.string d.version):=ed.o.2.1.cell 1;have HX:=Z o;have qf:(k:Int)<(s.length:Int):=(by omega);have lW:bK x d=false→((c.wants.take (k+1)).any λx=>bK x d)=false:=λhf=>by rw[any_take_succ o,lU.o,hf];rfl
      have lX:=Z lW;have lY:bK x d=true→loneD c.wants d=false:=λhf=>by have:(c.wants.any λx=>bK x d)=true:=List.any_eq_true.2 ⟨x,mG' o,hf⟩;unfold loneD;rw[this];rfl
      have qg:=Z lY;clear jT o aK bn aA lW lY;go_upto_region 10 with fail
      by_cases bZ:x.name=d.name
      .have qh:(d.name.toList==x.name.toList)=true:=by rw[aS];simpa using bZ.symm
       have iZ:=Z (λW=>yl x.version d.version W);by_cases ja:x.version=d.version
       .have fM:decide (x.version=d.version)=true:=decide_eq_true ja;rw[fM] at iZ;have HF:=Z (qg.o (show bK x d=true by unfold bK;rw[decide_eq_true bZ,fM];rfl));clear ja fM bZ
        go_quiet (first|(refine Calls.quiet_of_same (lL (ed.o.X (O.drewN _ _) id id).1 (ed.o.X (O.drewN _ _) id id).2.1))|(refine Calls.quiet_of_same (iZ.o _)))
        generalize eF:w2.drewN nq=w3;have eG:=Z (show O No B w3 from dh.o.trans' (eF▸O.drewN w2 nq));clear eF;go_wp2_with fail;have dG:=Z ((bI.o.Eh eG.o).skip HD.o HF.o);go_roundw;case rel=>exact⟨n+1,T,G,by go_num,dG.o⟩
        case measure=>simp[intOf];omega
       .have fM:decide (x.version=d.version)=false:=decide_eq_false ja;rw[fM] at iZ;have HF:=Z (lX.o (show bK x d=false by unfold bK;rw[fM];simp));clear ja fM bZ
        go_quiet (first|(refine Calls.quiet_of_same (lL (ed.o.X (O.drewN _ _) id id).1 (ed.o.X (O.drewN _ _) id id).2.1))|(refine Calls.quiet_of_same (iZ.o _)))
        generalize eF:w2.drewN nq=w3;have eG:=Z (show O No B w3 from dh.o.trans' (eF▸O.drewN w2 nq));clear eF;go_wp2_with fail;go_roundw;case rel=>exact⟨k+1,by go_num,by omega,HF.o,eG.o⟩
        case measure=>simp[intOf];omega
      .have qh:(d.name.toList==x.name.toList)=false:=by rw[aS];simpa using λe=>bZ e.symm
       have HF:=Z (lX.o (show bK x d=false by unfold bK;rw[decide_eq_false bZ];rfl));clear bZ
       go_quiet (first|(refine Calls.quiet_of_same (lL (ed.o.X (O.drewN _ _) id id).1 (ed.o.X (O.drewN _ _) id id).2.1)))
       generalize eF:w2.drewN nq=w3;have eG:=Z (show O No B w3 from dh.o.trans' (eF▸O.drewN w2 nq));clear eF;go_wp2_with fail;go_roundw;case rel=>exact⟨k+1,by go_num,by omega,HF.o,eG.o⟩
       case measure=>simp[intOf];omega
     .have HK:=Z (show loneD c.wants d=true by
       have h:=lU.o;rw[List.take_of_length_le (by rw[←aH.o.2.2.2];omega)] at h;unfold loneD;rw[h];rfl)
      have bf:=bI.o.Eh dh.o;have aG:=bf.own;have aQ:(aF T).length=T.length:=(by simp[aF]);have di:(aF T).length+1<=1099511627776:=by have C:=bf.len;have h2:=aH.o;rw[aQ];omega
      have dP:w.heap.size<=w2.heap.size+1:=by have:=bf.X.size;omega
      have aY:=Z bf;have qf:¬(k:Int)<(s.length:Int):=(by omega);clear bf aQ;go_wp2_with (first|(at_builtin;refine aN rfl vY rfl rfl (aG.alloc _) rfl (aC.gX w2 [ptr q] 70 1 rfl) (by simp[Value.oneCell']) di (by decide) (by simpa using dP) ?_;intro v' w6 bV dm cu fO;go_frame));have dG:=Z (aY.o.take az.o.cl lK.o HD.o HQ.o HK.o dm bV);clear bV dm cu fO aG;go_roundw;case rel=>exact⟨n+1,_,_,by go_num,dG.o⟩
      case measure=>simp[intOf];omega
   .have bM:n=c.deps.length:=Nat.le_antisymm bI.o.le (by have:=aH.o.2.2.1;omega);subst bM;have lZ:=Z (show WZ (okB ok w) w s c.wants lg 0 B from⟨zL',aH.o.2.2.2,az.o.hq,λb t=>(az.o.no b t).2.2.1,λi q x h=>by omega,λi q x _ E o=>(az.o.hx i q x E o).X bI.o.X nE id,bI.o.X.mono (λ_ _ e=>e.elim)⟩);have l7:=Z (P2.start bI.o lZ.o);have fP:=Z (show ∀q∈s,q<w.heap.size from λq E=>az.o.lt (.inr (.inr (.inl E))));have gq:=Z (show ∀i x,F i x→x∉s from λi x h=>(az.o.zT i x h).2.2);have bU:¬((c.deps.length:Nat):Int)<(bQ.length:Int):=by have:=aH.o.2.2.1;omega
    have k0:B.cell? ⟨p,0,none⟩=some (ptr A):=(az.o.hp.X bI.o.X id).cell 0;have m2:B.cell? ⟨A,2,none⟩=some (.slice (some wa) s.length wc):=(az.o.hm.X bI.o.X id).cell 2;have qc:s.length<=40:=by rw[aH.o.2.2.2];exact aH.o.2.1
    clear pU pV;go_wp2_with fail;go_loopw [7,98] (λv7 ct wr=>∃(n:Nat)(T:List Nat)(G:Nat→ae),ct=.int .i64 n∧P2 (okB ok w) w c.deps F s c.wants n v7 T G wr) (λ_ ct _=>s.length - (intOf ct).toNat)
    case atStart=>exact⟨0,T,G,rfl,l7.o⟩
    case round=>
     clear l7 lZ bI k0 m2;obtain⟨n,T,G,rfl,bf⟩:=hrel;obtain⟨B,rfl⟩:∃B,B=wr:=⟨_,rfl⟩;obtain⟨va,vc,rfl⟩:=bf.own.dY;have aQ:(aF T).length=T.length:=(by simp[aF]);rw[aQ] at bf⊢;clear aQ;have aY:=Z bf;clear bf;by_cases aJ:n<s.length
     .obtain⟨q,E⟩:=gX' s n (aJ);obtain⟨x,o⟩:=gX' c.wants n ((by rw[←aH.o.2.2.2];exact aJ));have hz:=aY.o.wz;have aK:=az.o.hw;have bn:(aF s).length=s.length:=(by simp[aF]);rw[←bn] at aK;obtain⟨iV,iY,dN,ig,aW⟩:=aK.at (i:=n) (r:=[ptr q]) (by simp[E]);cases dN;have aW:=(aW.X hz.X (hz.o _ ig)).one;simp only[Nat.mul_one] at aW;have tC:=FK ⟨q,0,none⟩;have qi:=Z (kZ (az.o.hp.X hz.X az.o.lH.1));obtain⟨tH,tJ,tK,tN,tV,tX,tY,l9, -, -⟩:=(hz.rest n q x lR' E o).open;have dF:=az.o.hd.X hz.X hz.o;have dE:(aF bQ).length=bQ.length:=(by simp[aF]);have qj:=Z (Bo dF aH.o.2.2.1 (by have:=aH.o.1;omega) (λi p d ql V=>by
       exact(az.o.cl.X hz.X hz.o (λi b t=>(az.o.zT i b t).2.2)).LD ql V) l9)
      have HQ:=Z E;have HX:=Z o;have bU:(n:Int)<(s.length:Int):=(by omega);clear E o aK bn l9 dF dE hz;go_wp2_with fail;refine qi.o.mono ?_;rintro e wt ⟨rfl,fJ⟩;obtain rfl:=fJ.symm;go_wp2_with fail;refine qj.o.mono ?_;rintro e w2 ⟨aZ,jU,jV⟩;have dh:=Z aZ;cases hf:c.deps.find? (bK x) with
      |none=>
       obtain rfl:=jU hf;have aI:=Z (show aB w2 w.heap.size 70 1 (.slice va T.length vc) (aF T)∧eu (okB ok w) w2 T (c.deps.filter (loneD c.wants)++(c.wants.take (n+1)).filterMap (fG c.deps)) G∧(∀k x,G k x→(∃j d,c.deps[j]?=Option.some d∧F j x∧(loneD c.wants d=true∨∃i y,i<n+1∧c.wants[i]?=Option.some y∧bK y d=true))∨(w.heap.size<=x∧x<w2.heap.size∧(Value.slice va T.length vc).ownBlock≠Option.some x))∧WZ (okB ok w) w s c.wants lg n w2 by have h:=aY.o.keep dh.o;refine⟨h.own,h.none HX.o hf,λk y hy=>(h.sub k y hy).imp (λ⟨j,d,a1,a2,a3⟩=>⟨j,d,a1,a2,a3.imp id (λ⟨i,y,a4,a5⟩=>⟨i,y,by omega,a5⟩)⟩) id,h.wz⟩);have qm:=FN;clear jU jV hf aZ;go_upto_region 21 with fail
       obtain⟨jW,jX,jY,dH⟩:=aI.o;obtain⟨gZ,ta,tn,tc,ia,jn,jc,aA, -,eP⟩:=(dH.rest n q x lR' HQ.o HX.o).open;have q7:w2.cell? ⟨q,7,none⟩=some (.string x.bF):=aA.cell 7;have q0:w2.cell? ⟨q,0,none⟩=some (.string x.name):=aA.cell 0;have f0:=aA.frozen 0;have jZ:=Z eP;have gp:=Z aA;clear jW jX jY dH aA eP;by_cases ha:x.bF=ByteArray.empty
       .have ku:(ByteArray.toList x.bF).isEmpty=true:=by rw[←decide_eq_emptyBytes];exact decide_eq_true ha
        have fQ:=Z (show lg x=x by unfold lg named;rw[if_neg (by simpa using ha)]);have dQ:=Z (P2.fin aI.o.1 aI.o.2.1 aI.o.2.2.1 aI.o.2.2.2 HQ.o HX.o (O.refl _ _) (fQ.o.symm▸aI.o.2.2.2.rest n q x lR' HQ.o HX.o) (fP.o q (mG' HQ.o)) gq.o);clear ha;go_wp2_with fail;go_roundw;case rel=>exact⟨n+1,_,_,by go_num,dQ.o⟩
        case measure=>simp[intOf];omega
       .have ku:(ByteArray.toList x.bF).isEmpty=false:=by rw[←decide_eq_emptyBytes];exact decide_eq_false ha
        have fQ:=Z (show named x=x.bF by unfold named;rw[if_pos ha]);clear ha;go_upto_region 23 with fail
        generalize dA:World.setCell _ _ _=W7;have dQ:=Z (show P2 (okB ok w) w c.deps F s c.wants (n+1) (.slice va T.length vc) T G W7 by obtain⟨C,h2, -⟩:=gp.o.setCell 0 (.string x.bF);rw[dA] at C h2;have dR:q∈s:=mG' HQ.o;exact P2.fin aI.o.1 aI.o.2.1 aI.o.2.2.1 aI.o.2.2.2 HQ.o HX.o h2 (jZ.o W7 (lg x) (·=q) rfl rfl (by unfold lg;rw[fQ.o];exact C) h2 (λb t e=>aI.o.2.2.2.o b t (e▸dR))) (fP.o q dR) gq.o);clear dA q7 q0 f0;go_wp2_with fail;go_roundw;case rel=>exact⟨n+1,_,_,by go_num,dQ.o⟩
        case measure=>simp[intOf];omega
      |some d=>
       obtain⟨i,p2,g,g2,tZ,uf,ug,uh,ui,bf,mf,rfl,mg,mi,mr,mD,mF,mG⟩:=jV d hf;have aI:=Z (λ(v':Value)(w6:World) h6 bV cu=>aY.o.some az.o.cl lK.o gq.o fP.o gY.o.2.1 HX.o hf bf mf mD aZ ⟨mg,mi,mr⟩ mF mG (v':=v') (w6:=w6) h6 bV cu);have qm:=FM ⟨g,0,none⟩;have aG:=(aY.o.keep aZ).own;have di:(aF T).length+1<=1099511627776:=by have C:=aY.o.len;have h2:=aH.o;have aQ:(aF T).length=T.length:=(by simp[aF]);rw[aQ];omega
       have dP:w.heap.size<=w2.heap.size+1:=by have:=aY.o.wz.X.size;have:=aZ.size;omega
       clear jU jV hf aZ bf mf mg mi mr mD mF mG;go_upto_region 21 with(first|(at_builtin;refine aN rfl vY rfl rfl (aG.alloc _) rfl (aC.gX w2 [ptr g] 70 1 rfl) (by simp[Value.oneCell']) di (by decide) (by simpa using dP) ?_;intro v' w6 bV dm cu fO;go_frame))
       obtain⟨G6,mJ⟩:=aI.o v' w6 dm bV cu;have aI:=Z mJ;clear bV dm cu fO aG mJ;obtain⟨jW,jX,jY,dH⟩:=aI.o;obtain⟨gZ,ta,tn,tc,ia,jn,jc,aA, -,eP⟩:=(dH.rest n q x lR' HQ.o HX.o).open;have q7:w6.cell? ⟨q,7,none⟩=some (.string x.bF):=aA.cell 7;have q0:w6.cell? ⟨q,0,none⟩=some (.string x.name):=aA.cell 0;have f0:=aA.frozen 0;have jZ:=Z eP;have gp:=Z aA;clear jW jX jY dH aA eP;by_cases ha:x.bF=ByteArray.empty
       .have ku:(ByteArray.toList x.bF).isEmpty=true:=by rw[←decide_eq_emptyBytes];exact decide_eq_true ha
        have fQ:=Z (show lg x=x by unfold lg named;rw[if_neg (by simpa using ha)]);have dQ:=Z (P2.fin aI.o.1 aI.o.2.1 aI.o.2.2.1 aI.o.2.2.2 HQ.o HX.o (O.refl _ _) (fQ.o.symm▸aI.o.2.2.2.rest n q x lR' HQ.o HX.o) (fP.o q (mG' HQ.o)) gq.o);clear ha;go_wp2_with fail;go_roundw;case rel=>exact⟨n+1,_,_,by go_num,dQ.o⟩
        case measure=>simp[intOf];omega
       .have ku:(ByteArray.toList x.bF).isEmpty=false:=by rw[←decide_eq_emptyBytes];exact decide_eq_false ha
        have fQ:=Z (show named x=x.bF by unfold named;rw[if_pos ha]);clear ha;go_upto_region 23 with fail
        generalize dA:World.setCell _ _ _=W7;have dQ:=Z (show P2 (okB ok w) w c.deps F s c.wants (n+1) v' (T++[g]) G6 W7 by obtain⟨C,h2, -⟩:=gp.o.setCell 0 (.string x.bF);rw[dA] at C h2;have dR:q∈s:=mG' HQ.o;exact P2.fin aI.o.1 aI.o.2.1 aI.o.2.2.1 aI.o.2.2.2 HQ.o HX.o h2 (jZ.o W7 (lg x) (·=q) rfl rfl (by unfold lg;rw[fQ.o];exact C) h2 (λb t e=>aI.o.2.2.2.o b t (e▸dR))) (fP.o q dR) gq.o);clear dA q7 q0 f0;go_wp2_with fail;go_roundw;case rel=>exact⟨n+1,_,_,by go_num,dQ.o⟩
        case measure=>simp[intOf];omega
     .have bM:n=c.wants.length:=Nat.le_antisymm aY.o.wz.le (by have:=aH.o.2.2.2;omega);subst bM;have bU:¬((c.wants.length:Nat):Int)<(s.length:Int):=by have:=aH.o.2.2.2;omega
      have jb:=Z (az.o.wz aY.o.wz);have HG:=Z (show ∀i x,G i x→(x≠p∧x≠A∧x∉s)∧(x<w.heap.size→S x) from λi x o=>by
       rcases aY.o.sub i x o with⟨j,d, -,C, -⟩|⟨C, -⟩
       .exact⟨az.o.zT j x C,λ_=>(dX.o x).2 (.inr (.inr (.inr ⟨j,C⟩)))⟩
       .refine⟨⟨?_,?_,λe=>by have:=fP.o x e;omega⟩,λh=>by omega⟩
        .rintro rfl;have:=az.o.hp.lt;omega
        .rintro rfl;have:=az.o.hm.lt;omega)
      have mM:=Z (show ∀i b,okB ok w b→¬G i b from λi b t o=>by
       rcases aY.o.sub i b o with⟨j,d, -,C, -⟩|⟨C, -⟩
       .exact(az.o.no b t).2.2.2 j C
       .have:=t.2;omega)
      have dS:=Z (show eu (okB ok w) B T (dw c.deps c.wants) G by have h:=aY.o.cl;rw[List.take_of_length_le lR'] at h;exact h);have kz:=Z (show ∀q∈T,∃i,G i q from λq E=>by obtain⟨i,hi⟩:=List.getElem?_of_mem E;exact⟨i,dS.o.self hi⟩);have kC:=Z (show ∀q∈T,∃b0 b1 b2 b3,ay B q [b0,b1,b2,b3] 125 from λq E=>by obtain⟨i,hi⟩:=List.getElem?_of_mem E;obtain⟨d,V⟩:=gX' (dw c.deps c.wants) i ((by rw[←dS.o.len];exact(gS'.1 hi).1));exact(dS.o.all i q d hi V).jh);have aQ:(aF T).length=T.length:=(by simp[aF]);have jd:=Z (wO (cv:=.slice va T.length vc) jb.o.hp aY.o.own.rowAt (λb t _=>⟨λe=>aY.o.own.lI (by decide) jb.o.hp (e▸t),λe=>by obtain⟨b0,b1,b2,b3,C⟩:=kC.o b e;exact aY.o.own.lI (by decide) C t⟩) dS.o.nodup (λe=>by obtain⟨i,hi⟩:=kz.o p e;exact(HG.o i p hi).1.1 rfl) kC.o (by have C:=aY.o.len;have h2:=aH.o;omega));clear aQ;go_wp2_with fail;refine jd.o.mono ?_;rintro e w3 ⟨rfl,w1,ik,iq,iw,gu,gz⟩;obtain⟨je,mO⟩:=jb.o.deps dS.o (λi x o=>(HG.o i x o).1) mM.o iq iw gu gz;have eQ:=Z je;have eG:=Z (show O S w w3 from(aY.o.wz.X.mono (λx _ o=>(dX.o x).2 (.inr (.inr (.inl o))))).trans mO (λx o e=>by
       rcases e with e|e
       .exact(dX.o x).2 (.inl e)
       .obtain⟨i,hi⟩:=kz.o x e;exact(HG.o i x hi).2 o))
      have mP:=Z (show ∀b,ik.ownBlock=some b→B.heap.size<=b from λb t=>by have:=(gz.own.elem t).1;omega);have dC:=Z (show ∀x,qX p A s G x→S x∨w.heap.size<=x from λx o=>by
       rcases Nat.lt_or_ge x w.heap.size with h|h
       .refine .inl ?_;rcases o with e|e|e|⟨i,e⟩
        .exact(dX.o x).2 (.inl e)
        .exact(dX.o x).2 (.inr (.inl e))
        .exact(dX.o x).2 (.inr (.inr (.inl e)))
        .exact(HG.o i x e).2 h
       .exact .inr h)
      obtain⟨dD,jf⟩:∃dD,dD=λx=>(okB ok w x∧x<B.heap.size)∨ik.ownBlock=some x:=⟨_,rfl⟩
      rw[←jf] at eQ;have qo:=Z (show ∀b,dD b→okB ok w b∨w.heap.size<=b from λb t=>by
       rw[jf] at t;rcases t with t|t
       .exact .inl t.1
       .have C:=mP.o b t;have h2:=aY.o.wz.X.size;exact .inr (by omega))
      have qp:=Z (show ∀b,okB ok w b→dD b from λb t=>by rw[jf];exact .inl ⟨t,by have C:=t.2;have h2:=aY.o.wz.X.size;omega⟩);have qw:w3.cell? ⟨p,0,none⟩=some (ptr A):=je.hp.cell 0;have qx:w3.cell? ⟨A,2,none⟩=some (.slice (some wa) s.length wc):=je.hm.cell 2;clear je mO iq iw gu gz jf;clear jb HG mM dS kz kC jd aY mP gq fP;go_wp2_with fail;have mQ:(c.wants.map lg).length=c.wants.length:=List.length_map _;go_loopw [138] (λct wr=>∃n:Nat,ct=.int .i64 n∧WZ dD w3 s (c.wants.map lg) (λx=>{x with enabled:=true}) n wr) (λct _=>s.length - (intOf ct).toNat);case atStart=>exact⟨0,rfl,zL',eQ.o.nS,eQ.o.hq,λb t=>(eQ.o.no b t).2.2.1,λi q x h=>by omega,λi q x _ E o=>eQ.o.hx i q x E o,O.refl _ _⟩
      case round=>
       obtain⟨n,rfl,hz⟩:=hrel;obtain⟨B,rfl⟩:∃B,B=wr:=⟨_,rfl⟩;have HZ:=Z hz;clear hz;by_cases aJ:n<s.length
       .obtain⟨q,E⟩:=gX' s n (aJ);obtain⟨x,o⟩:=gX' (c.wants.map lg) n ((by rw[mQ,←aH.o.2.2.2];exact aJ));have aK:=eQ.o.hw;have bn:(aF s).length=s.length:=(by simp[aF]);rw[←bn] at aK;obtain⟨iV,iY,dN,ig,aW⟩:=aK.at (i:=n) (r:=[ptr q]) (by simp[E]);cases dN;have aW:=(aW.X HZ.o.X (HZ.o.o _ ig)).one;simp only[Nat.mul_one] at aW;obtain⟨gZ,ta,tn,tc,ia,jn,jc,aA, -,eP⟩:=(HZ.o.rest n q x lR' E o).open;have k5:B.cell? ⟨q,5,none⟩=some (.bool x.enabled):=aA.cell 5;have f5:=aA.frozen 5;have dQ:=Z (λ(W:World) (hW:W=B.setCell ⟨q,5,none⟩ (.bool true))=>show WZ dD w3 s (c.wants.map lg) (λx=>{x with enabled:=true}) (n+1) W by
         obtain⟨C,h2, -⟩:=aA.setCell 5 (.bool true);rw[←hW] at C h2;exact HZ.o.step E o h2 (eP W {x with enabled:=true} (·=q) rfl rfl C h2 (λb t e=>HZ.o.o b t (e▸mG' E))))
        have bU:(n:Int)<(s.length:Int):=(by omega);clear E o aK bn aA eP;go_upto_region 29 with fail
        generalize dA:World.setCell _ _ _=W;have HH:=Z (dQ.o W dA.symm);clear dA k5 f5;go_wp2_with fail;go_roundw;case rel=>exact⟨n+1,by go_num,HH.o⟩
        case measure=>simp[intOf];omega
       .have bM:n=(c.wants.map lg).length:=Nat.le_antisymm HZ.o.le (by rw[mQ];have:=aH.o.2.2.2;omega);have bU:¬(n:Int)<(s.length:Int):=(by omega);have jg:=Z (show PO dD B p A mv lD ik (.slice (some wa) s.length wc) c.name c.version c.vals T s (dw c.deps c.wants) (c.wants.map gy) G by
         have h:=eQ.o.wz (bM▸HZ.o);rw[List.map_map] at h;exact h)
        have iy:=Z (show O S w B from eG.o.trans HZ.o.X (λx o e=>(dC.o x (.inr (.inr (.inl e)))).elim id (λh=>by omega)));clear eQ eG HZ qw qx bM aJ;have ji:=Z (show dJ false (.mk c.name c.version c.vals (dw c.deps c.wants) (c.wants.map gy)) v=dJ false (.mk c.name c.version c.vals (dw c.deps c.wants) c.wants) v by rw[dJ,dJ]);have jk:=Z (show iW U N (D+2) (L+1) (.mk c.name c.version c.vals (dw c.deps c.wants) (c.wants.map gy)) from(HA.o.en.en.Lh pK).mono HA.o.dd.1);have mV:=Z (show D+(L+1)<=1000 by have:=HA.o.dd.2;omega);have mW:=Z (((HA.o.aj.dV.X iy.o (λx o=>HA.o.no x o.1))).mono (ok':=λx=>dD x∨qX p A s G x) (λx _ o=> .inl (qp.o x o)));have eU:=Z (pR U N hN pM pO lC D (L+1) mV.o _ jk.o (λx=>dD x∨qX p A s G x) p v b B jg.o.Nh mW.o HA.o.wu HA.o.sh);rw[ji.o] at eU;clear mW mV;go_wp2_with fail;refine eU.o.mono ?_;intro e w5 jm;cases hr:dJ false (.mk c.name c.version c.vals (dw c.deps c.wants) c.wants) v with
        |none=>
         rw[hr] at jm;obtain⟨⟨uj,eb,rfl⟩,gB⟩:=jm;have fH:=Z (show fF (L+1) c v bD=none by rw[fF,if_neg (by simpa using iR.o),hr]);have jo:=Z gB;have kD:=Ko eb;have qy:=λx=>Kq x eb
         clear gB hr eU;go_wp2;try simp only[Exit.noGoto]
         go_ret;rw[fH.o];exact⟨⟨eb,rfl⟩,iy.o.trans' jo.o⟩
        |some all=>
         rw[hr] at jm;obtain⟨⟨g5,rfl,mY⟩,gB,qA⟩:=jm;have kD:=eY;have qB:=dO;have iC:=jg.o.wide.keep gB;have dU:=Z iC;have uk:=Z (λx (o:qX p A s G x)=>jg.o.lt o);have jq:=Z (show bC (λx=>dD x∨B.heap.size<=x) w5 (.iface 67 (.map (some g5))) (.table all) from
          (mY.off (S:=qX p A s G) (λx o=>(iC.Nc (λe=>absurd (List.map_eq_nil_iff.1 e) iR.o)).Nj x o)).mono (λx _ o=>by
           rcases o with⟨C|C,h2⟩
           .exact .inl (C.1.resolve_right h2)
           .exact .inr C))
         have mZ:=Z (And.intro (Cm lC false (L+1) _ v all D jk.o HA.o.wu (ji.o.trans hr)) (qM false (L+1) _ v all jk.o HA.o.sh (ji.o.trans hr)));have HR:=Z hr;have jo:=Z (iy.o.trans' gB);obtain⟨bH,kE⟩:∃bH,bH=λx=>dD x∨B.heap.size<=x:=⟨_,rfl⟩
         rw[←kE] at dU jq;have qC:=Z (show ∀x,bH x→okB ok w x∨w.heap.size<=x from λx o=>by
          rw[kE] at o;rcases o with o|o
          .exact qo.o x o
          .have:=iy.o.size;exact .inr (by omega))
         have k0:w5.cell? ⟨p,0,none⟩=some (ptr A):=iC.hp.cell 0;have m2:w5.cell? ⟨A,2,none⟩=some (.slice (some wa) s.length wc):=iC.hm.cell 2;have ng:=Z (Ee (all:=all) (xs:=c.wants.map gy) dU.o.hw lG.o dU.o.nS dU.o.hq (λb t=>(dU.o.no b t).2.2.1) dU.o.hx jq.o (λy hy k hk=>by
          obtain⟨x,o,rfl⟩:=List.mem_map.1 hy;exact(gY.o.1 x o).sm.tags.2 k hk) (by rw[List.length_map];have:=aH.o.2.1;omega) (λy hy=>by
          obtain⟨x,o,rfl⟩:=List.mem_map.1 hy;exact(gY.o.1 x o).sm.tags.1))
         clear iC mY gB qA kE hr eU jk ji jg iy;go_wp2_with fail;refine ng.o.mono ?_;rintro e w6 ⟨rfl,dH⟩;have dI:=Z (dU.o.wz (by simpa using dH));have kF:=Z (jq.o.X dH.X (λb t=>(dU.o.no b t).2.2.1));have ni:=Z (show O S w w6 from jo.o.trans dH.X (λx o e=>(dC.o x (.inr (.inr (.inl e)))).elim id (λh=>by omega)));have qE:w6.cell? ⟨p,0,none⟩=some (ptr A):=dI.o.hp.cell 0;have qF:w6.cell? ⟨A,2,none⟩=some (.slice (some wa) s.length wc):=dI.o.hm.cell 2;have ny:=Z (Bl (all:=all) (xs:=(c.wants.map gy).map (jL all)) bD dI.o.hw lG.o dI.o.nS dI.o.hq (λb t=>(dI.o.no b t).2.2.1) dI.o.hx kF.o (by have:=HA.o.ps;omega) (λy hy=>by
          obtain⟨x2,iD,rfl⟩:=List.mem_map.1 hy;obtain⟨x,o,rfl⟩:=List.mem_map.1 iD;exact(lJ.o.2.2 x o).cond) (λy hy=>by
          obtain⟨x2,iD,rfl⟩:=List.mem_map.1 hy;obtain⟨x,o,rfl⟩:=List.mem_map.1 iD;exact(lJ.o.2.2 x o).chars) (by rw[List.length_map,List.length_map];have:=aH.o.2.1;omega))
         clear dH ng k0 m2 dU jq jo;go_wp2_with fail;refine ny.o.mono ?_;rintro e w7 ⟨rfl,jr⟩;obtain⟨P,jv⟩:∃P,P=bG all bD c.wants:=⟨_,rfl⟩;have jw:=Z jv;have iE:=Z (show P.length=s.length by rw[jv,aH.o.2.2.2];unfold bG;simp);have eX:=Z (show PO bH w7 p A mv lD ik (.slice (some wa) s.length wc) c.name c.version c.vals T s (dw c.deps c.wants) P G by rw[jv];exact dI.o.wz (by simpa using jr));have nz:=Z (kF.o.X jr.X (λb t=>(dI.o.no b t).2.2.1));have nC:=Z (show O S w w7 from ni.o.trans jr.X (λx o e=>(dC.o x (.inr (.inr (.inl e)))).elim id (λh=>by omega)));clear jr ny qE qF dI kF ni jv;have nD:=Z (show ∀x∈P,x.name.size<=maxLen from λx o=>by rw[jw.o] at o;obtain⟨x1,qG,rfl⟩:=List.mem_map.1 o;obtain⟨x2,iD,rfl⟩:=List.mem_map.1 qG;obtain⟨x3,qH,rfl⟩:=List.mem_map.1 iD;have:=(gY.o.1 x3 qH).named.le;show(named x3).size<=maxLen;unfold maxLen;omega)
         have qI:w7.cell? ⟨p,0,none⟩=some (ptr A):=eX.o.hp.cell 0;have qJ:w7.cell? ⟨A,2,none⟩=some (.slice (some wa) s.length wc):=eX.o.hm.cell 2;have um:=yR;go_upto_region 36 with fail
         obtain⟨bm,jy⟩:∃bm,bm=w7.heap.size:=⟨_,rfl⟩;have nG:aU (w7.alloc (.map #[] 0)) bm 0 (λ_=>none):=jy▸aU.made w7;have jA:O No w7 (w7.alloc (.map #[] 0)):=(O.refl No w7).alloc _;rw[←jy];generalize qK:w7.alloc (.map #[] 0)=w8 at*;have nH:=Z nG;have nI:=Z jA;have gG:=Z jy;have qL:w8.cell? ⟨p,0,none⟩=some (ptr A):=(eX.o.hp.X jA id).cell 0;have qO:w8.cell? ⟨A,2,none⟩=some (.slice (some wa) s.length wc):=(eX.o.hm.X jA id).cell 2;clear qK nG jA jy qI qJ;go_wp2_with fail;go_loopw [183] (λct wr=>∃(n m:Nat)(f:K→Option Value),ct=.int .i64 n∧n<=s.length∧m<=n∧aU wr bm m f∧(∀k,(f k).isSome=(P.take n).any λx=>decide (x.name=k) && !x.enabled)∧(∀k u,f k=some u→u=.agg #[])∧O No w7 wr) (λct _=>s.length - (intOf ct).toNat)
         case atStart=>exact⟨0,0,_,rfl,zL',lR',nH.o,λ_=>rfl,λk u h=>(by cases h),nI.o⟩
         case round=>
          obtain⟨n,m,f,rfl,nJ,uo,bP,hf,nK,iF⟩:=hrel;obtain⟨B,rfl⟩:∃B,B=wr:=⟨_,rfl⟩;have jB:=Z bP;have HF:=Z hf;have bg:=Z iF;have jC:=Z nK;clear bP hf nK iF qL qO;by_cases aJ:n<s.length
          .obtain⟨q,E⟩:=gX' s n (aJ);obtain⟨x,o⟩:=gX' P n ((by rw[iE.o];exact aJ));have aK:=eX.o.hw;have bn:(aF s).length=s.length:=(by simp[aF]);rw[←bn] at aK;obtain⟨iV,iY,dN,ig,aW⟩:=aK.at (i:=n) (r:=[ptr q]) (by simp[E]);cases dN;have aW:=(aW.X bg.o id).one;simp only[Nat.mul_one] at aW;obtain⟨gZ,ta,tn,tc,ia,jn,jc,aA, -, -⟩:=(eX.o.hx n q x E o).open;have q5:B.cell? ⟨q,5,none⟩=some (.bool x.enabled):=(aA.X bg.o id).cell 5;have q0:B.cell? ⟨q,0,none⟩=some (.string x.name):=(aA.X bg.o id).cell 0;have bZ:=nD.o x (mG' o);have HX:=Z o;have uq:=LJ;have bU:(n:Int)<(s.length:Int):=(by omega);clear E o aK bn aA;cases dK:x.enabled with
           |true=>
            rw[dK] at q5;have HN:=Z (show ∀k,(f k).isSome=(P.take (n+1)).any λx=>decide (x.name=k) && !x.enabled from λk=>by rw[any_take_succ HX.o,HF.o k,dK];simp);clear dK;go_wp2_with fail;go_roundw;case rel=>exact⟨n+1,m,f,by go_num,by omega,by omega,jB.o,HN.o,jC.o,bg.o⟩
            case measure=>simp[intOf];omega
           |false=>
            rw[dK] at q5;have HN:=Z (show ∀k,(if k=x.name then some (Value.agg #[]) else f k).isSome=(P.take (n+1)).any λx=>decide (x.name=k) && !x.enabled from λk=>by
             rw[any_take_succ HX.o,←HF.o k,dK];by_cases e:k=x.name
             .subst e;simp
             .rw[if_neg e,decide_eq_false (λe2=>e e2.symm)];simp)
            have bP:=jB.o;have qP:m<maxLen:=by unfold maxLen;omega
            clear dK;go_wp2_with (first|(at_mapUpdate;refine D9 Tryz.underlying159 rfl rfl rfl bP qP rfl bZ rfl ?_;intro w3 nM nN nO;go_frame));have nP:=Z (And.intro nM (bg.o.trans nN (λi hi e=>by have e1:i=bm:=e;have:=gG.o;omega)));clear nM nN nO bP;go_roundw
            case rel=>exact⟨n+1,m+1,_,by go_num,by omega,by omega,nP.o.1,HN.o,(λk u h=>by
             by_cases e:k=x.name
             .rw[if_pos e] at h;cases h;rfl
             .rw[if_neg e] at h;exact jC.o k u h),nP.o.2⟩
            case measure=>simp[intOf];omega
          .have bM:n=s.length:=(by omega);subst bM;have bU:¬((s.length:Nat):Int)<(s.length:Int):=(by omega);have qQ:=Z (show ∀d:Ch,(f d.name).isSome=gI P d from λd=>by
            rw[HF.o,List.take_of_length_le (by rw[iE.o];exact lR')];rfl)
           have qR:=Z (show ∀k,(f k).isSome=P.any λx=>decide (x.name=k) && !x.enabled from λk=>by rw[HF.o,List.take_of_length_le (by rw[iE.o];exact lR')]);have fU:=eX.o.keep bg.o;have J:=Z fU;have qU:=Z (nz.o.X bg.o nE);have fA:=Z (nC.o.trans' bg.o);have qV:B.cell? ⟨p,0,none⟩=some (ptr A):=fU.hp.cell 0;have qW:B.cell? ⟨A,2,none⟩=some (.slice (some wa) s.length wc):=fU.hm.cell 2;obtain⟨db,dn,uu,rfl⟩:∃a n c,ik=.slice a n c:=by obtain⟨-, -,a,c,h, -⟩:=fU.hd;exact⟨_,_,_,h⟩
           have fB:dn=T.length:=by obtain⟨-, -,a,c,h, -⟩:=fU.hd;cases h;simp[aF]
           subst fB;have uw:=Z (kZ fU.hp);have dP:=yS;clear fU eX nz nC HF bg nH nI nJ aJ;go_upto_region 43 with fail
           obtain⟨bc,kG⟩:∃bc,bc=B.heap.size:=⟨_,rfl⟩;have nR:aB (B.alloc (.cells #[] 70)) B.heap.size 70 1 (.slice (some ⟨bc,0,none⟩) 0 0) []:=aB.empty (by omega) (ay.newAt kG [] 70);have iG:O No B (B.alloc (.cells #[] 70)):=(O.refl No B).alloc _;rw[←kG];generalize qY:B.alloc (.cells #[] 70)=nT at*;have qZ:=Z nR;have rq:=Z iG;have nU:=Z (kZ (J.o.hp.X iG id));have ru:nT.cell? ⟨p,0,none⟩=some (ptr A):=(J.o.hp.X iG id).cell 0;have ry:nT.cell? ⟨A,2,none⟩=some (.slice (some wa) s.length wc):=(J.o.hm.X iG id).cell 2;have kH:=Kr ⟨bc,0,none⟩;clear qY nR iG kG qV qW dP;go_wp2_with fail;refine nU.o.mono ?_;rintro e wt ⟨rfl,fJ⟩;obtain rfl:=fJ.symm;go_wp2_with fail;refine nU.o.mono ?_;rintro e wt ⟨rfl,fJ⟩;obtain rfl:=fJ.symm;have aO:=Z (P1.start (okB bH B) (dw c.deps c.wants) G (λd=> !gI P d) rq.o qZ.o);have uy:T.length<=100:=by have C:=J.o.cl.len;have h2:=uV c.deps c.wants;have h3:=aH.o;omega
           go_wp2_with fail
           go_loopw [22,208] (λv7 ct wr=>∃(n:Nat)(jl:List Nat)(H:Nat→ae),ct=.int .i64 n∧P1 (okB bH B) B (dw c.deps c.wants) G (λd=> !gI P d) n v7 jl H wr) (λ_ ct _=>T.length - (intOf ct).toNat)
           case atStart=>exact⟨0,[],_,rfl,aO.o⟩
           case round=>
            clear aO kH;obtain⟨n,jl,H,rfl,dL⟩:=hrel;obtain⟨wy,rfl⟩:∃wy,wy=wr:=⟨_,rfl⟩;obtain⟨xa,xc,rfl⟩:=dL.own.dY;have aQ:(aF jl).length=jl.length:=(by simp[aF]);rw[aQ] at dL⊢;clear aQ ru ry;have aO:=Z dL;clear dL;by_cases aJ:n<T.length
            .obtain⟨q,E⟩:=gX' T n (aJ);obtain⟨d,V⟩:=gX' (dw c.deps c.wants) n ((by rw[←J.o.cl.len];exact aJ));have dF:=J.o.hd;have dE:(aF T).length=T.length:=(by simp[aF]);rw[←dE] at dF;obtain⟨lb,lo,jR,jS,bJ⟩:=dF.at (i:=n) (r:=[ptr q]) (by simp[E]);subst jR;have bJ:=(bJ.X aO.o.X id).one;simp only[Nat.mul_one] at bJ;obtain⟨dZ,lM,lN,lQ,lS,dM⟩:=J.o.cl.LD E V;have iU:=Z (dM.X aO.o.X id id);have d0:wy.cell? ⟨q,0,none⟩=some (ptr dZ):=iU.o.1.cell 0;have d1:wy.cell? ⟨dZ,0,none⟩=some (.string d.name):=iU.o.2.1.cell 0;have bP:=jB.o.X aO.o.X id;have fB:d.name.size<=maxLen:=by
              have:=(HA.o.en.dep (mG' V)).en.gQ.plain.le;unfold maxLen;omega
             have gJ:=qQ.o d;have HQ:=Z E;have HD:=Z V;have bU:(n:Int)<(T.length:Int):=(by omega);clear E V dF dE dM;cases vk:f d.name with
             |none=>
              rw[vk] at gJ;have HK:=Z (show(!gI P d)=true by rw[←gJ];rfl);have fV:=Z vk;have nV:=aO.o.Eh ((O.refl No wy).alloc (.cells #[] 160));have fC:=Z nV;clear vk gJ nV;go_upto_region 48 with(first|(at_lookup;refine cO Tryz.underlying159 Tryz.zeroValue160 rfl rfl rfl bP rfl fB ?_;rw[fV.o];go_frame)|(with_reducible refine ak rfl zg rfl rfl rfl rfl rfl rfl ?_))
              obtain⟨bu,bW⟩:∃bu,bu=wy.alloc (.cells #[] 160):=⟨_,rfl⟩;rw[←bW] at fC⊢;have aG:=fC.o.own;have aQ:(aF jl).length=jl.length:=(by simp[aF]);have di:(aF jl).length+1<=1099511627776:=by have C:=fC.o.len;have h2:=J.o.cl.len;rw[aQ];omega
              have dP:B.heap.size<=bu.heap.size+1:=by have:=fC.o.X.size;omega
              clear bW aQ bP d0 d1 bJ;go_wp2_with (first|(at_builtin;refine aN rfl vY rfl rfl (aG.alloc _) rfl (aC.gX bu [ptr q] 70 1 rfl) (by simp[Value.oneCell']) di (by decide) (by simpa using dP) ?_;intro v' w6 bV dm cu fO;go_frame));have dG:=Z (fC.o.take (J.o.cl.mono (ok':=okB bH B) (λb t h=>⟨h,t⟩)) (λb h=>h.2) HD.o HQ.o HK.o dm bV);clear bV dm cu fO aG;go_roundw;case rel=>exact⟨n+1,_,_,by go_num,dG.o⟩
              case measure=>simp[intOf];omega
             |some u=>
              have hu:=jC.o _ _ vk;subst hu;rw[vk] at gJ;have HK:=Z (show(!gI P d)=false by rw[←gJ];rfl);have fV:=Z vk;have fC:=Z ((aO.o.Eh ((O.refl No wy).alloc (.cells #[] 160))).skip HD.o HK.o);clear vk gJ;go_upto_region 48 with(first|(at_lookup;refine cO Tryz.underlying159 Tryz.zeroValue160 rfl rfl rfl bP rfl fB ?_;rw[fV.o];go_frame)|(with_reducible refine ak rfl zg rfl rfl rfl rfl rfl rfl ?_))
              obtain⟨bu,bW⟩:∃bu,bu=wy.alloc (.cells #[] 160):=⟨_,rfl⟩;rw[←bW] at fC⊢;clear bW bP d0 d1 bJ;go_wp2_with fail;go_roundw;case rel=>exact⟨n+1,_,_,by go_num,fC.o⟩
              case measure=>simp[intOf];omega
            .have bM:n=(dw c.deps c.wants).length:=Nat.le_antisymm aO.o.le (by rw[←J.o.cl.len];omega);have bU:¬(n:Int)<(T.length:Int):=(by omega);have jD:=Z (show eu (okB bH B) wy jl ((dw c.deps c.wants).filter λd=> !gI P d) H by
              have h:=aO.o.cl;rw[bM,List.take_length] at h;exact h)
             have fZ:=Z (show ∀k x,H k x→∃j,G j x from λk x o=>by obtain⟨j,d, -, -, -,h⟩:=aO.o.sub k x o;exact⟨j,h⟩);have rC:wy.cell? ⟨p,0,none⟩=some (ptr A):=(J.o.hp.X aO.o.X id).cell 0;have rD:wy.cell? ⟨A,2,none⟩=some (.slice (some wa) s.length wc):=(J.o.hm.X aO.o.X id).cell 2;have rE:=yT;have nX:=Z (show jl.length<=100 by have C:=aO.o.len;have h2:=J.o.cl.len;omega);clear aJ bM;go_upto_region 52 with fail
             obtain⟨b2,iH⟩:∃b2,b2=wy.heap.size:=⟨_,rfl⟩;have nY:aB (wy.alloc (.cells #[] 152)) wy.heap.size 152 1 (.slice (some ⟨b2,0,none⟩) 0 0) []:=aB.empty (by omega) (ay.newAt iH [] 152);have jE:O No wy (wy.alloc (.cells #[] 152)):=(O.refl No wy).alloc _;rw[←iH];generalize rF:wy.alloc (.cells #[] 152)=nZ at*;have rG:=Z nY;have rH:=Z jE;have rJ:nZ.cell? ⟨p,0,none⟩=some (ptr A):=((J.o.hp.X aO.o.X id).X jE id).cell 0;have rM:nZ.cell? ⟨A,2,none⟩=some (.slice (some wa) s.length wc):=((J.o.hm.X aO.o.X id).X jE id).cell 2;have kH:=Kt ⟨b2,0,none⟩ (some wa) wc;clear rF nY jE iH rC rD rE;go_wp2_with fail;go_loopw [27,250] (λv7 ct wr=>∃(n:Nat)(zs:List Nat),ct=.int .i64 n∧n<=s.length∧zs=(((s.zip P).take n).filter (kQ P)).map (·.1)∧aB wr wy.heap.size 152 1 v7 (aF zs)∧O No wy wr) (λ_ ct _=>s.length - (intOf ct).toNat)
             case atStart=>exact⟨0,[],rfl,zL',by simp,rG.o,rH.o⟩
             case round=>
              clear kH;obtain⟨n,zs,rfl,nJ,kJ,aG,iF⟩:=hrel;obtain⟨fD,rfl⟩:∃fD,fD=wr:=⟨_,rfl⟩;obtain⟨ya,yc,rfl⟩:=aG.dY;have aQ:(aF zs).length=zs.length:=(by simp[aF]);rw[aQ] at aG⊢;clear aQ rJ rM;have og:=Z (show zs.length<=40 by
               rw[kJ,List.length_map];refine Nat.le_trans (List.length_filter_le _ _) ?_;rw[List.length_take];have h:(s.zip P).length<=s.length:=by rw[List.length_zip];exact Nat.min_le_left _ _
               omega)
              have oh:=Z kJ;have jF:=Z aG;have bg:=Z iF;clear aG iF kJ;by_cases aJ:n<s.length
              .obtain⟨q,E⟩:=gX' s n (aJ);obtain⟨x,o⟩:=gX' P n ((by rw[iE.o];exact aJ));have oq:=Z (show(((s.zip P).take (n+1)).filter (kQ P)).map (·.1)=zs++(if kQ P (q,x) then [q] else []) by
                have hz:(s.zip P)[n]?=some (q,x):=List.getElem?_zip_eq_some.2 ⟨E,o⟩;rw[List.take_add_one,hz,List.filter_append,List.map_append,←oh.o];cases h:kQ P (q,x)<;>simp[h])
               have aK:=J.o.hw;have bn:(aF s).length=s.length:=(by simp[aF]);rw[←bn] at aK;obtain⟨iV,iY,dN,ig,aW⟩:=aK.at (i:=n) (r:=[ptr q]) (by simp[E]);cases dN;have aW:=((aW.X aO.o.X id).X bg.o id).one;simp only[Nat.mul_one] at aW;obtain⟨gZ,ta,tn,tc,ia,jn,jc,aA, -, -⟩:=(J.o.hx n q x E o).open;have q0:fD.cell? ⟨q,0,none⟩=some (.string x.name):=((aA.X aO.o.X id).X bg.o id).cell 0;have bZ:=nD.o x (mG' o);have bP:=(jB.o.X aO.o.X id).X bg.o id;have ou:=Z (show kQ P (q,x)= !(f x.name).isSome by unfold kQ;rw[qR.o]);have bU:(n:Int)<(s.length:Int):=(by omega);clear E o aK bn aA;cases vk:f x.name with
               |none=>
                have kK:=Z (show zs++[q]=(((s.zip P).take (n+1)).filter (kQ P)).map (·.1) by rw[oq.o,ou.o,vk];rfl);have fV:=Z vk;have iI:=Z (jF.o.alloc (.cells #[] 160));clear vk;go_upto_region 58 with(first|(at_lookup;refine cO Tryz.underlying159 Tryz.zeroValue160 rfl rfl rfl bP rfl bZ ?_;rw[fV.o];go_frame)|(with_reducible refine ak rfl zg rfl rfl rfl rfl rfl rfl ?_))
                obtain⟨bu,bW⟩:∃bu,bu=fD.alloc (.cells #[] 160):=⟨_,rfl⟩;have jG:=Z (show O No wy bu by rw[bW];exact bg.o.alloc _);rw[←bW] at iI⊢;have aG:=iI.o;have di:(aF zs).length+1<=1099511627776:=by have C:=og.o;rw[List.length_map];omega
                have dP:wy.heap.size<=bu.heap.size+1:=by have:=jG.o.size;omega
                clear bW bP q0 aW;go_wp2_with (first|(at_builtin;refine aN rfl zW rfl rfl (aG.alloc _) rfl (aC.gX bu [ptr q] 152 1 rfl) (by simp[Value.oneCell']) di (by decide) (by simpa using dP) ?_;intro v' w6 bV dm cu fO;go_frame));have dG:=Z (show aB w6 wy.heap.size 152 1 v' (aF (zs++[q]))∧O No wy w6 from⟨by simpa[aF] using bV,(jG.o.alloc _).trans dm (λi hi e=>by have:=(aG.elem e).1;omega)⟩);clear bV dm cu fO aG;go_roundw;case rel=>exact⟨n+1,_,by go_num,by omega,kK.o,dG.o.1,dG.o.2⟩
                case measure=>simp[intOf];omega
               |some u=>
                have hu:=jC.o _ _ vk;subst hu;have kK:=Z (show zs=(((s.zip P).take (n+1)).filter (kQ P)).map (·.1) by rw[oq.o,ou.o,vk];simp);have fV:=Z vk;have iI:=Z (jF.o.alloc (.cells #[] 160));clear vk;go_upto_region 58 with(first|(at_lookup;refine cO Tryz.underlying159 Tryz.zeroValue160 rfl rfl rfl bP rfl bZ ?_;rw[fV.o];go_frame)|(with_reducible refine ak rfl zg rfl rfl rfl rfl rfl rfl ?_))
                obtain⟨bu,bW⟩:∃bu,bu=fD.alloc (.cells #[] 160):=⟨_,rfl⟩;have jG:=Z (show O No wy bu by rw[bW];exact bg.o.alloc _);rw[←bW] at iI⊢;clear bW bP q0 aW;go_wp2_with fail;go_roundw;case rel=>exact⟨n+1,_,by go_num,by omega,kK.o,iI.o,jG.o⟩
                case measure=>simp[intOf];omega
              .have bM:n=s.length:=(by omega);subst bM;have bU:¬((s.length:Nat):Int)<(s.length:Int):=(by omega);have rO:=Z (show zs=((s.zip P).filter (kQ P)).map (·.1) by
                rw[oh.o,List.take_of_length_le (by rw[List.length_zip];exact Nat.min_le_left _ _)])
               obtain⟨ds,kL⟩:∃ds,ds=(dw c.deps c.wants).filter λd=> !gI P d:=⟨_,rfl⟩
               rw[←kL] at jD;have kM:=Z kL;have cZ:=Z (aO.o.X.trans' bg.o);have kN:=Z (show ∀i x,okB bH B x→¬H i x from λi x o h=>by obtain⟨j,Q⟩:=fZ.o i x h;exact(J.o.no x o.1).2.2.2 j Q);have oz:=Z (P3.start (λd=>fF L d all (bD++d.name++dB)) (jD.o.keep bg.o) kN.o);have oC:=Z (show aC (λb=>B.heap.size<=b∧b<fD.heap.size) fD (.slice xa jl.length xc) 1 (aF jl) from by have h:=(aO.o.own.rowAt.X bg.o nE);exact h.mono (λb t e=>⟨(aO.o.own.elem e).1,t⟩) (by decide));have fE:=Z (show ∀i x,H i x→x<B.heap.size∧x≠p∧x≠A∧x∉s from λi x h=>by obtain⟨j,Q⟩:=fZ.o i x h;exact⟨J.o.cl.lt Q,J.o.zT j x Q⟩);have kP:=Z (show jl.length=ds.length from jD.o.len);clear kL jD;go_wp2_with fail;go_loopw [272] (λct wr=>∃(n:Nat)(acc:List Ch)(okr:ae)(Gr:Nat→ae),ct=.int .i64 n∧P3 (okB bH B) fD jl ds H (λd=>fF L d all (bD++d.name++dB)) n acc okr Gr wr) (λct _=>jl.length - (intOf ct).toNat)
               case atStart=>exact⟨0,[],_,_,rfl,oz.o⟩
               case round=>
                clear oz;obtain⟨n,acc,okr,Gr,rfl,oD⟩:=hrel;obtain⟨bY,rfl⟩:∃bY,bY=wr:=⟨_,rfl⟩;have af:=Z oD;clear oD;have uz:jl.length<=100:=nX.o;by_cases aJ:n<jl.length
                .obtain⟨q,E⟩:=gX' jl n (aJ);obtain⟨d,V⟩:=gX' ds n ((by rw[←kP.o];exact aJ));have fB:=af.o.at V;have aK:=oC.o;have bn:(aF jl).length=jl.length:=(by simp[aF]);rw[←bn] at aK;obtain⟨lb,lo,rP,jS,bJ⟩:=aK.at (i:=n) (r:=[ptr q]) (by simp[E]);subst rP;have bJ:=(bJ.X af.o.X (λ⟨j,Q⟩=>by have:=(fE.o j lb Q).1;have:=jS.1;omega)).one;simp only[Nat.mul_one] at bJ;obtain⟨dZ,lM,lN,lQ,lS,dM⟩:=af.o.cl.LD E fB;have d0:bY.cell? ⟨q,0,none⟩=some (ptr dZ):=dM.1.cell 0;have d1:bY.cell? ⟨dZ,0,none⟩=some (.string d.name):=dM.2.1.cell 0;have oG:d∈dw c.deps c.wants:=by
                  have h:=mG' V;rw[kM.o] at h;exact(List.mem_filter.1 h).1
                 have dK:=HA.o.en.dep oG;have uA:d.name.size<=12:=dK.en.gQ.plain.le;have uB:bD.size<=50000:=by have:=HA.o.ps;omega
                 have rQ:=Z (show G8 U N L (D+(L+1)) okr (Gr n) bY q d g5 all (bD++d.name++dB) from
                  ⟨dK,af.o.cl.all n q d E fB,λx o=>af.o.mX n x o,
                   ((((qU.o.dV.X cZ.o nE).X af.o.X (λx o ⟨j,Q⟩=>kN.o j x o Q))).mono (λx _ o=>af.o.old x o)),
                   (by have h:=mZ.o.1;rwa[show D+2+(L+1)=D+(L+1)+2 by omega] at h),mZ.o.2,by have:=HA.o.dd;omega,by
                    have C:=HA.o.ps;have h2:(bD++d.name++dB).size=bD.size+d.name.size+1:=by simp[ByteArray.size_append];rfl
                    omega⟩)
                 have HQ:=Z E;have HD:=Z V;have eU:=Z (pX.o (D+(L+1)) okr (Gr n) bY q d g5 all (bD++d.name++dB) rQ.o);have bU:(n:Int)<(jl.length:Int):=(by omega);clear E V fB aK bn dM oG dK;go_wp2_with fail;refine eU.o.mono ?_;intro e w2 bf;have kR:=Z (show O S w bY from(fA.o.trans' cZ.o).trans af.o.X (λx o ⟨j,Q⟩=>by obtain⟨i,hi⟩:=fZ.o j x Q;exact(dC.o x (.inr (.inr (.inr ⟨i,hi⟩)))).resolve_right (by omega)));have rU:=Z (show ∀x,x<w.heap.size→Gr n x→S x from λx o e=>by
                  have uC:=(fA.o.trans' cZ.o).size;rcases af.o.sub n x e with⟨j,Q⟩|h
                  .obtain⟨i,hi⟩:=fZ.o j x Q;exact(dC.o x (.inr (.inr (.inr ⟨i,hi⟩)))).resolve_right (by omega)
                  .omega)
                 cases xN:fF L d all (bD++d.name++dB) with
                 |none=>
                  rw[xN] at bf;obtain⟨⟨eb,rfl⟩,aZ⟩:=bf;have dh:=Z aZ;have fH:=Z (show fF (L+1) c v bD=none by rw[fF,if_neg (by simpa using iR.o),HR.o];simp only;rw[←jw.o,←kM.o,oM (f:=λd=>fF L d all (bD++d.name++dB)) (mG' HD.o) xN]);have kD:=Ko eb;have qy:=λx=>Kq x eb
                  clear aZ xN eU bJ d0 d1;go_wp2;try simp only[Exit.noGoto]
                  go_ret;rw[fH.o];exact⟨⟨eb,rfl⟩,kR.o.trans dh.o (λx o e=>rU.o x o e)⟩
                 |some d'=>
                  rw[xN] at bf;obtain⟨rfl,aZ,R2,S2,oH,oI,oJ,oK⟩:=bf;have kD:=eY;have qB:=dO;obtain⟨uD,uF,oL⟩:=af.o.step (λx o=>by have C:=o.2;have h2:=cZ.o.size;omega) HQ.o HD.o xN aZ oH oI oJ oK;have dG:=Z oL;clear aZ oH oI oJ oK xN oL eU bJ d0 d1;go_wp2_with fail;go_roundw;case rel=>exact⟨n+1,_,_,_,by go_num,dG.o⟩
                  case measure=>simp[intOf];omega
                .have bM:n=ds.length:=by have:=af.o.le;have:=kP.o;omega
                 subst bM;have bU:¬((ds.length:Nat):Int)<(jl.length:Int):=by rw[kP.o];omega
                 have rV:=Z (show eH (λd=>fF L d all (bD++d.name++dB)) ds=some acc by
                  have h:=af.o.ac
                  rwa[List.take_length] at h)
                 have dS:=Z (show eu okr bY jl acc Gr by
                  have h:=af.o.cl
                  rwa[List.drop_length,List.append_nil] at h)
                 have kR:=Z (show O S w bY from(fA.o.trans' cZ.o).trans af.o.X (λx o ⟨j,Q⟩=>by obtain⟨i,hi⟩:=fZ.o j x Q;exact(dC.o x (.inr (.inr (.inr ⟨i,hi⟩)))).resolve_right (by omega)));have kS:=Z ((J.o.hp.X cZ.o id).X af.o.X (λ⟨j,Q⟩=>(fE.o j p Q).2.1 rfl));have gG:=Z ((J.o.hm.X cZ.o id).X af.o.X (λ⟨j,Q⟩=>(fE.o j A Q).2.2.1 rfl));have oN:=Z (jF.o.X af.o.X (λk hk ⟨j,Q⟩=>by have C:=(jF.o.elem hk).1;have h2:=(fE.o j k Q).1;have h3:=aO.o.X.size;omega));have k0:bY.cell? ⟨p,0,none⟩=some (ptr A):=kS.o.cell 0;have m2:bY.cell? ⟨A,2,none⟩=some (.slice (some wa) s.length wc):=gG.o.cell 2;have f2:=gG.o.frozen 2;clear aJ;go_upto_region 69 with fail
                 generalize dA:World.setCell _ _ _=W1;obtain⟨kT,iJ,oO⟩:=gG.o.setCell 2 (.slice none 0 0);rw[dA] at kT iJ oO;have kU:=Z kT;have oP:=Z iJ;have oQ:=Z (kS.o.X iJ (λe=>J.o.lH.2.2 e));have oU:=Z (oN.o.X iJ (λk hk e=>oN.o.lI (by decide) gG.o (hk.trans (congrArg some e))));have kV:=Z (show ¬p=A from J.o.lH.2.2);clear dA kT iJ oO k0 m2 f2;refine aT (FI [.eq (ptr p),.eq (ptr p),.eq (ptr p),.eq (ptr A),.eq (ptr p),.eq (ptr p),.eq (ptr p),.eq (ptr A),.eq (ptr A),.eq (.pointer (some ⟨A,2,none⟩)),.eq (.slice none 0 0),.eq (.slice ya zs.length yc),.Mc W1.heap.size 152 (aF zs),.eq (ptr A),.eq (.pointer (some ⟨A,2,none⟩)),.any])
                  (λbz w'=>rf A (λl=> [.string c.name,.string c.version,l]) 122 W1.heap.size 152 (aF zs) W1 w' (bz 15)) (by kernel_rfl) (by kernel_rfl) (rf.start kU.o) ?_ ?_
                 .refine⟨?_,?_,?_,?_,?_,?_,?_,?_,?_,?_,?_,?_,?_,?_,?_,?_,trivial⟩
                  .intro bz a w1 K V ai I au M R hK;have e0:a.tmps[0]?.getD undef=ptr p:=au 0 rfl;clear ai I au M;go_simp;exact hK _ _ rfl (by simpa[dn] using R) Sy
                  .intro bz a w1 K V ai I au M R hK;have uG:=fq (I 0 300 rfl (M 0 rfl));clear ai I au M;go_simp;exact hK _ _ rfl (by simpa[dn] using R) Sy
                  .intro bz a w1 K V ai I au M R hK;have uI:=fq (I 1 301 rfl (M 1 rfl));clear ai I au M;go_simp;exact hK _ _ rfl (by simpa[dn] using R) Sy
                  .intro bz a w1 K V ai I au M R hK;have uJ:=fq (I 2 302 rfl (M 2 rfl));have c0:w1.cell? ⟨p,0,none⟩=some (ptr A):=(oQ.o.X R.X kV.o).cell 0;clear ai I au M;go_simp;exact hK _ _ rfl (by simpa[dn] using R) Sy
                  .intro bz a w1 K V ai I au M R hK;have e0:a.tmps[0]?.getD undef=ptr p:=au 0 rfl;clear ai I au M;go_simp;exact hK _ _ rfl (by simpa[dn] using R) Sy
                  .intro bz a w1 K V ai I au M R hK;have uK:=fq (I 4 304 rfl (M 4 rfl));clear ai I au M;go_simp;exact hK _ _ rfl (by simpa[dn] using R) Sy
                  .intro bz a w1 K V ai I au M R hK;have uM:=fq (I 5 305 rfl (M 5 rfl));clear ai I au M;go_simp;exact hK _ _ rfl (by simpa[dn] using R) Sy
                  .intro bz a w1 K V ai I au M R hK;have uN:=fq (I 6 306 rfl (M 6 rfl));have c0:w1.cell? ⟨p,0,none⟩=some (ptr A):=(oQ.o.X R.X kV.o).cell 0;clear ai I au M;go_simp;exact hK _ _ rfl (by simpa[dn] using R) Sy
                  .intro bz a w1 K V ai I au M R hK;have uO:=fq (I 7 307 rfl (M 7 rfl));clear ai I au M;go_simp;exact hK _ _ rfl (by simpa[dn] using R) Sy
                  .intro bz a w1 K V ai I au M R hK;have uP:=fq (I 8 308 rfl (M 8 rfl));clear ai I au M;go_simp;exact hK _ _ rfl (by simpa[dn] using R) Sy
                  .intro bz a w1 K V ai I au M R hK;have uQ:=fq (I 9 309 rfl (M 9 rfl));have iK:=ny1 ai 15 12 rfl (ny1 ai 12 10 rfl V);have kW:=R;rw[iK] at kW;obtain⟨l',t,C, -⟩:=kW.box;obtain rfl:=C rfl;have c0:w1.cell? ⟨A,2,none⟩=some (.slice none 0 0):=t.cell 2;clear kW t C iK;clear ai I au M;go_simp;exact hK _ _ rfl (by simpa[dn] using R) Sy
                  .intro bz a w1 K V ai I au M R hK;have uS:a.tmps[27]?.getD undef=.slice ya zs.length yc:=au 27 rfl;clear ai I au M;go_simp;exact hK _ _ rfl (by simpa[dn] using R) Sy
                  .intro bz a w1 K V ai I au M R hK;have rW:=fq (I 10 310 rfl (M 10 rfl));have rX:=fq (I 11 311 rfl (M 11 rfl));have iK:=ny1 ai 15 12 rfl V;rw[iK] at R;refine ax rfl ?_;refine uH zW rfl (vE rW) (vE rX) (oU.o.rowAt.X R.X (λb t e=>oU.o.lI (by decide) kU.o (t.trans (congrArg some e)))) (by intro r hr;obtain⟨q, -,rfl⟩:=List.mem_map.1 hr;rfl) (by rw[List.length_map];have:=og.o;omega) (by decide) ?_;intro v' w2 aG hc cu;refine hK _ _ ⟨aG.lower R.X.size,cu⟩ (by simpa[dn,iK] using R.df hc) (λ_ _ _ _ h=>h.aP hc)
                  .intro bz a w1 K V ai I au M R hK;have uT:=fq (I 3 303 rfl (M 3 rfl));clear ai I au M;go_simp;exact hK _ _ rfl (by simpa[dn] using R) Sy
                  .intro bz a w1 K V ai I au M R hK;have uU:=fq (I 13 313 rfl (M 13 rfl));clear ai I au M;go_simp;exact hK _ _ rfl (by simpa[dn] using R) Sy
                  .intro bz a w1 K V ai I au M R hK;have rY:=fq (I 14 314 rfl (M 14 rfl));obtain⟨aG,rZ⟩:=I 12 312 rfl (M 12 rfl);rw[V] at R;obtain⟨l',t,C, -⟩:=R.box;obtain rfl:=C rfl;refine ax rfl ?_;refine iT rfl (vE rY) aG.slice Tryz.sizeOf117 t (show 2<3 by decide) (by simp[Act.eval]) ?_;intro w2 iH aZ uX;refine hK undef _ trivial (by simpa[dn] using R.store (by decide) iH aZ aG rZ) ?_;refine λj Q _ u hu=>hu.keep aZ (aV (i:=15) (λj hl Q=> ?_) j Q)
                   match j,Q with
                   |0,_|1,_|2,_|3,_|4,_|5,_|6,_|7,_|8,_|9,_|10,_|11,_=>exact trivial
                   |12,_=>exact λq E hB=>by have e1:q=A:=E;have h9:=kU.o.lt;omega
                   |13,_|14,_=>exact trivial
                   |15,Q=>exact absurd rfl Q
                   |j+16,_=>exact absurd hl (by simp)
                 .intro vs w2 su sD R;have oV:=Z R;clear su sD R;simp only[aX,Act.put,List.setIfInBounds_toArray,List.set_cons_succ,List.set_cons_zero];obtain⟨uY,oW, -,h9⟩:=oV.o.box;obtain⟨kX,oZ⟩:=h9 rfl;obtain⟨wb,wn,wd,rfl⟩:=kX.slice;have o5:O (·=A) W1 w2:=oV.o.X;have iL:O (·=A) bY w2:=oP.o.trans o5 nE;have jH:=Z iL;have sF:=Z oW;have iM:=Z kX;have sG:=Z oZ;have dW:=Z (show ∀i x,Gr i x→x≠p∧x≠A∧x∉s from λi x o=>by
                   have sH:=cZ.o.size;rcases af.o.sub i x o with⟨j,Q⟩|h
                   .exact(fE.o j x Q).2
                   .exact⟨λe=>by have:=J.o.hp.lt;omega,λe=>by have:=J.o.hm.lt;omega,λe=>by have:=J.o.lt (.inr (.inr (.inl e)));omega⟩)
                  have gU:=Z (show ∀x,okr x→x≠p∧x≠A∧x∉s from λx o=>by
                   have sH:=cZ.o.size;rcases af.o.ok x o with h|h
                   .obtain⟨a1,a2,a3, -⟩:=J.o.no x h.1;exact⟨a1,a2,a3⟩
                   .exact⟨λe=>by have:=J.o.hp.lt;omega,λe=>by have:=J.o.hm.lt;omega,λe=>by have:=J.o.lt (.inr (.inr (.inl e)));omega⟩)
                  have iO:=Z (dS.o.X iL (λb t e=>(gU.o b t).2.1 e) (λi b t e=>(dW.o i b t).2.1 e));have o6:=Z (kS.o.X iL kV.o);have sJ:=Z ((oC.o.X af.o.X (λb t ⟨j,Q⟩=>by have:=(fE.o j b Q).1;have:=t.1;omega)).X iL (λb t e=>by have e1:b=A:=e;have C:=J.o.hm.lt;have:=t.1;omega));have kY:=Z (show ∀q∈jl,∃i,Gr i q from λq E=>by obtain⟨i,hi⟩:=List.getElem?_of_mem E;exact⟨i,iO.o.self hi⟩);have o7:=Z (show ∀q∈jl,∃b0 b1 b2 b3,ay w2 q [b0,b1,b2,b3] 125 from λq E=>by obtain⟨i,hi⟩:=List.getElem?_of_mem E;obtain⟨d,V⟩:=gX' acc i ((by rw[←iO.o.len];exact(gS'.1 hi).1));exact(iO.o.all i q d hi V).jh);have jd:=Z (wO (cv:=.slice xa jl.length xc) o6.o sJ.o (λb t _=>⟨λe=>by have C:=J.o.hp.lt;have:=t.1;omega,λe=>by
                   obtain⟨i,hi⟩:=kY.o b e;rcases af.o.sub i b hi with⟨j,Q⟩|h
                   .have:=(fE.o j b Q).1;have:=t.1;omega
                   .have:=t.2;omega⟩) iO.o.nodup (λe=>by obtain⟨i,hi⟩:=kY.o p e;exact(dW.o i p hi).1 rfl) o7.o (by have:=nX.o;omega))
                  clear oW h9 kX oZ o5 iL;go_wp2_with fail;refine jd.o.mono ?_;rintro e w3 ⟨rfl,w1,lh,iq,iw,gu,gz⟩;have uZ:=Z iq;have o8:=Z iw;have sN:=Z gu;have jI:=Z gz;clear iq iw gu gz;go_wp2;try simp only[Exit.noGoto]
                  go_ret;have sO:=iE.o;have iP:=rO.o;have jJ:((s.zip P).filter (kQ P)).map (·.2)=P.filter (·.enabled):=Jc sO (by rw[jw.o];exact Bz gY.o.2.1);have fH:=Z (show fF (L+1) c v bD=some (.mk c.name c.version c.vals acc (P.filter (·.enabled))) by rw[fF,if_neg (by simpa using iR.o),HR.o];simp only;rw[←jw.o,←kM.o,rV.o]);rw[fH.o];obtain⟨gV,hZ⟩:∃gV,gV=(s.zip P).filter (kQ P):=⟨_,rfl⟩;rw[←hZ] at iP jJ;have sQ:∀(i q:Nat)(x:Want),zs[i]?=some q→(P.filter (·.enabled))[i]?=some x→∃j,s[j]?=some q∧P[j]?=some x:=λi q x C h2=>by
                   rw[iP,List.getElem?_map] at C;rw[←jJ,List.getElem?_map] at h2;cases lq:gV[i]? with
                   |none=>rw[lq] at C;cases C
                   |some z=>rw[lq] at C h2;cases C;cases h2;have o9:=mG' lq;rw[hZ] at o9;obtain⟨j,Q⟩:=List.getElem?_of_mem (List.mem_filter.1 o9).1;obtain⟨h3,h4⟩:=List.getElem?_zip_eq_some.1 Q;exact⟨j,h3,h4⟩
                  have pg:List.Sublist zs s:=by
                   have C:List.Sublist (gV.map (·.1)) ((s.zip P).map (·.1)):=by rw[hZ];exact(List.filter_sublist).map _
                   have h2:(s.zip P).map (·.1)=s:=List.map_fst_zip (by omega);rw[h2] at C;rw[iP];exact C
                  have gW:∀x,x∈zs→x∈s:=λx o=>pg.subset o
                  have ve:=cZ.o.size;have nO:=af.o.X.size;have vg:=oP.o.size;have vw:=jH.o.size;have gu:=sN.o;have sS:eu (okB okr w2) w1 jl acc Gr:=(iO.o.mono (ok':=okB okr w2) (λb t h=>⟨h,t⟩)).X o8.o (λb t e=>(gU.o b t.1).1 e) (λi b t e=>(dW.o i b t).1 e);have hk:=AD.kids sS jI.o (λi e=>(dW.o i p e).1 rfl) (λe=>(gU.o p e.1).1 rfl) (λi b t=>af.o.mX i b t.1);have jK:∀x,x∈jl→∃i,Gr i x:=kY.o;have iQ:O (λx=>x=p∨x∈jl) w2 w3:=(o8.o.mono (λ_ _ e=> .inl e)).trans jI.o.X (λx o e=>by
                   rcases e with e|e|e
                   .exact .inl e
                   .rw[List.take_length] at e;exact .inr e
                   .cases e)
                  have aG:=jI.o.own;rw[List.take_length,List.nil_append] at aG;have pq:∀b,lh.ownBlock=some b→w2.heap.size<=b:=λb t=>by have:=(aG.elem t).1;omega
                  have pz:∀b,(Value.slice wb wn wd).ownBlock=some b→W1.heap.size<=b∧b<w2.heap.size:=λb t=>⟨(iM.o.elem t).1,(iM.o.elem t).2.1⟩
                  have di:∀x,(x=p∨x=A∨x∈s)→x<B.heap.size:=λx o=>J.o.lt (by
                   rcases o with e|e|e
                   .exact .inl e
                   .exact .inr (.inl e)
                   .exact .inr (.inr (.inl e)))
                  have sU:¬(A=p∨A∈jl):=λe=>by
                   rcases e with e|e
                   .exact J.o.lH.2.2 e.symm
                   .obtain⟨i,hi⟩:=jK A e;exact(dW.o i A hi).2.1 rfl
                  have sV:∀q,q∈s→¬(q=p∨q∈jl):=λq E e=>by
                   rcases e with e|e
                   .exact J.o.lH.1 (e▸E)
                   .obtain⟨i,hi⟩:=jK q e;exact(dW.o i q hi).2.2 E
                  have pF:∀b,okB bH B b→¬(b=p∨b∈jl):=λb t e=>by
                   rcases e with e|e
                   .exact(gU.o b (af.o.old b t)).1 e
                   .obtain⟨i,hi⟩:=jK b e;exact af.o.mX i b (af.o.old b t) hi
                  have pG:∀b,okB bH B b→¬∃j,H j b:=λb t ⟨j,Q⟩=>kN.o j b t Q
                  have pI:∀b,okB bH B b→¬b=A:=λb t e=>(gU.o b (af.o.old b t)).2.1 e
                  have pJ:∀b,okB bH B b→(okr b∧b<w2.heap.size)∨lh.ownBlock=some b∨(Value.slice wb wn wd).ownBlock=some b:=λb t=> .inl ⟨af.o.old b t,by have:=t.2;omega⟩
                  refine⟨rfl,(kR.o.trans jH.o (λx _ e=>(dX.o x).2 (.inr (.inl e)))).trans iQ (λx o e=> ?_),λx=>(okr x∧x<w2.heap.size)∨lh.ownBlock=some x∨(Value.slice wb wn wd).ownBlock=some x,qX p A zs Gr,?_,λx o=> ?_,λx o=> ?_,λx o hs=> ?_⟩
                  .rcases e with e|e
                   .exact(dX.o x).2 (.inl e)
                   .obtain⟨i,hi⟩:=jK x e;rcases af.o.sub i x hi with⟨j,Q⟩|h
                    .obtain⟨i2,lu⟩:=fZ.o j x Q;exact(dC.o x (.inr (.inr (.inr ⟨i2,lu⟩)))).resolve_right (by omega)
                    .have:=fA.o.size;omega
                  .refine .mk jI.o.jh (sF.o.X iQ sU) J.o.sK ?_ (aG.rowAt.mono (λb _ h=> .inr (.inl h)) (by decide)) hk.len (λi q d C h2=>(hk.all i q d C h2).mono (λb _ h=> .inl h)) ?_ ?_ ?_ (λi q x C h2=> ?_) hk.mX (λi x o=>⟨(dW.o i x o).1,(dW.o i x o).2.1,λe=>(dW.o i x o).2.2 (gW x e)⟩) hk.fl (J.o.hq.sublist pg) ⟨λe=>J.o.lH.1 (gW p e),λe=>J.o.lH.2.1 (gW A e),J.o.lH.2.2⟩ (λx=>Iff.rfl)
                   .exact(((((J.o.hv.mono (ok':=okB bH B) (λb t h=>⟨h,t⟩)).X cZ.o nE).X af.o.X pG).X jH.o pI).X iQ pF).mono (λb _ h=>pJ b h)
                   .exact((iM.o.rowAt.X iQ (λb t e=>by
                     rcases e with e|e
                     .exact iM.o.lI (by decide) o6.o (t.trans (congrArg some e))
                     .obtain⟨b0,b1,b2,b3,C⟩:=o7.o b e;exact iM.o.lI (by decide) C t)).mono (λb _ h=> .inr (.inr h)) (by decide))
                   .intro jP;refine sG.o ?_;have C:gV.map (·.2)=[]:=by rw[jJ];exact jP
                    have h2:gV=[]:=List.map_eq_nil_iff.1 C;rw[iP,h2];rfl
                   .rw[iP,←jJ,List.length_map,List.length_map]
                   .obtain⟨j,h3,h4⟩:=sQ i q x C h2;have dR:=mG' h3;exact((((((J.o.hx j q x h3 h4).mono (ok':=okB bH B) (λb t h=>⟨h,t⟩)).X cZ.o nE id).X af.o.X pG (λ⟨j,Q⟩=>(fE.o j q Q).2.2.2 dR)).X jH.o pI (λe=>J.o.lH.2.1 ((show q=A from e)▸dR))).X iQ pF (sV q dR)).mono (λb _ h=>pJ b h)
                  .rcases o with o|o|o
                   .rcases af.o.ok x o.1 with h|h
                    .exact qC.o x h.1
                    .exact .inr (by have:=fA.o.size;omega)
                   .exact .inr (by have:=pq x o;have:=fA.o.size;omega)
                   .exact .inr (by have:=(pz x o).1;have:=fA.o.size;omega)
                  .rcases o with e|e|e|⟨i,e⟩
                   .exact dC.o x (.inl e)
                   .exact dC.o x (.inr (.inl e))
                   .exact dC.o x (.inr (.inr (.inl (gW x e))))
                   .rcases af.o.sub i x e with⟨j,Q⟩|h
                    .obtain⟨i2,lu⟩:=fZ.o j x Q;exact dC.o x (.inr (.inr (.inr ⟨i2,lu⟩)))
                    .exact .inr (by have:=fA.o.size;omega)
                  .have I:x<bY.heap.size:=by
                    rcases hs with e|e|e|⟨i,e⟩
                    .have:=di x (.inl e);omega
                    .have:=di x (.inr (.inl e));omega
                    .have:=di x (.inr (.inr (gW x e)));omega
                    .exact dS.o.lt e
                   rcases o with o|o|o
                   .obtain⟨a1,a2,a3⟩:=gU.o x o.1;rcases hs with e|e|e|⟨i,e⟩
                    .exact a1 e
                    .exact a2 e
                    .exact a3 (gW x e)
                    .exact af.o.mX i x o.1 e
                   .have:=pq x o;omega
                   .have:=(pz x o).1;omega
def Ig(ok S:ae)(w:World)(p:Nat):Option Ch→Ending→World→Prop
 |none,e,w'=>(∃b,e=.returned (.iface 175 (ptr b)))∧O S w w'
 |some c',e,w'=>e=.returned .nilIface∧O S w w'∧iE (λx=>okB ok w x∨S x∨w.heap.size<=x) w' p c'
structure Oj (U:List K) (N D L:Nat) (ok S:ae) (w:World) (p:Nat) (c:Ch):Prop where
 Bh:uX U N (D+2) L c
 one:FT L c
 ch:bZ ok w p c S
 no:∀x,ok x→¬S x
def He(U:List K)(N D L:Nat):Prop:=∀(ok S:ae)(w:World)(p:Nat)(c:Ch),Oj U N D L ok S w p c→Calls Tryz.prog 87 #[ptr p,.bool true] w (Ig ok S w p (eX L c))
structure P5 (qc:ae) (w:World) (ps:List Nat) (deps:List Ch) (F:Nat→ae) (f:Ch→Option Ch) (n:Nat) (acc:List Ch) (wr:World):Prop where
 le:n<=deps.length
 ac:eH f (deps.take n)=some acc
 done:∀(i q:Nat)(d:Ch),ps[i]?=some q→acc[i]?=some d→iE (λx=>qc x∨(∃j,j<n∧F j x)∨w.heap.size<=x) wr q d
 rest:∀(i q:Nat)(d:Ch),n<=i→ps[i]?=some q→deps[i]?=some d→bZ qc wr q d (F i)
 X:O (λx=>∃j,j<n∧F j x) w wr
section
variable {qc:ae} {w wr w':World} {ps:List Nat} {deps acc:List Ch} {F:Nat→ae} {f:Ch→Option Ch} {n:Nat}
theorem P5.step(h:P5 qc w ps deps F f n acc wr)(l:eu qc w ps deps F)(s:∀i x,qc x→¬F i x){q:Nat}{d m:Ch}(v:ps[n]?=some q)(t:deps[n]?=some d)(y:f d=some m)(o:O (F n) wr w')(z:iE (λx=>okB qc wr x∨F n x∨wr.heap.size<=x) w' q m):
  P5 qc w ps deps F f (n+1) (acc++[m]) w':=by
 have A:acc.length=n:=by rw[jF h.ac,List.length_take];have:=h.le;omega
 have D:=h.X.size;refine⟨(gS'.1 t).1,?_,λi p r g c=> ?_,λi p r B g c=>(h.rest i p r (by omega) g c).X o (λb a e=>s n b a e) (λb a e=>by have:=l.mX i n b a e;omega),?_⟩
 .rw[List.take_add_one,t];exact qL h.ac y
 .by_cases B:i<n
  .rw[List.getElem?_append_left (by omega)] at c;refine((h.done i p r g c).X o (λb a e=> ?_)).mono (λb _ a=>a.imp id (Or.imp (λ⟨j,u,k⟩=>⟨j,by omega,k⟩) id));rcases a with a|⟨j,u,k⟩|a
   .exact s n b a e
   .have:=l.mX j n b k e;omega
   .have:=l.lt e;omega
  .have C:i=n:=by
    have:=(gS'.1 c).1;simp at this;omega
   subst C;rw[List.getElem?_append_right (by omega),A,Nat.sub_self] at c;rw[v] at g;cases g;cases c;refine z.mono (λb _ a=> ?_);rcases a with a|a|a
   .exact .inl a.1
   .exact .inr (.inl ⟨i,Nat.lt_succ_self _,a⟩)
   .exact .inr (.inr (by omega))
 .refine(h.X.mono (λx _ ⟨j,u,k⟩=>⟨j,by omega,k⟩)).trans o (λx _ e=>⟨n,Nat.lt_succ_self _,e⟩)
end
theorem Eo(U:List K)(N:Nat)(hN:N<1099511627776)(aO:U.length<=N)(ay:∀k∈U,fK k)(az:gK∈U)(D L:Nat)(hD:D<=48)(hL:L<=5)(IH:He U N D L):He U N D (L+1):=by
 intro ok S w p c G;obtain⟨pm,mv,aP,dv,wv,ps,qs,F,o,aA,aB⟩:=PO.of (ok:=okB ok w) (G.ch.mono (ok':=okB ok w) (λb f h=>⟨h,f⟩)) (λx l=>G.no x l.1);have aQ:=o.hd;obtain⟨-, -,da,dc,rfl, -, -⟩:=aQ;have aC:(aF ps).length=ps.length:=(by simp[aF]);rw[aC] at o;clear aC;have v:=Z G;have a:=Z o;have s:=Z aA;have aS:=Z aB;have aT:=Z IH;have aU:=Z (kZ o.hp);have aV:=Z ay;have bH:ps.length<=60:=by rw[o.cl.len];exact G.Bh.2.1
 have T:=Z (show ∀i x,okB ok w x→¬F i x from λi x l h=>(o.no x l).2.2.2 i h);have aG:=Z (show P5 (okB ok w) w ps c.deps F (eX L) 0 [] w from⟨zL',rfl,λi q d _ h=>by simp at h,λi q d _ B H=>o.cl.all i q d B H,O.refl _ _⟩);have aW:=Z o.hd;clear o aA aB G IH ay;go_enter Tryz.func87,Tryz.ntmps87;go_wp2_with fail;refine aU.o.mono ?_;rintro e wt ⟨rfl,aH⟩;obtain rfl:=aH.symm;clear aH;go_wp2_with fail;go_loopw [11] (λct wr=>∃(n:Nat)(acc:List Ch),ct=.int .i64 n∧P5 (okB ok w) w ps c.deps F (eX L) n acc wr) (λct _=>ps.length - (intOf ct).toNat)
 case atStart=>exact⟨0,[],rfl,aG.o⟩
 case round=>
  clear aG;obtain⟨n,acc,rfl,aI⟩:=hrel;obtain⟨y,rfl⟩:∃y,y=wr:=⟨_,rfl⟩;have t:=Z aI;clear aI;have aX:=Z (show ∀i x,F i x→x<w.heap.size from λi x h=>a.o.cl.lt h);by_cases aJ:n<ps.length
  .obtain⟨q,V⟩:=gX' ps n (aJ);obtain⟨d,W⟩:=gX' c.deps n ((by rw[←a.o.cl.len];exact aJ));have ai:=aW.o;have aK:(aF ps).length=ps.length:=(by simp[aF]);rw[←aK] at ai;obtain⟨lb,lo,aY,aZ,aj⟩:=ai.at (i:=n) (r:=[ptr q]) (by simp[V]);subst aY;have aj:=(aj.X t.o.X (λ⟨j,_,g⟩=>T.o j lb aZ g)).one;simp only[Nat.mul_one] at aj;have ak:=mG' W;have A:=Z (aT.o (okB ok w) (F n) y q d ⟨v.o.Bh.2.2.2.2 d ak,v.o.one.2.2.2 d ak,t.o.rest n q d lR' V W,λx l=>T.o n x l⟩);have HQ:=Z V;have HD:=Z W;have bf:(n:Int)<(ps.length:Int):=(by omega);clear V W ai aK ak;go_wp2_with fail;refine A.o.mono ?_;intro e w2 u;cases hr:eX L d with
   |none=>rw[hr] at u;obtain⟨⟨I,rfl⟩,m⟩:=u;have J:=Z m;have af:=Z (show eX (L+1) c=none by rw[eX,oM (mG' HD.o) hr]);have bg:=pX I;have bI:=pY I;clear m hr A;go_wp2;go_ret;rw[af.o];exact⟨⟨I,rfl⟩,(t.o.X.mono (λx _ ⟨j,_,g⟩=>(s.o x).2 (.inr (.inr (.inr ⟨j,g⟩))))).trans J.o (λx _ e=>(s.o x).2 (.inr (.inr (.inr ⟨n,e⟩))))⟩
   |some d'=>
    rw[hr] at u;obtain⟨rfl,m,M⟩:=u;have bn:=Z (t.o.step a.o.cl T.o HQ.o HD.o hr m (M.mono (λb _ f=>f)));have bg:=eY;have bJ:=dO;clear m M hr A;go_wp2_with fail;go_roundw;case rel=>exact⟨n+1,_,by go_num,bn.o⟩
    case measure=>simp[intOf];omega
  .have bu:n=c.deps.length:=Nat.le_antisymm t.o.le (by rw[←a.o.cl.len];omega);have bf:¬(n:Int)<(ps.length:Int):=(by omega);have au:=Z (show eH (eX L) c.deps=some acc by
    have h:=t.o.ac
    rwa[bu,List.take_length] at h)
   obtain⟨C,aN⟩:∃C,C=λx=>okB ok w x∨(∃j,F j x)∨(w.heap.size<=x∧x<y.heap.size):=⟨_,rfl⟩
   have E:=Z (show ∀x,C x↔(okB ok w x∨(∃j,F j x)∨(w.heap.size<=x∧x<y.heap.size)) from λx=>by rw[aN]);clear aN;have z:=t.o.X;have bK:=z.size;have P:∀b,okB ok w b→¬∃j,j<n∧F j b:=λb f ⟨j,_,g⟩=>T.o j b f g
   have bz:∀b,b<w.heap.size→okB ok w b→C b:=λb _ f=>(E.o b).2 (.inl f)
   have Q:∀b,b<y.heap.size→okB ok w b→C b:=λb _ f=>(E.o b).2 (.inl f)
   have R:=a.o.zT;have bC:=Z (show iO9 C y p pm mv aP (.slice da ps.length dc) wv c.name c.version c.vals ps qs acc c.wants from
    ⟨a.o.hp.X z (λ⟨j,_,g⟩=>(R j p g).1 rfl),a.o.hm.X z (λ⟨j,_,g⟩=>(R j pm g).2.1 rfl),a.o.sK,(a.o.hv.X z P).mono Q,(a.o.hd.X z P).mono Q (by decide),
     by rw[jF au.o];exact a.o.cl.len,λi q d B H=>(t.o.done i q d B H).mono (λb f e=>(E.o b).2 (e.imp id (Or.imp (λ⟨j,_,g⟩=>⟨j,g⟩) (λh=>⟨h,f⟩)))),(a.o.hw.X z P).mono Q (by decide),a.o.nS,
     λi q x B H=>((a.o.hx i q x B H).X z P (λ⟨j,_,g⟩=>(R j q g).2.2 (mG' B))).mono Q,a.o.hq,a.o.lH,λb f=>by
      rcases(E.o b).1 f with h|⟨j,h⟩|h
      .exact⟨(a.o.no b h).1,(a.o.no b h).2.1,(a.o.no b h).2.2.1⟩
      .exact R j b h
      .exact⟨λe=>by have:=a.o.hp.lt;omega,λe=>by have:=a.o.hm.lt;omega,λe=>by have:=a.o.lt (.inr (.inr (.inl e)));omega⟩⟩)
   have bD:=Z (show IM U N (dI D L) (L+1) (.mk c.name c.version c.vals acc c.wants) from
    ⟨yu (λd d'=>xJ az L d d' (by omega)) v.o.Bh au.o,by unfold dI;have:L*1010<=5*1010:=Nat.mul_le_mul_right _ hL;omega,v.o.Bh.2.2.1,v.o.one.1,λx l=>⟨(v.o.Bh.2.2.2.1 x l).2.1,λi hi=>⟨(v.o.Bh.2.2.2.1 x l).2.2.2 i hi,λbF=>(((v.o.one.2.1 x l).2 i hi).1 bF).1⟩⟩⟩)
   have A:=Z (En U N hN aO aV.o az bC.o (λx l=>by
    rcases(E.o x).1 l with h|⟨j,h⟩|h
    .have:=h.2;omega
    .have:=aX.o j x h;omega
    .exact h.2) bD.o aS.o)
   have af:=Z (show eX (L+1) c=wS (.mk c.name c.version c.vals acc c.wants) by rw[LG,au.o]);clear z P bz Q R;go_wp2_with fail;refine A.o.mono ?_;intro e w2 u;have ax:=Z (show O S w y from t.o.X.mono (λx _ ⟨j,_,g⟩=>(s.o x).2 (.inr (.inr (.inr ⟨j,g⟩)))));cases hr:wS (.mk c.name c.version c.vals acc c.wants) with
   |none=>rw[hr] at u;obtain⟨⟨I,rfl⟩,m⟩:=u;have J:=Z m;have HR:=Z hr;clear m hr A;go_wp2;go_ret;rw[af.o,HR.o];exact⟨⟨I,rfl⟩,ax.o.trans' J.o⟩
   |some c'=>
    rw[hr] at u;obtain⟨rfl,m,M⟩:=u;have J:=Z m;have bG:=Z M;have HR:=Z hr;clear m M hr A;go_wp2;go_ret;rw[af.o,HR.o];refine⟨rfl,ax.o.trans J.o (λx _ e=> ?_),bG.o.mono (λb _ f=> ?_)⟩
    .rcases e with e|e
     .exact(s.o x).2 (.inl e)
     .exact(s.o x).2 (.inr (.inr (.inl e)))
    .rcases f with h|h|h|h|h
     .rcases(E.o b).1 h with h|⟨j,h⟩|h
      .exact .inl h
      .exact .inr (.inl ((s.o b).2 (.inr (.inr (.inr ⟨j,h⟩)))))
      .exact .inr (.inr h.1)
     .exact .inr (.inl ((s.o b).2 (.inl h)))
     .exact .inr (.inl ((s.o b).2 (.inr (.inl h))))
     .exact .inr (.inl ((s.o b).2 (.inr (.inr (.inl h)))))
     .exact .inr (.inr (by have:=ax.o.size;omega))
theorem uI(U:List K)(N:Nat)(a:N<1099511627776)(b:U.length<=N)(d:∀k∈U,fK k)(e:gK∈U)(D:Nat)(f:D<=48):∀L,L<=6→He U N D L
 |0,_=>λok S w p c h=>h.Bh.elim
 |L+1,g=>Eo U N a b d e D L f (by omega) (uI U N a b d e D f L (by omega))
theorem yx(U:List K)(N:Nat)(a:N<1099511627776)(d:400<=N)(e:U.length<=N)(f:∀k∈U,fK k)(g:gK∈U):∀L,G9 U N L
 |0=>λD ok S w p c b v i h=>h.en.en.gQ.elim
 |L+1=>Ha U N a d e f g L (yx U N a d e f g L)
theorem BA(U:List K)(N:Nat)(t:N<1099511627776)(u:400<=N)(y:U.length<=N)(n:∀k∈U,fK k)(z:gK∈U)(L:Nat)(G:L<=6)(ok S:ae)(w:World)(p:Nat)(c:Ch)(b:Nat)(v:T)(h:G8 U N L 48 ok S w p c b v ByteArray.empty):
  Calls Tryz.prog 48 #[ptr p,.map (some b)] w (Ig ok S w p (seen L c v)):=by
 have H:=Z (yx U N t u y n z L 48 ok S w p c b v ByteArray.empty h);have I:=Z (uI U N t y n z 48 lR' L G);have A:=Z h;clear h n;go_enter Tryz.func48,Tryz.ntmps48;go_wp2_with fail;refine H.o.mono ?_;intro e J j;cases hr:fF L c v ByteArray.empty with
 |none=>rw[hr] at j;obtain⟨⟨a,rfl⟩,d⟩:=j;have f:=Z d;have l:=Z (show seen L c v=none by unfold seen;rw[hr]);have M:=pX a;have V:=pY a;clear d hr;go_wp2;go_ret;rw[l.o];exact⟨⟨a,rfl⟩,f.o⟩
 |some g=>
  rw[hr] at j;obtain⟨rfl,d,R,S',B,C,D,E⟩:=j;have O:=Z (I.o R S' J p g ⟨tY u L c g v _ A.o.en hr,xI L c g v _ A.o.en hr,B,E⟩);have f:=Z d;have P:=Z C;have o:=Z D;have l:=Z (show seen L c v=eX L g by unfold seen;rw[hr]);have M:=eY;have W:=dO;clear d hr B C D E;go_wp2_with fail;refine O.o.mono ?_;intro e w2 m;cases xN:eX L g with
  |none=>rw[xN] at m;obtain⟨⟨a,rfl⟩,i⟩:=m;have q:=Z i;have r:=Z xN;clear i xN;go_wp2;go_ret;rw[l.o,r.o];exact⟨⟨a,rfl⟩,f.o.trans q.o (λx s e=>(o.o x e).elim id (λh=>by omega))⟩
  |some X=>
   rw[xN] at m;obtain⟨rfl,i,F⟩:=m;have q:=Z i;have Q:=Z F;have r:=Z xN;clear i F xN;go_wp2;go_ret;rw[l.o,r.o];refine⟨rfl,f.o.trans q.o (λx s e=>(o.o x e).elim id (λh=>by omega)),Q.o.mono (λx _ s=> ?_)⟩;have af:=f.o.size;rcases s with h|h|h
   .exact(P.o x h.1).imp id .inr
   .exact .inr (o.o x h)
   .exact .inr (.inr (by omega))
def xO(w:World)(c:Ch)(e:Ending)(a:World):Prop:=
 ∃p R S,e=.returned (.tuple #[ptr p,.bool true])∧bZ R a p c S∧(∀x,R x→w.heap.size<=x)∧(∀x,S x→w.heap.size<=x)∧(∀x,R x→¬S x)∧O No w a
structure KL (w:World) (deps:List Ch) (base p pm:Nat) (mv wv:Value) (name fB:K) (vals:J) (wants:List Want) (qs:List Nat) (wr:World) (n:Nat) (dv:Value) (ps:List Nat) (R:ae) (F:Nat→ae):Prop where
 le:n<=deps.length
 len:ps.length=n
 hp:ay wr p [ptr pm,mv,.pointer none,dv] 125
 hm:ay wr pm [.string name,.string fB,wv] 122
 hv:lG R wr mv vals
 hw:aC R wr wv 1 (aF qs)
 hx:∀(i q:Nat)(x:Want),qs[i]?=some q→wants[i]?=some x→iF R wr q x
 own:aB wr base 70 1 dv (aF ps)
 yI:∀(i q:Nat)(d:Ch),ps[i]?=some q→deps[i]?=some d→bZ R wr q d (F i)
 fl:∀i x,F i x→i<n
 fap:∀i j x,F i x→F j x→i=j
 fo:∀i x,F i x→x≠p∧x≠pm∧x∉qs∧w.heap.size<=x∧x<wr.heap.size∧dv.ownBlock≠some x
 ro:∀x,R x→x≠p∧x≠pm∧x∉qs∧w.heap.size<=x∧x<wr.heap.size∧dv.ownBlock≠some x∧∀i,¬F i x
 so:w.heap.size<=p∧w.heap.size<=pm∧p≠pm∧p∉qs∧pm∉qs∧(∀q∈qs,w.heap.size<=q∧q<wr.heap.size∧dv.ownBlock≠some q)
 X:O No w wr
 bs:w.heap.size<=base
section
variable {w:World} {deps:List Ch} {base p pm:Nat} {mv wv:Value} {name fB:K} {vals:J} {wants:List Want} {qs:List Nat} {wr:World} {n:Nat} {dv:Value} {ps:List Nat} {R:ae} {F:Nat→ae}
theorem KL.keep{r:World}(h:KL w deps base p pm mv wv name fB vals wants qs wr n dv ps R F)(j:O No wr r):KL w deps base p pm mv wv name fB vals wants qs r n dv ps R F:=by
 have v:=j.size;have k:∀b,R b→¬No b:=λ_ _ e=>e
 exact⟨h.le,h.len,h.hp.X j id,h.hm.X j id,h.hv.X j k,h.hw.X j k,λi q x l m=>(h.hx i q x l m).X j k id,h.own.X j nE,λi q d l m=>(h.yI i q d l m).X j k nE,h.fl,h.fap,
  λi x o=>by obtain⟨a,b,c,d,e,f⟩:=h.fo i x o;exact⟨a,b,c,d,by omega,f⟩,λx o=>by obtain⟨a,b,c,d,e,f,g⟩:=h.ro x o;exact⟨a,b,c,d,by omega,f,g⟩,
  by obtain⟨a,b,c,d,e,f⟩:=h.so;exact⟨a,b,c,d,e,λq s=>by obtain⟨t,y,u⟩:=f q s;exact⟨t,by omega,u⟩⟩,h.X.trans' j,h.bs⟩
theorem KL.step(h:KL w deps base p pm mv wv name fB vals wants qs wr n dv ps R F){d:Ch}(hd:deps[n]?=some d){w2 w3 M:World}{q:Nat}{u r:ae}{Q:Value}(S:bZ u w2 q d r)(T:∀x,u x→wr.heap.size<=x)(v:∀x,r x→wr.heap.size<=x)(af:∀x,u x→¬r x)(hc:O No wr w2)(U:O No w2 w3)
  (s:AD w3 base p (ptr pm) mv (.pointer none) dv ps [q] 1 Q M):KL w deps base p pm mv wv name fB vals wants qs M (n+1) Q (ps++[q]) (λx=>R x∨(u x∧x<w2.heap.size)) (λi=>if i=n then r else F i):=by
 have aF:=h.X.size;have aG:=hc.size;have aH:=U.size;have aI:=s.X.size;have ai:r q:=S.self;have ax:∀x,r x→x<w2.heap.size:=S.lt;have aJ:=h.hp.lt;have aK:=h.hm.lt;have V:∀k,dv.ownBlock=some k→k<wr.heap.size:=λk W=>(h.own.elem W).2.1
 have aj:O No wr w3:=hc.trans' U;have D:O (λk=>k=p∨k∈ [q]∨dv.ownBlock=some k) wr M:=(aj.mono (λ_ _ e=>e.elim)).trans s.X nE;have E:∀k,k∈ [q]→k=q:=λk W=>by simpa using W
 have aN:=v q ai;have G:∀x,Q.ownBlock=some x→dv.ownBlock=some x∨w3.heap.size<=x:=λx g=>by
  rcases s.new with e|e
  .exact .inl (e▸g)
  .exact .inr (e x g)
 have N:∀x,R x→¬(x=p∨x∈ [q]∨dv.ownBlock=some x):=λx g e=>by
  obtain⟨z,H,I,J,a5,A,a7⟩:=h.ro x g;rcases e with e|e|e
  .exact z e
  .have:=E x e;omega
  .exact A e
 have ay:∀b,u b∧b<w2.heap.size→¬No b:=λ_ _ e=>e
 have ak:bZ (λx=>u x∧x<w2.heap.size) w3 q d r:=(S.mono (λb hb h=>⟨h,hb⟩)).X U ay nE;obtain⟨b0,b1,b2,b3,au⟩:=ak.jh;have az:bZ (λx=>u x∧x<w2.heap.size) M q d r:=by
  refine ak.par (λe=>af q e.1 ai) au ⟨_,rfl⟩ (s.yI q (by simp) _ _ _ _ au) s.X (λx g=> ?_);rcases g with e|e|e
  .exact .inr ⟨λo=>by have:=T x o.1;omega,λo=>by have:=v x o;omega⟩
  .exact .inl (by simpa using e)
  .have:=V x e;exact .inr ⟨λo=>by have:=T x o.1;omega,λo=>by have:=v x o;omega⟩
 refine⟨(gS'.1 hd).1,by simp[h.len],s.jh,?_,?_,?_,?_,by simpa using s.own,?_,?_,?_,?_,?_,?_,?_,h.bs⟩
 .refine h.hm.X D (λe=> ?_);rcases e with e|e|e
  .exact h.so.2.2.1 e.symm
  .have:=E _ e;omega
  .exact aB.lI h.own (by decide) h.hm e
 .exact(h.hv.X D N).mono (λ_ _ h=> .inl h)
 .exact(h.hw.X D N).mono (λ_ _ h=> .inl h) (by decide)
 .intro i K x m C;refine((h.hx i K x m C).X D N (λe=> ?_)).mono (λ_ _ h=> .inl h);have B:=mG' m;rcases e with e|e|e
  .exact h.so.2.2.2.1 (e▸B)
  .have:=E _ e;have:=(h.so.2.2.2.2.2 K B).2.1;omega
  .exact(h.so.2.2.2.2.2 K B).2.2 e
 .intro i K d' m C;by_cases l:i<ps.length
  .rw[List.getElem?_append_left l] at m;have aA:i≠n:=by have:=h.len;omega
   simp only[if_neg aA];refine((h.yI i K d' m C).X D N (λx g e=> ?_)).mono (λ_ _ h=> .inl h);obtain⟨z,H,I,J,a5,A⟩:=h.fo i x g;rcases e with e|e|e
   .exact z e
   .have:=E x e;omega
   .exact A e
  .have aC:i=ps.length:=by
    have:=(gS'.1 m).1;simp at this;omega
   subst aC;rw[List.getElem?_append_right lR',Nat.sub_self] at m;cases m;rw[h.len,hd] at C;cases C;simp only[h.len,if_true];exact az.mono (λ_ _ h=> .inr h)
 .intro i x g;by_cases l:i=n
  .omega
  .simp only[if_neg l] at g;have:=h.fl i x g;omega
 .intro i j x g t;by_cases l:i=n
  .by_cases P:j=n
   .omega
   .simp only[if_pos l] at g;simp only[if_neg P] at t;have:=(h.fo j x t).2.2.2.2.1;have:=v x g;omega
  .by_cases P:j=n
   .simp only[if_neg l] at g;simp only[if_pos P] at t;have:=(h.fo i x g).2.2.2.2.1;have:=v x t;omega
   .simp only[if_neg l] at g;simp only[if_neg P] at t;exact h.fap i j x g t
 .intro i x g;by_cases l:i=n
  .simp only[if_pos l] at g;have m:=v x g;have C:=ax x g;refine⟨by omega,by omega,λB=> ?_,by omega,by omega,λe=> ?_⟩
   .have:=(h.so.2.2.2.2.2 x B).2.1;omega
   .rcases G x e with e|e
    .have:=V x e;omega
    .omega
  .simp only[if_neg l] at g;obtain⟨z,H,I,J,a5,A⟩:=h.fo i x g;refine⟨z,H,I,J,by omega,λe=> ?_⟩;rcases G x e with e|e
   .exact A e
   .omega
 .intro x g;rcases g with g|⟨g,aO⟩
  .obtain⟨z,H,I,J,a5,A,a7⟩:=h.ro x g;refine⟨z,H,I,J,by omega,λe=> ?_,λi l=> ?_⟩
   .rcases G x e with e|e
    .exact A e
    .omega
   .by_cases L:i=n
    .simp only[if_pos L] at l;have:=v x l;omega
    .simp only[if_neg L] at l;exact a7 i l
  .have m:=T x g;refine⟨by omega,by omega,λB=> ?_,by omega,by omega,λe=> ?_,λi l=> ?_⟩
   .have:=(h.so.2.2.2.2.2 x B).2.1;omega
   .rcases G x e with e|e
    .have:=V x e;omega
    .omega
   .by_cases L:i=n
    .simp only[if_pos L] at l;exact af x g l
    .simp only[if_neg L] at l;have:=(h.fo i x l).2.2.2.2.1;omega
 .obtain⟨a,b,c,d',e,f⟩:=h.so;refine⟨a,b,c,d',e,λy t=> ?_⟩;obtain⟨k1,k2,k3⟩:=f y t;refine⟨k1,by omega,λo=> ?_⟩;rcases G y o with e3|e3
  .exact k3 e3
  .omega
 .refine(h.X.trans' aj).trans s.X (λi l e=> ?_);rcases e with e|e|e
  .have:=h.so.1;omega
  .have:=E _ e;omega
  .have:=(h.own.elem e).1;have:=h.bs;omega
theorem KL.done(h:KL w deps base p pm mv wv name fB vals wants qs wr deps.length dv ps R F)(m:wants=[]→wv=.slice none 0 0)(n:qs.length=wants.length)(o:qs.Nodup):xO w (.mk name fB vals deps wants) (.returned (.tuple #[ptr p,.bool true])) wr:=by
 obtain⟨r,s,t,u,v,k⟩:=h.so;refine⟨p,λx=>R x∨dv.ownBlock=some x,λx=>x=p∨x=pm∨x∈qs∨∃i,F i x,rfl,?_,λx a=> ?_,λx a=> ?_,λx a l=> ?_,h.X⟩
 .exact .mk h.hp h.hm ⟨_,rfl⟩ (h.hv.mono (λ_ _ h=> .inl h)) (h.own.rowAt.mono (λ_ _ h=> .inr h) (by decide)) h.len (λi q d b c=>(h.yI i q d b c).mono (λ_ _ h=> .inl h)) (h.hw.mono (λ_ _ h=> .inl h) (by decide)) m n
   (λi q x b c=>(h.hx i q x b c).mono (λ_ _ h=> .inl h)) h.fap (λi x a=>by obtain⟨f,g,j, -⟩:=h.fo i x a;exact⟨f,g,j⟩) (λi x a=>by have:=h.fl i x a;exact this) o ⟨u,v,t⟩ (λx=>Iff.rfl)
 .rcases a with a|a
  .exact(h.ro x a).2.2.2.1
  .have:=(h.own.elem a).1;have:=h.bs;omega
 .rcases a with rfl|rfl|a|⟨i,a⟩
  .exact r
  .exact s
  .exact(k x a).1
  .exact(h.fo i x a).2.2.2.1
 .rcases a with a|a
  .obtain⟨f,g,j,z,A,B,y⟩:=h.ro x a;rcases l with e|e|e|⟨i,e⟩
   .exact f e
   .exact g e
   .exact j e
   .exact y i e
  .rcases l with e|e|e|⟨i,e⟩
   .subst e;exact aB.lI h.own (by decide) h.hp a
   .subst e;exact aB.lI h.own (by decide) h.hm a
   .exact(k x e).2.2 a
   .exact(h.fo i x e).2.2.2.2.2 a
end
theorem Jd(n v:K)(a:Option Addr)(k c:Nat)(w:World):(Instr.build 122 #[(0,.string n),(1,.string v),(2,.slice a k c)]).run Tryz.prog w=.ok (.agg #[.string n,.string v,.slice a k c]) w:=by kernel_rfl
theorem Je(pm:Nat)(m:Option Nat)(w:World):(Instr.build 125 #[(0,.pointer (some ⟨pm,0,none⟩)),(1,.map m)]).run Tryz.prog w=.ok (.agg #[.pointer (some ⟨pm,0,none⟩),.map m,.pointer none,.slice none 0 0]) w:=by kernel_rfl
theorem Jf{ok:ae}{w:World}{m:Value}{x:J}(h:y7 ok w m x):lG ok w m x:=by
 rcases h with h|⟨t,b,a,c,d⟩
 .exact .inl h
 .subst c;exact .inr ⟨t,b,a,rfl,d⟩
def CU:Nat→Ch→Prop
 |0,_=>False
 |L+1,c=>(c.vals=.null∨dA c.vals=true)∧lC c.name∧(yD c.version∧gq c.version)∧c.deps.length<=20∧c.wants.length<=40∧(∀x∈c.wants,mF x)∧∀d∈c.deps,CU L d
theorem LM{x:Want}(h:mF x)(b:∀i∈x.imports,zF i):mF (uA x):=by
 refine⟨⟨h.sm.name,h.sm.fB,h.sm.cond,h.sm.yE,h.sm.tags,⟨?_,λi c=> ?_⟩⟩,?_,h.name,h.fB,h.yE⟩
 .show(x.imports.map bT).length<=1048576
  rw[List.length_map];exact h.sm.kD.1
 .obtain⟨j,a,rfl⟩:=List.mem_map.1 (show i∈x.imports.map bT from c);have d:=h.sm.kD.2 j a;unfold bT
  split
  .exact d
  .rename_i hm
   obtain⟨-, -,e⟩:=(b j a).2 (by simpa using hm);refine⟨by show ByteArray.empty.size<=1048576;decide,?_,by show dB.size<=1048576;decide⟩;show gq (wG++j.plain);have f:=e.1;have g:(wG++j.plain).size=8+j.plain.size:=by rw[ByteArray.size_append];rfl
   unfold gq;omega
 .show(x.imports.map bT).length<=20
  rw[List.length_map];exact h.kD
theorem CV{U:List K}{N D:Nat}:∀(L:Nat)(c c':Ch),uX U N D L c→FT L c→eX L c=some c'→CU L c'
 |0,c,c',h,_,_=>h.elim
 |L+1,c,c',h,a,b=>by
  rw[eX] at b;cases hm:eH (eX L) c.deps with
  |none=>rw[hm] at b;cases b
  |some f=>
   rw[hm] at b;simp only at b;have g:∀d∈f,CU L d:=λd k=>by obtain⟨x,e,l⟩:=ou hm d k;exact CV L x d (h.2.2.2.2 x e) (a.2.2.2 x e) l
   have i:f.length<=20:=by rw[jF hm];exact a.2.2.1.1
   split at b
   .cases b;exact⟨a.2.2.1.2.2.2.2,a.2.2.1.2.2.2.1,⟨a.2.2.1.2.1,a.2.2.1.2.2.1⟩,i,h.2.2.1,λx e=>(a.2.1 x e).1,g⟩
   .cases ha:dJ true (.mk c.name c.version c.vals f c.wants) [] with
    |none=>rw[ha] at b;cases b
    |some all=>
     rw[ha] at b;cases b;refine⟨.inr rfl,a.2.2.1.2.2.2.1,⟨a.2.2.1.2.1,a.2.2.1.2.2.1⟩,i,?_,λx e=> ?_,g⟩
     .show(c.wants.map uA).length<=40
      rw[List.length_map];exact h.2.2.1
     .obtain⟨y,j,rfl⟩:=List.mem_map.1 (show x∈c.wants.map uA from e);exact LM (a.2.1 y j).1 (a.2.1 y j).2
def Ku:Nat→Ch→Prop
 |0,_=>True
 |L+1,c=>(c.vals=.null∨(Wf 1900 50 c.vals∧sz c.vals<=1900))∧∀d∈c.deps,Ku L d
def BB:Nat→Ch→Prop
 |0,_=>False
 |L+1,c=>(Wf 1900 50 c.vals∧sz c.vals<=1900∧(c.vals=.null∨dA c.vals=true))∧lC c.name∧(yD c.version∧gq c.version)∧c.deps.length<=20∧True∧(∀d∈c.deps,BB L d)∧
   c.wants.length<=40∧(∀x∈c.wants,mF x)∧True∧True
theorem Ih:∀(L:Nat)(c:Ch),CU L c→Ku L c→BB L c
 |0,c,h,_=>h.elim
 |L+1,c,h,a=>by
  refine⟨?_,h.2.1,h.2.2.1,h.2.2.2.1,trivial,λd b=>Ih L d (h.2.2.2.2.2.2 d b) (a.2 d b),h.2.2.2.2.1,h.2.2.2.2.2.1,trivial,trivial⟩;rcases a.1 with e|e
  .rw[e];exact⟨trivial,by decide,.inl rfl⟩
  .exact⟨e.1,e.2,h.1⟩
theorem pg:∀(L:Nat){c:Ch},nM L c→BB L c
 |0,_,h=>h.elim
 |L+1,c,h=>⟨⟨h.1.1.mono (by decide) lR',Nat.le_trans h.1.2.1 (by decide),h.1.2.2⟩,h.2.1,h.2.2.1,h.2.2.2.1,trivial,λd a=>pg L (h.2.2.2.2.2.1 d a),h.2.2.2.2.2.2.1,h.2.2.2.2.2.2.2.1,trivial,trivial⟩
theorem uJ(L:Nat):∀(c:Ch)(ok:ae)(cs:Y)(w:World)(p:Nat),dU ok w cs c→BB L c→p+L<=8→Calls Tryz.prog 46 #[.agg cs.toArray,.int .i64 (p:Int)] w (xO w c):=by
 induction L with
 |zero=>intro c ok cs w p _ h;exact h.elim
 |succ L ih=>
  intro c ok cs w p bn aJ bu;obtain⟨name,s,k,b,i,f,t,kv,lv,M,wv,rfl,bz,bC,hv,⟨a,hd,hn,bD⟩,⟨eP,hw,l,bF⟩⟩:=bn.dV.cells;have HV:=Z hv;have HD:=Z hd;have HN:=Z hn;have dF:=Z bD;have HW:=Z hw;have HM:=Z l;have dG:=Z bF;have IH:=Z ih;have B:=Z aJ;have dH:=Z bz;have aN:=Z bC;have dI:=Z bu;have eQ:¬(20:Int)<(a.length:Int):=by have:=aJ.2.2.2.1;omega
  have eU:(a.length:Int)<=20:=(by omega);have eX:¬(8:Int)<(p:Int):=(by omega);have eY:(p:Int)<=8:=(by omega);obtain⟨-, -,P,Q,rfl, -, -⟩:=hd;have bG:∀W,(w.alloc (.cells (az name s k b i f t kv lv (.slice P a.length Q) wv).toArray 30))=W→ay W w.heap.size (az name s k b i f t kv lv (.slice P a.length Q) wv) 30∧O No w W:=by rintro W rfl;exact⟨ay.new _ _ _,(O.refl No w).alloc _⟩
  have HF:=Z bG;clear bG hv hn bD hw l bF ih aJ bz bC bu bn;go_enter Tryz.func46,Tryz.ntmps46;unfold az;go_upto_region 1 with fail
  generalize bH:World.alloc _ _=W;obtain⟨E,c1⟩:=HF.o W bH;clear bH HF;obtain⟨H,bI⟩:∃g,g=w.heap.size:=⟨_,rfl⟩;rw[←bI] at E⊢;have aO:=Z E;have aP:=Z c1;have S:=E.tV;clear E c1 bI;go_wp2_with (first|(with_reducible refine V rfl au rfl rfl S rfl ?_));have T:=B.o.1;refine(uS (N:=1900) (d:=50) (by decide) (HV.o.X aP.o nE) T.1 T.2.2 (Nat.le_trans T.2.1 (by decide)) (by decide)).mono ?_;rintro e w2 ⟨mv,rfl,aQ,U⟩;have dJ:=Z aQ;have af:=Z (aP.o.trans' U);have dK:=Z (show w.heap.size<=W.heap.size from aP.o.size);obtain⟨I,rfl⟩:=aQ.slice;have dL:w2.cell? ⟨H,10,none⟩=some wv:=(aO.o.X U id).cell 10;have bJ:=Z (aO.o.X U id);clear aQ U S T aO;go_wp2_with fail;refine(DY (HW.o.X af.o nE) HM.o (λn r x m u=>(dG.o n r x m u).X af.o nE) B.o.2.2.2.2.2.2.2.1 B.o.2.2.2.2.2.2.1).mono ?_;rintro e w3 ⟨fA,C,rfl,dM,bK,bM,bP,bQ,bT,bU,ai⟩;obtain⟨aj,ax,aA,rfl⟩:=dM;have dN:=Z bM;have dO:=Z bK;have bV:=Z bP;have dP:=Z bQ;have dQ:=Z bT;have bW:=Z bU;have aS:=Z (af.o.trans' ai);have bY:=Z ai;have aF:=Z (bJ.o.X ai id);have k9:w3.cell? ⟨H,9,none⟩=some (.slice P a.length Q):=aF.o.cell 9;have k1:w3.cell? ⟨H,1,none⟩=some (.string s):=aF.o.cell 1;clear bM bK bP bQ bT bU ai dL bJ;go_wp2_with fail;refine(zD s (by rw[←aN.o];exact B.o.2.2.1.2.ok) (by rw[←aN.o];exact B.o.2.2.1.1) w3).mono ?_;rintro e wt ⟨rfl,bZ⟩;obtain rfl:=bZ.symm;clear bZ;have k0:w3.cell? ⟨H,0,none⟩=some (.string name):=aF.o.cell 0;have dR:=Jd;have dS:=Je;go_upto_region 6 with fail
  obtain⟨z,G⟩:∃z,z=(w3.alloc (.cells #[.string name,.string s,.slice aj ax aA] 122)).alloc (.cells #[ptr w3.heap.size,.map I,.pointer none,.slice none 0 0] 125):=⟨_,rfl⟩;have aT:ay z w3.heap.size [.string name,.string s,.slice aj ax aA] 122:=by rw[G];exact(ay.new _ _ _).alloc _
  have aU:ay z (w3.heap.size+1) [ptr w3.heap.size,.map I,.pointer none,.slice none 0 0] 125:=by rw[G];exact ay.newAt (by simp) _ _
  have A:O No w3 z:=by rw[G];exact((O.refl No w3).alloc _).alloc _
  have cu:z.heap.size=w3.heap.size+2:=by rw[G];simp
  rw[←G];obtain⟨o,aV⟩:∃o,o=w3.heap.size:=⟨_,rfl⟩;rw[←aV] at aT aU cu⊢;have fB:=Z aV;have cO:=Z (show ∃R,KL w c.deps w.heap.size (o+1) o (.map I) (.slice aj ax aA) name s c.vals c.wants C z 0 (.slice none 0 0) [] R (λ_ _=>False) from by
   have fC:=af.o.size;have fD:=bY.o.size;have aG:∀q∈C,w2.heap.size<=q∧q<w3.heap.size:=λq hq=>by obtain⟨i,hi⟩:=List.getElem?_of_mem hq;have dW:=(gS'.1 hi).1;obtain⟨x,v⟩:=gX' c.wants i ((by rw[←bV.o];exact dW));exact⟨dQ.o q hq,(bW.o i q x hi v).lt⟩
   have fE:∀b,(λx=>(w.heap.size<=x∧x<w2.heap.size)∨(w2.heap.size<=x∧x∉C∧x<w3.heap.size)) b→¬No b:=λ_ _ e=>e
   refine⟨λx=>(w.heap.size<=x∧x<w2.heap.size)∨(w2.heap.size<=x∧x∉C∧x<w3.heap.size),zL',rfl,aU,aT,?_,?_,?_,aB.nil _ _ _ _,λi q d h=>by simp at h,λi x h=>h.elim,λi j x h=>h.elim,λi x h=>h.elim,λx v=> ?_,⟨by omega,by omega,by omega,λl=> ?_,λl=> ?_,λq hq=> ?_⟩,aS.o.trans' A,?_⟩
   .refine((((Jf dJ.o).mono (ok':=λx=>w.heap.size<=x∧x<w2.heap.size) (λx v h=>⟨by have:=dK.o;omega,v⟩)).X bY.o nE).X A nE).mono (λx _ h=> .inl h)
   .exact((dN.o.mono (ok':=λx=>w2.heap.size<=x∧x∉C∧x<w3.heap.size) (λx v h=>⟨h.1,h.2,v⟩) (by decide)).X A nE).mono (λx _ h=> .inr h) (by decide)
   .intro i q x m u;exact(((bW.o i q x m u).mono (ok':=λx=>w2.heap.size<=x∧x∉C∧x<w3.heap.size) (λx v h=>⟨h.1,h.2,v⟩)).X A nE id).mono (λx _ h=> .inr h)
   .rcases v with⟨m,u⟩|⟨m,u,h3⟩
    .exact⟨by omega,by omega,λl=>by have:=(aG x l).1;omega,m,by omega,(λe=>by cases e),λi e=>e.elim⟩
    .exact⟨by omega,by omega,u,by omega,by omega,(λe=>by cases e),λi e=>e.elim⟩
   .have:=(aG _ l).2;omega
   .have:=(aG _ l).2;omega
   .have:=aG q hq;exact⟨by omega,by omega,λe=>by cases e⟩
   .have:=aS.o.size;have:=A.size;omega)
  have dX:=Z (aF.o.X A id);have fF:=Z (aS.o.trans' A);have q9:z.cell? ⟨H,9,none⟩=some (.slice P a.length Q):=dX.o.cell 9;clear aT aU A cu G aV k0 k1 k9 dR dS;go_wp2_with fail;clear q9;go_loopw [62] (λct wr=>∃(n:Nat)(M:Value)(ps:List Nat)(R:ae)(F:Nat→ae),ct=.int .i64 n∧KL w c.deps w.heap.size (o+1) o (.map I) (.slice aj ax aA) name s c.vals c.wants C wr n M ps R F) (λct _=>a.length - (intOf ct).toNat);case atStart=>obtain⟨R,h⟩:=cO.o;exact⟨0,_,_,_,_,rfl,h⟩
  case round=>
   obtain⟨n,M,ps,R,F,rfl,cZ⟩:=hrel;have J:=Z cZ;clear cZ cO;by_cases df:n<a.length
   .obtain⟨r,aW⟩:=gX' a n (df);obtain⟨d,aX⟩:=gX' c.deps n ((by rw[←HN.o];exact df));obtain⟨lb,lo,rfl, -,aH⟩:=HD.o.at (i:=n) (r:=r) aW;have aH:=aH.X J.o.X id;have aY:=(dF.o n r d aW aX).X J.o.X nE;obtain⟨aI,dh⟩:=aY.one;have dY:=Z (aY.X ((O.refl No wr).alloc (.cells r.toArray 30)) nE);have di:=Z aX;have dZ:(n:Int)<(a.length:Int):=(by omega);clear aW aX aY;go_wp2_with (first|(with_reducible refine V rfl aK rfl rfl aH aI ?_)|(with_reducible refine ak rfl aK rfl rfl rfl rfl aI dh ?_)|(with_reducible refine V rfl aK rfl rfl (ay.new wr r 30).cells aI ?_));have aZ:=IH.o d (okB ok w) r (wr.alloc (.cells r.toArray 30)) (p+1) dY.o (B.o.2.2.2.2.2.1 d (mG' di.o)) (by have:=dI.o;omega);rw[show(((p+1:Nat)):Int)=(p:Int)+1 by omega] at aZ;refine Calls.mono aZ ?_;rintro e w6 ⟨q,Rc,Sc,rfl,ho,hR,hS,dm,bf⟩;have bg:=Z (J.o.keep ((O.refl No wr).alloc (.cells r.toArray 30)));have D:=Z (bg.o.keep bf);have K:=Z ho;have ed:=Z hR;have dn:=Z hS;have eu:=Z dm;have eF:=Z bf;clear aZ ho hR hS dm bf aH aI dh;go_wp2_with fail;have dw:=dn.o;have dA:o+1∉ [q]:=λl=>by have m:o+1=q:=(by simpa using l);have:=bg.o.hp.lt;have:=dw q K.o.self;omega
    have dB:=yc (ok:=λb=>b=w6.heap.size) w.heap.size (o+1) (ptr o) (.map I) (.pointer none) M ps [q] (.slice (some ⟨w6.heap.size,0,none⟩) 1 1) (w6.alloc (.cells #[ptr q] 70)) (by have h9:=D.o.X.size;simp;omega) (D.o.hp.alloc _) (D.o.own.alloc _) (aC.gX w6 [ptr q] 70 1 rfl)
     (λb hb hl=>by
      subst hb;refine⟨λe=>by have:=D.o.hp.lt;omega,λl=> ?_,λe=>by have:=(D.o.own.elem e).2.1;omega⟩;have m:w6.heap.size=q:=(by simpa using l);have:=K.o.lt q K.o.self;omega) (by simp) dA (λy hy=>by
      obtain rfl:y=q:=(by simpa using hy);obtain⟨E,b1,S,b3,hb⟩:=K.o.jh;exact⟨E,b1,S,b3,hb.alloc _⟩) (by have:=D.o.len;have:=D.o.le;have:=B.o.2.2.2.1;simp;omega)
    refine Calls.mono dB ?_;rintro e w7 ⟨rfl,dC,dD⟩;have dE:=Z (bg.o.step di.o K.o ed.o dn.o eu.o eF.o ((O.refl No w6).alloc (.cells #[ptr q] 70)) dD);clear dB dD dA dw;go_wp2_with fail;go_roundw;case rel=>first|exact⟨n+1,dC,_,_,_,by go_num,dE.o⟩|((repeat apply Exists.intro);exact⟨⟨n+1,dC,_,_,_,by go_num,dE.o⟩,rfl⟩)
    case measure=>simp[intOf];omega
   .have eG:n=a.length:=by have:=J.o.le;have:=HN.o;omega
    subst eG;have dZ:¬((a.length:Nat):Int)<(a.length:Int):=(by omega);have eH:=Z (show xO w c (.returned (.tuple #[ptr (o+1),.bool true])) wr by
     have m:=J.o;rw[show a.length=c.deps.length from HN.o] at m;have u:=m.done dO.o bV.o dP.o;have h3:Ch.mk name s c.vals c.deps c.wants=c:=by rw[←dH.o,←aN.o];cases c;rfl
     rw[h3] at u;exact u)
    go_wp2;go_ret2;exact eH.o
theorem mf(L:Nat):∀(c:Ch)(ok:ae)(cs:Y)(w:World),dU ok w cs c→BB L c→Calls Tryz.prog 14 #[.agg cs.toArray] w (Ia w c):=by
 induction L with
 |zero=>intro c ok cs w _ h;exact h.elim
 |succ L ih=>
  intro c ok cs w fO bQ;obtain⟨name,aS,k,b,i,f,t,kv,lv,dv,wv,rfl,fP,fQ,hv,⟨aj,E,hn,fU⟩,⟨v,hw,hm,dN⟩⟩:=fO.dV.cells;have HV:=Z hv;have HD:=Z E;have HN:=Z hn;have jc:=Z fU;have HW:=Z hw;have aZ:=Z hm;have fV:=Z dN;have IH:=Z ih;have bH:=Z bQ;have gm:=Z fP;have gp:=Z fQ;have kK:(aj.length:Int)<=20:=by have:=bQ.2.2.2.1;omega
  have kL:(v.length:Int)<=40:=by have:=bQ.2.2.2.2.2.2.1;omega
  obtain⟨-, -,da,dc,rfl, -, -⟩:=E;obtain⟨-, -,wa,wc,rfl, -, -⟩:=hw;have gq:∀W,((w.alloc (.cells (az name aS k b i f t kv lv (.slice da aj.length dc) (.slice wa v.length wc)).toArray 30)).alloc (.cells fZ.toArray 30))=W→
    ay W w.heap.size (az name aS k b i f t kv lv (.slice da aj.length dc) (.slice wa v.length wc)) 30∧ay W (w.heap.size+1) fZ 30∧O No w W∧W.heap.size=w.heap.size+2:=by
   rintro W rfl;exact⟨(ay.new _ _ _).alloc _,ay.newAt (by simp) _ _,((O.refl No w).alloc _).alloc _,by simp⟩
  have HF:=Z gq;have jd:=Z (show ∀r∈v,r.all (·.oneCell')=true from λr hr=>by obtain⟨j,F⟩:=List.getElem?_of_mem hr;obtain⟨x,T⟩:=gX' c.wants j ((by rw[←hm];exact(gS'.1 F).1));exact(dN j r x F T).len.2);have je:=Z (show([]:List (Y)).length+v.length<=1099511627776 by have:=bQ.2.2.2.2.2.2.1;simp only[List.length_nil];omega);clear gq hv hn fU hm dN ih bQ fP fQ fO;go_enter Tryz.func14,Tryz.ntmps14;unfold az;go_upto_region 1 with fail
  generalize bn:World.alloc _ _=W;obtain⟨b0,b1,c1,jf⟩:=HF.o W bn;clear bn HF;obtain⟨g,hg⟩:∃g,g=w.heap.size:=⟨_,rfl⟩;obtain⟨B,dO⟩:∃B,B=w.heap.size+2:=⟨_,rfl⟩;have N:=Z (show w.heap.size<=g∧g<B∧B<=W.heap.size∧g+1<B by omega);rw[←hg] at b0 b1⊢;have dP:=Z b0;have gu:=Z b1;have dQ:=Z c1;have G:=b0.tV;clear b0 b1 c1 jf hg dO;go_wp2_with (first|(with_reducible refine V rfl au rfl rfl G rfl ?_));refine(mg 1900 (by decide) 50 _ _ _ W (HV.o.X dQ.o nE) bH.o.1.1).mono ?_;rintro e w2 ⟨bD,rfl,dh,af⟩;obtain⟨k',b',i',f',t',kv',aU,rfl⟩:=dh.seven;have gy:=Z dh;have jg:=Z (dP.o.X af id);have ji:=Z (dQ.o.trans' af);have gz:=Z (gu.o.X af id);have jk:=Z af.size;have gB:=dh.one;have gG:2+7<=(az name aS k b i f t kv lv (.slice da aj.length dc) (.slice wa v.length wc)).length:=(by simp[az]);have b3:=dP.o.X af id;clear dh af G dP gu;go_upto_region 2 with(first|(with_reducible refine pU rfl au rfl rfl rfl b3 gG rfl gB ?_;intro w3 b4 bT jl))
  have b4:ay w3 g (az name aS k' b' i' f' t' kv' aU (.slice da aj.length dc) (.slice wa v.length wc)) 30:=b4;have gI:=Z (gy.o.X bT (λx T e=>by have I:x=g:=e;have:=N.o;have:=dQ.o.size;omega));have jm:=Z (ji.o.trans bT (λx T e=>by have I:x=g:=e;have:=N.o;omega));have jo:=Z b4;have jq:=Z bT.size;have gJ:=Z (gz.o.X bT (λe=>by have I:g+1=g:=e;omega));have k9:w3.cell? ⟨g,9,none⟩=some (.slice da aj.length dc):=b4.cell 9;have f9:w3.frozen? ⟨g,9,none⟩=false:=b4.frozen 9;have bu:=b4.setCell 9 (.slice none 0 0);have gK:=Z bu;clear b3 b4 bT jl bu gB gG jg;go_upto_region 4 with fail
  generalize bn:World.setCell _ _ _=w4;have bu:=gK.o;rw[bn] at bu;clear bn gK k9 f9;obtain⟨b5,bV,jr⟩:=bu;have gQ:=Z (show CC w g B (λl=>az name aS k' b' i' f' t' kv' aU l (.slice wa v.length wc)) (ai k' b' i' f' t' kv' aU) c.vals c.deps w4 0 (.slice none 0 0) [] from by refine⟨zL',b5,aB.nil _ _ _ _,rfl,?_,λi r x h=>by simp at h,jm.o.trans bV (λx T e=>by have I:x=g:=e;have:=N.o;omega),⟨N.o.1,N.o.2.1,by have:=N.o;have:=jk.o;have:=bV.size;have:=jq.o;omega⟩,(gJ.o).X bV (λe=>by have I:g+1=g:=e;omega),N.o.2.2.2⟩;exact((gI.o.mono (ok':=λx=>B<=x) (λb _ J=>by have:=N.o;omega)).X bV (λx T e=>by have I:x=g:=e;have:=N.o;omega)).mono (λb _ J=>⟨J,λe=>by cases e⟩));clear b5 bV jr jo gI gy gJ gz;go_wp2_with fail;go_loopw [17] (λct wr=>∃(n:Nat)(P:Value) (bF:List (Y)),ct=.int .i64 n∧CC w g B (λl=>az name aS k' b' i' f' t' kv' aU l (.slice wa v.length wc)) (ai k' b' i' f' t' kv' aU) c.vals c.deps wr n P bF) (λct _=>aj.length - (intOf ct).toNat)
  case atStart=>exact⟨0,_,_,rfl,gQ.o⟩
  case round=>
   obtain⟨n,P,bF,rfl,gU⟩:=hrel;have aF:=Z gU;clear gU gQ;by_cases bI:n<aj.length
   .obtain⟨r,bz⟩:=gX' aj n (bI);obtain⟨d,di⟩:=gX' c.deps n ((by rw[←HN.o];exact bI));obtain⟨lb,lo,rfl, -,dm⟩:=HD.o.at (i:=n) (r:=r) bz;have dm:=dm.X aF.o.X id;have dR:=(jc.o n r d bz di).X aF.o.X nE;obtain⟨dw,dX⟩:=dR.one;obtain⟨M,bf⟩:∃M,M=wr.alloc (.cells r.toArray 30):=⟨_,rfl⟩;have dY:=Z (show O No wr M from bf▸(O.refl No wr).alloc _);have bK:=Z (aF.o.keep dY.o);have jv:=Z (dR.X dY.o nE);have jw:=Z di;have gV:=Z (bH.o.2.2.2.2.2.1 d (mG' di));have jy:=Z (show r.length=11∧r.all (·.oneCell')=true from⟨dw,dX⟩);have dZ:(n:Int)<(aj.length:Int):=(by omega);have gW:=Z (show ay M wr.heap.size r 30 from bf▸ay.new wr r 30);clear bz di dR;go_upto_region 7 with(first|(with_reducible refine V rfl aK rfl rfl dm dw ?_)|(with_reducible refine ak rfl aK rfl rfl rfl rfl dw dX ?_))
    rw[←bf];obtain⟨g5,ed⟩:∃g5,g5=wr.heap.size:=⟨_,rfl⟩;rw[←ed];have bM:=Z (show g<B∧B<=M.heap.size from⟨N.o.2.1,bK.o.hB.2.2⟩);have jA:=Z (show ay M g5 r 30 from ed▸gW.o);have jB:=Z (show ¬(g5=g∨P.ownBlock=some g5) from λe=>by
     rcases e with e|e
     .have:=aF.o.hB;omega
     .have:=(aF.o.own.elem e).2.1;omega)
    have jC:=Z (show ∀b,okB ok w b→¬(b=g∨P.ownBlock=some b) from λb J e=>by
     have:=J.2;have:=N.o;rcases e with e|e
     .omega
     .have:=(aF.o.own.elem e).1;omega)
    have gX:=Z (show ∀q,P.ownBlock=some q→q<M.heap.size from λq e=>(bK.o.own.elem e).2.1);have gY:=Z (show bF.length<=20 by have:=aF.o.len;have:=aF.o.le;have:=HN.o;omega);have kM:=Z bH.o;replace bH:=gV;clear bf ed gW dm gV dw dX;refine aT (FI [.eq (.pointer (some ⟨g,9,none⟩)),.eq P,.eq (.agg r.toArray),.DZ M d,.xA M d,.JZ B d bF P M bM.o.2,.eq (.pointer (some ⟨g,9,none⟩)),.any])
     (λH w'=>AC g B (λl=>az name aS k' b' i' f' t' kv' aU l (.slice wa v.length wc)) P bF d M w' (H 5) (H 7)) (by kernel_rfl) (by kernel_rfl) (AC.start bM.o bK.o.own bK.o.jh) ?_ ?_
    .refine⟨?_,?_,?_,?_,?_,?_,?_,?_,trivial⟩
     .intro H a D K E C p y s o z;have I:a.tmps[1]?.getD undef=.pointer (some ⟨g,0,none⟩):=y 1 rfl;clear C p y s;go_simp;exact z _ _ rfl (by simpa[dn] using o) Sy
     .intro H a D K E C p y s o z;have kN:=fq (p 0 21 rfl (s 0 rfl));have n7:=ny1 C 7 5 rfl (ny1 C 5 1 rfl E);have eu:=o;rw[n7] at eu;obtain⟨l',J,h1, -⟩:=eu.box;obtain rfl:=h1 rfl;obtain⟨ia,bg,ic,S⟩:=bK.o.own.slice;have c0:D.cell? ⟨g,9,none⟩=some (.slice ia bg ic):=by rw[←S];exact J.cell 9
      have bW:=Z S;clear S eu J h1 n7;clear C p y s;go_simp;exact z _ _ bW.o.symm (by simpa[dn] using o) Sy
     .intro H a D K E C p y s o z;have e5:a.tmps[5]?.getD undef=.pointer (some ⟨g5,0,none⟩):=y 5 rfl;refine ax rfl ?_;refine aO aK rfl (vE e5) ((jA.o.X o.X jB.o).cells) jy.o.1 ?_;exact z _ _ rfl (by simpa[dn] using o) Sy
     .intro H a D K E C p y s o z;have jD:=fq (p 2 23 rfl (s 2 rfl));refine ax rfl ?_;refine dW Tryz.call14 rfl (vE jD) (IH.o d (okB ok w) r D (jv.o.X o.X jC.o) bH.o) ?_;rintro e w2 ⟨bD,rfl,F,hc⟩;exact⟨_,rfl,z _ _ ⟨bD,rfl,F.mono (λb J h=>⟨Nat.le_trans o.X.size h,J⟩)⟩ (by simpa[dn] using o.df hc) (λ_ _ _ _ h=>h.aP hc)⟩
     .intro H a D K E C p y s o z;obtain⟨bD,jE,F⟩:(Fact.DZ M d).holds (a.tmps[24]?.getD undef) D:=p 3 24 rfl (s 3 rfl);have hc:O No D (D.alloc (.cells bD.toArray 30)):=(O.refl No D).alloc _;have HC:=Z hc;have HT:=Z (show(Fact.xA M d).holds (.slice (some ⟨D.heap.size,0,none⟩) 1 1) (D.alloc (.cells bD.toArray 30)) from⟨bD,_,rfl,o.X.size,ay.new _ _ _,(F.X hc nE).mono (λb _ J=>⟨J.1,Nat.lt_of_lt_of_le J.2 hc.size⟩)⟩);refine ax rfl ?_;refine sN rfl (vE jE) F.one.1 ?_;exact z _ _ HT.o (by simpa[dn] using o.df HC.o) (λ_ _ _ _ h=>h.aP HC.o)
     .intro H a D K E C p y s o z;have jF:=fq (p 1 22 rfl (s 1 rfl));obtain⟨bD,t1,jG,kP,jH,F⟩:(Fact.xA M d).holds (a.tmps[25]?.getD undef) D:=p 4 25 rfl (s 4 rfl);have n7:=ny1 C 7 5 rfl E;rw[E,n7] at o;refine ax rfl ?_;refine mP tX rfl (vE jF) (o.own rfl) (vE jG) (jH.kT F.one.1) (by intro r hr;obtain rfl:=List.mem_singleton.1 hr;exact F.one.2) (by have:=gY.o;simp only[List.length_cons,List.length_nil];omega) (by have:=gY.o;simp only[List.length_cons,List.length_nil];omega) (by have:=o.X.size;have:=bM.o.2;omega) ?_;intro v' w2 jI hc eF gZ;refine z _ _ (qW.of jI F bK.o.own o.X.size hc eF) (by simpa[dn,n7] using o.app hc) ?_;refine λj F _ u hu=>hu.keep hc (aV (i:=5) (λj hl F=> ?_) j F)
      match j,F with
      |0,_|1,_|2,_=>exact trivial
      |3,_=>exact λq Q=>gX.o q Q
      |4,_=>exact λq Q=>gX.o q Q
      |5,F=>exact absurd rfl F
      |6,_|7,_=>exact trivial
      |j+8,_=>exact absurd hl (by simp)
     .intro H a D K E C p y s o z;have I:a.tmps[1]?.getD undef=.pointer (some ⟨g,0,none⟩):=y 1 rfl;clear C p y s;go_simp;exact z _ _ rfl (by simpa[dn] using o) Sy
     .intro H a D K E C p y s o z;have jJ:=fq (p 6 27 rfl (s 6 rfl));have ig:qW B d bF P M (a.tmps[26]?.getD undef) D:=p 5 26 rfl (s 5 rfl);have h5:H 5=true:=s 5 rfl;rw[E,h5] at o;obtain⟨l',J,h1, -⟩:=o.box;obtain rfl:=h1 rfl;have jK:=ig.choose_spec.1.slice;refine ax rfl ?_;refine iT rfl (vE jJ) jK Tryz.sizeOf27 J (show 9<11 by decide) (by simp[Act.eval]) ?_;intro w2 bC af ik;refine z undef _ trivial (by simpa[dn,h5] using o.store bC af ig) ?_;refine λj F _ u hu=>hu.keep af (aV (i:=7) (λj hl F=> ?_) j F)
      match j,F with
      |0,_|1,_|2,_=>exact trivial
      |3,_=>exact λq Q=>by have I:q=g:=Q;have:=bM.o;omega
      |4,_=>exact λq Q=>by have I:q=g:=Q;have:=bM.o;omega
      |5,_=>exact λq Q=>by have I:q=g:=Q;have:=bM.o;omega
      |6,_=>exact trivial
      |7,F=>exact absurd rfl F
      |j+8,_=>exact absurd hl (by simp)
    .intro vs w2 eG eH o;have jL:=Z (aF.o.step jw.o dY.o o);clear eG eH o;obtain⟨v2,kQ,iq⟩:=jL.o;have iw:=Z iq;clear iq;simp only[aX,Act.put,List.setIfInBounds_toArray,List.set_cons_succ,List.set_cons_zero];go_wp2_with fail;go_roundw;case rel=>first|exact⟨n+1,_,_,by go_num,iw.o⟩|((repeat apply Exists.intro);exact⟨⟨n+1,_,_,by go_num,iw.o⟩,rfl⟩)
     case measure=>simp[intOf];omega
   .have eP:n=aj.length:=by have:=aF.o.le;have:=HN.o;omega
    subst eP;have dZ:¬((aj.length:Nat):Int)<(aj.length:Int):=(by omega);have aG:=Z (show CC w g B (λl=>az name aS k' b' i' f' t' kv' aU l (.slice wa v.length wc)) (ai k' b' i' f' t' kv' aU) c.vals c.deps wr c.deps.length P bF from by have h:=aF.o;rw[show aj.length=c.deps.length from HN.o] at h;exact h);have eQ:wr.cell? ⟨g,10,none⟩=some (.slice wa v.length wc):=aF.o.jh.cell 10;have iy:=Z (HW.o.X aF.o.X nE);clear aF;go_upto_region 10 with(first|(at_builtin;refine aN rfl nU rfl rfl (aB.nil wr wr.heap.size 79 7) rfl iy.o jd.o je.o (by decide) lR' ?_;intro v' w6 eU eX eF gZ;obtain⟨sa,sn,U,rfl⟩:=eU.slice;have dA:=aG.o.jh.X eX (λe=>by cases e);have jM:w6.cell? ⟨g,10,none⟩=some (.slice wa v.length wc):=dA.cell 10;have jO:w6.frozen? ⟨g,10,none⟩=false:=dA.frozen 10;have iC:=Z (dA.setCell 10 (.slice sa sn U));have dB:=Z eU;have eY:=Z (show O No wr w6 from eX.mono (λi _ e=>by cases e));clear eU eX eF gZ dA))
    generalize bn:World.setCell _ _ _=w7;have bu:=iC.o;rw[bn] at bu;clear bn iC jM jO eQ;obtain⟨b7,dC,jP⟩:=bu;have jQ:sn=v.length:=by have:=dB.o.rowAt;obtain⟨-, -,a0,c0,e0, -⟩:=this;cases e0;simp
    subst jQ;have dE:=Z (show O (·=g) wr w7 from(eY.o.mono (λ_ _ e=>e.elim)).trans dC nE);have dF:=Z (show aB w7 wr.heap.size 79 7 (.slice sa v.length U) v from dB.o.X dC (λk hk e=>by have I:k=g:=e;have:=(dB.o.elem hk).1;have:=aG.o.hB;omega));have bG:=Z (show ay w7 g (az name aS k' b' i' f' t' kv' aU P (.slice sa v.length U)) 30 from b7);have iD:=Z (show ay w7 (g+1) fZ 30 from aG.o.res.1.X ((eY.o.mono (λ_ _ e=>e.elim)).trans dC nE) (λe=>by have I:g+1=g:=e;omega));have eQ:w7.cell? ⟨g,10,none⟩=some (.slice sa v.length U):=bG.o.cell 10;have kR:(v.length:Int)<9223372036854775808:=(by omega);clear dC jP b7 eY dB iy;by_cases dG:c.wants=[]
    .have kS:v.length=0:=by rw[aZ.o,dG];rfl
     have bY:=Z (show dU (λx=>B<=x) w7 (az name aS k' b' i' f' t' kv' aU P (.slice sa v.length U)) c from
      dU.fin aG.o gm.o gp.o dE.o (dF.o.rowAt.mono (λb _ J=>by have:=(dF.o.elem J).1;have:=aG.o.hB;omega) (by decide)) aZ.o (λj r x h1 h2=>by rw[dG] at h2;simp at h2))
     have fA:=bY.o.one.2;go_wp2_with fail;go_loopw [36] (λct wr=>ct=.int .i64 0∧wr=w7) (λ_ _=>0)
     case atStart=>exact⟨rfl,rfl⟩
     case round=>
      obtain⟨rfl,rfl⟩:=hrel;have kU:¬(0:Int)<(v.length:Int):=by omega
      go_wp2_with (first|(with_reducible refine V rfl aK rfl rfl bG.o.cells rfl ?_)|(with_reducible refine aA rfl aK rfl rfl rfl iD.o rfl rfl fA ?_;intro w8 fB bZ jR))
      refine bodyPost_ret (bU rfl aK rfl fB rfl) rfl ⟨_,rfl,(bY.o.X bZ (λx T e=>by have I:x=g+1:=e;have:=N.o;omega)).mono (λx _ T=>by have:=N.o;omega),((aG.o.X.trans dE.o (λx T e=>by have I:x=g:=e;have:=N.o;omega))).trans bZ (λx T e=>by have I:x=g+1:=e;have:=N.o;omega)⟩
    .obtain⟨x0,iE⟩:=List.exists_mem_of_ne_nil _ dG;have kV:0<v.length:=by rw[aZ.o];exact List.length_pos_of_mem iE
     obtain⟨G,c2,bP,p,iF,bC,jS, -,iG,iH⟩:∃g0 cap bP,Value.slice sa v.length U=.slice (some ⟨g0,0,none⟩) v.length cap∧wr.heap.size<=g0∧w7.heap[g0]?=some (.cells bP 79 (0,0))∧v.length<=cap∧cap<=maxLen∧bP.size=cap*7∧bP.toList.take (v.length*7)=v.flatten:=by
      rcases dF.o.2.2 with⟨h1,h2⟩|h
      .omega
      .exact h
     cases p;have dH:ay w7 G (v.flatten++bP.toList.drop (v.length*7)) 79:=by rw[←iH,List.take_append_drop];exact bC
     have aW:=Z (show g<G∧g+1<G∧G<w7.heap.size∧B<=G from⟨by have:=aG.o.hB;omega,by have:=aG.o.hB;have:=aG.o.res.2;omega,dH.lt,by have:=aG.o.hB;omega⟩);have fC:=Z (WK.start (wants:=c.wants) (B:=w7.heap.size) dH ⟨dH.lt,lR'⟩);have iI:=Z (show v.length<=U∧U≠0 by omega);have kW:=Z iG;have jT:=Z (show wr.heap.size<=G from iF);obtain⟨aJ,fD⟩:∃aJ,aJ=w7.heap.size:=⟨_,rfl⟩;obtain⟨dI,iJ⟩:∃dI,dI=bP.toList.drop (v.length*7):=⟨_,rfl⟩;rw[←fD,←iJ] at fC;have jU:=Z fD;clear dH iF bC jS iG iH iE fD iJ dG dF;go_wp2_with fail;clear eQ;go_loopw [36] (λct wr=>∃(m:Nat) (A:List (Y)),ct=.int .i64 m∧WK w7 G aJ c.wants v dI wr m A) (λct _=>v.length - (intOf ct).toNat);case atStart=>exact⟨0,_,rfl,fC.o⟩
     case round=>
      obtain⟨m,A,rfl,aQ⟩:=hrel;have aY:=Z aQ;clear aQ fC;by_cases bI:m<v.length
      .obtain⟨r,bz⟩:=gX' v m (bI);obtain⟨x,cu⟩:=gX' c.wants m ((by rw[←aZ.o];exact bI));obtain⟨tv,P,rfl,iL,S⟩:=fV.o m r x bz cu;obtain⟨fE,iM,C⟩:=aY.o.cells bz;have iO:(aI x tv P).all (·.oneCell')=true:=(fV.o m _ x bz cu).len.2;have dZ:(m:Int)<(v.length:Int):=(by omega);obtain⟨M,bf⟩:∃M,M=wr.alloc (.cells (aI x tv P).toArray 79):=⟨_,rfl⟩;have dJ:=Z (show O No wr M from bf▸(O.refl No wr).alloc _);go_upto_region 13 with(first|(with_reducible refine V rfl dD rfl rfl C rfl ?_)|(with_reducible refine ak rfl dD rfl rfl rfl rfl rfl iO ?_))
       rw[←bf];obtain⟨g7,fF⟩:∃g7,g7=wr.heap.size:=⟨_,rfl⟩;rw[←fF];have fG:O (·=G) w7 M:=aY.o.X.trans' dJ.o;have jV:=aY.o.X.size;have cO:=Z (show G<aJ∧aJ<=M.heap.size from⟨aY.o.hB.1,by have:=aY.o.hB.2;have:=dJ.o.size;omega⟩);obtain⟨R,hR⟩:∃R,R=(v.drop (m+1)).flatten++dI:=⟨_,rfl⟩;rw[←hR] at fE;have HR:=Z hR;have HX:=Z cu;have dK:=Z iM;have jW:=Z (fE.X dJ.o id);have jX:=Z (show ay M g7 (aI x tv P) 79 by rw[fF,bf];exact ay.new wr _ 79);have iP:=Z (show ¬g7=G by have:=aW.o;omega);have dL:=Z (bG.o.X fG (λe=>by have I:g=G:=e;have:=aW.o;omega));have iQ:=Z (show ¬g=G by have:=aW.o;omega);have fH:O No w M:=(aG.o.X.trans dE.o (λx T e=>by have I:x=g:=e;have:=N.o;omega)).trans fG (λx T e=>by have I:x=G:=e;have:=N.o;have:=aW.o;omega);have iR:=Z (iL.X fH nE);have iU:=Z (S.X fH nE);have iV:=Z (show ∀q,okB ok w q→¬q=G from λq Q e=>by have:=Q.2;have:=N.o;have:=aW.o;omega);have iW:=Z (bH.o.2.2.2.2.2.2.2.1 x (mG' cu));have HM:=Z (show m<v.length∧v.length<=U∧U≠0 from⟨bI,iI.o⟩);have kX:U≠0:=iI.o.2;have bG:=jX;clear fE iM C iO fG iL S fH bz cu hR bf fF jV;refine aT (FI [.eq (.pointer (some ⟨g,10,none⟩)),.eq (.slice (some ⟨G,0,none⟩) v.length U),.eq (.int .i64 m),.eq (.pointer (some ⟨g,10,none⟩)),.eq (.slice (some ⟨G,0,none⟩) v.length U),.eq (.int .i64 m),.eq (.pointer (some ⟨g7,4,none⟩)),.eq tv,.own aJ 9 1 (aH x.tags),.eq (.pointer (some ⟨g7,6,none⟩)),.eq P,.own aJ 110 4 (dS x.imports),.eq (.pointer (some ⟨G,m*7,none⟩)),.eq (.pointer (some ⟨G,m*7+4,none⟩)),.any,.eq (.pointer (some ⟨G,m*7,none⟩)),.eq (.pointer (some ⟨G,m*7+6,none⟩)),.any])
        (λH w'=>WC G m x A.flatten R tv P aJ M w' (H 14) (H 17)) (by kernel_rfl) (by kernel_rfl) (WC.start cO.o jW.o) ?_ ?_
       .refine⟨?_,?_,?_,?_,?_,?_,?_,?_,?_,?_,?_,?_,?_,?_,?_,?_,?_,?_,trivial⟩
        .intro H a D K E C p y s o z;have I:a.tmps[1]?.getD undef=.pointer (some ⟨g,0,none⟩):=y 1 rfl;clear C p y s;go_simp;exact z _ _ rfl (by simpa[dn] using o) Sy
        .intro H a D K E C p y s o z;have kY:=fq (p 0 41 rfl (s 0 rfl));have c0:D.cell? ⟨g,10,none⟩=some (.slice (some ⟨G,0,none⟩) v.length U):=(dL.o.X o.X iQ.o).cell 10;clear C p y s;go_simp;exact z _ _ rfl (by simpa[dn] using o) Sy
        .intro H a D K E C p y s o z;have e6:a.tmps[6]?.getD undef=.int .i64 m:=y 6 rfl;clear C p y s;go_simp;exact z _ _ rfl (by simpa[dn] using o) Sy
        .intro H a D K E C p y s o z;have I:a.tmps[1]?.getD undef=.pointer (some ⟨g,0,none⟩):=y 1 rfl;clear C p y s;go_simp;exact z _ _ rfl (by simpa[dn] using o) Sy
        .intro H a D K E C p y s o z;have kZ:=fq (p 3 44 rfl (s 3 rfl));have c0:D.cell? ⟨g,10,none⟩=some (.slice (some ⟨G,0,none⟩) v.length U):=(dL.o.X o.X iQ.o).cell 10;clear C p y s;go_simp;exact z _ _ rfl (by simpa[dn] using o) Sy
        .intro H a D K E C p y s o z;have e6:a.tmps[6]?.getD undef=.int .i64 m:=y 6 rfl;clear C p y s;go_simp;exact z _ _ rfl (by simpa[dn] using o) Sy
        .intro H a D K E C p y s o z;have e7:a.tmps[7]?.getD undef=.pointer (some ⟨g7,0,none⟩):=y 7 rfl;clear C p y s;go_simp;exact z _ _ rfl (by simpa[dn] using o) Sy
        .intro H a D K E C p y s o z;have lg:=fq (p 6 47 rfl (s 6 rfl));obtain⟨ia,bg,ic,S⟩:∃ia bg ic,tv=.slice ia bg ic:=by obtain⟨-, -,ia,ic,S, -, -⟩:=iR.o;exact⟨_,_,_,S⟩
         have c0:D.cell? ⟨g7,4,none⟩=some (.slice ia bg ic):=by rw[←S];exact(bG.o.X o.X iP.o).cell 4
         have bW:=Z S;clear S;clear C p y s;go_simp;exact z _ _ bW.o.symm (by simpa[dn] using o) Sy
        .intro H a D K E C p y s o z;have jY:=fq (p 7 48 rfl (s 7 rfl));refine ax rfl ?_;refine bJ iK rfl rfl (aB.nil D aJ 9 1) (vE jY) (iR.o.X o.X iV.o) (by intro r hr;obtain⟨q, -,rfl⟩:=List.mem_map.1 hr;rfl) (by have:=iW.o.sm.tags.1;simp[aH];omega) (by decide) o.hB.2 ?_;intro v' w2 hO hC dO jZ;have cZ:O No D w2:=hC.mono (λi _ e=>by cases e);exact z v' w2 (by simpa[FI,Fact.own] using hO) (by simpa[dn] using o.df cZ) (λ_ _ _ _ h=>h.aP cZ)
        .intro H a D K E C p y s o z;have e7:a.tmps[7]?.getD undef=.pointer (some ⟨g7,0,none⟩):=y 7 rfl;clear C p y s;go_simp;exact z _ _ rfl (by simpa[dn] using o) Sy
        .intro H a D K E C p y s o z;have lh:=fq (p 9 50 rfl (s 9 rfl));obtain⟨ia,bg,ic,S⟩:∃ia bg ic,P=.slice ia bg ic:=by obtain⟨-, -,ia,ic,S, -, -⟩:=iU.o;exact⟨_,_,_,S⟩
         have c0:D.cell? ⟨g7,6,none⟩=some (.slice ia bg ic):=by rw[←S];exact(bG.o.X o.X iP.o).cell 6
         have bW:=Z S;clear S;clear C p y s;go_simp;exact z _ _ bW.o.symm (by simpa[dn] using o) Sy
        .intro H a D K E C p y s o z;have ku:=fq (p 10 51 rfl (s 10 rfl));refine ax rfl ?_;refine bJ y8 rfl rfl (aB.nil D aJ 110 4) (vE ku) (iU.o.X o.X iV.o) (by intro r hr;obtain⟨q, -,rfl⟩:=List.mem_map.1 hr;rfl) (by have:=iW.o.kD;simp only[List.length_nil,List.length_map];omega) (by decide) o.hB.2 ?_;intro v' w2 hO hC dO jZ;have cZ:O No D w2:=hC.mono (λi _ e=>by cases e);exact z v' w2 (by simpa[FI,Fact.own] using hO) (by simpa[dn] using o.df cZ) (λ_ _ _ _ h=>h.aP cZ)
        .intro H a D K E C p y s o z;have lq:=fq (p 1 42 rfl (s 1 rfl));have lu:=fq (p 2 43 rfl (s 2 rfl));have kz:=HM.o;have kC:(m:Int)<(v.length:Int):=(by omega);clear C p y s;go_simp;exact z _ _ rfl (by simpa[dn] using o) Sy
        .intro H a D K E C p y s o z;have lC:=fq (p 12 53 rfl (s 12 rfl));clear C p y s;go_simp;exact z _ _ rfl (by simpa[dn] using o) Sy
        .intro H a D K E C p y s o z;have kE:=fq (p 13 54 rfl (s 13 rfl));have hO:aB D aJ 9 1 (a.tmps[49]?.getD undef) (aH x.tags):=p 8 49 rfl (s 8 rfl);have iY:=ny1 C 17 14 rfl E;rw[E,iY] at o;obtain⟨t',i',J, -⟩:=o.box;refine ax rfl ?_;refine iT rfl (vE kE) hO.slice Tryz.sizeOf23 J (by simp only[List.length_append,dK.o,aI,List.length_cons,List.length_nil];omega) (by simp[Act.eval]) ?_;intro w2 bC af ik;refine z undef _ trivial (by simpa[dn,iY] using o.storeT hO J (by rw[dK.o];exact bC) af) ?_;refine λj F _ u hu=>hu.keep af (aV (i:=14) (λj hl F=> ?_) j F)
         match j,F with
         |0,_|1,_|2,_|3,_|4,_|5,_|6,_|7,_=>exact trivial
         |8,_=>exact λq Q J=>by have I:q=G:=Q;have:=cO.o;omega
         |9,_|10,_=>exact trivial
         |11,_=>exact λq Q J=>by have I:q=G:=Q;have:=cO.o;omega
         |12,_|13,_=>exact trivial
         |14,F=>exact absurd rfl F
         |15,_|16,_|17,_=>exact trivial
         |j+18,_=>exact absurd hl (by simp)
        .intro H a D K E C p y s o z;have lD:=fq (p 4 45 rfl (s 4 rfl));have lF:=fq (p 5 46 rfl (s 5 rfl));have kz:=HM.o;have kC:(m:Int)<(v.length:Int):=(by omega);clear C p y s;go_simp;exact z _ _ rfl (by simpa[dn] using o) Sy
        .intro H a D K E C p y s o z;have lG:=fq (p 15 55 rfl (s 15 rfl));clear C p y s;go_simp;exact z _ _ rfl (by simpa[dn] using o) Sy
        .intro H a D K E C p y s o z;have kF:=fq (p 16 56 rfl (s 16 rfl));have hO:aB D aJ 110 4 (a.tmps[52]?.getD undef) (dS x.imports):=p 11 52 rfl (s 11 rfl);have iZ:H 14=true:=s 14 rfl;rw[E,iZ] at o;obtain⟨t',i',J, -⟩:=o.box;refine ax rfl ?_;refine iT rfl (vE kF) hO.slice Tryz.sizeOf77 J (by simp only[List.length_append,dK.o,aI,List.length_cons,List.length_nil];omega) (by simp[Act.eval]) ?_;intro w2 bC af ik;refine z undef _ trivial (by simpa[dn,iZ] using o.Le hO J (by rw[dK.o];exact bC) af) ?_;refine λj F _ u hu=>hu.keep af (aV (i:=17) (λj hl F=> ?_) j F)
         match j,F with
         |0,_|1,_|2,_|3,_|4,_|5,_|6,_|7,_=>exact trivial
         |8,_=>exact λq Q J=>by have I:q=G:=Q;have:=cO.o;omega
         |9,_|10,_=>exact trivial
         |11,_=>exact λq Q J=>by have I:q=G:=Q;have:=cO.o;omega
         |12,_|13,_|14,_|15,_|16,_=>exact trivial
         |17,F=>exact absurd rfl F
         |j+18,_=>exact absurd hl (by simp)
       .intro vs w2 eG eH o;have kG:=Z (aY.o.step HX.o HR.o dJ.o o);have lH:=Z o.X;clear eG eH o;obtain⟨A2,ja⟩:=kG.o;have jb:=Z ja;clear ja;simp only[aX,Act.put,List.setIfInBounds_toArray,List.set_cons_succ,List.set_cons_zero];go_wp2_with fail;go_roundw;case rel=>first|exact⟨m+1,_,by go_num,jb.o⟩|((repeat apply Exists.intro);exact⟨⟨m+1,_,by go_num,jb.o⟩,rfl⟩)
        case measure=>simp[intOf];omega
      .have eP:m=v.length:=by have:=aY.o.le;have:=aZ.o;omega
       subst eP;have dZ:¬((v.length:Nat):Int)<(v.length:Int):=(by omega);have aQ:=aY.o;rw[show v.length=c.wants.length from aZ.o] at aQ;have fJ:=aQ.jh;rw[show v.drop c.wants.length=[] from List.drop_of_length_le (by have:=aZ.o;omega),List.flatten_nil,List.nil_append] at fJ;have dM:=aC.Na (cap:=U) fJ aQ.seven (by have:=aQ.len;have:=aZ.o;unfold maxLen;omega);rw[aQ.len] at dM;rw[←aZ.o] at dM;have fK:=dE.o.trans aY.o.X (λx T e=>by have I:x=G:=e;have:=aW.o;have:=jT.o;omega);have bY:=Z (dU.fin aG.o gm.o gp.o fK (dM.mono (λb _ J=>by have:=aW.o;omega) (by decide)) aQ.len (λj r x h1 h2=>(aQ.val j r x h1 h2).mono (λb _ J=>by have:=aW.o;have:=jU.o;omega)));have fA:=bY.o.one.2;have fM:=aY.o.X;have dL:=Z (bG.o.X fM (λe=>by have I:g=G:=e;have:=aW.o;omega));have kH:=Z (iD.o.X fM (λe=>by have I:g+1=G:=e;have:=aW.o;omega));have kJ:=Z (aG.o.X.trans fK (λx T e=>by have I:x=g:=e;have:=N.o;omega));clear aQ fJ dM fK fM;go_wp2_with (first|(with_reducible refine V rfl aK rfl rfl dL.o.cells rfl ?_)|(with_reducible refine aA rfl aK rfl rfl rfl kH.o rfl rfl fA ?_;intro w8 fB bZ jR));refine bodyPost_ret (bU rfl aK rfl fB rfl) rfl ⟨_,rfl,(bY.o.X bZ (λx T e=>by have I:x=g+1:=e;have:=N.o;omega)).mono (λx _ T=>by have:=N.o;omega),kJ.o.trans bZ (λx T e=>by have I:x=g+1:=e;have:=N.o;omega)⟩
end Go.Proofs.YtljaoopfomcaoaaGreatDoor
