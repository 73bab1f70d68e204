/- A part of the proof. -/
import Derived.Test.YtljaoopfomcaoaaGreatDoorMc9
import Derived.WalkMore
set_option linter.unusedVariables false
set_option linter.unusedSimpArgs false
set_option maxRecDepth 100000
set_option maxHeartbeats 4000000
namespace Go.Proofs.YtljaoopfomcaoaaGreatDoor
open Go.RowKit
theorem Ib:jG Tryz.prog 125 4:=⟨⟨_,Tryz.underlying125⟩,by kernel_rfl⟩
theorem Ic:jG Tryz.prog 122 3:=⟨⟨_,Tryz.underlying122⟩,by kernel_rfl⟩
theorem G7(a:Addr)(w:World):(Go.binOp BinOp.eql 70 (.pointer (some a)) (.pointer none)).run Tryz.prog w=.ok (.bool false) w:=by kernel_rfl
theorem FK(a:Addr)(w:World):(Go.binOp BinOp.eql 152 (.pointer (some a)) (.pointer none)).run Tryz.prog w=.ok (.bool false) w:=by kernel_rfl
theorem FM(a:Addr)(w:World):(Go.binOp BinOp.neq 70 (.pointer (some a)) (.pointer none)).run Tryz.prog w=.ok (.bool true) w:=by kernel_rfl
theorem FN(w:World):(Go.binOp BinOp.neq 70 (.pointer none) (.pointer none)).run Tryz.prog w=.ok (.bool false) w:=by kernel_rfl
theorem lL{w:World}{p a:Nat}{d f g h:Value}{name i:K}(b:ay w p [ptr a,d,f,g] 125)(c:ay w a [.string name,.string i,h] 122):Calls Tryz.prog 88 #[ptr p] w λe j=>e=.returned (.string name)∧j=w:=by have k:w.cell? ⟨p,0,none⟩=some (ptr a):=b.cell 0;have l:w.cell? ⟨a,0,none⟩=some (.string name):=c.cell 0;have m:=xX ⟨a,0,none⟩;clear b c;go_enter Tryz.func88,Tryz.ntmps88;go_wp2;go_ret;exact⟨rfl,rfl⟩
theorem yl(a b:K)(w:World):Calls Tryz.prog 110 #[.string a,.string b] w λe d=>e=.returned (.bool (decide (a=b)))∧d=w:=by have h:(a.toList==b.toList)=decide (a=b):=aS a b;obtain⟨r,c⟩:∃r,r=decide (a=b):=⟨_,rfl⟩;rw[←c] at h⊢;clear c;go_enter Tryz.func110,Tryz.ntmps110;go_wp2;go_ret;exact⟨by first|rfl|(show Ending.returned (.bool (a.toList==b.toList))=_;rw[h]),rfl⟩
theorem NR{a b c d:Value}(e:a.oneCell'=true)(f:b.oneCell'=true)(g:c.oneCell'=true)(h:d.oneCell'=true):([a,b,c,d]:Y).all (·.oneCell')=true:=by simp only[List.all_cons,List.all_nil,e,f,g,h,Bool.and_true]
theorem NS{a b c:Value}(d:a.oneCell'=true)(e:b.oneCell'=true)(f:c.oneCell'=true):([a,b,c]:Y).all (·.oneCell')=true:=by simp only[List.all_cons,List.all_nil,d,e,f,Bool.and_true]
def FO(w:World)(p:Nat)(d:Ch)(a:Nat)(b c e f:Value):Prop:=ay w p [ptr a,b,c,e] 125∧ay w a [.string d.name,.string d.version,f] 122∧b.oneCell'=true∧c.oneCell'=true∧e.oneCell'=true∧f.oneCell'=true
theorem FO.X{S:ae}{w b:World}{p:Nat}{d:Ch}{a:Nat}{c e f g:Value}(h:FO w p d a c e f g)(i:O S w b)(j:¬S p)(k:¬S a):FO b p d a c e f g:=⟨h.1.X i j,h.2.1.X i k,h.2.2⟩
theorem Bo{ok:ae}{w:World}{cv:Value}{f:List Nat}{t:List Ch}{q:Nat}{x:Want}{bJ:K}{tv iv:Value}(hr:aC ok w cv 1 (aF f))(hl:f.length=t.length)(dn:f.length<=1000000)(o:∀(i p:Nat)(d:Ch),f[i]?=some p→t[i]?=some d→∃b j k l m,FO w p d b j k l m)
  (hq:ay w q (jc x bJ tv iv) 154):
  Calls Tryz.prog 111 #[cv,ptr q] w λe w'=>O No w w'∧(t.find? (bK x)=none→e=.returned (.pointer none))∧(∀d,t.find? (bK x)=some d→∃(i p g c b:Nat)(j k l m:Value),f[i]?=some p∧t[i]?=some d∧e=.returned (ptr g)∧w.heap.size<=g∧w.heap.size<=c∧g≠c∧FO w p d b j k l m∧ay w' g [ptr c,j,k,l] 125∧ay w' c [.string (named x),.string d.version,m] 122):=by
 have HR:=Z hr;have HL:=Z hl;have HD:=Z o;have HQ:=Z hq;obtain⟨-, -,ca,cc,rfl, -, -⟩:=hr;have aK:(aF f).length=f.length:=(by simp[aF]);rw[aK] at HR⊢;clear hl o hq aK;go_enter Tryz.func111,Tryz.ntmps111;go_wp2_with fail;go_loopw [11] (λct wr=>∃n:Nat,ct=.int .i64 n∧n<=f.length∧(∀d∈t.take n,bK x d=false)∧O No w wr) (λct _=>f.length - (intOf ct).toNat)
 case atStart=>exact⟨0,rfl,zL',by simp,O.refl _ _⟩
 case round=>
  obtain⟨n,rfl,dw,aN,aO⟩:=hrel;obtain⟨a,rfl⟩:∃a,a=wr:=⟨_,rfl⟩;have L:=Z aN;have s:=Z aO;clear aN aO;by_cases aP:n<f.length
  .obtain⟨p,M⟩:=gX' f n (aP);obtain⟨d,o⟩:=gX' t n ((by rw[←HL.o];exact aP));obtain⟨lb,lo,rfl, -,N⟩:=HR.o.at (i:=n) (r:=[ptr p]) (by simp[M]);have N:=(N.X s.o id).one;simp only[Nat.mul_one] at N;obtain⟨b,j,k,l,m,P⟩:=HD.o n p d M o;have aA:=Z P;have HP:=Z M;have Q:=Z o;have hb:=(P.X s.o id id).1;have aB:=(P.X s.o id id).2.1;have R:=HQ.o.X s.o id;have k0:a.cell? ⟨p,0,none⟩=some (ptr b):=hb.cell 0;have m1:a.cell? ⟨b,1,none⟩=some (.string d.version):=aB.cell 1;have q0:a.cell? ⟨q,0,none⟩=some (.string x.name):=R.cell 0;have q1:a.cell? ⟨q,1,none⟩=some (.string x.version):=R.cell 1;have E:=Z hb;have S:=Z aB;have aG:=Z R;have bM:(n:Int)<(f.length:Int):=(by omega);have dA:=G7 ⟨p,0,none⟩;have bP:=L.o;clear M o P hb aB R bP;have aQ:bK x d=false→∀y∈t.take (n+1),bK x y=false:=λhf y u=>by
    rw[List.take_add_one,Q.o] at u;rcases List.mem_append.1 u with h|h
    .exact L.o y h
    .have:y=d:=(by simpa using h);subst this;exact hf
   have aT:=Z aQ;clear aQ;go_upto_region 5 with fail
   by_cases z:x.name=d.name
   .have bQ:(d.name.toList==x.name.toList)=true:=by rw[aS];simpa using z.symm
    have HK:=Z z;clear z
    go_quiet (first|(refine Calls.quiet_of_same (lL (E.o.X (O.drewN _ _) id) (S.o.X (O.drewN _ _) id))))
    generalize F:a.drewN nq=w2;have A:O No a w2:=F▸O.drewN a nq;have T:=Z A;have bT:w2.cell? ⟨p,0,none⟩=some (ptr b):=(E.o.X A id).cell 0;have bU:w2.cell? ⟨b,1,none⟩=some (.string d.version):=(S.o.X A id).cell 1;have bV:w2.cell? ⟨q,1,none⟩=some (.string x.version):=(aG.o.X A id).cell 1;have bW:w2.cell? ⟨q,7,none⟩=some (.string x.bF):=(aG.o.X A id).cell 7;clear F A k0 m1 q0 q1 N;go_upto_region 6 with fail
    have U:=Z (λW=>yl x.version d.version W);by_cases hv:x.version=d.version
    .have v:decide (x.version=d.version)=true:=decide_eq_true hv;rw[v] at U;have G:=Z (show bK x d=true by unfold bK;rw[decide_eq_true HK.o,v];rfl);clear hv v
     go_quiet (first|(refine Calls.quiet_of_same (U.o _)))
     generalize H:w2.drewN nq=w3;have aH:O No a w3:=T.o.trans' (H▸O.drewN w2 nq);have af:=Z aH;have aU:=(E.o.X aH id);have HO:=Z aA.o.2.2;have aV:([ptr b,j,k,l]:Y).all (·.oneCell')=true:=by obtain⟨I,B,h3,h4⟩:=HO.o;exact NR rfl I B h3
     have aW:([Value.string d.name,.string d.version,m]:Y).all (·.oneCell')=true:=by obtain⟨I,B,h3,h4⟩:=HO.o;exact NS rfl rfl h4
     clear H aH bT bU bV bW;go_upto_region 8 with(first|(with_reducible refine V rfl Ib rfl rfl aU.cells rfl ?_)|(with_reducible refine ak rfl Ib rfl rfl rfl rfl rfl aV ?_))
     obtain⟨g,J⟩:∃g,g=w3.heap.size:=⟨_,rfl⟩;have HG:=Z J;have aX:=ay.newAt J [ptr b,j,k,l] 125;have ai:O No a (w3.alloc (.cells [ptr b,j,k,l].toArray 125)):=af.o.alloc _;have aY:(w3.alloc (.cells [ptr b,j,k,l].toArray 125)).heap.size=g+1:=(by simp[J]);rw[←J];generalize bY:w3.alloc (.cells [ptr b,j,k,l].toArray 125)=w4 at*;have bZ:=Z aX;have cu:=Z ai;have aZ:=Z aY;have bf:=(S.o.X ai id);have cO:w4.cell? ⟨p,0,none⟩=some (ptr b):=(E.o.X ai id).cell 0;clear bY aU aV aX ai aY J;go_upto_region 9 with(first|(with_reducible refine V rfl Ic rfl rfl bf.cells rfl ?_)|(with_reducible refine ak rfl Ic rfl rfl rfl rfl rfl aW ?_))
     obtain⟨c,aI⟩:∃c,c=w4.heap.size:=⟨_,rfl⟩;have bg:=ay.newAt aI [.string d.name,.string d.version,m] 122;have bn:O No a (w4.alloc (.cells [.string d.name,.string d.version,m].toArray 122)):=cu.o.alloc _;have aj:=bZ.o.alloc (.cells [.string d.name,.string d.version,m].toArray 122);rw[←aI];generalize cZ:w4.alloc (.cells [.string d.name,.string d.version,m].toArray 122)=w5 at*;have au:=Z (show g≠c by have:=aZ.o;omega);have C:=Z (show a.heap.size<=g∧a.heap.size<=c by have:=af.o.size;have:=HG.o;have:=aZ.o;omega);have g0:w5.cell? ⟨g,0,none⟩=some (ptr b):=aj.cell 0;have gf:=aj.frozen 0;have bu:=Z (λ(W:World) (hW:W=w5.setCell ⟨g,0,none⟩ (ptr c))=>show ay W g [ptr c,j,k,l] 125∧ay W c [.string d.name,.string d.version,m] 122∧O No a W by obtain⟨I,B, -⟩:=aj.setCell 0 (ptr c);rw[←hW] at I B;exact⟨I,bg.X B (λe=>au.o e.symm),bn.trans B (λi hi e=>by have e1:i=g:=e;have:=C.o.1;omega)⟩);clear cZ bg bn aj aI bf aW cO;go_upto_region 10 with fail
     generalize bz:World.setCell _ _ _=w6;obtain⟨bC,ax,aJ⟩:=bu.o w6 bz.symm;have dB:w6.cell? ⟨q,7,none⟩=some (.string x.bF):=(aG.o.X aJ id).cell 7;have bD:=Z bC;have bG:=Z ax;have bH:=Z aJ;have m0:w6.cell? ⟨c,0,none⟩=some (.string d.name):=ax.cell 0;have mf:=ax.frozen 0;have az:=Z (show t.find? (bK x)=some d from sO L.o Q.o G.o);clear bz bC ax aJ g0 gf bu;by_cases D:x.bF=ByteArray.empty
     .have df:(ByteArray.toList x.bF).isEmpty=true:=by rw[←decide_eq_emptyBytes];exact decide_eq_true D
      have HN:=Z (show named x=d.name by unfold named;rw[if_neg (by simpa using D)];exact HK.o);clear D;go_wp2;go_ret;refine⟨s.o.trans' bH.o,λh=>(by rw[az.o] at h;cases h),λy u=> ?_⟩;rw[az.o] at u;cases u;have dh:=s.o.size;exact⟨n,p,g,c,b,j,k,l,m,HP.o,Q.o,rfl,by have:=C.o.1;omega,by have:=C.o.2;omega,au.o,aA.o,bD.o,by rw[HN.o];exact bG.o⟩
     .have df:(ByteArray.toList x.bF).isEmpty=false:=by rw[←decide_eq_emptyBytes];exact decide_eq_false D
      have HN:=Z (show named x=x.bF by unfold named;rw[if_pos D]);clear D;go_wp2;obtain⟨di,bI, -⟩:=bG.o.setCell 0 (.string x.bF);go_ret;refine⟨s.o.trans' (bH.o.trans bI (λi hi e=>by have e1:i=c:=e;have:=C.o.2;omega)),λh=>(by rw[az.o] at h;cases h),λy u=> ?_⟩;rw[az.o] at u;cases u;have dh:=s.o.size;exact⟨n,p,g,c,b,j,k,l,m,HP.o,Q.o,rfl,by have:=C.o.1;omega,by have:=C.o.2;omega,au.o,aA.o,bD.o.X bI au.o,by rw[HN.o];exact di⟩
    .have v:decide (x.version=d.version)=false:=decide_eq_false hv;rw[v] at U;have G:=Z (show bK x d=false by unfold bK;rw[v];simp);clear hv v
     go_quiet (first|(refine Calls.quiet_of_same (U.o _)))
     generalize H:w2.drewN nq=w3;have af:=Z (show O No a w3 from T.o.trans' (H▸O.drewN w2 nq));clear H;go_wp2_with fail;go_roundw;case rel=>exact⟨n+1,by go_num,by omega,aT.o G.o,s.o.trans' af.o⟩
     case measure=>simp[intOf];omega
   .have bQ:(d.name.toList==x.name.toList)=false:=by rw[aS];simpa using λe=>z e.symm
    have G:=Z (show bK x d=false by unfold bK;rw[decide_eq_false z];rfl);clear z
    go_quiet (first|(refine Calls.quiet_of_same (lL (E.o.X (O.drewN _ _) id) (S.o.X (O.drewN _ _) id))))
    generalize F:a.drewN nq=w2;have T:=Z (show O No a w2 from F▸O.drewN a nq);clear F;go_wp2_with fail;go_roundw;case rel=>exact⟨n+1,by go_num,by omega,aT.o G.o,s.o.trans' T.o⟩
    case measure=>simp[intOf];omega
  .have bM:¬(n:Int)<(f.length:Int):=(by omega);have dm:=Z (show t.find? (bK x)=none by
    rw[List.find?_eq_none];intro d o;have h:=L.o;rw[List.take_of_length_le (by have:=HL.o;omega)] at h;simp[h d o])
   go_wp2;go_ret;exact⟨s.o,λ_=>rfl,λd o=>by rw[dm.o] at o;cases o⟩
theorem wO{ok:ae}{w:World}{p:Nat}{g i j B cv:Value}{f:List Nat}(d:ay w p [g,i,j,B] 125)(s:aC ok w cv 1 (aF f))(o:∀b,ok b→b<w.heap.size→b≠p∧b∉f)(C:f.Nodup)(t:p∉f)(D:∀q∈f,∃u v x y,ay w q [u,v,x,y] 125)(E:f.length<=1000000):
  Calls Tryz.prog 112 #[ptr p,cv] w λe z=>e=.returned (.tuple #[])∧∃k l,ay k p [g,i,j,.slice none 0 0] 125∧O (·=p) w k∧k.heap.size=w.heap.size∧AD k k.heap.size p g i j (.slice none 0 0) [] f f.length l z:=by
 have K:w.cell? ⟨p,3,none⟩=some B:=d.cell 3;have L:=d.frozen 3;obtain⟨r,m,A⟩:=d.setCell 3 (.slice none 0 0);have F:=Z (λW (M:w.setCell ⟨p,3,none⟩ (.slice none 0 0)=W)=>show(ay W p [g,i,j,.slice none 0 0] 125∧O (·=p) w W∧W.heap.size=w.heap.size)∧Calls Tryz.prog 85 #[ptr p,cv] W λe z=>e=.returned (.tuple #[])∧∃l,AD W W.heap.size p g i j (.slice none 0 0) [] f f.length l z by rw[M] at r m A;refine⟨⟨r,m,A⟩,?_⟩;refine yc W.heap.size p g i j (.slice none 0 0) [] f cv W (ok:=okB ok w) lR' r (aB.nil _ _ _ _) ((s.mono (ok':=okB ok w) (λb d h=>⟨h,d⟩) (by decide)).X m (λb d e=>(o b d.1 d.2).1 e)) (λb d _=>⟨(o b d.1 d.2).1,(o b d.1 d.2).2,λe=>by cases e⟩) C t (λq G=> ?_) (by simpa using E);obtain⟨u,v,x,y,N⟩:=D q G;exact⟨u,v,x,y,N.X m (λe=>t (e▸G))⟩);obtain⟨Q,R,S,rfl⟩:∃a n c,cv=.slice a n c:=by obtain⟨-, -,a,c,rfl, -⟩:=s;exact⟨_,_,_,rfl⟩
 clear d s o C t D E r m A;go_enter Tryz.func112,Tryz.ntmps112;go_upto_region 1 with fail
 generalize I:World.setCell _ _ _=W;have H:=Z (F.o W I);clear I F K L;go_wp2_with fail;refine H.o.2.mono ?_;rintro e w2 ⟨rfl,l,J⟩;have P:=Z J;clear J;go_wp2;go_end0;exact⟨rfl,W,l,H.o.1.1,H.o.1.2.1,H.o.1.2.2,P.o⟩
structure eu (ok:ae) (w:World) (ps:List Nat) (ds:List Ch) (G:Nat→ae):Prop where
 len:ps.length=ds.length
 all:∀(i q:Nat)(d:Ch),ps[i]?=some q→ds[i]?=some d→bZ ok w q d (G i)
 mX:∀i j x,G i x→G j x→i=j
 fl:∀i x,G i x→i<ds.length
section
variable {ok ok' S:ae} {w w':World} {ps:List Nat} {ds:List Ch} {G:Nat→ae}
theorem eu.nil(ok:ae)(w:World):eu ok w [] [] (λ_ _=>False):=⟨rfl,λi q d h=>by simp at h,λ_ _ _ h=>h.elim,λ_ _ h=>h.elim⟩
theorem eu.at(h:eu ok w ps ds G){i x:Nat}(e:G i x):∃q d,ps[i]?=some q∧ds[i]?=some d∧bZ ok w q d (G i):=by have a:=h.fl i x e;obtain⟨d,b⟩:=gX' ds i (a);obtain⟨q,c⟩:=gX' ps i ((by rw[h.len];exact a));exact⟨q,d,c,b,h.all i q d c b⟩
theorem eu.lt(h:eu ok w ps ds G){i x:Nat}(a:G i x):x<w.heap.size:=by obtain⟨q,d, -, -,b⟩:=h.at a;exact b.lt x a
theorem eu.self(h:eu ok w ps ds G){i q:Nat}(a:ps[i]?=some q):G i q:=by obtain⟨d,b⟩:=gX' ds i ((by rw[←h.len];exact(gS'.1 a).1));exact(h.all i q d a b).self
theorem eu.X(h:eu ok w ps ds G)(a:O S w w')(c:∀b,ok b→¬S b)(e:∀i b,G i b→¬S b):eu ok w' ps ds G:=
 ⟨h.len,λi q d f g=>(h.all i q d f g).X a c (e i),h.mX,h.fl⟩
theorem eu.keep(h:eu ok w ps ds G)(a:O No w w'):eu ok w' ps ds G:=h.X a nE (λ_ _ _ e=>e)
theorem eu.mono(h:eu ok w ps ds G)(a:∀b,b<w.heap.size→ok b→ok' b):eu ok' w ps ds G:=⟨h.len,λi q d c e=>(h.all i q d c e).mono a,h.mX,h.fl⟩
theorem eu.nodup(h:eu ok w ps ds G):ps.Nodup:=by rw[List.Nodup,List.pairwise_iff_getElem];intro i j b c f e;have a:=h.self (List.getElem?_eq_getElem b);have d:=h.self (List.getElem?_eq_getElem c);rw[e] at a;have:=h.mX i j _ a d;omega
theorem eu.snoc(h:eu ok w ps ds G){p:Nat}{d:Ch}{T:ae}(k:bZ ok w p d T)(c:∀i x,G i x→¬T x):eu ok w (ps++[p]) (ds++[d]) (λi x=>(i=ds.length∧T x)∨G i x):=by
 refine⟨by simp[h.len],λi q l a b=> ?_,λi j x a b=> ?_,λi x a=> ?_⟩
 .by_cases f:i<ds.length
  .rw[List.getElem?_append_left (by rw[h.len];exact f)] at a;rw[List.getElem?_append_left f] at b;exact(h.all i q l a b).set (λx=>⟨λe=>e.elim (λe=>by omega) id,.inr⟩)
  .have m:i=ds.length:=by
    have:=(gS'.1 b).1;simp at this;omega
   subst m;rw[←h.len,List.getElem?_append_right lR',Nat.sub_self] at a;rw[List.getElem?_append_right lR',Nat.sub_self] at b;cases a;cases b;exact k.set (λx=>⟨λe=>e.elim (λe=>e.2) (λe=>absurd (h.fl _ _ e) (Nat.lt_irrefl _)),λe=> .inl ⟨rfl,e⟩⟩)
 .rcases a with⟨g,a⟩|a
  .rcases b with⟨n,b⟩|b
   .omega
   .exact absurd a (c j x b)
  .rcases b with⟨n,b⟩|b
   .exact absurd b (c i x a)
   .exact h.mX i j x a b
 .rcases a with⟨g,a⟩|a
  .subst g;simp
  .have:=h.fl i x a;simp;omega
theorem eu.put(h:eu ok w ps ds G){n q:Nat}{d m:Ch}(r:ps[n]?=some q)(s:ds[n]?=some d){R S':ae}(t:bZ R w' q m S')(u:O (G n) w w')(v:∀b,ok b→¬G n b)(o:∀x,S' x→G n x∨w.heap.size<=x):
  eu (λx=>(ok x∧x<w.heap.size)∨R x) w' ps (ds.set n m) (λi x=>(i=n∧S' x)∨(i≠n∧G i x)):=by
 have p:=(gS'.1 s).1;refine⟨by rw[List.length_set];exact h.len,λi y z a f=> ?_,λi j x a f=> ?_,λi x a=> ?_⟩
 .by_cases e:i=n
  .subst e;rw[r] at a;rw[List.getElem?_set_self p] at f;cases a;cases f;exact(t.set (S':=λx=>(i=i∧S' x)∨(i≠i∧G i x)) (λx=>⟨λe=>e.elim (λe=>e.2) (λe=>absurd rfl e.1),λe=> .inl ⟨rfl,e⟩⟩)).mono (λx _ h=> .inr h)
  .rw[List.getElem?_set_ne (λc=>e c.symm)] at f;refine(((h.all i y z a f).mono (ok':=λx=>ok x∧x<w.heap.size) (λb g h=>⟨h,g⟩)).X u (λb g=>v b g.1) (λb g c=>e (h.mX i n b g c))).set (λx=> ?_)|>.mono (λx _ h=> .inl h);exact⟨λc=>c.elim (λc=>absurd c.1 e) (λc=>c.2),λc=> .inr ⟨e,c⟩⟩
 .rcases a with⟨k,a⟩|⟨k,a⟩<;>rcases f with⟨c,f⟩|⟨c,f⟩
  .omega
  .rcases o x a with l|l
   .exact absurd (h.mX _ _ x l f).symm c
   .have:=h.lt f;omega
  .rcases o x f with l|l
   .exact absurd (h.mX _ _ x a l) k
   .have:=h.lt a;omega
  .exact h.mX i j x a f
 .rw[List.length_set];rcases a with⟨k,a⟩|⟨k,a⟩
  .subst k;exact p
  .exact h.fl i x a
end
structure PO (ok:ae) (w:World) (p pm:Nat) (mv par dv wv:Value) (name fB:K) (vals:J) (ps qs:List Nat) (deps:List Ch) (wants:List Want) (F:Nat→ae):Prop where
 hp:ay w p [ptr pm,mv,par,dv] 125
 hm:ay w pm [.string name,.string fB,wv] 122
 sK:∃a,par=.pointer a
 hv:lG ok w mv vals
 hd:aC ok w dv 1 (aF ps)
 cl:eu ok w ps deps F
 hw:aC ok w wv 1 (aF qs)
 nS:qs.length=wants.length
 hx:∀(i q:Nat)(x:Want),qs[i]?=some q→wants[i]?=some x→iF ok w q x
 zT:∀i x,F i x→x≠p∧x≠pm∧x∉qs
 hq:qs.Nodup
 lH:p∉qs∧pm∉qs∧p≠pm
 no:∀b,ok b→b≠p∧b≠pm∧b∉qs∧∀i,¬F i b
def qX(p pm:Nat)(qs:List Nat)(F:Nat→ae):ae:=λx=>x=p∨x=pm∨x∈qs∨∃i,F i x
section
variable {ok ok' S:ae} {w w':World} {p pm:Nat} {mv par dv wv:Value} {name fB:K} {vals:J} {ps qs:List Nat} {deps:List Ch} {wants:List Want} {F:Nat→ae}
theorem PO.Nc(h:PO ok w p pm mv par dv wv name fB vals ps qs deps wants F)(a:wants=[]→wv=.slice none 0 0):bZ ok w p (.mk name fB vals deps wants) (qX p pm qs F):=
 .mk h.hp h.hm h.sK h.hv h.hd h.cl.len h.cl.all h.hw a h.nS h.hx h.cl.mX h.zT h.cl.fl h.hq h.lH (λx=>Iff.rfl)
theorem PO.of{c:Ch}(h:bZ ok w p c S)(f:∀b,ok b→¬S b):∃pm mv par dv wv ps qs F,PO ok w p pm mv par dv wv c.name c.version c.vals ps qs c.deps c.wants F∧(∀x,S x↔qX p pm qs F x)∧(c.wants=[]→wv=.slice none 0 0):=by
 cases h with
 |@mk _ pm mv par dv wv name fB vals deps wants ps qs F _ g j k l m n h o q r s hF t u v y a=>refine⟨pm,mv,par,dv,wv,ps,qs,F,⟨g,j,k,l,m,⟨n,h,hF,u⟩,o,r,s,t,v,y,λb z=> ?_⟩,a,q⟩;have d:=f b z;exact⟨λe=>d ((a b).2 (.inl e)),λe=>d ((a b).2 (.inr (.inl e))),λe=>d ((a b).2 (.inr (.inr (.inl e)))),λi e=>d ((a b).2 (.inr (.inr (.inr ⟨i,e⟩))))⟩
theorem PO.lt(h:PO ok w p pm mv par dv wv name fB vals ps qs deps wants F){x:Nat}(a:qX p pm qs F x):x<w.heap.size:=by
 rcases a with rfl|rfl|a|⟨i,a⟩
 .exact h.hp.lt
 .exact h.hm.lt
 .obtain⟨i,b⟩:=List.getElem?_of_mem a;obtain⟨y,c⟩:=gX' wants i ((by rw[←h.nS];exact(gS'.1 b).1));exact(h.hx i x y b c).lt
 .exact h.cl.lt a
theorem PO.Oi(h:PO ok w p pm mv par dv wv name fB vals ps qs deps wants F){x:Nat}(a:ok x):¬qX p pm qs F x:=λe=>by
 obtain⟨b,c,d,f⟩:=h.no x a;rcases e with e|e|e|⟨i,e⟩
 .exact b e
 .exact c e
 .exact d e
 .exact f i e
theorem PO.keep(h:PO ok w p pm mv par dv wv name fB vals ps qs deps wants F)(a:O No w w'):PO ok w' p pm mv par dv wv name fB vals ps qs deps wants F:=
 ⟨h.hp.X a id,h.hm.X a id,h.sK,h.hv.X a nE,h.hd.X a nE,h.cl.keep a,h.hw.X a nE,h.nS,λi q x b c=>(h.hx i q x b c).X a nE id,h.zT,h.hq,h.lH,h.no⟩
theorem PO.mono(h:PO ok w p pm mv par dv wv name fB vals ps qs deps wants F)(a:∀b,b<w.heap.size→ok b→ok' b)(c:∀b,ok' b→¬qX p pm qs F b):PO ok' w p pm mv par dv wv name fB vals ps qs deps wants F:=
 ⟨h.hp,h.hm,h.sK,h.hv.mono a,h.hd.mono a (by decide),h.cl.mono a,h.hw.mono a (by decide),h.nS,λi q x f g=>(h.hx i q x f g).mono a,h.zT,h.hq,h.lH,λb d=>⟨λe=>c b d (.inl e),λe=>c b d (.inr (.inl e)),λe=>c b d (.inr (.inr (.inl e))),λi e=>c b d (.inr (.inr (.inr ⟨i,e⟩)))⟩⟩
theorem PO.wide(h:PO ok w p pm mv par dv wv name fB vals ps qs deps wants F):PO (λx=>ok x∨w.heap.size<=x) w p pm mv par dv wv name fB vals ps qs deps wants F:=
 h.mono (λ_ _ h=> .inl h) (λb c e=>c.elim (λa=>h.Oi a e) (λa=>by have:=h.lt e;omega))
theorem PO.wz(h:PO ok w p pm mv par dv wv name fB vals ps qs deps wants F){f:Want→Want}(g:WZ ok w qs wants f wants.length w'):PO ok w' p pm mv par dv wv name fB vals ps qs deps (wants.map f) F:=by
 have a:=g.X;have d:∀b,ok b→b∉qs:=λb e=>(h.no b e).2.2.1
 refine⟨h.hp.X a h.lH.1,h.hm.X a h.lH.2.1,h.sK,h.hv.X a d,h.hd.X a d,h.cl.X a d (λi b e=>(h.zT i b e).2.2),h.hw.X a d,by simp[h.nS],λi q x j c=> ?_,h.zT,h.hq,h.lH,h.no⟩;rw[List.getElem?_map] at c;cases hx:wants[i]? with
 |none=>rw[hx] at c;cases c
 |some y=>rw[hx] at c;cases c;exact g.done i q y ((gS'.1 hx).1) j hx
theorem PO.Nh(h:PO ok w p pm mv par dv wv name fB vals ps qs deps wants F):eU (λx=>ok x∨qX p pm qs F x) w p (.mk name fB vals deps wants):=
 .mk h.hp (.inr (.inl rfl)) h.hm (.inr (.inr (.inl rfl))) (h.hv.mono (λ_ _ h=> .inl h)) (h.hd.mono (λ_ _ h=> .inl h) (by decide)) h.cl.len
  (λi q d c e=>(h.cl.all i q d c e).vX.mono (λb _ a=>a.imp id (λa=> .inr (.inr (.inr ⟨i,a⟩)))))
end
def Ef(w:World)(b:Nat):Prop:=∃cs a,ay w b cs a∧∀v∈cs,v≠ .nilIface∧∀t u,v≠ .iface t u
theorem bZ.Nj{ok S:ae}{w:World}{p:Nat}{c:Ch}(h:bZ ok w p c S):∀x,S x→Ef w x:=by
 induction h with
 |@mk p pm mv par dv wv name fB vals deps wants ps qs F S m o r s z A h B R C D hF T E U V G H=>
  intro x I;have g:∀{v:Value}{n:Nat} {J:List (Y)},aC ok w v n J→v≠ .nilIface∧∀t u,v≠ .iface t u:=λh=>by obtain⟨-, -,a,c,rfl, -⟩:=h;exact⟨(by intro e;cases e),(by intro t u e;cases e)⟩
  have K:mv≠ .nilIface∧∀t u,mv≠ .iface t u:=by rcases s with⟨-,rfl⟩|⟨t,b, -,rfl, -⟩<;>exact⟨(by intro e;cases e),(by intro t u e;cases e)⟩
  rcases(G x).1 I with rfl|rfl|j|⟨i,j⟩
  .refine⟨_,_,m,λv f=> ?_⟩;obtain⟨a,rfl⟩:=r;simp only[List.mem_cons,List.not_mem_nil,or_false] at f;rcases f with rfl|rfl|rfl|rfl
   .exact⟨(by intro e;cases e),(by intro t u e;cases e)⟩
   .exact K
   .exact⟨(by intro e;cases e),(by intro t u e;cases e)⟩
   .exact g z
  .refine⟨_,_,o,λv f=> ?_⟩;simp only[List.mem_cons,List.not_mem_nil,or_false] at f;rcases f with rfl|rfl|rfl
   .exact⟨(by intro e;cases e),(by intro t u e;cases e)⟩
   .exact⟨(by intro e;cases e),(by intro t u e;cases e)⟩
   .exact g B
  .obtain⟨i,k⟩:=List.getElem?_of_mem j;obtain⟨y,L⟩:=gX' wants i ((by rw[←C];exact(gS'.1 k).1));obtain⟨W,X,iv,af,M,N,O, -⟩:=D i x y k L;refine⟨_,_,M,λv f=> ?_⟩;simp only[jc,List.mem_cons,List.not_mem_nil,or_false] at f;rcases f with rfl|rfl|rfl|rfl|rfl|rfl|rfl|rfl<;>first|exact g N|exact g O|exact⟨(by intro e;cases e),(by intro t u e;cases e)⟩
  .have l:=E i x j;obtain⟨d,P⟩:=gX' deps i (l);obtain⟨q,Q⟩:=gX' ps i ((by rw[A];exact l));exact H i q d Q P x j
theorem Ef.cell{w:World}{b:Nat}(h:Ef w b){o:Nat}{v:Value}(a:w.cell? ⟨b,o,none⟩=some v):v≠ .nilIface∧∀t u,v≠ .iface t u:=by obtain⟨cs,e,c,d⟩:=h;rw[c.cell] at a;exact d v (mG' a)
theorem bC.off{ok S:ae}{w:World}{v:Value}{j:J}(h:bC ok w v j)(k:∀x,S x→Ef w x):bC (λx=>ok x∧¬S x) w v j:=by
 induction h with
 |null=>exact .null
 |bool=>exact .bool
 |int=>exact .int
 |float=>exact .float
 |text=>exact .text
 |@list v vs xs q l h g=>
  refine .list ?_ l g;obtain⟨s,t,a,c,rfl,y,z⟩:=q;refine⟨s,t,a,c,rfl,y,λd=> ?_⟩;obtain⟨b,off,A,B,m⟩:=z d;refine⟨b,off,A,⟨B,λi=> ?_⟩,m⟩;match vs,xs,l,h,d with
  |u::r,x::I,_,h,_=>have C:=m 0 [u] rfl 0 u rfl;have o:=(k b i).cell C;have D:=h 0 u x rfl rfl;cases D<;>first|exact o.1 rfl|exact o.2 _ _ rfl
  |[],_,_,_,d=>exact d rfl
 |@table b n f kvs p E F h g=>refine .table p ⟨E,λi=> ?_⟩ F g;obtain⟨cs,G,H, -⟩:=k b i;exact p.DX (e:=G) ⟨_,H⟩
theorem Eg{x a b:T}(h:get a gK=get b gK):globals x a=globals x b:=by unfold globals bH;rw[h]
theorem I7{a b:T}{k:K}(h:get a k=get b k):bH a k=bH b k:=by unfold bH;rw[h]
theorem Cm{U:List K}{N:Nat}(C:gK∈U)(m:Bool):∀(h:Nat)(c:Ch)(v t:T)(D:Nat),iW U N (D+2) h c→WU U N (D+2) (.table v)→dJ m c v=some t→WU U N (D+2+h) (.table t):=by
 intro h;induction h with
 |zero=>intro c v t D b;exact b.elim
 |succ h E=>
  intro c v t D b F a;rw[sH] at a;have G:∀d∈c.deps,iW U N (D+2) h d:=b.2.2.2.2.2;have H:=b.2.2.2.2.1;have i:WU U N (D+2) (.table (over m (bn c.deps) v (fM c.vals))):=by
   refine WU.over _ _ F ?_;cases hcv:c.vals with
   |table s=>exact(b.2.2.2.1 s hcv).1
   | _=>exact WU.nil
  obtain⟨j,I⟩:∃o,o=over m (bn c.deps) v (fM c.vals):=⟨_,rfl⟩;rw[←I] at i a;have J:∀(l:List Ch)(f:T),ja m l f=some t→WU U N (D+2+(h+1)) (.table f)→(∀k,k=gK∨k∈l.map Ch.name→get f k=get j k)→(∀d∈l,iW U N (D+2) h d)→(l.map Ch.name).Nodup→WU U N (D+2+(h+1)) (.table t):=by
   intro l;induction l with
   |nil=>intro f a p _ _ _;rw[ja] at a;cases a;exact p
   |cons d r L=>
    intro f a p q z u;rw[ja] at a;rw[I7 (q d.name (.inr (by simp)))] at a;cases g:bH j d.name with
    |none=>rw[g] at a;cases a
    |some x=>
     rw[g] at a;have n:=z d (by simp);have A:d.name≠gK∧d.name∈U:=by
      cases h with
      |zero=>exact n.elim
      |succ h=>exact⟨n.2.2.1,n.2.1⟩
     have M:WU U N (D+2) (.table x):=(i.bH g).mono (λ_ h=>h) lR' (by omega);simp only[Eg (x:=x) (q gK (.inl rfl))] at a;have O:=WU.globals C M i;cases hy:dJ m d (globals x j) with
     |none=>simp only[hy] at a;cases a
     |some y=>
      simp only[hy] at a;have P:=E d _ _ _ n O hy;rw[List.map_cons,List.nodup_cons] at u;refine L _ a (WU.ins (d:=D+2+h) p A.2 P) (λk B=> ?_) (λx g=>z x (by simp[g])) u.2;rw[jy,if_neg]
      .exact q k (B.imp id (λe=>by simp[e]))
      .intro e;rcases B with w|w
       .exact A.1 (e.trans w)
       .exact u.1 (e▸w)
  exact J c.deps j a (i.mono (λ_ h=>h) lR' (by omega)) (λk _=>rfl) G H
structure P1 (ok:ae) (w:World) (ds:List Ch) (F:Nat→ae) (keep:Ch→Bool) (n:Nat) (v:Value) (jk:List Nat) (G:Nat→ae) (wr:World):Prop where
 le:n<=ds.length
 own:aB wr w.heap.size 70 1 v (aF jk)
 cl:eu ok wr jk ((ds.take n).filter keep) G
 sub:∀k x,G k x→∃j d,j<n∧ds[j]?=some d∧keep d=true∧F j x
 X:O No w wr
section
variable {ok:ae} {w:World} {ps:List Nat} {ds:List Ch} {F:Nat→ae} {keep:Ch→Bool} {n:Nat} {v:Value} {jk:List Nat} {G:Nat→ae} {wr:World}
theorem P1.start(ok:ae)(ds:List Ch)(F:Nat→ae)(keep:Ch→Bool){v:Value}(a:O No w wr)(b:aB wr w.heap.size 70 1 v []):P1 ok w ds F keep 0 v [] (λ_ _=>False) wr:=
 ⟨zL',b,eu.nil _ _,λ_ _ h=>h.elim,a⟩
theorem P1.len(h:P1 ok w ds F keep n v jk G wr):jk.length<=ds.length:=by rw[h.cl.len];exact Nat.le_trans (List.length_filter_le _ _) (by simp;omega)
theorem P1.Eh{w2:World}(h:P1 ok w ds F keep n v jk G wr)(a:O No wr w2):P1 ok w ds F keep n v jk G w2:=
 ⟨h.le,h.own.X a nE,h.cl.keep a,h.sub,h.X.trans' a⟩
theorem P1.skip(h:P1 ok w ds F keep n v jk G wr){d:Ch}(a:ds[n]?=some d)(b:keep d=false):P1 ok w ds F keep (n+1) v jk G wr:=by
 refine⟨(gS'.1 a).1,h.own,?_,λk x c=> ?_,h.X⟩
 .rw[fP a,b];simpa using h.cl
 .obtain⟨j,d,f,e⟩:=h.sub k x c;exact⟨j,d,by omega,e⟩
theorem P1.take(h:P1 ok w ds F keep n v jk G wr)(l:eu ok w ps ds F)(y:∀b,ok b→b<w.heap.size){d:Ch}{q:Nat}(f:ds[n]?=some d)(z:ps[n]?=some q)(p:keep d=true){v':Value}{w6:World}(r:O (λb=>v.ownBlock=some b) (wr.alloc (.cells #[ptr q] 70)) w6)
  (A:aB w6 w.heap.size 70 1 v' (aF jk++[[ptr q]])):P1 ok w ds F keep (n+1) v' (jk++[q]) (λi x=>(i=((ds.take n).filter keep).length∧F n x)∨G i x) w6:=by
 have m:∀b,v.ownBlock=some b→w.heap.size<=b:=λb a=>(h.own.elem a).1
 have s:O No w w6:=(h.X.alloc _).trans r (λi E e=>by have:=m i e;omega);have B:∀i b,G i b→¬v.ownBlock=some b:=λi b a e=>by obtain⟨j,o, -,g, -,t⟩:=h.sub i b a;have:=l.lt t;have:=m b e;omega
 have C:=(h.cl.keep ((O.refl No wr).alloc (.cells #[ptr q] 70))).X r (λb a e=>by have:=y b a;have:=m b e;omega) B;refine⟨(gS'.1 f).1,by simpa[aF] using A,?_,λk x c=> ?_,s⟩
 .rw[fP f,p];refine C.snoc ((l.all n q d z f).X s nE nE) (λi x u g=> ?_);obtain⟨j,o,t,H, -,D⟩:=h.sub i x u;have:=l.mX _ _ x D g;omega
 .rcases c with⟨-,c⟩|c
  .exact⟨n,d,Nat.lt_succ_self _,f,p,c⟩
  .obtain⟨j,o,u,g⟩:=h.sub k x c;exact⟨j,o,by omega,g⟩
end
def lg(x:Want):Want:={x with name:=named x}
theorem bZ.alias{ok S:ae}{w o:World}{p:Nat}{d:Ch}(h:bZ ok w p d S){g c f:Nat}{s t u v:Value}{D:K}(E:FO w p d f s t u v)(k:O No w o)(J:ay o g [ptr c,s,t,u] 125)(L:ay o c [.string D,.string d.version,v] 122)(l:w.heap.size<=g∧w.heap.size<=c∧g≠c):
  bZ ok o g (d.as D) (λx=>x=g∨x=c∨(S x∧x≠p∧x≠f)):=by
 have M:=h.lt;cases h with
 |@mk _ N P Q R T name ak vals deps wants ps qs F _ U V W hv hd hn h hw af ai a hF y aj hq G H=>
  have z:[ptr N,P,Q,R]=[ptr f,s,t,u]:=by have A:w.heap[p]?=_:=U;have m:w.heap[p]?=_:=E.1;rw[A] at m;cases m;rfl
  cases z;have B:T=v:=by have A:w.heap[f]?=_:=V;have m:w.heap[f]?=_:=E.2.1;rw[A] at m;cases m;rfl
  subst B;have n:∀b,ok b→¬No b:=λ_ _ e=>e
  have I:∀x,(x∈qs∨∃i,F i x)→S x∧x≠p∧x≠f∧x<w.heap.size:=λx a=>by
   have j:S x:=(H x).2 (.inr (.inr a));refine⟨j,?_,?_,M x j⟩<;>rintro rfl<;>rcases a with a|⟨i,a⟩
   .exact G.1 a
   .exact(y i _ a).1 rfl
   .exact G.2.1 a
   .exact(y i _ a).2.1 rfl
  have r:∀x,w.heap.size<=x→¬(x∈qs∨∃i,F i x):=λx a e=>by have:=(I x e).2.2.2;omega
  refine .mk J L W (hv.X k n) (hd.X k n) hn (λi q d j C=>(h i q d j C).X k n nE) (hw.X k n) af ai (λi q x j C=>(a i q x j C).X k n id) hF
   (λi x a=>⟨λe=>r g l.1 (.inr ⟨i,e▸a⟩),λe=>r c l.2.1 (.inr ⟨i,e▸a⟩),(y i x a).2.2⟩) aj hq ⟨λe=>r g l.1 (.inl e),λe=>r c l.2.1 (.inl e),l.2.2⟩ (λx=>⟨λe=> ?_,λe=> ?_⟩)
  .rcases e with e|e|⟨z,B,e3⟩
   .exact .inl e
   .exact .inr (.inl e)
   .rcases(H x).1 z with e|e|e
    .exact absurd e B
    .exact absurd e e3
    .exact .inr (.inr e)
  .rcases e with e|e|e
   .exact .inl e
   .exact .inr (.inl e)
   .have:=I x e;exact .inr (.inr ⟨this.1,this.2.1,this.2.2.1⟩)
theorem eu.LD{ok:ae}{w:World}{ps:List Nat}{ds:List Ch}{G:Nat→ae}(h:eu ok w ps ds G){i p:Nat}{d:Ch}(c:ps[i]?=some p)(e:ds[i]?=some d):∃f g j k l,FO w p d f g j k l:=by
 have m:=h.all i p d c e;clear e c;cases m with
 |mk c n o q e s h r=>
  refine⟨_,_,_,_,_,c,n,?_,?_,?_,?_⟩
  .rcases q with⟨-,rfl⟩|⟨t,b, -,rfl, -⟩<;>rfl
  .obtain⟨a,rfl⟩:=o;rfl
  .exact e.one
  .exact r.one
structure P2 (ok:ae) (w:World) (deps:List Ch) (F:Nat→ae) (qs:List Nat) (wants:List Want) (n:Nat) (v:Value) (jk:List Nat) (G:Nat→ae) (wr:World):Prop where
 own:aB wr w.heap.size 70 1 v (aF jk)
 cl:eu ok wr jk (deps.filter (loneD wants)++(wants.take n).filterMap (fG deps)) G
 sub:∀k x,G k x→(∃j d,deps[j]?=some d∧F j x∧(loneD wants d=true∨∃i y,i<n∧wants[i]?=some y∧bK y d=true))∨(w.heap.size<=x∧x<wr.heap.size∧v.ownBlock≠some x)
 wz:WZ ok w qs wants lg n wr
section
variable {ok:ae} {w:World} {ps:List Nat} {deps:List Ch} {F:Nat→ae} {qs:List Nat} {wants:List Want} {n:Nat} {v:Value} {jk:List Nat} {G:Nat→ae} {wr:World}
theorem P2.start(h:P1 ok w deps F (loneD wants) deps.length v jk G wr)(a:WZ ok w qs wants lg 0 wr):P2 ok w deps F qs wants 0 v jk G wr:=by
 refine⟨h.own,?_,λk x b=> ?_,a⟩
 .have:=h.cl;rw[List.take_of_length_le lR'] at this;simpa using this
 .obtain⟨j,d, -,c,e,f⟩:=h.sub k x b;exact .inl ⟨j,d,c,f,.inl e⟩
theorem P2.len(h:P2 ok w deps F qs wants n v jk G wr):jk.length<=deps.length+wants.length:=by rw[h.cl.len,List.length_append];have b:=List.length_filter_le (loneD wants) deps;have a:=List.length_filterMap_le (fG deps) (wants.take n);simp at a;omega
theorem P2.keep{w2:World}(h:P2 ok w deps F qs wants n v jk G wr)(a:O No wr w2):P2 ok w deps F qs wants n v jk G w2:=
 ⟨h.own.X a nE,h.cl.keep a,λk x b=>(h.sub k x b).imp id (λe=>⟨e.1,by have:=a.size;omega,e.2.2⟩),h.wz.keep a⟩
theorem P2.none(h:P2 ok w deps F qs wants n v jk G wr){x:Want}(a:wants[n]?=some x)(b:deps.find? (bK x)=none):eu ok wr jk (deps.filter (loneD wants)++(wants.take (n+1)).filterMap (fG deps)) G:=by
 have e:fG deps x=Option.none:=by unfold fG;rw[b];rfl
 rw[iV a,e];simpa using h.cl
theorem P2.some(h:P2 ok w deps F qs wants n v jk G wr)(z:eu ok w ps deps F)(af:∀b,ok b→b<w.heap.size)(hF:∀i x,F i x→x∉qs)(Q:∀q∈qs,q<w.heap.size)(ai:wants.Pairwise kL){x:Want}(A:wants[n]?=some x){d:Ch}(R:deps.find? (bK x)=some d){i p g r B:Nat}{S T U V:Value}(hp:ps[i]?=some p)(H:deps[i]?=some d)
  (aj:FO wr p d B S T U V) {w2:World} (C:O No wr w2) (hg:wr.heap.size<=g∧wr.heap.size<=r∧g≠r) (I:ay w2 g [ptr r,S,T,U] 125) (J:ay w2 r [.string (named x),.string d.version,V] 122) {v':Value} {w6:World} (o:O (λb=>v.ownBlock=some b) (w2.alloc (.cells #[ptr g] 70)) w6)
  (ak:aB w6 w.heap.size 70 1 v' (aF jk++[[ptr g]])) (au:v'.ownBlock=v.ownBlock∨∀k,v'.ownBlock=Option.some k→(w2.alloc (.cells #[ptr g] 70)).heap.size<=k):
  ∃W,(aB w6 w.heap.size 70 1 v' (aF (jk++[g]))∧eu ok w6 (jk++[g]) (deps.filter (loneD wants)++(wants.take (n+1)).filterMap (fG deps)) W∧(∀k x,W k x→(∃j d,deps[j]?=Option.some d∧F j x∧(loneD wants d=true∨∃i y,i<n+1∧wants[i]?=Option.some y∧bK y d=true))∨(w.heap.size<=x∧x<w6.heap.size∧v'.ownBlock≠Option.some x))
   ∧WZ ok w qs wants lg n w6):=by
 have u:∀b,v.ownBlock=Option.some b→w.heap.size<=b∧b<wr.heap.size:=λb f=>⟨(h.own.elem f).1,(h.own.elem f).2.1⟩
 have aK:=h.wz.X.size;have aN:=C.size;have ax:=o.size;simp at ax;have D:bK x d=true:=by have:=List.find?_some R;exact this
 have ho:=z.all i p d hp H;have az:=ho.X h.wz.X (λb f=>h.wz.o b f) (λb f=>hF i b f);have aA:=az.alias aj C I J hg;have E:∀b,ok b→¬v.ownBlock=Option.some b:=λb f e=>by have:=af b f;have:=(u b e).1;omega
 have K:O No w2 (w2.alloc (.cells #[ptr g] 70)):=(O.refl No w2).alloc _;have aC:∀k b,G k b→¬v.ownBlock=Option.some b:=λk b f e=>by
  rcases h.sub k b f with⟨j,L, -,a, -⟩|⟨-, -,a⟩
  .have:=z.lt a;have:=(u b e).1;omega
  .exact a e
 have M:∀b,(b=g∨b=r∨(F i b∧b≠p∧b≠B))→¬v.ownBlock=Option.some b:=λb f e=>by
  have a:=u b e;rcases f with rfl|rfl|⟨f, -⟩
  .omega
  .omega
  .have:=z.lt f;omega
 have aG:=((h.cl.keep C).keep K).X o E aC;have aH:=(aA.X K nE nE).X o E M;have aI:∀k y,G k y→¬(y=g∨y=r∨(F i y∧y≠p∧y≠B)):=λk y m e=>by
  have aO:=h.cl.lt m;rcases e with e|e|⟨e, -⟩
  .omega
  .omega
  .rcases h.sub k y m with⟨j,L,a,l,c⟩|⟨a, -⟩
   .have aJ:=z.mX j i y l e;subst aJ;rw[H] at a;cases a;rcases c with c|⟨s,y2,o,N,h8⟩
    .have:(wants.any λx=>bK x d)=true:=List.any_eq_true.2 ⟨x,mG' A,D⟩;unfold loneD at c;rw[this] at c;cases c
    .simp only[bK,Bool.and_eq_true,decide_eq_true_eq] at D h8;obtain⟨a1,a2⟩:=gS'.1 N;obtain⟨a3,a4⟩:=gS'.1 A;have:=(List.pairwise_iff_getElem.1 ai s n a1 a3 o).1;rw[a2,a4] at this;exact this (h8.1.trans D.1.symm)
   .have:=z.lt e;omega
 have e:fG deps x=Option.some (d.as (named x)):=by unfold fG;rw[R];rfl
 refine⟨λk y=>(k=(deps.filter (loneD wants)++(wants.take n).filterMap (fG deps)).length∧(y=g∨y=r∨(F i y∧y≠p∧y≠B)))∨G k y,by simpa[aF] using ak,?_,?_⟩
 .rw[iV A,e,←List.append_assoc];exact aG.snoc aH aI
 .refine⟨λk y m=> ?_,?_⟩
  .have P:∀y,y<w2.heap.size→¬v.ownBlock=Option.some y→v'.ownBlock≠Option.some y:=λy a l e=>by
    rcases au with c|c
    .exact l (c▸e)
    .have:=c y e;simp at this;omega
   rcases m with⟨-,m⟩|m
   .rcases m with rfl|rfl|⟨m, -⟩
    .exact .inr ⟨by omega,by have:=I.lt;omega,P _ I.lt (M _ (.inl rfl))⟩
    .exact .inr ⟨by omega,by have:=J.lt;omega,P _ J.lt (M _ (.inr (.inl rfl)))⟩
    .exact .inl ⟨i,d,H,m,.inr ⟨n,x,Nat.lt_succ_self _,A,D⟩⟩
   .rcases h.sub k y m with⟨j,L,a,l,c⟩|⟨a,l,c⟩
    .exact .inl ⟨j,L,a,l,c.imp id (λ⟨s,y2,o,N⟩=>⟨s,y2,by omega,N⟩)⟩
    .exact .inr ⟨a,by omega,P y (by omega) c⟩
  .have t:=(h.wz.keep C).keep K;refine⟨t.le,t.len,t.nd,t.o,λs q y a l c=>(t.done s q y a l c).X o E (λe=> ?_),λs q y a l c=>(t.rest s q y a l c).X o E (λe=> ?_),t.X.trans o (λb f e=>by have:=(u b e).1;omega)⟩
   .have:=Q q (mG' l);have:=(u q e).1;omega
   .have:=Q q (mG' l);have:=(u q e).1;omega
theorem P2.fin{v':Value}{c:List Nat}{f:Nat→ae}{w6 w7:World}(l:aB w6 w.heap.size 70 1 v' (aF c))(t:eu ok w6 c (deps.filter (loneD wants)++(wants.take (n+1)).filterMap (fG deps)) f)
  (m:∀k x,f k x→(∃j d,deps[j]?=Option.some d∧F j x∧(loneD wants d=true∨∃i y,i<n+1∧wants[i]?=Option.some y∧bK y d=true))∨(w.heap.size<=x∧x<w6.heap.size∧v'.ownBlock≠Option.some x))
  (o:WZ ok w qs wants lg n w6) {q:Nat} {x:Want} (p:qs[n]?=Option.some q) (u:wants[n]?=Option.some x) (a:O (·=q) w6 w7) (v:iF ok w7 q (lg x)) (B:q<w.heap.size) (hF:∀i x,F i x→x∉qs):P2 ok w deps F qs wants (n+1) v' c f w7:=by
 have r:q∈qs:=mG' p;have C:=a.size;refine⟨l.X a (λk z e=>by have:=(l.elem z).1;omega),t.X a (λb g e=>o.o b g (e▸r)) (λk b g e=> ?_),λk y A=>(m k y A).imp id (λh=>⟨h.1,by omega,h.2.2⟩),o.step p u a v⟩;rcases m k b g with⟨j,d, -,s, -⟩|⟨s, -⟩
 .exact hF j b s (e▸r)
 .omega
end
theorem AD.kids{ok:ae}{g k:World}{t p:Nat}{u v w y:Value}{ps:List Nat}{ds:List Ch}{G:Nat→ae}(h:eu ok g ps ds G)(l:AD g t p u v w (.slice none 0 0) [] ps ps.length y k)(z:∀i,¬G i p)(A:¬ok p)(m:∀i b,ok b→¬G i b):eu ok k ps ds G:=by
 refine⟨h.len,λi q d a B=> ?_,h.mX,h.fl⟩;have n:=h.all i q d a B;obtain⟨E,F,H,I,o⟩:=n.jh;have C:q∈ps.take ps.length:=by rw[List.take_length];exact mG' a
 refine n.par (λe=>m i q e (h.self a)) o ⟨_,rfl⟩ (l.yI q C _ _ _ _ o) l.X (λx D=> ?_);rcases D with e|e|e
 .exact .inr ⟨e▸A,e▸z i⟩
 .rw[List.take_length] at e;obtain⟨j,c⟩:=List.getElem?_of_mem e;have r:=h.self c;by_cases s:j=i
  .subst s;rw[a] at c;cases c;exact .inl rfl
  .exact .inr ⟨λf=>m j x f r,λf=>s (h.mX j i x r f)⟩
 .cases e
theorem PO.deps{ok:ae}{c g m:World}{p d:Nat}{n o I D:Value}{name E:K}{vals:J}{ps qs jk:List Nat}{deps ds:List Ch}{wants:List Want}{F G:Nat→ae}{r:Value}
  (h:PO ok c p d n o I D name E vals ps qs deps wants F) (v:eu ok c jk ds G) (k:∀i x,G i x→x≠p∧x≠d∧x∉qs) (w:∀i b,ok b→¬G i b)
  (U:ay g p [ptr d,n,o,.slice none 0 0] 125) (H:O (·=p) c g) (V:g.heap.size=c.heap.size) (s:AD g g.heap.size p (ptr d) n o (.slice none 0 0) [] jk jk.length r m):
  PO (λx=>(ok x∧x<c.heap.size)∨r.ownBlock=some x) m p d n o r D name E vals jk qs ds wants G∧O (λx=>x=p∨x∈jk) c m:=by
 have y:∀b,ok b→¬b=p:=λb a=>(h.no b a).1
 have z:∀x,x∈jk→∃i,G i x:=λx j=>by obtain⟨i,f⟩:=List.getElem?_of_mem j;exact⟨i,v.self f⟩
 have L:eu (okB ok c) g jk ds G:=(v.mono (ok':=okB ok c) (λb a h=>⟨h,a⟩)).X H (λb a=>y b a.1) (λi b a=>(k i b a).1);have M:=AD.kids L s (λi e=>(k i p e).1 rfl) (λe=>y p e.1 rfl) (λi b a=>w i b a.1);have l:O (λx=>x=p∨x∈jk) c m:=(H.mono (λ_ _ e=> .inl e)).trans s.X (λx j e=>by
  rcases e with e|e|e
  .exact .inl e
  .rw[List.take_length] at e;exact .inr e
  .cases e)
 have A:∀b,okB ok c b→¬(b=p∨b∈jk):=λb a e=>by
  rcases e with e|e
  .exact y b a.1 e
  .obtain⟨i,f⟩:=z b e;exact w i b a.1 f
 have N:∀x,x∈qs→¬(x=p∨x∈jk):=λx j e=>by
  rcases e with e|e
  .exact h.lH.1 (e▸j)
  .obtain⟨i,f⟩:=z x e;exact(k i x f).2.2 j
 have P:¬(d=p∨d∈jk):=λe=>by
  rcases e with e|e
  .exact h.lH.2.2 e.symm
  .obtain⟨i,f⟩:=z d e;exact(k i d f).2.1 rfl
 have B:=s.own;rw[List.take_length,List.nil_append] at B;have Q:∀b,r.ownBlock=some b→c.heap.size<=b:=λb a=>by have:=(B.elem a).1;omega
 have W:∀{b:Nat},b<c.heap.size→ok b→okB ok c b:=λt C=>⟨C,t⟩
 refine⟨⟨s.jh,h.hm.X l P,h.sK,((h.hv.mono (ok':=okB ok c) (λb a h=>⟨h,a⟩)).X l A).mono (λb _ h=> .inl h),B.rowAt.mono (λb _ h=> .inr h) (by decide),M.mono (λb _ h=> .inl h),((h.hw.mono (ok':=okB ok c) (λb a h=>⟨h,a⟩) (by decide)).X l A).mono (λb _ h=> .inl h) (by decide),h.nS,λi q x t C=>(((h.hx i q x t C).mono (ok':=okB ok c) (λb a h=>⟨h,a⟩)).X l A (N q (mG' t))).mono (λb _ h=> .inl h),k,h.hq,h.lH,λb a=> ?_⟩,l⟩;rcases a with a|a
 .obtain⟨R,S,T, -⟩:=h.no b a.1;exact⟨R,S,T,λi=>w i b a.1⟩
 .have h9:=Q b a;have u:∀x,x<c.heap.size→b≠x:=λx j e=>by omega
  exact⟨u p (h.lt (.inl rfl)),u d (h.lt (.inr (.inl rfl))),λe=>u b (h.lt (.inr (.inr (.inl e)))) rfl,λi e=>u b (v.lt e) rfl⟩
structure CZ (w:World) (ba bb r nb:Nat) (fb:K→Option Value) (wr:World) (left:K→Bool) (cnt nd:Nat) (fd:K→Option Value):Prop where
 fO:bM wr bb r nb fb left cnt
 num:nd+cnt<=nb
 dst:aU wr ba nd fd
 val:∀k,fd k=if left k then none else fb k
 X:O (·=ba) w wr
 rs:w.heap.size<r
theorem CZ.done{ok:ae}{w:World}{m:Bool}{b:T}{ba d r l:Nat}{e:K→Option Value}{f:K→ae}{wr:World}{n:K→Bool}{y o:Nat}{g:K→Option Value}
  (h:CZ w ba d r l e wr n y o g) (a:iC ok w d l e b f) (A:∀k,n k=false) (B:¬ok ba) (p:¬fC d f ba):iC ok wr ba o g (bV m [] b) f:=by
 have i:∀k,g k=e k:=λk=>by rw[h.val,A];rfl
 have s:∀k,get (bV m [] b) k=get b k:=λk=>by rw[kS];rfl
 refine⟨h.dst,λk=> ?_,λk u z t v=> ?_,a.apart,λk c=>p (.inr ⟨k,c⟩),λk c=> ?_⟩
 .rw[i,s];exact a.dom k
 .rw[i] at t;rw[s] at v;exact(a.val k u z t v).X h.X (λx j q=>B (q▸j)) (λx j q=>p (.inr ⟨k,q▸j⟩))
 .rw[i] at c;exact a.none k c
theorem Aj(U:List K)(N:Nat)(hU:U.length<1099511627776)(aZ:∀k∈U,fK k)(m:Bool){ok:ae}{w:World}{ba f:Nat}{b:T}{Sb:ae}{d:Nat}(aC:K)(D:aU w ba 0 (λ_=>none))(hb:bf ok w (.iface 67 (.map (some f))) (.table b) Sb)(P:¬Sb ba)(bg:¬ok ba)
  (wb:WU U N (d+1) (.table b)) (df:aC.size<=1000000000000000000):
  Calls Tryz.prog 144 #[l7,.map (some ba),.map (some f),.string aC,.bool m] w λe w'=>e=.returned (.map (some ba))∧O (·=ba) w w'∧∃S',bf ok w' (.iface 67 (.map (some ba))) (.table (bV m [] b)) S'∧∀x,S' x→x=ba∨Sb x:=by
 obtain⟨_,eF,n,Fb,eb,E,aF⟩:=hb.tab;cases eb;replace E:=E.fit;obtain⟨g,bn⟩:∃g,g=b.length:=⟨_,rfl⟩;rw[←bn] at E;have bu:=Z (show g<1099511627776 by have h2:=wb.len;omega);have Q:=Z E;have dh:=Z aF;have bz:=Z (show ¬fC f Fb ba from λq=>P ((aF ba).2 q));have di:=Z bg;have WB:=Z wb;have dm:=Z aZ;have aG:=E.map;have bC:=Z D;have dn:=Z D.lt;have dw:=Z aG.lt;have dA:=jO ba;have dB:=jO f;have dC:=qR;clear hb P bg wb bn E aF aZ D;go_enter Tryz.func144,Tryz.ntmps144;obtain⟨s,R⟩:∃s,s=w.heap.size:=⟨_,rfl⟩;go_wp2_with (first|(at_range;refine dR rfl rfl rfl (aG.alloc _) ?_;intro w0 eG aH dD F bD;go_frame));have bF:(w.alloc (.map #[] 0)).heap.size=s+1:=(by simp[R]);rw[bF] at aH bD⊢;rw[←R];have HS:=Z R;have dE:=Z (((O.refl No w).alloc (.map #[] 0)).trans' F);have bG:aU w0 s 0 (λ_=>none):=by have h:=aU.made w;rw[←R] at h;exact h.X F id
 clear R bD bF F dA dB dC aG;go_loopw [12] (λ_ wr=>∃(a:K→Bool)(o p:Nat)(t:K→Option Value),bM wr f (s+1) g n a o∧p+o<=g∧aU wr s p t∧(∀k,t k=if a k then none else fE b k)∧O No w wr) (λ_ wr=>wr.rangeLeft f (s+1))
 case atStart=>
  refine⟨_,_,0,_,aH,by omega,bG,λk=> ?_,dE.o⟩;cases h:n k with
  |none=>unfold fE;rw[Q.o.get_none h];rfl
  |some _=>rfl
 case round=>
  obtain⟨a,o,p,t,c,eH,aI,hA,G⟩:=hrel;have ay:=Z hA;have aJ:=Z G;clear hA G aH bG dD;go_wp2_with (first|(at_next;refine ed rfl rfl rfl c ?_ ?_))
  .intro F H;have D:=bC.o.X aJ.o id;have aK:=c.lt;clear H ay;go_wp2_with (first|(at_range;refine dR rfl rfl rfl D ?_;intro wq dF aN dG bH dH;go_frame));obtain⟨S,bI⟩:∃S,S=wr.heap.size:=⟨_,rfl⟩;rw[←bI] at aN⊢;have dI:=Z (show s+1<S by omega);have dJ:=Z (aJ.o.trans' bH);clear bI bH dH D aK c aI;go_loopw [14] (λ_ wx=>∃(a:K→Bool)(o:Nat),bM wx ba S 0 (λ_=>none) a o∧O No w wx) (λ_ wx=>wx.rangeLeft ba S);case atStart=>exact⟨_,_,aN,dJ.o⟩
   case round=>
    obtain⟨a,dF,c,G⟩:=hrel;have bJ:=Z G;have bK:=Q.o.map.X G id;clear G aN dG;go_wp2_with (first|(at_next;refine ed rfl rfl rfl c ?_ ?_))
    .intro F H;have aK:=c.lt;clear H;go_wp2_with (first|(at_range;refine dR rfl rfl rfl bK ?_;intro wy dK aO dM aP dN;go_frame));obtain⟨v,bP⟩:∃v,v=wr.heap.size:=⟨_,rfl⟩;rw[←bP] at aO⊢;have bQ:=Z (show CZ w ba f v g n wy (λk=>(n k).isSome) dK 0 (λ_=>none) from
      ⟨aO,by omega,(bC.o.X bJ.o id).X aP id,λk=>by cases n k<;>rfl,(bJ.o.trans' aP).mono (λ_ _ q=>q.elim),by have h1:=HS.o;have h2:=dI.o;omega⟩)
     clear bP aO aP dN c dM aK bK;go_loopw [16] (λ_ wr=>∃(a:K→Bool)(o nd:Nat)(fd:K→Option Value),CZ w ba f v g n wr a o nd fd) (λ_ wr=>wr.rangeLeft f v);case atStart=>exact⟨_,_,_,_,bQ.o⟩
     case round=>
      obtain⟨a,o,nd,fd,aS⟩:=hrel;have j:=Z aS;have c:=aS.fO;clear aS bQ;go_wp2_with (first|(at_next;refine ed rfl rfl rfl c ?_ ?_))
      .intro F H;have HD:=Z (j.o.done (m:=m) Q.o H di.o bz.o);clear H c;go_wp2;go_ret;refine⟨rfl,j.o.X,fC ba Fb,HD.o.any,λx r=> ?_⟩;rcases r with rfl|⟨k,r⟩
       .exact .inl rfl
       .exact .inr ((dh.o _).2 (.inr ⟨k,r⟩))
      .intro k u V I W J L af az A aT dO;have dP:=Z (show fd k=none by rw[j.o.val,J];rfl);have dQ:=Z L;have bT:=Z J;have B:=Z az;have aA:=Z af;have dS:=Z A;have aB:=Z c.left_eq;have bU:=Z (show ba<v by have:=j.o.rs;have:=dn.o;omega);have dU:=Z (j.o.dst.X A (by have:=bU.o;omega));have dV:=Z (show fK k by
        obtain⟨y,hy, -⟩:=Q.o.some L;exact dm.o k (WB.o.get hy).1)
       have aV:=Z W;have dW:k.size<=1000000000000000000:=by have h:=dV.o;unfold fK at h;omega
       clear J L af az A aT c W;go_wp2_with fail;refine(gV aC k V df dW).mono ?_;rintro e wt ⟨⟨sx,rfl,dX⟩,dY⟩;obtain rfl:=dY.symm;have bW:=dU.o;have ai:=aV.o;have dZ:nd<maxLen:=by have:=j.o.num;have:=bu.o;unfold maxLen;omega
       clear dX;go_wp2_with (first|(at_lookup;refine aQ rfl rfl rfl bW rfl ai ?_;rw[dP.o];go_frame)|(at_mapUpdate;refine bY (u:=u) rfl rfl rfl bW dZ rfl ai rfl ?_;intro w3 aj C aW;go_frame));have bZ:=Z (show CZ w ba f v g n w3 (λz=>a z && !(z==k)) I (nd+1) (λz=>if z=k then some u else fd z) from
        ⟨aA.o.X C (λq=>bz.o (.inl q.symm)) (λq=>by have:=bU.o;omega),by have h1:=j.o.num;have h2:=B.o;omega,aj,λz=>by
         by_cases l:z=k
         .subst l;rw[if_pos rfl,dQ.o];simp
         .have ak:(z==k)=false:=by rw[lT];exact decide_eq_false l
          rw[if_neg l,j.o.val,ak];simp,(j.o.X.trans dS.o (λx r q=>by have:=j.o.rs;omega)).trans C (λx r q=>q),j.o.rs⟩)
       clear aj C aW;go_roundw;case rel=>exact⟨_,_,_,_,bZ.o⟩
       case measure=>rw[bZ.o.fO.left_eq,aB.o];exact B.o
  .intro k u V I W J L af az A aT dO;obtain⟨x,r,aX⟩:=Q.o.some L;have P:=qF aX.dL;have eP:=nR aX.dL;have aB:=Z c.left_eq;have B:=Z az;have HX:=Z r;have bT:=Z J;have eQ:=Z c.lt;have cu:=Z (aJ.o.trans A (λi hi q=>by have:=HS.o;omega));have cO:=Z (aI.X A (by omega));have aA:=Z af;have aV:=Z W;have eu:p<maxLen:=by have:=bu.o;unfold maxLen;omega
   clear aX J L af A aT r aI W;cases M:A8 x with
   |false=>
    rw[M] at P;have au:fE b k=some (.bool true):=by unfold fE;rw[HX.o];cases x<;>first|rfl|cases M
    have aY:=Z au;have cZ:=cO.o;have ai:=aV.o;clear au M;go_wp2_with (first|(at_mapUpdate;refine qQ (u:=.bool true) rfl rfl rfl cZ eu rfl ai rfl ?_;intro w3 aj C aW;go_frame));have ax:=Z (show bM w3 f (s+1) g n (λz=>a z && !(z==k)) I∧p+1+I<=g∧aU w3 s (p+1) (λz=>if z=k then some (.bool true) else t z)∧(∀z,(if z=k then some (Value.bool true) else t z)=if(a z && !(z==k)) then none else fE b z)∧O No w w3 from
     ⟨aA.o.X C (λq=>by have:=HS.o;have:=dw.o;omega) (by omega),by have:=B.o;omega,aj,λz=>by
      by_cases l:z=k
      .subst l;rw[if_pos rfl,aY.o];simp
      .have ak:(z==k)=false:=by rw[lT];exact decide_eq_false l
       rw[if_neg l,ay.o,ak];simp,cu.o.trans C (λi hi q=>by have:=HS.o;omega)⟩)
    clear aj C aW cZ ai;go_roundw;case rel=>exact⟨_,_,_,_,ax.o⟩
    case measure=>rw[ax.o.1.left_eq,aB.o];exact B.o
   |true=>
    rw[M] at P;have au:fE b k=none:=by unfold fE;rw[HX.o];cases x<;>first|rfl|cases M
    have aY:=Z au;clear au M;have ax:=Z (show bM V f (s+1) g n (λz=>a z && !(z==k)) I∧p+I<=g∧aU V s p t∧(∀z,t z=if(a z && !(z==k)) then none else fE b z)∧O No w V from
     ⟨aA.o,by have:=B.o;omega,cO.o,λz=>by
      by_cases l:z=k
      .subst l;rw[ay.o,bT.o,aY.o];simp
      .have ak:(z==k)=false:=by rw[lT];exact decide_eq_false l
       rw[ay.o,ak];simp,cu.o⟩)
    go_wp2_with fail
    go_roundw;case rel=>exact⟨_,_,_,_,ax.o⟩
    case measure=>rw[ax.o.1.left_eq,aB.o];exact B.o
def FP(ok S:ae)(w:World)(o:Option T)(e:Ending)(a:World):Prop:=
 O No w a∧(∀x,o=some x→∃b c,e=.returned (.tuple #[.map (some b),.nilIface])∧bf ok a (.iface 67 (.map (some b))) (.table x) c∧∀q,c q→S q)∧(o=none→∃d k,e=.returned (.tuple #[.map d,H6 k]))
theorem wP{ok S:ae}{w:World}{b:Nat}{t:T}(h:bf ok w (.iface 67 (.map (some b))) (.table t) S)(k:K)(e:k.size<=maxLen):Calls Tryz.prog 155 #[.map (some b),.string k] w (FP ok S w (H9 (get t k))):=by
 obtain⟨G,n,f,H,A,g,p⟩:=h.tab;have B:=Z p;clear p;cases A;have i:=g.map;have l:=Z g;clear h g;have r:=H7;have I:=r k;clear r;cases hg:get t k with
 |none=>
  have a:f k=none:=by
   have h:=l.o.dom k;rw[hg] at h;cases a:f k with
   |none=>rfl
   |some _=>rw[a] at h;cases h
  have c:=Z a;clear a hg;go_enter Tryz.func155,Tryz.ntmps155;go_wp2_with (first|(at_lookup;refine cO Tryz.underlying86 Tryz.zeroValue20 rfl rfl rfl i rfl e ?_;rw[c.o];go_frame));go_ret2;exact⟨O.refl _ _,λx C=>(by cases C),λ_=>⟨_,_,rfl⟩⟩
 |some j=>
  obtain⟨u,a⟩:∃u,f k=some u:=by
   have h:=l.o.dom k;rw[hg] at h;cases a:f k with
   |none=>rw[a] at h;cases h
   |some v=>exact⟨v,rfl⟩
  have d:=l.o.val k u j a hg;have s:=Z d;have c:=Z a;have m:=λz=>dP (w:=z) d.dL
  have D:=uC d.dL;clear a hg d;cases hT:dA j with
  |true=>
   obtain⟨x,rfl⟩:∃x,j=.table x:=by cases j<;>first|exact⟨_,rfl⟩|cases hT
   obtain⟨J,L,M,N,rfl, -, -⟩:=s.o.tab;rw[hT] at m;clear hT D;simp only[mapOf] at m;go_enter Tryz.func155,Tryz.ntmps155;go_wp2_with (first|(at_lookup;refine cO Tryz.underlying86 Tryz.zeroValue20 rfl rfl rfl i rfl e ?_;rw[c.o];go_frame));go_ret2;exact⟨O.refl _ _,λy o=>(by cases o;exact⟨_,_,rfl,s.o,λq E=>(B.o q).2 (.inr ⟨k,E⟩)⟩),λh=>(by cases h)⟩
  |false=>rw[hT] at m;have P:=sW;have F:=Z hT;clear hT;go_enter Tryz.func155,Tryz.ntmps155;go_wp2_with (first|(at_lookup;refine cO Tryz.underlying86 Tryz.zeroValue20 rfl rfl rfl i rfl e ?_;rw[c.o];go_frame));go_ret2;refine⟨(O.refl _ _).alloc _,λy o=> ?_,λ_=>⟨_,_,rfl⟩⟩;have:=F.o;cases j<;>first|(cases o;done)|(cases this;done)
theorem tq{ok S:ae}{w:World}{b:Nat}{t:T}(h:bf ok w (.iface 67 (.map (some b))) (.table t) S)(s:K)(E:s.size<1099511627776):Calls Tryz.prog 129 #[.map (some b),.string s] w (FP ok S w (bD t (parts s 46))):=by
 have F:=Z (lK s E w);have HH:=Z h.dV;have aj:=Z (show ∀k∈parts s 46,k.size<=maxLen from λk d=>by have:=iQ d;unfold maxLen;omega);have G:∀H v,aB H w.heap.size 9 1 v (aH (parts s 46))→(parts s 46).length<=maxLen:=λH v h=>by have:=h.rowAt.1;simpa using this
 have ak:=Z G;generalize parts s 46=P at*;clear h E G;go_enter Tryz.func129,Tryz.ntmps129;go_wp2_with fail;refine F.o.mono ?_;rintro e w1 ⟨v,rfl,f,I⟩;obtain⟨va,vc,rfl⟩:=f.Ah;have u:=Z I;have HO:=Z f.rowAt;have au:=Z f;have ax:=ak.o _ _ f;unfold maxLen at ax;clear f I F au;go_wp2_with fail;go_loopw [6,7,9,14] (λmt et _ y wr=>∃(n z:Nat)(c:T),mt=.map (some z)∧et=.nilIface∧y=.int .i64 n∧n<=P.length∧bD t P=bD c (P.drop n)∧(∃m,bf (okB ok w) wr (.iface 67 (.map (some z))) (.table c) m∧∀q,m q→S q)∧O No w1 wr) (λ_ _ _ y _=>P.length - (intOf y).toNat)
 case atStart=>exact⟨0,b,t,rfl,rfl,rfl,zL',rfl,⟨S,HH.o.X u.o nE nE,λ_ q=>q⟩,O.refl _ _⟩
 case round=>
  obtain⟨n,z,c,rfl,rfl,rfl,aF,J,⟨m,L,M⟩,N⟩:=hrel;have Q:=Z M;clear M;have A:=Z J;have R:=Z L;have o:=Z N;clear J L N;by_cases ay:n<P.length
  .obtain⟨k,d⟩:=gX' P n (ay);obtain⟨lb,lo,rfl, -,B⟩:=HO.o.at (i:=n) (r:=[.string k]) (by simp[aH,d]);have B:=(B.X o.o id).one;simp only[Nat.mul_one] at B;have az:=Z (wP R.o k (aj.o k (mG' d)));have aA:(n:Int)<(P.length:Int):=(by omega);have HK:=Z d;clear d;go_wp2_with fail;refine az.o.mono ?_;rintro e w2 ⟨U,C,D⟩;have V:=Z U;have W:P.drop n=k::P.drop (n+1):=by obtain⟨h1,h2⟩:=gS'.1 HK.o;rw[List.drop_eq_getElem_cons h1,h2]
   have HD:=Z W;clear W U;cases a:H9 (get c k) with
   |some x=>
    obtain⟨b3,S3,rfl,h3,af⟩:=C x a;have aC:=Z af;clear af;have H3:=Z h3;have ai:get c k=some (.table x):=by
     revert a
     cases get c k with
     |none=>intro a;cases a
     |some j=>cases j<;>intro a<;>first|(cases a;done)|(cases a;rfl)
    have HG:=Z ai;clear C D h3 a ai;go_wp2_with fail;go_roundw;case rel=>exact⟨n+1,b3,x,rfl,rfl,by go_num,by omega,(by rw[A.o,HD.o,bD,HG.o]),⟨S3,H3.o,λq hq=>Q.o q (aC.o q hq)⟩,o.o.trans' V.o⟩
    case measure=>simp[intOf];omega
   |none=>
    obtain⟨mv,kk,rfl⟩:=D a;have g:bD t P=none:=by
     rw[A.o,HD.o,bD]
     revert a
     cases get c k with
     |none=>intro _;rfl
     |some j=>cases j<;>intro a<;>first|rfl|(cases a;done)
    have p:=Z g;have aG:=xB kk;have aI:=λx=>xC x kk
    clear C D a g;go_wp2;go_ret2;exact⟨u.o.trans' (o.o.trans' V.o),λx l=>(by rw[p.o] at l;cases l),λ_=>⟨_,_,rfl⟩⟩
  .have aA:¬(n:Int)<(P.length:Int):=(by omega);have g:bD t P=some c:=by rw[A.o,List.drop_of_length_le (by omega)];rfl
   have p:=Z g;clear g;go_wp2;go_ret2;exact⟨u.o.trans' o.o,λx l=>(by rw[p.o] at l;cases l;exact⟨_,m,rfl,R.o.mono (λb _ h=>h.1),Q.o⟩),λh=>(by rw[p.o] at h;cases h)⟩
def iq(l:List Want):Nat:=(l.map λx=>x.imports.length).sum
theorem wQ(p:Want→Bool):∀(l:List Want),iq (l.filter p)<=iq l
 |[]=>by simp[iq]
 |a::r=>by
  have b:=wQ p r;unfold iq at b⊢;simp only[List.filter_cons,List.map_cons,List.sum_cons]
  split
  .simp only[List.map_cons,List.sum_cons];omega
  .omega
theorem Ei(all:T)(b:K)(a:List Want):iq (bG all b a)=iq a:=by
 unfold iq bG;simp only[List.map_map]
 rfl
theorem wR(a b:List Want):iq (a++b)=iq a+iq b:=by unfold iq;simp
theorem Ak{l:List Want}{n:Nat}{x:Want}(h:l[n]?=some x):iq (l.take (n+1))=iq (l.take n)+x.imports.length:=by rw[List.take_add_one,h,wR];simp[iq]
theorem J8(l:List Want)(n:Nat):iq (l.take n)<=iq l:=by have h:iq l=iq (l.take n)+iq (l.drop n):=(by rw[←wR,List.take_append_drop]);omega
theorem yt{all m:T}{x:Want}(h:x.imports=[]):sQ all m x=m:=by
 unfold sQ;rw[h]
 rfl
theorem FQ{all:T}{l:List Want}(h:iq l=0):cZ all l=[]:=by
 unfold cZ;suffices b:∀(l:List Want)(m:T),iq l=0→l.foldl (sQ all) m=m from b l [] h
 intro l;induction l with
 |nil=>intro m _;rfl
 |cons a r c=>intro m h;unfold iq at h;simp only[List.map_cons,List.sum_cons] at h;rw[List.foldl_cons,yt (List.eq_nil_of_length_eq_zero (by omega))];exact c m (by unfold iq;omega)
def FT:Nat→Ch→Prop
 |0,_=>True
 |L+1,c=>iq c.wants<=1∧(∀x∈c.wants,mF x∧∀i∈x.imports,zF i)∧(c.deps.length<=20∧yD c.version∧gq c.version∧lC c.name∧(c.vals=.null∨dA c.vals=true))∧∀d∈c.deps,FT L d
theorem Ie{U:List K}:∀(L:Nat)(c:Ch),sU U L c→FT L c
 |0,c,h=>trivial
 |L+1,c,h=>⟨(h.ask 1).1.2.1,λx a=>⟨h.en.gQ.2.2.2.2.2.2.2.1 x a,((h.ask 1).1.2.2 x a).kD⟩,⟨h.en.gQ.2.2.2.1,h.en.gQ.2.2.1.1,h.en.gQ.2.2.1.2,h.en.gQ.2.1,h.en.gQ.1.2.2⟩,λd b=>Ie L d (h.L9 b)⟩
theorem I8{L:Nat}{c:Ch}(h:nM (L+1) c):(dw c.deps c.wants).length<=c.deps.length:=by
 have v:=h.2.2.2.2.1;have C:=h.2.2.2.2.2.2.2.2.1;have D:(dw c.deps c.wants).length=((c.deps.filter (loneD c.wants)).map Ch.name++(c.wants.filter λx=>(c.deps.find? (bK x)).isSome).map (·.name)).length:=by
  unfold dw;simp only[List.length_append,List.length_map]
  congr 1
  generalize c.wants=l;induction l with
  |nil=>rfl
  |cons a r o=>
   simp only[List.filterMap_cons,List.filter_cons];unfold fG at o⊢;cases k:c.deps.find? (bK a) with
   |none=>simpa using o
   |some d=>simpa using o
 rw[D];have E:c.deps.length=(c.deps.map Ch.name).length:=(by simp);rw[E];refine xe ?_ ?_
 .rw[List.nodup_append];refine⟨v.sublist ((List.filter_sublist).map _),?_,λa g b F e=> ?_⟩
  .have G:(c.wants.map (·.name)).Nodup:=by
    rw[List.Nodup,List.pairwise_map];exact C.imp (λh=>h.1)
   exact G.sublist ((List.filter_sublist).map _)
  .obtain⟨d,p,rfl⟩:=List.mem_map.1 g;obtain⟨x,q,rfl⟩:=List.mem_map.1 F;obtain⟨H,s⟩:=List.mem_filter.1 p;obtain⟨w,t⟩:=List.mem_filter.1 q;obtain⟨m,k⟩:=Option.isSome_iff_exists.1 t;have f:=List.find?_some k;have u:=List.mem_of_find?_eq_some k;have I:x.name=m.name:=by
    unfold bK at f;simp only[Bool.and_eq_true,decide_eq_true_eq] at f;exact f.1
   have J:d=m:=by
    have K:d.name=m.name:=e.trans I;obtain⟨i,M⟩:=List.getElem?_of_mem H;obtain⟨j,N⟩:=List.getElem?_of_mem u;obtain⟨O,y⟩:=gS'.1 M;obtain⟨P,z⟩:=gS'.1 N;have A:=List.pairwise_iff_getElem.1 v;have B:(c.deps.map Ch.name)[i]'(by simpa using O)=(c.deps.map Ch.name)[j]'(by simpa using P):=(by simp[y,z,K]);rcases Nat.lt_trichotomy i j with n|n|n
    .exact absurd B (A i j _ _ n)
    .subst n;rw[←y,←z]
    .exact absurd B.symm (A j i _ _ n)
   subst J;unfold loneD at s;rw[Bool.not_eq_true',List.any_eq_false] at s;exact s x w f
 .intro a g;rcases List.mem_append.1 g with g|g
  .obtain⟨d,p,rfl⟩:=List.mem_map.1 g;exact List.mem_map.2 ⟨d,(List.mem_filter.1 p).1,rfl⟩
  .obtain⟨x,q,rfl⟩:=List.mem_map.1 g;obtain⟨w,t⟩:=List.mem_filter.1 q;obtain⟨m,k⟩:=Option.isSome_iff_exists.1 t;have f:=List.find?_some k;have u:=List.mem_of_find?_eq_some k;unfold bK at f;simp only[Bool.and_eq_true,decide_eq_true_eq] at f;exact List.mem_map.2 ⟨m,u,f.1.symm⟩
theorem xI{U:List K}:∀(L:Nat)(c c':Ch)(v:T)(b:K),sU U L c→fF L c v b=some c'→FT L c'
 |0,c,c',v,b,h,_=>trivial
 |L+1,c,c',v,b,h,a=>by
  have g:=Ie (L+1) c h;rw[fF] at a
  split at a
  .cases a;exact g
  .cases ha:dJ false (.mk c.name c.version c.vals (dw c.deps c.wants) c.wants) v with
   |none=>rw[ha] at a;cases a
   |some all=>
    rw[ha] at a;simp only at a;cases hm:eH (λd=>fF L d all (b++d.name++dB)) ((dw c.deps c.wants).filter λd=> !gI (bG all b c.wants) d) with
    |none=>rw[hm] at a;cases a
    |some k=>
     rw[hm] at a;cases a;refine⟨?_,λy l=> ?_,⟨?_,g.2.2.1.2⟩,λd m=> ?_⟩
     .show iq ((bG all b c.wants).filter (·.enabled))<=1
      exact Nat.le_trans (wQ _ _) (by rw[Ei];exact g.1)
     .have j:y∈bG all b c.wants:=(List.mem_filter.1 l).1;unfold bG at j;obtain⟨q,n,rfl⟩:=List.mem_map.1 j;obtain⟨r,o,rfl⟩:=List.mem_map.1 n;obtain⟨x,i,rfl⟩:=List.mem_map.1 o;have e:=g.2.1 x i;have f:=FB e.1.sm;exact⟨⟨⟨f.name,f.fB,f.cond,f.yE,f.tags,f.kD⟩,e.1.kD,e.1.named,e.1.fB,e.1.yE⟩,e.2⟩
     .show k.length<=20
      rw[jF hm];have s:=List.length_filter_le (λd=> !gI (bG all b c.wants) d) (dw c.deps c.wants);have t:=I8 h.en.gQ;have u:=h.en.gQ.2.2.2.1;omega
     .obtain⟨x,i,p⟩:=ou hm d m;exact xI L x d all _ (h.dep (List.mem_filter.1 i).1) p
theorem Ej{U:List K}{i:iy}(h:lQ U i):(bT i).parent.size<=1000:=by
 unfold bT
 split
 .exact h.parent
 .show dB.size<=1000
  decide
theorem CB{U:List K}{N d:Nat}{i:iy}(h:lQ U i){t:T}(a:WU U N d (.table t)):WU U N (d+1001) (fJ (bT i).parent (.table t)):=by
 unfold fJ
 split
 .exact a.mono (λ_ h=>h) lR' (Nat.le_add_right _ _)
 .rename_i Dh
  have b:=Aa (λk c=>(uY h Dh k c).1) a;have e:=ik (bT i).parent 46;have f:=Ej h;exact b.mono (λ_ h=>h) lR' (by omega)
theorem I9{U:List K}{N E:Nat}{all m:T}{name:K}{i:iy}(c:WU U N E (.table all))(a:WU U N (E+1001) (.table m))(d:lQ U i):WU U N (E+1001) (.table (dQ all name m i)):=by
 unfold dQ
 split
 .exact a
 .rename_i t ht
  obtain⟨x,e⟩:=lJ (bT i).parent t;have b:=CB d (jU c ht);rw[e] at b⊢;exact WU.bV true a b
theorem CG{U:List K}{N E:Nat}{all:T}{name:K}(b:WU U N E (.table all)):∀(l:List iy)(m:T),WU U N (E+1001) (.table m)→(∀i∈l,lQ U i)→WU U N (E+1001) (.table (l.foldl (dQ all name) m))
 |[],m,a,_=>a
 |i::r,m,a,c=>CG b r _ (I9 b a (c i (by simp))) (λx d=>c x (by simp[d]))
theorem CP{U:List K}{N E:Nat}{all:T}(c:WU U N E (.table all))(l:List Want)(a:∀x∈l,∀i∈x.imports,lQ U i):WU U N (E+1001) (.table (cZ all l)):=by
 unfold cZ;suffices h:∀(l:List Want)(m:T),WU U N (E+1001) (.table m)→(∀x∈l,∀i∈x.imports,lQ U i)→WU U N (E+1001) (.table (l.foldl (sQ all) m)) from h l [] WU.nil a
 intro l;induction l with
 |nil=>intro m b _;exact b
 |cons x r d=>intro m b a;exact d _ (CG c x.imports m b (a x (by simp))) (λy e=>a y (by simp[e]))
def dI(D L:Nat):Nat:=D+L*1010
theorem yu{U:List K}{N D L:Nat}(i:∀(d e:Ch),uX U N (D+2) L d→eX L d=some e→iW U N (dI D L+2) L e){c:Ch}(h:uX U N (D+2) (L+1) c){b:List Ch}(f:eH (eX L) c.deps=some b):
  iW U N (dI D L+2) (L+1) (.mk c.name c.version c.vals b c.wants):=by
 have j:=o8 (λx y k=>Ae L x y k) f;have a:=h.1;exact⟨a.1,a.2.1,a.2.2.1,λt g=>⟨(a.2.2.2.1 t g).1.mono (λ_ h=>h) lR' (by unfold dI;omega),(a.2.2.2.1 t g).2⟩,by show(b.map Ch.name).Nodup;rw[j];exact a.2.2.2.2.1,λd l=>by obtain⟨x,m,n⟩:=ou f d l;exact i x d (h.2.2.2.2 x m) n⟩
theorem xJ{U:List K}{N D:Nat}(i:gK∈U):∀(L:Nat)(c c':Ch),L<=7→uX U N (D+2) L c→eX L c=some c'→iW U N (dI D L+2) L c'
 |0,c,c',_,h,_=>h.elim
 |L+1,c,c',s,h,a=>by
  rw[eX] at a;cases hm:eH (eX L) c.deps with
  |none=>rw[hm] at a;cases a
  |some l=>
   rw[hm] at a;simp only at a;have e:=yu (λd n=>xJ i L d n (by omega)) h hm;have j:dI D L+2<=dI D (L+1)+2:=by unfold dI;omega
   split at a
   .cases a;exact e.mono j
   .cases ha:dJ true (.mk c.name c.version c.vals l c.wants) [] with
    |none=>rw[ha] at a;cases a
    |some all=>rw[ha] at a;cases a;have f:=Cm i true (L+1) _ [] all (dI D L) e WU.nil ha;have k:=qM true (L+1) _ [] all e (λd=>kV d) ha;have o:=CP f c.wants (λx g=>(h.2.2.2.1 x g).2.2.2);have p:=WU.bV true (f.mono (λ_ h=>h) lR' (Nat.le_add_right _ 1001)) o;obtain⟨-,q⟩:=gY.bV (m:=true) (U:=U) (N:=N) ⟨⟨_,f⟩,k⟩ (gY.cZ ⟨⟨_,f⟩,k⟩ c.wants (λx g=>(h.2.2.2.1 x g).2.2.2));have b:=e.mono j;exact⟨b.1,b.2.1,b.2.2.1,λt r=>(by cases r;exact⟨p.mono (λ_ h=>h) lR' (by unfold dI;omega),q⟩),b.2.2.2.2.1,b.2.2.2.2.2⟩
theorem yw(s:K)(w:World):Calls Tryz.prog 134 #[.iface 9 (.string s)] w λe a=>e=.returned (.string s)∧a=w:=by
 have b:∀w,(Go.binOp BinOp.eql 20 (.iface 9 (.string s)) .nilIface).run Tryz.prog w=.ok (.bool false) w:=λw=>by kernel_rfl
 have c:∀w,(Instr.typeAssert (.iface 9 (.string s)) 20 9 true).run Tryz.prog w=.ok (.tuple #[.string s,.bool true]) w:=λw=>by kernel_rfl
 have d:∀(x:Operand) w,(eqGuard BinOp.eql 20 x (.const .nilIface) (.iface 9 (.string s)) .nilIface).run Tryz.prog w=.ok () w:=λx w=>by cases x<;>kernel_rfl
 go_enter Tryz.func134,Tryz.ntmps134;go_wp2;go_ret;exact⟨rfl,rfl⟩
theorem aU.Nk{w:World}{b n:Nat}{f:K→Option Value}(g:aU w b n f):∃c:Nat,c<=n∧(c=0→∀k,f k=none)∧∀a,(Builtin.len_ #[86] a #[.map (some b)]).run Tryz.prog w=.ok (.int .i64 c) w:=by
 obtain⟨D,d,i⟩:=g;refine⟨_,d.size_le,λh k=> ?_,λa=>d.len Tryz.underlying86 a⟩;rw[i];obtain⟨e,m,g,F,o,rfl⟩:=d;have j:Maps.size (DataW.map ((e.toList.map (WideElems.rg Tryz.prog 9 RV)).foldr DataW.insert []))=e.size:=(by simp[Maps.size,DataW.length_sorted]);rw[j] at h;have l:e=#[]:=Array.eq_empty_of_size_eq_zero h;subst l
 rfl
def Em(ok S:ae)(w:World)(j:J)(e:Ending)(a:World):Prop:=
 ∃g S',e=.returned (.map (some g))∧bf ok a (.iface 67 (.map (some g))) j S'∧(∀x,S' x→S x∨w.heap.size<=x)∧O No w a
theorem Am{ok S:ae}{w:World}{b:Nat}{t:T}(h:bf ok w (.iface 67 (.map (some b))) (.table t) S)(s:∀x,S x→x<w.heap.size):Calls Tryz.prog 137 #[.map (some b)] w (Em ok S w (.table t)):=by
 obtain⟨v,n,f,F,e,a,i⟩:=h.tab;cases e;obtain⟨c,j,d,y⟩:=a.map.Nk;have z:=Z a;have m:=Z h;have A:=gW;by_cases o:c=0
 .subst o;have q:=Z (show t=[] by
   cases t with
   |nil=>rfl
   |cons p r=>have l:=a.dom p.1;rw[d rfl p.1] at l;simp[get] at l)
  clear a h d j i;go_enter Tryz.func137,Tryz.ntmps137;go_wp2_with fail;go_ret;refine⟨w.heap.size,λx=>x=w.heap.size,rfl,?_,λx g=> .inr (by have e:x=w.heap.size:=g;omega),(O.refl _ _).alloc _⟩;rw[q.o];exact .table (F:=λ_ _=>False) (aU.made w) (λk=>rfl) (λk u x h=>by cases h) (λk B x h=>h.elim) (λk h=>h) (λk _ x h=>h) (λx=>⟨.inl,λh=>h.elim id (λ⟨k,h⟩=>h.elim)⟩)
 .have C:¬((c:Int)=0):=(by omega);clear a h d j i;go_enter Tryz.func137,Tryz.ntmps137;go_wp2_with fail;go_ret;exact⟨b,S,rfl,m.o,λx g=> .inl g,O.refl _ _⟩
theorem bf.one{ok S:ae}{w f:World}{g a n:Nat}{t:T}{k:K}(h:bf ok w (.iface 67 (.map (some g))) (.table t) S)(l:aU f a n (λz=>if z=k then some (.iface 67 (.map (some g))) else none))(m:O (·=a) w f)(o:¬ok a)(j:¬S a):
  bf ok f (.iface 67 (.map (some a))) (.table [(k,.table t)]) (λx=>x=a∨S x):=by
 have p:=h.X m (λx b e=>o ((show x=a from e)▸b)) (λx b e=>j ((show x=a from e)▸b));refine .table (F:=λz x=>z=k∧S x) l (λz=> ?_) (λz u x d b=> ?_) (λz s x c q=>c.1.trans q.1.symm) (λz c=>j c.2) (λz c x b=> ?_) (λx=>⟨λh=>h.imp id (λh=>⟨k,rfl,h⟩),λh=>h.imp id (λ⟨z,h⟩=>h.2)⟩)
 .by_cases e:z=k
  .subst e;simp[get]
  .have i:¬k=z:=λi=>e i.symm
   simp[get,e,i]
 .by_cases e:z=k
  .subst e;rw[if_pos rfl] at d;cases d;have r:x=.table t:=(by simpa[get] using b.symm);subst r;exact p.set (λy=>⟨λh=>h.2,λh=>⟨rfl,h⟩⟩)
  .rw[if_neg e] at d;cases d
 .rw[if_pos b.1] at c;cases c
theorem J9{ok S:ae}{w:World}{b:Nat}{t:T}{v:Value}{P:List K}(h:bf ok w (.iface 67 (.map (some b))) (.table t) S)(q:∀x,ok x→x<w.heap.size)(s:∀x,S x→x<w.heap.size){N:ae}(u:aC N w v 1 (aH P))(z:P≠ [])(a:∀k∈P,k.size<=maxLen)(hl:P.length<=1000000):
  Calls Tryz.prog 161 #[v,.map (some b)] w (Em ok S w (nest P (.table t))):=by
 have Q:=Z h;have R:=Z q;have HS:=Z s;have U:=Z a;have A:=Z u;have ax:¬P.length=0:=λe=>z (List.eq_nil_of_length_eq_zero e)
 have ay:(P.length:Int)<=1000000:=(by omega);have az:=gW;obtain⟨-, -,va,vc,rfl, -, -⟩:=u;have B:(aH P).length=P.length:=(by simp[aH]);rw[B] at A⊢;clear h q s a B z;go_enter Tryz.func161,Tryz.ntmps161;go_wp2_with fail;go_loopw [5,6] (λV f wr=>∃(n g:Nat)(x:T)(d:ae),V=.map (some g)∧f=.int .i64 ((n:Int) - 1)∧n<=P.length∧nest (P.drop n) (.table t)=.table x∧bf ok wr (.iface 67 (.map (some g))) (.table x) d∧(∀y,d y→S y∨w.heap.size<=y)∧O No w wr) (λ_ f _=>(intOf f+1).toNat)
 case atStart=>exact⟨P.length,b,t,S,rfl,rfl,lR',by rw[List.drop_length];rfl,Q.o,λy j=> .inl j,O.refl _ _⟩
 case round=>
  obtain⟨n,g,x,d,rfl,rfl,W,C,D,E,F⟩:=hrel;have G:=Z C;have l:=Z D;have H:=Z E;have c:=Z F;clear C D E F;cases n with
  |zero=>
   go_wp2_with fail
   go_ret;refine⟨g,d,rfl,?_,H.o,c.o⟩;have h:=G.o;rw[List.drop_zero] at h;rw[h];exact l.o
  |succ m=>
   have I:((m+1:Nat):Int) - 1=(m:Int):=(by omega);rw[I];obtain⟨k,a⟩:=gX' P m ((by omega));obtain⟨lb,lo,rfl, -,o⟩:=A.o.at (i:=m) (r:=[.string k]) (by simp[aH,a]);have o:=((o.X c.o id).X ((O.refl No wr).alloc (.map #[] 0)) id).one;simp only[Nat.mul_one] at o;have af:=U.o k (mG' a);have J:=aU.made wr;have ai:0<maxLen:=(by decide);have aj:=Z a;have aA:(m:Int)<(P.length:Int):=(by omega);clear a I W;go_wp2_with (first|(refine jB Tryz.underlying67 rfl rfl rfl J ai rfl af rfl ?_;intro w3 L p ak;go_frame));have HN:=Z (show bf ok w3 (.iface 67 (.map (some wr.heap.size))) (.table [(k,.table x)]) (λy=>y=wr.heap.size∨d y) from
    bf.one ((l.o.X ((O.refl No wr).alloc (.map #[] 0)) nE nE)) L p (λe=>by have h1:=R.o _ e;have M:=c.o.size;omega) (λe=>by have:=l.o.lt _ e;omega))
   have au:=Z (show O No w w3 from(c.o.alloc _).trans p (λi hi e=>by have e1:i=wr.heap.size:=e;have M:=c.o.size;omega));clear L p ak J;go_roundw;case rel=>exact⟨m,_,_,_,rfl,by go_num,by omega,(by rw[zx aj.o,G.o]),HN.o,λy j=>j.elim (λe=> .inr (by have M:=c.o.size;omega)) (H.o y),au.o⟩
   case measure=>simp[intOf]
theorem Ap{ok S:ae}{w:World}{b:Nat}{t:T}(p:K)(h:bf ok w (.iface 67 (.map (some b))) (.table t) S)(i:∀x,ok x→x<w.heap.size)(j:p.size<=100000):
  Calls Tryz.prog 136 #[.string p,.map (some b)] w (Em ok S w (fJ p (.table t))):=by
 have l:=Z h;have z:=Z i;have n:=Z j;have A:=Z (lK p (by omega) w);by_cases c:p=dB
 .have o:=Z c;subst c;have B:(dB.toList==[46])=true:=by rw[show dB.toList=[46] from by rw[ByteArray.toList_eq];rfl];rfl
  clear h i j;go_enter Tryz.func136,Tryz.ntmps136;go_wp2_with fail;go_ret;exact⟨b,S,rfl,(by unfold fJ;rw[if_pos rfl];exact l.o),λx a=> .inl a,O.refl _ _⟩
 .have o:=Z c;have B:(p.toList==[46])=false:=by
   have d:=aS p dB
   rwa[decide_eq_false c,show dB.toList=[46] from by rw[ByteArray.toList_eq];rfl] at d
  clear h i j c;go_enter Tryz.func136,Tryz.ntmps136;go_wp2_with fail;refine A.o.mono ?_;rintro e H ⟨v,rfl,q,f⟩;have r:=Z f;have C:=Z (J9 (P:=parts p 46) (l.o.X f nE nE) (λx a=>by have d:=z.o x a;have m:=f.size;omega) (λx a=>by have d:=l.o.lt x a;have m:=f.size;omega) q.rowAt (Ce p 46) (λk D=>by have d:=iQ D;have m:=n.o;unfold maxLen;omega) (by have d:=ik p 46;have m:=n.o;omega));clear q f;go_wp2_with fail;refine C.o.mono ?_;rintro e w2 ⟨g,S',rfl,s,u,y⟩;have E:=Z s;have F:=Z u;have G:=Z y;clear s u y;go_wp2;go_ret;exact⟨g,S',rfl,(by unfold fJ;rw[if_neg o.o];exact E.o),λx a=>(F.o x a).imp id (λh=>by have:=r.o.size;omega),r.o.trans' G.o⟩
theorem Bq(N d:Nat)(a:N<1099511627776)(ok:ae)(kvs:T)(b:Nat)(w:World)(c:bC ok w (.iface 67 (.map (some b))) (.table kvs))(f:Wf N (d+1) (.table kvs)):
  Calls Tryz.prog 139 #[.map (some b)] w λe i=>∃g,e=.returned (.map (some g))∧mJ w (.table kvs) (.iface 67 (.map (some g))) i:=by
 have H:=Z (lZ N d a (rY N a d) ok kvs b w c f);clear c f;go_enter Tryz.func139,Tryz.ntmps139;go_wp2_with fail;refine H.o.mono ?_;rintro e k ⟨g,rfl,h⟩;have j:=Z h;clear h;go_wp2;go_ret;exact⟨g,rfl,j.o⟩
theorem xK(U:List K)(N:Nat)(s:U.length<1099511627776)(h:∀k∈U,fK k)(d:Nat)(y:d<=6300)(ok:ae)(a b:T)(ba g:Nat)(c f:ae)(w:World)(i:bf ok w (.iface 67 (.map (some ba))) (.table a) c)
  (j:bf ok w (.iface 67 (.map (some g))) (.table b) f) (l:∀x,c x→¬f x) (m:∀x,c x∨f x→¬ok x) (n:WU U N d (.table a)) (o:WU U N d (.table b)):
  Calls Tryz.prog 135 #[.map (some ba),.map (some g)] w (Cb ok w ba (.table (bV true a b)) c f):=by
 have H:=Z (jY U N s h true d ok a b ba g c f w ByteArray.empty i j l m n o (by rw[show ByteArray.empty.size=0 from rfl];omega));clear i j l m n o h;go_enter Tryz.func135,Tryz.ntmps135;go_wp2_with fail;refine H.o.mono ?_;rintro e z ⟨rfl,S',p,q,r⟩;have t:=Z p;have u:=Z q;have v:=Z r;clear p q r;go_wp2;go_ret;exact⟨rfl,S',t.o,u.o,v.o⟩
theorem qY(U:List K)(N:Nat)(q:U.length<1099511627776)(c:∀k∈U,fK k){ok:ae}{w:World}{ba f:Nat}{b:T}{a:ae}{d:Nat}(g:aU w ba 0 (λ_=>none))(h:bf ok w (.iface 67 (.map (some f))) (.table b) a)(i:¬a ba)(j:¬ok ba)
  (l:WU U N (d+1) (.table b)):Calls Tryz.prog 135 #[.map (some ba),.map (some f)] w λe m=>e=.returned (.map (some ba))∧O (·=ba) w m∧∃S',bf ok m (.iface 67 (.map (some ba))) (.table (bV true [] b)) S'∧∀x,S' x→x=ba∨a x:=by
 have H:=Z (Aj U N q c true ByteArray.empty g h i j l (by decide));clear g h i j l c;go_enter Tryz.func135,Tryz.ntmps135;go_wp2_with fail;refine H.o.mono ?_;rintro e u ⟨rfl,n,S',o,p⟩;have r:=Z o;have s:=Z p;have t:=Z n;clear o p n;go_wp2;go_ret;exact⟨rfl,t.o,S',r.o,s.o⟩
def Ja(U:List K)(N:Nat)(ok:ae)(w:World):Option T→Ending→World→Prop
 |none,e,a=>(∃c b,e=.returned (.tuple #[c,.iface 175 (.pointer (some ⟨b,0,none⟩))]))∧O No w a
 |some t,e,a=>∃g R S,e=.returned (.tuple #[.map (some g),.nilIface])∧bf R a (.iface 67 (.map (some g))) (.table t) S∧(∀x,R x→x<a.heap.size∧(okB ok w x∨w.heap.size<=x))∧(∀x,S x→w.heap.size<=x)∧(∀x,R x→¬S x)∧O No w a
theorem vg(w:World):Calls Tryz.prog 91 #[.map none] w λe a=>e=.returned (.tuple #[.map (some w.heap.size),.nilIface])∧a=w.alloc (.map #[] 0):=by have H:=Z (rZ w);have c:=gW;have d:=rP;go_enter Tryz.func91,Tryz.ntmps91;go_wp2_with fail;refine H.o.mono ?_;rintro e f ⟨rfl,b⟩;obtain rfl:=b.symm;go_wp2;go_ret2;exact⟨rfl,rfl⟩
theorem Bv(U:List K)(N:Nat)(M:N<1099511627776)(P:U.length<=N)(z:∀k∈U,fK k)(Q:gK∈U)(d h:Nat)(aj:d+h<=6200)(c:Ch)(a:iW U N (d+2) h c)(ok:ae)(p:Nat)(w:World)(A:eU ok w p c):
  Calls Tryz.prog 133 #[.pointer (some ⟨p,0,none⟩),.map none] w (Ja U N ok w (dJ true c [])):=by
 have B:=vg w;have C:=vW U N M P z Q true d h c a;have R:=Z B;have S:=Z C;have T:=Z A;clear B C A a z;go_enter Tryz.func133,Tryz.ntmps133;go_wp2_with fail;refine R.o.mono ?_;rintro e i ⟨rfl,j⟩;have ak:=eY;have au:=dO;have m:O No w i:=by rw[j];exact(O.refl _ _).alloc _
 have n:i.heap.size=w.heap.size+1:=by rw[j];simp
 have o:aU i w.heap.size 0 (λ_=>none):=by rw[j];exact aU.made w
 obtain⟨g,r⟩:∃g,g=w.heap.size:=⟨_,rfl⟩;rw[←r] at n o⊢;have D:=S.o (okB ok w) p [] g (λx=>x=g) i ByteArray.empty (T.o.dV.X m nE)
  (.table (F:=λ_ _=>False) o (λk=>rfl) (λk u x h=>by cases h) (λk k' x h=>h.elim) (λk h=>h) (λk _ x h=>h) (λx=>⟨.inl,λh=>h.elim id (λ⟨k,h⟩=>h.elim)⟩))
  (λx b V=>by have s:x=g:=b;have:=V.2;omega) WU.nil (λd=>kV d) (by rw[show ByteArray.empty.size=0 from rfl];omega)
 have W:=Z D;have E:=Z m;have f:=Z (And.intro r n);clear D m j r n o;go_wp2_with fail;refine W.o.mono ?_;intro e w2 l;cases hr:dJ true c [] with
 |none=>rw[hr] at l;obtain⟨⟨mv,eb,rfl⟩,a⟩:=l;have v:=Z a;have y:=Z hr;clear a hr;go_wp2;go_ret2;rw[y.o];exact⟨⟨mv,eb,rfl⟩,E.o.trans v.o (λx b q=>by have s:x=g:=q;have:=f.o.1;omega)⟩
 |some t=>
  rw[hr] at l;obtain⟨rfl,⟨R2,S2,G,H,I,J,a⟩,hw⟩:=l;have v:=Z a;have HO:=Z G;have af:=Z I;have L:=Z H;have ai:=Z J;have y:=Z hr;clear a hr hw G I H J;go_wp2;go_ret2;rw[y.o];refine⟨g,R2,S2,rfl,HO.o,λx b=>⟨(L.o x b).1,?_⟩,λx b=> ?_,ai.o,E.o.trans v.o (λx b q=>by have s:x=g:=q;have:=f.o.1;omega)⟩
  .rcases(L.o x b).2 with q|q
   .exact .inl q.1
   .exact .inr (by have:=f.o;omega)
  .rcases af.o x b with q|q
   .have s:x=g:=q;have:=f.o;omega
   .have:=f.o;omega
def uG(ok:ae)(w:World)(v:Value)(i:iy):Prop:=
 i.isMap=true∧i.plain=ByteArray.empty∧∃b n f,v=.iface 162 (.map (some b))∧ok b∧aU w b n f∧f dX=some (.string i.child)∧f dG=some (.string i.parent)
theorem uG.X{ok S:ae}{w w':World}{v:Value}{i:iy}(h:uG ok w v i)(c:O S w w')(d:∀b,ok b→¬S b):uG ok w' v i:=by obtain⟨e,g,b,n,f,j,a,k,l⟩:=h;exact⟨e,g,b,n,f,j,a,k.X c (d b a),l⟩
theorem uG.mono{ok ok':ae}{w:World}{v:Value}{i:iy}(h:uG ok w v i)(c:∀b,b<w.heap.size→ok b→ok' b):uG ok' w v i:=by obtain⟨d,e,b,n,f,g,j,a,k⟩:=h;exact⟨d,e,b,n,f,g,c b a.lt j,a,k⟩
def pW(ok:ae)(w:World)(q:Nat)(x:Want):Prop:=∃(d:K)(b c:Value)(a:Y),ay w q (jc x d b c) 154∧aC ok w b 1 (aH x.tags)∧aC ok w c 1 (a.map λu=> [u])∧a.length=x.imports.length∧
 ∀(n:Nat)(u:Value)(i:iy),a[n]?=some u→x.imports[n]?=some i→uG ok w u i
theorem pW.X{ok S:ae}{w w':World}{q:Nat}{x:Want}(h:pW ok w q x)(a:O S w w')(c:∀b,ok b→¬S b)(d:¬S q):pW ok w' q x:=by obtain⟨e,f,g,j,k,l,m,o,p⟩:=h;exact⟨e,f,g,j,k.X a d,l.X a c,m.X a c,o,λn u i r hi=>(p n u i r hi).X a c⟩
theorem pW.mono{ok ok':ae}{w:World}{q:Nat}{x:Want}(h:pW ok w q x)(a:∀b,b<w.heap.size→ok b→ok' b):pW ok' w q x:=by obtain⟨c,d,e,f,g,j,k,l,m⟩:=h;exact⟨c,d,e,f,g,j.mono a (by decide),k.mono a (by decide),l,λn u i o hi=>(m n u i o hi).mono a⟩
theorem pW.lt{ok:ae}{w:World}{q:Nat}{x:Want}(h:pW ok w q x):q<w.heap.size:=by obtain⟨b,c,d,e,a, -⟩:=h;exact a.lt
inductive iE (ok:ae) (w:World):Nat→Ch→Prop where
 |mk {p pm:Nat} {mv par dv wv:Value} {name fB:K} {vals:J} {deps:List Ch} {wants:List Want} {ps qs:List Nat} (hp:ay w p [.pointer (some ⟨pm,0,none⟩),mv,par,dv] 125) (Oa:ok p)
   (hm:ay w pm [.string name,.string fB,wv] 122) (Ob:ok pm) (hv:lG ok w mv vals) (hd:aC ok w dv 1 (aF ps)) (hn:ps.length=deps.length)
   (h:∀(i q:Nat)(d:Ch),ps[i]?=some q→deps[i]?=some d→iE ok w q d) (hw:aC ok w wv 1 (aF qs)) (nS:qs.length=wants.length)
   (hx:∀(i q:Nat)(x:Want),qs[i]?=some q→wants[i]?=some x→ok q∧pW ok w q x):iE ok w p (.mk name fB vals deps wants)
theorem iE.X{ok S:ae}{w w':World}{p:Nat}{c:Ch}(h:iE ok w p c)(e:O S w w')(a:∀b,ok b→¬S b):iE ok w' p c:=by
 induction h with
 |mk m k n l o r s h t u j v=>exact .mk (m.X e (a _ k)) k (n.X e (a _ l)) l (o.X e a) (r.X e a) s (λi q d f g=>v i q d f g) (t.X e a) u (λi q x f g=>⟨(j i q x f g).1,(j i q x f g).2.X e a (a q (j i q x f g).1)⟩)
theorem iE.mono{ok ok':ae}{w:World}{p:Nat}{c:Ch}(h:iE ok w p c)(a:∀b,b<w.heap.size→ok b→ok' b):iE ok' w p c:=by
 induction h with
 |mk j l k m n o r h s t g u=>exact .mk j (a _ j.lt l) k (a _ k.lt m) (n.mono a) (o.mono a (by decide)) r (λi q d e f=>u i q d e f) (s.mono a (by decide)) t (λi q x e f=>⟨a q (g i q x e f).2.lt (g i q x e f).1,(g i q x e f).2.mono a⟩)
theorem iE.vX{ok:ae}{w:World}{p:Nat}{c:Ch}(h:iE ok w p c):eU ok w p c:=by
 induction h with
 |mk a b e f g j k h o r s l=>exact .mk a b e f g j k (λi q d m n=>l i q d m n)
structure iO9 (ok:ae) (w:World) (p pm:Nat) (mv par dv wv:Value) (name fB:K) (vals:J) (ps qs:List Nat) (deps:List Ch) (wants:List Want):Prop where
 hp:ay w p [ptr pm,mv,par,dv] 125
 hm:ay w pm [.string name,.string fB,wv] 122
 sK:∃a,par=.pointer a
 hv:lG ok w mv vals
 hd:aC ok w dv 1 (aF ps)
 hn:ps.length=deps.length
 yI:∀(i q:Nat)(d:Ch),ps[i]?=some q→deps[i]?=some d→iE ok w q d
 hw:aC ok w wv 1 (aF qs)
 nS:qs.length=wants.length
 hx:∀(i q:Nat)(x:Want),qs[i]?=some q→wants[i]?=some x→iF ok w q x
 hq:qs.Nodup
 lH:p∉qs∧pm∉qs∧p≠pm
 no:∀b,ok b→b≠p∧b≠pm∧b∉qs
section
variable {ok ok':ae} {w w':World} {p pm:Nat} {mv par dv wv:Value} {name fB:K} {vals:J} {ps qs:List Nat} {deps:List Ch} {wants:List Want}
theorem iO9.keep(h:iO9 ok w p pm mv par dv wv name fB vals ps qs deps wants)(a:O No w w'):iO9 ok w' p pm mv par dv wv name fB vals ps qs deps wants:=
 ⟨h.hp.X a id,h.hm.X a id,h.sK,h.hv.X a nE,h.hd.X a nE,h.hn,λi q d b c=>(h.yI i q d b c).X a nE,h.hw.X a nE,h.nS,λi q x b c=>(h.hx i q x b c).X a nE id,h.hq,h.lH,h.no⟩
theorem iO9.lt(h:iO9 ok w p pm mv par dv wv name fB vals ps qs deps wants){x:Nat}(a:x=p∨x=pm∨x∈qs):x<w.heap.size:=by
 rcases a with rfl|rfl|a
 .exact h.hp.lt
 .exact h.hm.lt
 .obtain⟨i,hi⟩:=List.getElem?_of_mem a;obtain⟨y,b⟩:=gX' wants i ((by rw[←h.nS];exact(gS'.1 hi).1));exact(h.hx i x y hi b).lt
theorem iO9.Nh(h:iO9 ok w p pm mv par dv wv name fB vals ps qs deps wants):eU (λx=>ok x∨x=p∨x=pm) w p (.mk name fB vals deps wants):=
 .mk h.hp (.inr (.inl rfl)) h.hm (.inr (.inr rfl)) (h.hv.mono (λ_ _ h=> .inl h)) (h.hd.mono (λ_ _ h=> .inl h) (by decide)) h.hn
  (λi q d a c=>(h.yI i q d a c).vX.mono (λb _ e=> .inl e))
theorem iO9.Nj(h:iO9 ok w p pm mv par dv wv name fB vals ps qs deps wants){x:Nat}(g:x=p∨x=pm):Ef w x:=by
 have f:∀{v:Value}{n:Nat} {i:List (Y)},aC ok w v n i→v≠ .nilIface∧∀t u,v≠ .iface t u:=λh=>by obtain⟨-, -,a,c,rfl, -⟩:=h;exact⟨(by intro e;cases e),(by intro t u e;cases e)⟩
 have j:mv≠ .nilIface∧∀t u,mv≠ .iface t u:=by rcases h.hv with⟨-,rfl⟩|⟨t,b, -,rfl, -⟩<;>exact⟨(by intro e;cases e),(by intro t u e;cases e)⟩
 rcases g with rfl|rfl
 .refine⟨_,_,h.hp,λv d=> ?_⟩;obtain⟨a,k⟩:=h.sK;subst k;simp only[List.mem_cons,List.not_mem_nil,or_false] at d;rcases d with rfl|rfl|rfl|rfl
  .exact⟨(by intro e;cases e),(by intro t u e;cases e)⟩
  .exact j
  .exact⟨(by intro e;cases e),(by intro t u e;cases e)⟩
  .exact f h.hd
 .refine⟨_,_,h.hm,λv d=> ?_⟩;simp only[List.mem_cons,List.not_mem_nil,or_false] at d;rcases d with rfl|rfl|rfl
  .exact⟨(by intro e;cases e),(by intro t u e;cases e)⟩
  .exact⟨(by intro e;cases e),(by intro t u e;cases e)⟩
  .exact f h.hw
end
structure XZ (ok:ae) (w:World) (g hi:Nat) (qs:List Nat) (xs:List Want) (n:Nat) (wr:World):Prop where
 le:n<=xs.length
 nd:qs.Nodup
 o:∀y,ok y→y≠g∧y∉qs
 low:g<w.heap.size∧g∉qs∧∀y∈qs,y<w.heap.size
 done:∀(i q:Nat)(x:Want),i<n→qs[i]?=some q→xs[i]?=some x→pW (λy=>ok y∨(w.heap.size<=y∧y<hi)) wr q (uA x)
 rest:∀(i q:Nat)(x:Want),n<=i→qs[i]?=some q→xs[i]?=some x→iF ok wr q x
 X:O (λy=>y=g∨y∈qs) w wr
section
variable {ok:ae} {w wr w2:World} {g hi n:Nat} {qs:List Nat} {xs:List Want}
theorem XZ.keep(h:XZ ok w g hi qs xs n wr)(d:O (·=g) wr w2):XZ ok w g hi qs xs n w2:=by
 refine⟨h.le,h.nd,h.o,h.low,λi q x hi c f=>(h.done i q x hi c f).X d (λb a e=> ?_) (λe=>h.low.2.1 (e▸mG' c)),λi q x hi c f=>(h.rest i q x hi c f).X d (λb a e=>(h.o b a).1 e) (λe=>h.low.2.1 (e▸mG' c)),h.X.trans d (λx _ e=> .inl e)⟩;rcases a with a|a
 .exact(h.o b a).1 e
 .have j:b=g:=e;have:=h.low.1;omega
theorem XZ.step(h:XZ ok w g hi qs xs n wr){q:Nat}{x:Want}(k:qs[n]?=some q)(o:xs[n]?=some x)(l:O (·=q) wr w2)(s:pW (λy=>ok y∨(w.heap.size<=y∧y<hi)) w2 q (uA x)):XZ ok w g hi qs xs (n+1) w2:=by
 have j:=mG' k;have p:∀i a,i≠n→qs[i]?=some a→¬a=q:=λi a hi c e=>hi (ve h.nd c (e▸k))
 refine⟨(gS'.1 o).1,h.nd,h.o,h.low,λi a m hi c f=> ?_,λi a m hi c f=>(h.rest i a m (by omega) c f).X l (λb d e=>(h.o b d).2 ((show b=q from e)▸j)) (p i a (by omega) c),h.X.trans l (λy _ e=> .inr ((show y=q from e)▸j))⟩;by_cases r:i=n
 .subst r;rw[k] at c;rw[o] at f;cases c;cases f;exact s
 .refine(h.done i a m (by omega) c f).X l (λb d e=> ?_) (p i a r c);have t:b=q:=e;rcases d with d|d
  .exact(h.o b d).2 (t▸j)
  .have:=h.low.2.2 q j;have:=d.1;omega
theorem XZ.up(h:XZ ok w g hi qs xs n wr){hi':Nat}(d:hi<=hi'):XZ ok w g hi' qs xs n wr:=
 ⟨h.le,h.nd,h.o,h.low,λi q x hi a c=>(h.done i q x hi a c).mono (λb _ e=>e.imp id (λe=>⟨e.1,by omega⟩)),h.rest,h.X⟩
end
theorem pX(b:Nat)(w:World):(Go.binOp BinOp.neq 75 (.iface 175 (.pointer (some ⟨b,0,none⟩))) .nilIface).run Tryz.prog w=.ok (.bool true) w:=by kernel_rfl
theorem pY(b:Nat)(w:World)(x:Operand):(eqGuard BinOp.neq 75 x (.const .nilIface) (.iface 175 (.pointer (some ⟨b,0,none⟩))) .nilIface).run Tryz.prog w=.ok () w:=by cases x<;>kernel_rfl
theorem qZ(w:World):(Instr.makeMap 162 none).run Tryz.prog w=.ok (.map (some w.heap.size)) (w.alloc (.map #[] 0)):=rfl
def wS(c:Ch):Option Ch:=if c.wants.isEmpty then some c else match dJ true c [] with
 |none=>none
 |some all=>some (.mk c.name c.version (.table (bV true all (cZ all c.wants))) c.deps (c.wants.map uA))
theorem LG(L:Nat)(c:Ch):eX (L+1) c=match eH (eX L) c.deps with
  |none=>none
  |some a=>wS (.mk c.name c.version c.vals a c.wants):=by
 rw[eX]
 rfl
def LH(ok:ae)(w:World)(p d:Nat)(c:List Nat):Option Ch→Ending→World→Prop
 |none,e,a=>(∃b,e=.returned (.iface 175 (ptr b)))∧O No w a
 |some c',e,a=>e=.returned .nilIface∧O (λx=>x=p∨x∈c) w a∧iE (λx=>ok x∨x=p∨x=d∨x∈c∨w.heap.size<=x) a p c'
structure IF (R S:ae) (all:T) (name:K) (i:iy) (ba:Nat) (wr:World) (hi:Nat) (v:Value) (wx:World):Prop where
 X:O (·=ba) wr wx
 lo:wr.heap.size<=hi
 b:∃Sb,bf R wx (.iface 67 (.map (some ba))) (.table (dQ all name [] i)) Sb∧∀y,Sb y→y=ba∨S y∨hi<=y
 row:∃u,aC (λy=>wr.heap.size<=y∧y<hi) wx v 1 [[u]]∧uG (λy=>wr.heap.size<=y∧y<hi) wx u (bT i)
theorem CQ{all:T}{name:K}{i:iy}:dQ all name [] i=match bD all (parts (name++dB++(bT i).child) 46) with
  |none=> []
  |some t=>bV true [] (fM (fJ (bT i).parent (.table t))):=rfl
theorem CS{ok:ae}{w:World}{b n:Nat}{f:K→Option Value}{kvs:T}(h:rH ok w b n f kvs){k:K}{s:K}(c:get kvs k=some (.text s)):f k=some (.iface 9 (.string s)):=by
 have a:=h.dom k;rw[c] at a;cases hf:f k with
 |none=>rw[hf] at a;cases a
 |some v=>
  have d:=h.val k v _ hf c;cases d
  rfl
theorem FU(a b:J):get [(dX,a),(dG,b)] dG=some b:=by have h:¬dX=dG:=(by decide);simp[get,h]
theorem Ef.X{S:ae}{w a:World}{b:Nat}(h:Ef w b)(c:O S w a)(d:¬S b):Ef a b:=by obtain⟨cs,e,f,g⟩:=h;exact⟨cs,e,f.X c d,g⟩
structure IM (U:List K) (N d h:Nat) (c:Ch):Prop where
 Lp:iW U N (d+2) h c
 dh:d+h<=5200
 len:c.wants.length<=40
 one:iq c.wants<=1
 wants:∀x∈c.wants,x.name.size<=1000∧(∀i∈x.imports,lQ U i∧(i.isMap=true→i.plain=ByteArray.empty))
theorem En(U:List K)(N:Nat)(hN:N<1099511627776)(je:U.length<=N)(fU:∀k∈U,fK k)(jf:gK∈U){d h:Nat}{ok:ae}{w:World}{p pm:Nat}{mv kz dv wv:Value}{name az:K}{vals:J}{ps B:List Nat}{aA:List Ch}{wants:List Want}
  (H:iO9 ok w p pm mv kz dv wv name az vals ps B aA wants) (fV:∀x,ok x→x<w.heap.size) (hI:IM U N d h (.mk name az vals aA wants)) (fZ:wants=[]→wv=.slice none 0 0):
  Calls Tryz.prog 115 #[ptr p,.bool true] w (LH ok w p pm B (wS (.mk name az vals aA wants))):=by
 have kC:w.cell? ⟨p,0,none⟩=some (ptr pm):=H.hp.cell 0;have kD:w.cell? ⟨pm,2,none⟩=some wv:=H.hm.cell 2;by_cases aW:wants=[]
 .have gm:=fZ aW;subst gm;have cO:=Z (show wS (.mk name az vals aA wants)=some (.mk name az vals aA wants) by rw[aW];rfl);have E:=Z H;have eU:=Z aW;have mg:∀w,(Go.binOp BinOp.eql 117 (.slice none 0 0) (.slice none 0 0)).run Tryz.prog w=.ok (.bool true) w:=λw=>by kernel_rfl
  clear H fZ hI aW fV;go_enter Tryz.func115,Tryz.ntmps115;go_wp2;go_ret;rw[cO.o];have h:=E.o;exact⟨rfl,O.refl _ _,.mk h.hp (.inr (.inl rfl)) h.hm (.inr (.inr (.inl rfl))) (h.hv.mono (λ_ _ e=> .inl e)) (h.hd.mono (λ_ _ e=> .inl e) (by decide)) h.hn (λi q d o l=>(h.yI i q d o l).mono (λ_ _ e=> .inl e)) (h.hw.mono (λ_ _ e=> .inl e) (by decide)) h.nS
   (λi q x o l=>by rw[eU.o] at l;simp at l)⟩
 .have jg:B≠ []:=by
   intro e;have h:=H.nS;rw[e] at h;exact aW (List.eq_nil_of_length_eq_zero h.symm)
  obtain⟨wa,wc,rfl⟩:=zf H.hw jg;have kE:=qN wa B.length wc;have E:=Z H;have jh:=Z fV;have HI:=Z hI;have eU:=Z aW;have eX:=Z fU;have aG:=Z (Bv U N hN je fU jf d h (by have:=hI.dh;omega) _ hI.Lp (λx=>ok x∨x=p∨x=pm) p w H.Nh);have kF:=Z (show B.length<=40 by rw[H.nS];exact hI.len);clear H fZ hI aW fV jg fU;go_enter Tryz.func115,Tryz.ntmps115;go_wp2_with fail;refine aG.o.mono ?_;intro e w1 fA;cases hr:dJ true (.mk name az vals aA wants) [] with
  |none=>rw[hr] at fA;obtain⟨⟨mi,eb,rfl⟩,hc⟩:=fA;have HC:=Z hc;have cO:=Z (show wS (.mk name az vals aA wants)=none by unfold wS;rw[if_neg (by simpa[Ch.wants] using eU.o),hr]);have kG:=pX eb;have mr:=pY eb;clear hc hr aG;go_wp2;go_ret;rw[cO.o];exact⟨⟨eb,rfl⟩,HC.o⟩
  |some all=>
   rw[hr] at fA;obtain⟨g,R,S,rfl,bJ,hR,hS,ji,jk⟩:=fA;have kG:=eY;have mD:=dO;have mF:=gW;have HR:=Z (show ∀x,R x→x<w1.heap.size∧x∉B from λx C=>by
    obtain⟨o,l⟩:=hR x C;refine⟨o,λak=> ?_⟩;rcases l with⟨l|l|l, -⟩|l
    .exact(E.o.no x l).2.2 ak
    .exact E.o.lH.1 (l▸ak)
    .exact E.o.lH.2.1 (l▸ak)
    .have:=E.o.lt (.inr (.inr ak));omega)
   have kH:=Z hR;have HS:=Z hS;have kJ:=Z ji;have kK:=Z bJ;have aX:=Z jk;have kL:=Z hr;have df:=Z (Cm jf true h _ [] all d HI.o.Lp WU.nil hr);have jl:=bJ.lt;have jm:=Z jl;clear bJ hR hS ji jk hr aG jl;go_upto_region 11 with fail
   obtain⟨ba,di⟩:∃ba,ba=w1.heap.size:=⟨_,rfl⟩;have gp:aU (w1.alloc (.map #[] 0)) ba 0 (λ_=>none):=di▸aU.made w1;have gq:O No w1 (w1.alloc (.map #[] 0)):=(O.refl No w1).alloc _;have jo:(w1.alloc (.map #[] 0)).heap.size=ba+1:=by rw[di];simp
   rw[←di];generalize kM:w1.alloc (.map #[] 0)=w2 at*;have jq:=Z gp;have dm:=Z (aX.o.trans' gq);have bK:=Z jo;have aK:=Z di;have kN:=Z (kK.o.X gq nE nE);have ai:=Z (show ¬R ba∧¬S ba∧ba∉B∧¬ok ba from⟨λe=>by have:=(HR.o ba e).1;omega,λe=>by have:=jm.o ba e;omega,λe=>by have o:=E.o.lt (.inr (.inr e));have l:=aX.o.size;omega,λe=>by have o:=jh.o ba e;have l:=aX.o.size;omega⟩);have bM:=Z (E.o.keep dm.o);have kP:w2.cell? ⟨p,0,none⟩=some (ptr pm):=bM.o.hp.cell 0;have kQ:w2.cell? ⟨pm,2,none⟩=some (.slice (some wa) B.length wc):=bM.o.hm.cell 2;have jr:=Z (show XZ ok w2 ba w2.heap.size B wants 0 w2 from⟨zL',E.o.hq,λy f=>⟨λe=>ai.o.2.2.2 (e▸f),(E.o.no y f).2.2⟩,⟨by omega,ai.o.2.2.1,λy f=>bM.o.lt (.inr (.inr f))⟩,λi q x h=>by omega,λi q x _ ak C=>bM.o.hx i q x ak C,O.refl _ _⟩);have jv:=Z (show bf R w2 (.iface 67 (.map (some ba))) (.table []) (λx=>x=ba) from
    .table (F:=λ_ _=>False) gp (λk=>rfl) (λk u x h=>by cases h) (λk k' x h=>h.elim) (λk h=>h) (λk _ x h=>h) (λx=>⟨.inl,λh=>h.elim id (λ⟨k,h⟩=>h.elim)⟩))
   have mG:B.length<=40:=kF.o;clear kM gp gq jo di kC kD kE;go_wp2_with fail;clear kP kQ;go_loopw [7,53] (λbt ct wr=>∃(n I:Nat)(Sb:ae),bt=.map (some ba)∧ct=.int .i64 n∧w2.heap.size<=I∧XZ ok w2 ba I B wants n wr∧bf R wr (.iface 67 (.map (some g))) (.table all) S∧
    bf R wr (.iface 67 (.map (some ba))) (.table (cZ all (wants.take n))) Sb∧(∀y,Sb y→y=ba∨S y∨I<=y)∧(iq (wants.take n)=0→aU wr ba 0 (λ_=>none)∧I=w2.heap.size)) (λ_ ct _=>B.length - (intOf ct).toNat)
   case atStart=>exact⟨0,w2.heap.size,_,rfl,rfl,lR',jr.o,kN.o,jv.o,λy f=> .inl f,λ_=>⟨jq.o,rfl⟩⟩
   case round=>
    clear jr jv jq;obtain⟨n,I,Sb,rfl,rfl,jw,gu,bJ,v,jy,jA⟩:=hrel;obtain⟨j,rfl⟩:∃j,j=wr:=⟨_,rfl⟩;have aO:=Z jw;have aY:=Z gu;have dn:=Z bJ;have HB:=Z v;have aP:=Z jy;have gy:=Z jA;have ay:=Z (show w2.heap.size<=j.heap.size from gu.X.size);clear jw gu bJ v jy jA;by_cases gz:n<B.length
    .obtain⟨q,ak⟩:=gX' B n (gz);obtain⟨x,C⟩:=gX' wants n ((by rw[←E.o.nS];exact gz));have au:=mG' ak;have gB:=bM.o.hw;have gG:(aF B).length=B.length:=(by simp[aF]);rw[←gG] at gB;obtain⟨kR,mJ,kS,jC,gI⟩:=gB.at (i:=n) (r:=[ptr q]) (by simp[ak]);cases kS;have gI:=(gI.X aY.o.X (λe=>e.elim (λe=>ai.o.2.2.2 (e▸jC)) (E.o.no kR jC).2.2)).one;simp only[Nat.mul_one] at gI;obtain⟨jD,tv,iv,dw,gJ,jE,fB,dC,gQ⟩:=aY.o.rest n q x lR' ak C;obtain⟨ia,ic,rfl⟩:∃a c,iv=.slice a dw.length c:=by obtain⟨-, -,a,c,h, -⟩:=fB;rw[List.length_map] at h;exact⟨_,_,h⟩
     have q6:j.cell? ⟨q,6,none⟩=some (.slice ia dw.length ic):=gJ.cell 6;have bP:=Z gJ;have jF:=Z jE;have HQ:=Z ak;have HX:=Z C;have mM:=Z au;have L:=Z (show q≠ba∧¬R q∧¬S q∧q<w2.heap.size∧¬ok q from⟨λe=>ai.o.2.2.1 (e▸au),λe=>(HR.o q e).2 au,λe=>by have o:=HS.o q e;have l:=E.o.lt (.inr (.inr au));omega,bM.o.lt (.inr (.inr au)),λe=>(E.o.no q e).2.2 au⟩);have gU:=Z (Ak C);have jG:=Z (HI.o.wants x (mG' C));have kT:(n:Int)<(B.length:Int):=(by omega);have jH:=Z (show iq (wants.take n)+x.imports.length<=1 by rw[←Ak C];exact Nat.le_trans (J8 _ _) HI.o.one);clear ak C au gB gG gJ jE;match himp:x.imports with
     |[]=>
      have kU:dw=[]:=List.eq_nil_of_length_eq_zero (by rw[dC,himp];rfl);subst kU;have f6:=bP.o.frozen 6;have aZ:=Z himp;clear himp gQ dC fB;go_wp2_with fail;go_loopw [7,10,62] (λbt vt ct wx=>bt=.map (some ba)∧vt=.slice none 0 0∧ct=.int .i64 0∧wx=j) (λ_ _ _ _=>0)
      case atStart=>exact⟨rfl,rfl,rfl,rfl⟩
      case round=>
       obtain⟨rfl,rfl,rfl,gV⟩:=hrel;subst gV;go_upto_region 40 with fail
       generalize aQ:World.setCell _ _ _=W;obtain⟨aj,A, -⟩:=bP.o.setCell 6 (.slice none 0 0);rw[aQ] at aj A;have gY:=Z aj;have aS:=Z A;have gZ:=Z (aY.o.step HQ.o HX.o A ⟨jD,tv,.slice none 0 0,[],aj,(jF.o.X A (λb v e=>L.o.2.2.2.2 ((show b=q from e)▸v))).mono (λ_ _ h=> .inl h) (by decide),aC.zero,by show 0=(x.imports.map bT).length;rw[aZ.o];rfl,λm u i hu=>by simp at hu⟩);clear aQ aj A q6 f6;go_wp2_with fail;go_roundw
       case rel=>
        have T:cZ all (wants.take (n+1))=cZ all (wants.take n):=(by rw[sS HX.o,yt aZ.o]);refine⟨n+1,I,Sb,rfl,by go_num,aO.o,gZ.o,dn.o.X aS.o (λy f e=>L.o.2.1 ((show y=q from e)▸f)) (λy f e=>L.o.2.2.1 ((show y=q from e)▸f)),?_,aP.o,λV=>⟨(gy.o (by rw[gU.o] at V;omega)).1.X aS.o (λe=>L.o.1 (Eq.symm e)),(gy.o (by rw[gU.o] at V;omega)).2⟩⟩;rw[T];refine HB.o.X aS.o (λy f e=>L.o.2.1 ((show y=q from e)▸f)) (λy f e=> ?_);have e2:y=q:=e;rcases aP.o y f with h|h|h
        .exact L.o.1 (e2.symm.trans h)
        .exact L.o.2.2.1 (e2▸h)
        .have:=L.o.2.2.2.1;have:=aO.o;omega
       case measure=>simp[intOf];omega
     |i::rest=>
      have kV:rest=[]:=by have h:=jH.o;rw[himp] at h;exact List.eq_nil_of_length_eq_zero (by simp at h;omega)
      subst kV;have jI:=Z (show iq (wants.take n)=0 by have h:=jH.o;rw[himp] at h;simp at h;omega);obtain⟨u,rfl⟩:∃u,dw=[u]:=by
       rw[himp] at dC;match dw,dC with
       |[u],_=>exact⟨u,rfl⟩
      have hu:=gQ 0 u i rfl (by rw[himp];rfl);have HU:=Z hu;obtain⟨jJ,jK⟩:=jG.o.2 i (by rw[himp];simp);have fC:=Z jJ;have kW:=Z jK;have aZ:=Z himp;obtain⟨lb,kY,rfl,mO,bQ⟩:=fB.at (i:=0) (r:=[u]) rfl;have bQ:=bQ.one;simp only[Nat.zero_mul,Nat.add_zero] at bQ;have mP:x.name.size<=1000:=jG.o.1;have q0:j.cell? ⟨q,0,none⟩=some (.string x.name):=bP.o.cell 0;have dD:=Z (gy.o jI.o);clear himp gQ dC fB hu jJ jK;go_wp2_with fail;go_loopw [7,10,62] (λbt vt ct wx=>bt=.map (some ba)∧((vt=.slice none 0 0∧ct=.int .i64 0∧wx=j)∨(ct=.int .i64 1∧∃bg M P,vt=.slice M 1 P∧IF R S all x.name i ba j bg vt wx))) (λ_ _ ct _=>1 - (intOf ct).toNat)
      case atStart=>exact⟨rfl,.inl ⟨rfl,rfl,rfl⟩⟩
      case round=>
       obtain⟨rfl,kZ⟩:=hrel;rcases kZ with⟨rfl,rfl,gV⟩|⟨rfl,bg,M,P,rfl,ig⟩
       .obtain rfl:=gV.symm;cases kX:i.isMap with
        |true=>
         have ik:bT i=i:=by unfold bT;rw[if_pos kX]
         have bU:=Z ik;have lg:=Z (kW.o kX);obtain⟨bm,rfl,iw⟩:∃bm,u=.iface 67 (.map (some bm))∧bC ok j u (.table [(dX,.text i.child),(dG,.text i.parent)]):=by
          rcases HU.o with⟨o, -⟩|⟨-,bm,l,h3⟩
          .rw[kX] at o;cases o
          .exact⟨bm,l,h3⟩
         obtain⟨mQ,nm,fm,lh,dE⟩:=iw.tab;cases lh;have jL:=CS dE (k:=dX) (s:=i.child) (by simp[get]);have jM:=CS dE (k:=dG) (s:=i.parent) (FU _ _);have fD:=λz=>dP (w:=z) iw.dL
         rw[show dA (.table [(dX,.text i.child),(dG,.text i.parent)])=true from rfl] at fD;simp only[mapOf] at fD;have lq:(Instr.lookup 67 (.map (some bm)) (.string ⟨#[99,104,105,108,100]⟩) false).run Tryz.prog j=.ok (.iface 9 (.string i.child)) j:=by rw[lX Tryz.underlying67 Tryz.zeroValue20 dE.map (k:=⟨#[99,104,105,108,100]⟩) (by decide) false,show fm ⟨#[99,104,105,108,100]⟩=_ from jL];rfl
         have lu:(Instr.lookup 67 (.map (some bm)) (.string ⟨#[112,97,114,101,110,116]⟩) false).run Tryz.prog j=.ok (.iface 9 (.string i.parent)) j:=by rw[lX Tryz.underlying67 Tryz.zeroValue20 dE.map (k:=⟨#[112,97,114,101,110,116]⟩) (by decide) false,show fm ⟨#[112,97,114,101,110,116]⟩=_ from jM];rfl
         have mV:i.child.size<=1000:=fC.o.child;have lC:i.parent.size<=1000:=fC.o.parent;clear iw dE jL jM;go_wp2_with fail;refine(yw i.child j).mono ?_;rintro e wt ⟨rfl,dF⟩;obtain rfl:=dF.symm;clear dF;go_wp2_with fail;refine(yw i.parent j).mono ?_;rintro e wt ⟨rfl,dF⟩;obtain rfl:=dF.symm;clear dF lq lu fD;have iy:=qZ;have dH:=aU.made j;have iC:0<maxLen:=(by decide);have iD:0+1<maxLen:=(by decide);have iE:(⟨#[99,104,105,108,100]⟩:K).size<=maxLen:=(by decide);have iF:(⟨#[112,97,114,101,110,116]⟩:K).size<=maxLen:=(by decide);go_upto_region 24 with(first|(refine jB Tryz.underlying162 rfl rfl rfl dH iC rfl iE rfl ?_;intro w3 dI aH dK;go_frame)|(refine jB Tryz.underlying162 rfl rfl rfl dI iD rfl iF rfl ?_;intro w4 dM Q aT;go_frame)|(refine oG rfl rfl rfl rfl ?_)|(at_builtin;refine aN rfl rO rfl rfl (aB.nil _ j.heap.size 20 1) rfl (aC.gX w4 [.iface 162 (.map (some j.heap.size))] 20 1 rfl) (by simp[Value.oneCell']) (by simp) (by decide) (by have o:=dK;have l:=aT;simp at o l⊢;omega) ?_;intro v' w6 ax dN iG iH;(obtain⟨M,sn,P,rfl⟩:=ax.slice);go_frame))
         obtain rfl:sn=1:=by obtain⟨a,c,h⟩:=ax.dY;cases h;rfl
         have bn:O No w4 w6:=((O.refl No w4).alloc _).trans dN (λi I e=>by cases e);have G:=Z (show O No j w6 from((((O.refl No j).alloc _).trans aH (λi I e=>by have T:i=j.heap.size:=e;omega)).trans Q (λi I e=>by have T:i=j.heap.size:=e;omega)).trans' bn);have aI:=Z (show aC (λy=>j.heap.size<=y∧y<w6.heap.size) w6 (.slice M 1 P) 1 [[.iface 162 (.map (some j.heap.size))]]∧uG (λy=>j.heap.size<=y∧y<w6.heap.size) w6 (.iface 162 (.map (some j.heap.size))) (bT i) from
          ⟨ax.rowAt.mono (λb v e=>⟨(ax.elem e).1,v⟩) (by decide),by
           have dR:=dM.X bn id;have iI:¬(dX=dG):=(by decide);rw[bU.o];refine⟨kX,lg.o,j.heap.size,_,_,rfl,⟨lR',dR.lt⟩,dR,?_,?_⟩
           .show(if dX=dG then _ else if dX=dX then _ else _)=_
            rw[if_neg iI,if_pos rfl];rfl
           .show(if dG=dG then _ else _)=_
            rw[if_pos rfl];rfl⟩)
         have dS:=dn.o.X G.o nE nE;have bu:=Z (tq dS (x.name++dB++i.child) (by
          have o:(x.name++dB++i.child).size=x.name.size+1+i.child.size:=by simp[ByteArray.size_append];rfl
          omega))
         have dU:w6.cell? ⟨q,0,none⟩=some (.string x.name):=(bP.o.X G.o id).cell 0;have jO:=Z (show ∀y,R y→y<w1.heap.size from λy f=>(HR.o y f).1);have aV:=Z (show w1.heap.size<=j.heap.size∧ba<j.heap.size by have:=ay.o;have:=bK.o;have:=aK.o;omega);have aG:=Z (show dQ all x.name [] i=match bD all (parts (x.name++dB++i.child) 46) with
           |none=> []
           |some t=>bV true [] (fM (fJ i.parent (.table t))) by rw[CQ,bU.o])
         clear dH dI dM aH Q dK aT ax dN iG iH bn q0 q6 bQ dS iy;go_wp2_with fail;refine bu.o.mono ?_;rintro e w7 ⟨D,bz,bF⟩;have iJ:=Z D;have dV:=Z (show j.heap.size<=w6.heap.size∧w6.heap.size<=w7.heap.size from⟨G.o.size,D.size⟩);cases xM:bD all (parts (x.name++dB++i.child) 46) with
         |none=>
          obtain⟨lD,kk,rfl⟩:=bF xM;have iK:=xB kk;have iL:=λx=>xC x kk
          have af:=Z (show IF R S all x.name i ba j w6.heap.size (.slice M 1 P) w7 from
           ⟨(G.o.trans' D).mono (λ_ _ e=>e.elim),G.o.size,⟨λy=>y=ba,by
            rw[aG.o,xM];have h:=(HB.o.X G.o nE nE).X D nE nE;have iM:=(dD.o.1.X G.o id).X D id;exact .table (F:=λ_ _=>False) iM (λk=>rfl) (λk u x h=>by cases h) (λk k' x h=>h.elim) (λk h=>h) (λk _ x h=>h) (λx=>⟨.inl,λh=>h.elim id (λ⟨k,h⟩=>h.elim)⟩),λy f=> .inl f⟩,
            ⟨_,aI.o.1.X D nE,aI.o.2.X D nE⟩⟩)
          clear D bz bF xM bu dU;go_wp2_with fail;go_roundw;case rel=>exact⟨rfl,.inr ⟨by go_num,w6.heap.size,M,P,rfl,af.o⟩⟩
          case measure=>simp[intOf]
         |some t=>
          obtain⟨g2,Sx,rfl,bG,dW⟩:=bz t xM;have dZ:=Z xM;have iK:=eY;have iL:=dO;have iO:=Z dW;have iP:=Z (Am bG bG.lt);have iQ:=Z (G.o.trans' D);have iR:=iJ;clear D bz bF xM bu dU bG dW;go_wp2_with fail;refine iP.o.mono ?_;rintro e w8 ⟨g3,S3,rfl,fE,bW,aJ⟩;have jP:=Z bW;have fF:=Z (iQ.o.trans' aJ);have jQ:=Z aJ.size;have iT:=Z (iR.o.trans' aJ);have lF:=Z (Ap i.parent fE (λy f=>by have o:=jO.o y f;have l:=aV.o;have h3:=fF.o.size;omega) (by omega));clear fE bW aJ;go_wp2_with fail;refine lF.o.mono ?_;rintro e w9 ⟨g4,S4,rfl,bY,fG,ed⟩;have eu:=Z (show ∀y,S4 y→S y∨w6.heap.size<=y from λy f=>by
           have o:=dV.o;have l:=jQ.o;rcases fG y f with e|e
           .rcases jP.o y e with e|e
            .exact .inl (iO.o y e)
            .exact .inr (by omega)
           .exact .inr (by omega))
          have eF:=Z (fF.o.trans' ed);have iU:=Z (iT.o.trans' ed);obtain⟨y9,bZ⟩:=lJ i.parent t;have cu:WU U N (d+2+h+1001) (fJ i.parent (.table t)):=by have o:=CB fC.o (jU df.o dZ.o);rw[bU.o] at o;exact o
          rw[bZ] at bY cu;have eG:=dD.o.1.X eF.o id;have iV:=Z (qY U N (by omega) eX.o (d:=d+h+1002) eG bY (λe=>by
           rcases eu.o ba e with e|e
           .exact ai.o.2.1 e
           .have o:=aV.o;have l:=dV.o;omega) ai.o.1 (by rw[show d+h+1002+1=d+2+h+1001 by omega];exact cu))
          have iW:=Z bZ;clear bY fG ed cu eG bZ;go_wp2_with fail;refine iV.o.mono ?_;rintro e bH ⟨rfl,bI,S5,eH,eP⟩;have af:=Z (show IF R S all x.name i ba j w6.heap.size (.slice M 1 P) bH from
           ⟨(eF.o.mono (λ_ _ e=>e.elim)).trans bI nE,G.o.size,⟨S5,by rw[aG.o,dZ.o];show bf R bH _ (.table (bV true [] (fM (fJ i.parent (.table t))))) S5;rw[iW.o];exact eH,λy f=>(eP y f).imp id (eu.o y)⟩,by
           have eQ:O (·=ba) w6 bH:=(iU.o.mono (λ_ _ e=>e.elim)).trans bI nE;exact⟨_,aI.o.1.X eQ (λb v e=>by have T:b=ba:=e;have o:=v.1;have l:=aV.o;omega),aI.o.2.X eQ (λb v e=>by have T:b=ba:=e;have o:=v.1;have l:=aV.o;omega)⟩⟩)
          clear bI eH eP;go_wp2_with fail;go_roundw;case rel=>exact⟨rfl,.inr ⟨by go_num,w6.heap.size,M,P,rfl,af.o⟩⟩
          case measure=>simp[intOf]
        |false=>
         have ik:bT i=⟨ByteArray.empty,wG++i.plain,dB,true⟩:=by unfold bT;rw[if_neg (by rw[kX];decide)]
         have bU:=Z ik;obtain rfl:u=.iface 9 (.string i.plain):=by
          rcases HU.o with⟨-,l⟩|⟨o, -⟩
          .exact l
          .rw[kX] at o;cases o
         have fD:∀z,(Instr.typeAssert (.iface 9 (.string i.plain)) 20 67 true).run Tryz.prog z=.ok (.tuple #[.map none,.bool false]) z:=λz=>by kernel_rfl
         have mW:∀z,(Instr.typeAssert (.iface 9 (.string i.plain)) 20 9 true).run Tryz.prog z=.ok (.tuple #[.string i.plain,.bool true]) z:=λz=>by kernel_rfl
         have lC:i.plain.size<=1000:=fC.o.plain;have iy:=qZ;have dH:=aU.made j;have iC:0<maxLen:=(by decide);have iD:0+1<maxLen:=(by decide);have iE:(⟨#[99,104,105,108,100]⟩:K).size<=maxLen:=(by decide);have iF:(⟨#[112,97,114,101,110,116]⟩:K).size<=maxLen:=(by decide);go_upto_region 33 with(first|(refine jB Tryz.underlying162 rfl rfl rfl dH iC rfl iE rfl ?_;intro w3 dI aH dK;go_frame)|(refine jB Tryz.underlying162 rfl rfl rfl dI iD rfl iF rfl ?_;intro w4 dM Q aT;go_frame)|(refine oG rfl rfl rfl rfl ?_)|(at_builtin;refine aN rfl rO rfl rfl (aB.nil _ j.heap.size 20 1) rfl (aC.gX w4 [.iface 162 (.map (some j.heap.size))] 20 1 rfl) (by simp[Value.oneCell']) (by simp) (by decide) (by have o:=dK;have l:=aT;simp at o l⊢;omega) ?_;intro v' w6 ax dN iG iH;(obtain⟨M,sn,P,rfl⟩:=ax.slice);go_frame))
         obtain rfl:sn=1:=by obtain⟨a,c,h⟩:=ax.dY;cases h;rfl
         have bn:O No w4 w6:=((O.refl No w4).alloc _).trans dN (λi I e=>by cases e);have G:=Z (show O No j w6 from((((O.refl No j).alloc _).trans aH (λi I e=>by have T:i=j.heap.size:=e;omega)).trans Q (λi I e=>by have T:i=j.heap.size:=e;omega)).trans' bn);have aI:=Z (show aC (λy=>j.heap.size<=y∧y<w6.heap.size) w6 (.slice M 1 P) 1 [[.iface 162 (.map (some j.heap.size))]]∧uG (λy=>j.heap.size<=y∧y<w6.heap.size) w6 (.iface 162 (.map (some j.heap.size))) (bT i) from
          ⟨ax.rowAt.mono (λb v e=>⟨(ax.elem e).1,v⟩) (by decide),by
           have dR:=dM.X bn id;have iI:¬(dX=dG):=(by decide);rw[bU.o];refine⟨rfl,rfl,j.heap.size,_,_,rfl,⟨lR',dR.lt⟩,dR,?_,?_⟩
           .show(if dX=dG then _ else if dX=dX then _ else _)=_
            rw[if_neg iI,if_pos rfl];rfl
           .show(if dG=dG then _ else _)=_
            rw[if_pos rfl];rfl⟩)
         have dS:=dn.o.X G.o nE nE;have bu:=Z (tq dS (x.name++dB++(wG++i.plain)) (by
          have o:(x.name++dB++(wG++i.plain)).size=x.name.size+1+(wG++i.plain).size:=by simp[ByteArray.size_append];rfl
          have l:(wG++i.plain).size=8+i.plain.size:=by rw[ByteArray.size_append];rfl
          omega))
         have dU:w6.cell? ⟨q,0,none⟩=some (.string x.name):=(bP.o.X G.o id).cell 0;have jO:=Z (show ∀y,R y→y<w1.heap.size from λy f=>(HR.o y f).1);have aV:=Z (show w1.heap.size<=j.heap.size∧ba<j.heap.size by have:=ay.o;have:=bK.o;have:=aK.o;omega);have aG:=Z (show dQ all x.name [] i=match bD all (parts (x.name++dB++(wG++i.plain)) 46) with
           |none=> []
           |some t=>bV true [] (fM (fJ dB (.table t))) by rw[CQ,bU.o])
         clear dH dI dM aH Q dK aT ax dN iG iH bn q0 q6 bQ dS iy;go_wp2_with fail;refine bu.o.mono ?_;rintro e w7 ⟨D,bz,bF⟩;have iJ:=Z D;have dV:=Z (show j.heap.size<=w6.heap.size∧w6.heap.size<=w7.heap.size from⟨G.o.size,D.size⟩);cases xM:bD all (parts (x.name++dB++(wG++i.plain)) 46) with
         |none=>
          obtain⟨lD,kk,rfl⟩:=bF xM;have iK:=xB kk;have iL:=λx=>xC x kk
          have af:=Z (show IF R S all x.name i ba j w6.heap.size (.slice M 1 P) w7 from
           ⟨(G.o.trans' D).mono (λ_ _ e=>e.elim),G.o.size,⟨λy=>y=ba,by
            rw[aG.o,xM];have h:=(HB.o.X G.o nE nE).X D nE nE;have iM:=(dD.o.1.X G.o id).X D id;exact .table (F:=λ_ _=>False) iM (λk=>rfl) (λk u x h=>by cases h) (λk k' x h=>h.elim) (λk h=>h) (λk _ x h=>h) (λx=>⟨.inl,λh=>h.elim id (λ⟨k,h⟩=>h.elim)⟩),λy f=> .inl f⟩,
            ⟨_,aI.o.1.X D nE,aI.o.2.X D nE⟩⟩)
          clear D bz bF xM bu dU;go_wp2_with fail;go_roundw;case rel=>exact⟨rfl,.inr ⟨by go_num,w6.heap.size,M,P,rfl,af.o⟩⟩
          case measure=>simp[intOf]
         |some t=>
          obtain⟨g2,Sx,rfl,bG,dW⟩:=bz t xM;have dZ:=Z xM;have iK:=eY;have iL:=dO;have iO:=Z dW;have iP:=Z (Am bG bG.lt);have iQ:=Z (G.o.trans' D);have iR:=iJ;clear D bz bF xM bu dU bG dW;go_wp2_with fail;refine iP.o.mono ?_;rintro e w8 ⟨g3,S3,rfl,fE,bW,aJ⟩;have jP:=Z bW;have fF:=Z (iQ.o.trans' aJ);have jQ:=Z aJ.size;have iT:=Z (iR.o.trans' aJ);have eu:=Z (show ∀y,S3 y→S y∨w6.heap.size<=y from λy f=>by
           have o:=dV.o;rcases bW y f with e|e
           .exact .inl (iO.o y e)
           .exact .inr (by omega))
          obtain⟨w9,gm⟩:∃w9,w9=w8:=⟨_,rfl⟩;subst gm;have eF:=fF;have iU:=iT;have bY:=fE;have fG:=bW;have ed:=aJ;have bZ:fJ dB (.table t)=.table t:=by unfold fJ;rw[if_pos rfl]
          have cu:WU U N (d+2+h+1001) (.table t):=(jU df.o dZ.o).mono (λ_ h=>h) lR' (Nat.le_add_right _ _);have eG:=dD.o.1.X eF.o id;have iV:=Z (qY U N (by omega) eX.o (d:=d+h+1002) eG bY (λe=>by
           rcases eu.o ba e with e|e
           .exact ai.o.2.1 e
           .have o:=aV.o;have l:=dV.o;omega) ai.o.1 (by rw[show d+h+1002+1=d+2+h+1001 by omega];exact cu))
          have iW:=Z bZ;clear bY fG ed cu eG bZ;go_wp2_with fail;refine iV.o.mono ?_;rintro e bH ⟨rfl,bI,S5,eH,eP⟩;have af:=Z (show IF R S all x.name i ba j w6.heap.size (.slice M 1 P) bH from
           ⟨(eF.o.mono (λ_ _ e=>e.elim)).trans bI nE,G.o.size,⟨S5,by rw[aG.o,dZ.o];show bf R bH _ (.table (bV true [] (fM (fJ dB (.table t))))) S5;rw[iW.o];exact eH,λy f=>(eP y f).imp id (eu.o y)⟩,by
           have eQ:O (·=ba) w6 bH:=(iU.o.mono (λ_ _ e=>e.elim)).trans bI nE;exact⟨_,aI.o.1.X eQ (λb v e=>by have T:b=ba:=e;have o:=v.1;have l:=aV.o;omega),aI.o.2.X eQ (λb v e=>by have T:b=ba:=e;have o:=v.1;have l:=aV.o;omega)⟩⟩)
          clear bI eH eP;go_wp2_with fail;go_roundw;case rel=>exact⟨rfl,.inr ⟨by go_num,w6.heap.size,M,P,rfl,af.o⟩⟩
          case measure=>simp[intOf]
       .have af:=Z ig;obtain⟨iY,rfl⟩:∃iY,iY=wr:=⟨_,rfl⟩;have iZ:=Z (bP.o.X ig.X L.o.1);have f6:=iZ.o.frozen 6;have x6:iY.cell? ⟨q,6,none⟩=some (.slice (some ⟨lb,kY,none⟩) 1 ic):=iZ.o.cell 6;clear ig q6 bQ q0;go_upto_region 40 with fail
        generalize aQ:World.setCell _ _ _=W;obtain⟨aj,A, -⟩:=iZ.o.setCell 6 (.slice M 1 P);rw[aQ] at aj A;have gY:=Z aj;have aS:=Z A;have lG:=Z ((aY.o.keep af.o.X).up (hi':=max I bg) (Nat.le_max_left _ _));have gZ:=Z (lG.o.step HQ.o HX.o A (by
         obtain⟨u2,lI,lK⟩:=af.o.row;have jR:∀b,(λy=>j.heap.size<=y∧y<bg) b→¬b=q:=λb v e=>by have:=v.1;have:=L.o.2.2.2.1;have:=ay.o;omega
         have jS:∀b,(λy=>j.heap.size<=y∧y<bg) b→ok b∨(w2.heap.size<=b∧b<max I bg):=λb v=> .inr ⟨by have:=v.1;have:=ay.o;omega,Nat.lt_of_lt_of_le v.2 (Nat.le_max_right _ _)⟩
         refine⟨jD,tv,.slice M 1 P,[u2],aj,((jF.o.X af.o.X (λb v e=>ai.o.2.2.2 ((show b=ba from e)▸v))).X A (λb v e=>L.o.2.2.2.2 ((show b=q from e)▸v))).mono (λ_ _ h=> .inl h) (by decide),(lI.X A jR).mono (λb _ h=>jS b h) (by decide),by show 1=(x.imports.map bT).length;rw[aZ.o];rfl,λm u' i' ja hi'=> ?_⟩;have jb:(x.imports.map bT)[m]?=some i':=hi';rw[aZ.o] at jb;cases m with
         |zero=>simp at ja jb;subst ja;subst jb;exact(lK.X A jR).mono (λb _ h=>jS b h)
         |succ m=>simp at ja))
        clear aQ aj A x6 f6;go_wp2_with fail;go_roundw
        case rel=>
         have T:cZ all (wants.take (n+1))=dQ all x.name [] i:=by
          rw[sS HX.o,FQ jI.o];unfold sQ;rw[aZ.o]
          rfl
         obtain⟨Sc,lL,jT⟩:=af.o.b;refine⟨n+1,max I bg,λy=>Sc y,rfl,by go_num,Nat.le_trans aO.o (Nat.le_max_left _ _),gZ.o,(dn.o.X af.o.X (λy f e=>ai.o.1 ((show y=ba from e)▸f)) (λy f e=>ai.o.2.1 ((show y=ba from e)▸f))).X aS.o (λy f e=>L.o.2.1 ((show y=q from e)▸f)) (λy f e=>L.o.2.2.1 ((show y=q from e)▸f)),?_,λy f=> ?_,λV=> ?_⟩
         .rw[T];refine lL.X aS.o (λy f e=>L.o.2.1 ((show y=q from e)▸f)) (λy f e=> ?_);have e2:y=q:=e;rcases jT y f with h|h|h
          .exact L.o.1 (e2.symm.trans h)
          .exact L.o.2.2.1 (e2▸h)
          .have:=L.o.2.2.2.1;have:=af.o.lo;have:=ay.o;omega
         .rcases jT y f with h|h|h
          .exact .inl h
          .exact .inr (.inl h)
          .have o:=dD.o.2;have l:=af.o.lo;have h3:=ay.o;exact .inr (.inr (Nat.max_le.2 ⟨by omega,h⟩))
         .rw[gU.o,aZ.o] at V;simp at V
        case measure=>simp[intOf];omega
    .have lM:n=wants.length:=Nat.le_antisymm aY.o.le (by rw[←E.o.nS];omega);subst lM;have kT:¬((wants.length:Nat):Int)<(B.length:Int):=by rw[E.o.nS];omega
     have jV:=Z (show bf R j (.iface 67 (.map (some ba))) (.table (cZ all wants)) Sb by have h:=HB.o;rw[List.take_length] at h;exact h);have lN:=Z (Bq N (d+h+1) hN _ all g j dn.o.vV (by have o:=df.o.wf eX.o je;rwa[show d+2+h=d+h+1+1 by omega] at o));have lQ:=Z (CP df.o wants (λx C i I=>((HI.o.wants x C).2 i I).1));have cO:=Z (show wS (.mk name az vals aA wants)=some (.mk name az (.table (bV true all (cZ all wants))) aA (wants.map uA)) by
      unfold wS;rw[if_neg (by simpa[Ch.wants] using eU.o),kL.o]
      rfl)
     clear gz;go_wp2_with fail;refine lN.o.mono ?_;rintro e w3 ⟨g3,rfl,R3,S3,jW,fH,fO,aH⟩;have jX:=Z aH;have fP:=Z fO;have lS:=Z (show ∀y,R3 y→j.heap.size<=y from λy f=>(fH y f).1);have jY:=Z (show ∀y,Sb y→y<j.heap.size from jV.o.lt);have lT:=Z (show ∀y,R y→y<j.heap.size from λy f=>by have o:=(HR.o y f).1;have l:=ay.o;have h3:=bK.o;have h4:=aK.o;omega);have lU:=Z (show ∀y,R y→¬Sb y from λy f v=>by
      rcases aP.o y v with h|h|h
      .exact ai.o.1 (h▸f)
      .exact kJ.o y f h
      .have o:=(HR.o y f).1;have l:=aO.o;have h3:=bK.o;have h4:=aK.o;omega)
     have lV:=Z (xK U N (by omega) eX.o (d+2+h+1001) (by have:=HI.o.dh;omega) (λy=>R y∨(R3 y∧y<w3.heap.size)) all (cZ all wants) g3 ba S3 Sb w3
      (jW.mono (λb v h=> .inr ⟨h,v⟩)) ((jV.o.X aH nE nE).mono (λb v h=> .inl h)) (λy f v=>by have o:=fO y f;have l:=jY.o y v;omega)
      (λy f ho=>by
       rcases f with f|f<;>rcases ho with ho|ho
       .have o:=fO y f;have l:=lT.o y ho;omega
       .exact(fH y ho.1).2 f
       .exact lU.o y ho f
       .have o:=(fH y ho.1).1;have l:=jY.o y f;omega)
      (df.o.mono (λ_ h=>h) lR' (Nat.le_add_right _ _)) lQ.o)
     clear jW fH fO aH;go_wp2_with fail;refine lV.o.mono ?_;rintro e w4 ⟨rfl,S',jZ,aT,Q⟩;have lW:=Z Q;have ku:=Z (show O (·∈B) w w4 from by
      have o:O (·∈B) w j:=(dm.o.mono (λ_ _ e=>e.elim)).trans aY.o.X (λx C e=>by
       rcases e with e|e
       .have l:=aK.o;have h3:=aX.o.size;omega
       .exact e)
      refine(o.trans' jX.o).trans Q (λx C e=> ?_);rcases e with e|e
      .have l:=fP.o x e;have h3:=o.size;omega
      .rcases aP.o x e with h|h|h
       .have l:=aK.o;have h3:=aX.o.size;omega
       .have:=HS.o x h;omega
       .have l:=aO.o;have h3:=dm.o.size;omega)
     have lY:=Z jZ;have lZ:=Z (show ∀y,S' y→w.heap.size<=y from λy f=>by
      have h9:=dm.o.size;have h8:=ay.o;rcases aT y f with e|e
      .have l:=fP.o y e;omega
      .rcases aP.o y e with h|h|h
       .have l:=aK.o;have h3:=aX.o.size;omega
       .exact HS.o y h
       .have l:=aO.o;omega)
     have jc:=Z (E.o.hp.X ku.o E.o.lH.1);have k1:w4.cell? ⟨p,1,none⟩=some mv:=jc.o.cell 1;have f1:=jc.o.frozen 1;clear jZ aT Q;go_upto_region 46 with fail
     generalize aQ:World.setCell _ _ _=W;obtain⟨aj,A, -⟩:=jc.o.setCell 1 (.map (some g3));rw[aQ] at aj A;have gY:=Z aj;have aS:=Z A;clear aQ aj A k1 f1;go_wp2;go_ret;rw[cO.o];have hH:=E.o;have mX:=hH.lt (.inl rfl);have A:=aS.o;have Q:=ku.o;have mY:=dm.o.size;refine⟨rfl,(Q.mono (λ_ _ e=> .inr e)).trans A (λx _ e=> .inl e),?_⟩;have jd:∀b,ok b→¬b∈B:=λb v=>(hH.no b v).2.2
     have fQ:∀b,ok b→¬b=p:=λb v=>(hH.no b v).1
     refine .mk gY.o (.inr (.inl rfl)) ((hH.hm.X Q hH.lH.2.1).X A (λe=>hH.lH.2.2 (Eq.symm e))) (.inr (.inr (.inl rfl))) (.inr ⟨_,g3,rfl,rfl,?_⟩) (((hH.hd.X Q jd).X A fQ).mono (λ_ _ e=> .inl e) (by decide)) hH.hn
      (λi q d' o l=>(((hH.yI i q d' o l).X Q jd).X A fQ).mono (λ_ _ e=> .inl e)) (((hH.hw.X Q jd).X A fQ).mono (λ_ _ e=> .inl e) (by decide)) (by rw[List.length_map];exact hH.nS) (λi q x o l=> ?_)
     .have l7:∀x,(λy=>y=p) x→Ef w4 x:=λx C=>by
       have T:x=p:=C;subst T;exact(hH.Nj (.inl rfl)).X Q hH.lH.1
      refine((lY.o.vV.off l7).X A (λb v e=>v.2 e)).mono (λb v l9=> ?_);rcases l9.1 with(h|h)|h
      .rcases(kH.o b h).2 with⟨h|h|h, -⟩|h
       .exact .inl h
       .exact .inr (.inl h)
       .exact .inr (.inr (.inl h))
       .exact .inr (.inr (.inr (.inr h)))
      .exact .inr (.inr (.inr (.inr (by have o:=lS.o b h.1;have:=ay.o;omega))))
      .exact .inr (.inr (.inr (.inr (lZ.o b h))))
     .rw[List.getElem?_map] at l;cases C:wants[i]? with
      |none=>rw[C] at l;cases l
      |some y=>
       rw[C] at l;cases l;have au:=mG' o;have gG:=hH.lt (.inr (.inr au));have mf:=aY.o.done i q y ((gS'.1 C).1) o C;have mZ:=aK.o;have ng:=aX.o.size;refine⟨.inr (.inr (.inr (.inl au))),(((((mf.mono (ok':=λb=>(ok b∨(w2.heap.size<=b∧b<I))∧b<j.heap.size) (λb v e=>⟨e,v⟩)).X jX.o nE id).X lW.o (λb v e=> ?_) (λe=> ?_)).X A (λb v e=> ?_) (λe=>hH.lH.1 ((show q=p from e)▸au))).mono (λb _ v=> ?_))⟩
       .rcases e with e|e
        .have:=fP.o b e;omega
        .rcases v.1 with V|V
         .have h9:=jh.o b V;rcases aP.o b e with h|h|h
          .exact ai.o.2.2.2 (h▸V)
          .have:=HS.o b h;omega
          .have:=aO.o;omega
         .rcases aP.o b e with h|h|h
          .have:=bK.o;omega
          .have h3:=jm.o b h;have:=bK.o;omega
          .omega
       .rcases e with e|e
        .have h3:=fP.o q e;have:=ay.o;omega
        .rcases aP.o q e with h|h|h
         .omega
         .have:=HS.o q h;omega
         .have:=aO.o;omega
       .have T:b=p:=e;rcases v.1 with V|V
        .exact fQ b V T
        .omega
       .rcases v.1 with V|V
        .exact .inl V
        .exact .inr (.inr (.inr (.inr (by omega))))
end Go.Proofs.YtljaoopfomcaoaaGreatDoor
