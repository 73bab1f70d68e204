/- A part of the proof. -/
import Derived.Test.YtljaoopfomcaoaaGreatDoorMc11
import Derived.ReadAgain
import Derived.Deep.Slices
import Derived.Deep.Strs
import Derived.ChangeBears
import Derived.RowKit
import Derived.SizedLaws
set_option linter.unusedVariables false
set_option linter.unusedSimpArgs false
set_option maxRecDepth 100000
set_option maxHeartbeats 4000000
namespace Go.Proofs.YtljaoopfomcaoaaGreatDoor
open Go.RowKit
def Ar(P:(ae)→World→Y→Prop):Prop:=∀(ok S:ae)(w w':World)(c:Y),P ok w c→O S w w'→(∀b,ok b→¬S b)→P ok w' c
structure GX (ty n:Nat) (base:ae) (P:(ae)→World→Y→Prop) (W:World) (ia is:Nat) (γ:Option Nat) (done:Nat→Bool) (w:World):Prop where
 X:O No W w
 iff:done ia=γ.isSome
 box:∀t,γ=some t→W.heap.size<=t∧∃c,ay w t c ty∧c.length=n∧(done is=true→P (bz base W.heap.size γ) w c)
section
variable {ty n:Nat} {base:ae} {P:(ae)→World→Y→Prop} {W:World} {ia is:Nat} {γ:Option Nat} {done:Nat→Bool} {w w':World}
theorem GX.start(ty n:Nat)(base:ae)(P:(ae)→World→Y→Prop)(W:World)(ia is:Nat):GX ty n base P W ia is none (λ_=>false) W.drew:=⟨(O.refl _ W).drew,rfl,λt h=>by cases h⟩
theorem GX.other(h:GX ty n base P W ia is γ done w)(b:Ar P){i:Nat}(d:i≠ia)(f:i≠is)(a:O No w w'):GX ty n base P W ia is γ (dn done i) w':=by refine⟨h.X.trans' a,by rw[fH d];exact h.iff,λt g=> ?_⟩;obtain⟨j,c,k,l,m⟩:=h.box t g;exact⟨j,c,k.X a id,l,λe=>b _ _ _ _ _ (m (by rwa[fH f] at e)) a nE⟩
theorem GX.qH(h:GX ty n base P W ia is γ done w)(b:done ia=false):γ=none:=by
 have a:=h.iff;rw[b] at a;cases γ with
 |none=>rfl
 |some t=>cases a
theorem GX.fresh(h:GX ty n base P W ia is γ done w){b:Nat}(a:w.heap.size<=b):bz base W.heap.size γ b:=by refine .inr ⟨Nat.le_trans h.X.size a,λe=> ?_⟩;obtain⟨-,c,d, -⟩:=h.box b e;have:=d.lt;omega
theorem GX.lay(h:GX ty n base P W ia is none done w){z:Y}(a:z.length=n)(b:ia≠is)(c:done is=false):GX ty n base P W ia is (some w.heap.size) (dn done ia) (w.alloc (.cells z.toArray ty)):=by refine⟨h.X.alloc _,by rw[rE];rfl,λt d=> ?_⟩;cases d;exact⟨h.X.size,z,ay.new _ _ _,a,λe=>by rw[fH b,c] at e;cases e⟩
theorem GX.put{t:Nat}{c:Y}(h:GX ty n base P W ia is (some t) done w)(g:Ar P)(j:ia≠is)(d:O (·=t) w w')(a:ay w' t c ty)(k:c.length=n)(l:P (bz base W.heap.size (some t)) w c):GX ty n base P W ia is (some t) (dn done is) w':=by have f:=(h.box t rfl).1;refine⟨h.X.trans d (λi o e=>by omega),by rw[fH j.symm];exact h.iff,λp m=> ?_⟩;cases m;exact⟨f,c,a,k,λ_=>g _ _ _ _ _ l d (λb a e=>bI f a e)⟩
end
def uK(ok:ae)(w:World)(v:Value)(b:List Want):Prop:=
 ∃a:List (Y),aC ok w v 7 a∧a.length=b.length∧∀(n:Nat)(r:Y)(y:Want),a[n]?=some r→b[n]?=some y→dF ok w r y
theorem dF.Ii{ok S:ae}{w w':World}{r:Y}{y:Want}(h:dF ok w r y)(a:O S w w')(c:∀b,ok b→¬S b):dF ok w' r y:=by obtain⟨d,e,f,g,i⟩:=h;exact⟨d,e,f,g.X a c,i.X a c⟩
theorem dF.xP{ok ok':ae}{w:World}{r:Y}{y:Want}(h:dF ok w r y)(a:∀b,b<w.heap.size→ok b→ok' b):dF ok' w r y:=by obtain⟨c,d,e,f,g⟩:=h;exact⟨c,d,e,f.mono a (by decide),g.mono a (by decide)⟩
theorem uK.X{ok S:ae}{w w':World}{v:Value}{c:List Want}(h:uK ok w v c)(d:O S w w')(e:∀b,ok b→¬S b):uK ok w' v c:=by obtain⟨f,g,i,j⟩:=h;exact⟨f,g.X d e,i,λn r y a b=>(j n r y a b).Ii d e⟩
theorem uK.mono{ok ok':ae}{w:World}{v:Value}{c:List Want}(h:uK ok w v c)(d:∀b,b<w.heap.size→ok b→ok' b):uK ok' w v c:=by obtain⟨e,f,g,i⟩:=h;exact⟨e,f.mono d (by decide),g,λn r y a b=>(i n r y a b).xP d⟩
def PB(c:Ch)(ok:ae)(w:World)(cs:Y):Prop:=
 ∃k b i f t a d e,cs=az c.name c.version k b i f t a d (.slice none 0 0) e∧aG ok w (ai k b i f t a d) c.vals∧uK ok w e c.wants
theorem PB.X{c:Ch}{ok S:ae}{w w':World}{cs:Y}(h:PB c ok w cs)(a:O S w w')(d:∀b,ok b→¬S b):PB c ok w' cs:=by obtain⟨k,b,i,f,t,e,g,j,l,m,n⟩:=h;exact⟨k,b,i,f,t,e,g,j,l,m.X a d,n.X a d⟩
theorem PB.mono{c:Ch}{ok ok':ae}{w:World}{cs:Y}(h:PB c ok w cs)(a:∀b,b<w.heap.size→ok b→ok' b):PB c ok' w cs:=by obtain⟨k,b,i,f,t,d,e,g,j,l,m⟩:=h;exact⟨k,b,i,f,t,d,e,g,j,l.mono a,m.mono a⟩
theorem PB.one{c:Ch}{ok:ae}{w:World}{cs:Y}(h:PB c ok w cs):cs.length=11∧cs.all (·.oneCell')=true:=by obtain⟨k,b,i,f,t,n,o,p,rfl,j,l⟩:=h;obtain⟨q,m, -⟩:=l;obtain⟨-, -,a,r,rfl, -⟩:=m;have d:=j.one;refine⟨rfl,?_⟩;simp only[ai,List.all_cons,List.all_nil,Bool.and_true,Bool.and_eq_true] at d;obtain⟨-, -, -, -, -,e,g⟩:=d;simp[az,Value.oneCell'] at e g⊢;exact⟨e,g⟩
def Fact.wr(ok:ae)(a:List Want):Fact:=
 ⟨λv w=>∃u:Value,v=u∧uK ok w u a,λS _=>∀b,ok b→¬S b,
  λS v w w' h c d=>by obtain⟨u,f,h⟩:=h;exact⟨u,f,h.X c d⟩,λ_ _ _ e=>e⟩
def Fact.pb(ok:ae)(c:Ch):Fact:=
 ⟨λv w=>∃cs:Y,v=.agg cs.toArray∧PB c ok w cs,λS _=>∀b,ok b→¬S b,
  λS v w w' h a d=>by obtain⟨u,f,h⟩:=h;exact⟨u,f,h.X a d⟩,λ_ _ _ e=>e⟩
theorem Jg(n v:K)(k:Int)(b:Bool)(i:Int)(f:Nat)(t:K)(d e:Value)(a:Option Addr)(m c:Nat)(g:d.oneCell'=true)(h:e.oneCell'=true)(w:World):(Instr.build 30 #[(0,.string n),(1,.string v),(2,.agg (ai k b i f t d e).toArray),(4,.slice a m c)]).run Tryz.prog w=
  .ok (.agg (az n v k b i f t d e (.slice none 0 0) (.slice a m c)).toArray) w:=by kernel_rfl
abbrev LP:Y:=[.string ByteArray.empty,.string ByteArray.empty,.string ByteArray.empty,.string ByteArray.empty,.slice none 0 0,.bool false,.slice none 0 0]
theorem Jh(n v c a:K)(e:Bool)(w:World):(Instr.build 79 #[(0,.string n),(1,.string v),(2,.string c),(3,.string a),(5,.bool e)]).run Tryz.prog w=
  .ok (.agg #[.string n,.string v,.string c,.string a,.slice none 0 0,.bool e,.slice none 0 0]) w:=by kernel_rfl
theorem Hf(c p:K)(w:World):(Instr.build 110 #[(1,.string c),(2,.string p),(3,.bool true)]).run Tryz.prog w=.ok (.agg #[.string ByteArray.empty,.string c,.string p,.bool true]) w:=by kernel_rfl
structure CX (W:World) (g B:Nat) (mk:Value→Y) (xs:List Ch) (wr:World) (n:Nat) (v:Value) (rows:List (Y)):Prop where
 le:n<=xs.length
 jh:ay wr g (mk v) 30
 own:aB wr B 30 11 v rows
 len:rows.length=n
 val:∀(i:Nat)(r:Y)(x:Ch),rows[i]?=some r→xs[i]?=some x→dU (okF B v) wr r x
 X:O (·=g) W wr
 hB:g<B∧B<=wr.heap.size∧W.heap.size<=B
theorem CX.step{W:World}{g B:Nat}{mk:Value→Y}{xs:List Ch}{wr:World}{n:Nat}{v:Value}{c:List (Y)}(h:CX W g B mk xs wr n v c){x:Ch}(m:xs[n]?=some x){o w2:World}(p:O No wr o)
  (f:AC g B mk v c x o w2 true true):∃v' z,CX W g B mk xs w2 (n+1) v' z:=by
 obtain⟨v',a, -,A⟩:=f.box;obtain⟨cs,C,D,E⟩:=A rfl;have F:n<xs.length:=(gS'.1 m).1;have G:∀k,v.ownBlock=some k→B<=k∧k<wr.heap.size:=λk q=>⟨(h.own.elem q).1,(h.own.elem q).2.1⟩
 have L:=p.size;have M:=f.X.size;have s:=h.hB;have t:O (λb=>b=g∨v.ownBlock=some b) wr w2:=(p.mono (λ_ _ e=>e.elim)).trans f.X nE;have H:∀b,b<wr.heap.size→okF B v b→okF B v' b:=λb a u=>⟨u.1,λe=>by
  rcases E with j|j
  .exact u.2 (j▸e)
  .have:=j b e;omega⟩
 have I:∀b,okF B v b∧b<wr.heap.size→¬(b=g∨v.ownBlock=some b):=λb a e=>by
  rcases e with e|e
  .have:=a.1.1;omega
  .exact a.1.2 e
 refine⟨v',c++[cs],F,a,C,by simp[h.len],λi r y d l=> ?_,h.X.trans t (λi w e=> ?_),⟨s.1,by omega,s.2.2⟩⟩
 .by_cases w:i<c.length
  .rw[List.getElem?_append_left w] at d;exact(((h.val i r y d l).mono (ok':=λb=>okF B v b∧b<wr.heap.size) (λb a J=>⟨J,a⟩)).X t I).mono (λb _ a=>H b a.2 a.1)
  .have K:i=c.length:=by
    have:=(gS'.1 d).1;simp at this;omega
   subst K;rw[List.getElem?_append_right lR',Nat.sub_self] at d;cases d;rw[h.len,m] at l;cases l;exact D.mono (λb _ a=>⟨by have:=a.1;omega,a.2⟩)
 .rcases e with e|e
  .exact e
  .have:=(G i e).1;omega
structure WB (w:World) (xs:List Want) (wr:World) (n:Nat) (v:Value) (rows:List (Y)):Prop where
 le:n<=xs.length
 own:aB wr w.heap.size 79 7 v rows
 len:rows.length=n
 val:∀(i:Nat)(r:Y)(x:Want),rows[i]?=some r→xs[i]?=some x→dF (λb=>w.heap.size<=b∧v.ownBlock≠some b) wr r x
 X:O No w wr
theorem WB.step{w:World}{xs:List Want}{wr:World}{n:Nat}{v:Value}{d:List (Y)}(h:WB w xs wr n v d){x:Want}(p:xs[n]?=some x){f w6:World}{r:Y}{v':Value}(j:O No wr f)(u:dF (λb=>wr.heap.size<=b∧b<f.heap.size) f r x)
  (l:O (λb=>v.ownBlock=some b) f w6) (z:aB w6 w.heap.size 79 7 v' (d++[r])) (q:v'.ownBlock=v.ownBlock∨∀k,v'.ownBlock=some k→f.heap.size<=k):WB w xs w6 (n+1) v' (d++[r]):=by
 have m:∀k,v.ownBlock=some k→w.heap.size<=k∧k<wr.heap.size:=λk s=>⟨(h.own.elem s).1,(h.own.elem s).2.1⟩
 have C:=j.size;have D:=h.X.size;refine⟨(gS'.1 p).1,z,by simp[h.len],λi A y g o=> ?_,(h.X.trans' j).trans l (λi t e=>by have:=(m i e).1;omega)⟩;by_cases t:i<d.length
 .rw[List.getElem?_append_left t] at g;refine((((h.val i A y g o).xP (ok':=λb=>(w.heap.size<=b∧v.ownBlock≠some b)∧b<wr.heap.size) (λb a e=>⟨e,a⟩)).Ii j nE).Ii l (λb a e=>a.1.2 e)).xP (λb _ a=>⟨a.1.1,λe=> ?_⟩);rcases q with c|c
  .exact a.1.2 (c▸e)
  .have:=c b e;have:=a.2;omega
 .have B:i=d.length:=by
   have:=(gS'.1 g).1;simp at this;omega
  subst B;rw[List.getElem?_append_right lR',Nat.sub_self] at g;cases g;rw[h.len,p] at o;cases o;refine(u.Ii l (λb a e=>by have:=(m b e).2;have:=a.1;omega)).xP (λb _ a=>⟨by have:=a.1;omega,λe=> ?_⟩);rcases q with c|c
  .have:=(m b (c▸e)).2;have:=a.1;omega
  .have:=c b e;have:=a.2;omega
theorem Au{ok:ae}{w:World}{wv:Value}{M:List Nat}{wants:List Want}(hw:aC ok w wv 1 (aF M))(hl:M.length=wants.length)(hx:∀(i q:Nat)(x:Want),M[i]?=some q→wants[i]?=some x→pW ok w q x)(hr:∀x∈wants,mF x)(bZ:wants.length<=40):
  Calls Tryz.prog 89 #[wv] w λe w'=>∃v,e=.returned v∧uK (λb=>w.heap.size<=b) w' v wants∧O No w w':=by
 have HW:=Z (hw.mono (ok':=okB ok w) (λb H h=>⟨h,H⟩) (by decide));have HL:=Z hl;have HX:=Z hx;have HR:=Z hr;have eu:=Z bZ;have gq:M.length<=40:=(by omega);obtain⟨-, -,wa,wc,rfl, -, -⟩:=hw;have aA:(aF M).length=M.length:=(by simp[aF]);rw[aA] at HW⊢;have cu:=Z (show WB w wants w 0 (.slice none 0 0) [] from⟨zL',aB.nil _ _ _ _,rfl,λi r x h=>by simp at h,O.refl _ _⟩);clear hl hx hr bZ aA;go_enter Tryz.func89,Tryz.ntmps89;go_wp2_with fail;go_loopw [3,18] (λvt ct wr=>∃(n:Nat) (aO:List (Y)),ct=.int .i64 n∧WB w wants wr n vt aO) (λ_ ct _=>M.length - (intOf ct).toNat)
 case atStart=>exact⟨0,[],rfl,cu.o⟩
 case round=>
  clear cu;obtain⟨n,aO,rfl,aZ⟩:=hrel;obtain⟨wx,rfl⟩:∃wx,wx=wr:=⟨_,rfl⟩;obtain⟨va,vc,rfl⟩:=aZ.own.dY;have I:=Z aZ;clear aZ;by_cases cO:n<M.length
  .obtain⟨q,hq⟩:=gX' M n (cO);obtain⟨x,hx⟩:=gX' wants n ((by rw[←HL.o];exact cO));have bf:=HW.o;have aA:(aF M).length=M.length:=(by simp[aF]);rw[←aA] at bf;obtain⟨lb,lo,rfl,aQ,U⟩:=bf.at (i:=n) (r:=[ptr q]) (by simp[hq]);have U:=(U.X I.o.X id).one;simp only[Nat.mul_one] at U;obtain⟨gu,tv,iv,Q,bg,bn,bu,cZ,aG⟩:=HX.o n q x hq hx;obtain⟨ta,tn,tc,rfl⟩:∃a k c,tv=.slice a k c:=by obtain⟨-, -,a,c,h, -⟩:=bn;exact⟨_,_,_,h⟩
   obtain⟨ia,ic,rfl⟩:∃a c,iv=.slice a Q.length c:=by obtain⟨-, -,a,c,h, -⟩:=bu;rw[List.length_map] at h;exact⟨_,_,h⟩
   have eF:=Z bg.lt;have aj:=Z (bg.X I.o.X id);have eG:=Z (((bn.mono (ok':=okB ok w) (λb H h=>⟨h,H⟩) (by decide))).X I.o.X nE);have eH:=Z (((bu.mono (ok':=okB ok w) (λb H h=>⟨h,H⟩) (by decide))).X I.o.X nE);have bz:=Z cZ;have eP:=Z (λn u i N T=>((aG n u i N T).mono (ok':=okB ok w) (λb H h=>⟨h,H⟩)).X I.o.X nE);have eU:=Z hx;have dh:=Z (HR.o x (mG' hx));have bC:=Z (show w.heap.size<=wx.heap.size from I.o.X.size);have G:=Z (show Ar (λ_ _ cs=>cs=(aI x (.slice none 0 0) (.slice none 0 0))) from λok S w w' c h _ _=>h);have aS:(n:Int)<(M.length:Int):=(by omega);clear hq hx bf aA bg bn bu cZ aG aQ;go_upto_region 5 with fail
   clear U aS;refine eQ (λF=>FI [.eq (ptr q),.eq (ptr q),.eq (.pointer (some ⟨q,0,none⟩)),.eq (.string x.name),.eq (ptr q),.eq (ptr q),.eq (.pointer (some ⟨q,1,none⟩)),.eq (.string x.version),.eq (ptr q),.eq (ptr q),.eq (.pointer (some ⟨q,3,none⟩)),.eq (.string x.condition),.eq (ptr q),.eq (ptr q),.eq (.pointer (some ⟨q,7,none⟩)),.eq (.string x.bF),.eq (ptr q),.eq (ptr q),.eq (.pointer (some ⟨q,5,none⟩)),.eq (.bool x.enabled),.eq (.agg (aI x (.slice none 0 0) (.slice none 0 0)).toArray),.box F,.any])
    (λF D w'=>GX 79 7 (λ_=>False) (λ_ _ cs=>cs=(aI x (.slice none 0 0) (.slice none 0 0))) wx 21 22 F D w') (by kernel_rfl) (by kernel_rfl) none (GX.start _ _ _ _ _ _ _) ?_ ?_
   .refine⟨?_,?_,?_,?_,?_,?_,?_,?_,?_,?_,?_,?_,?_,?_,?_,?_,?_,?_,?_,?_,?_,?_,?_,trivial⟩
    .intro F D a B K C y d s o p A;have e5:a.tmps[5]?.getD undef=ptr q:=s 5 rfl;clear y d s o;go_simp;exact A _ _ _ rfl (p.other G.o (by decide) (by decide) (O.refl _ _)) Sy
    .intro F D a B K C y d s o p A;have gy:=fq (d 0 22 rfl (o 0 rfl));clear y d s o;go_simp;exact A _ _ _ rfl (p.other G.o (by decide) (by decide) (O.refl _ _)) Sy
    .intro F D a B K C y d s o p A;have gz:=fq (d 1 23 rfl (o 1 rfl));clear y d s o;go_simp;exact A _ _ _ rfl (p.other G.o (by decide) (by decide) (O.refl _ _)) Sy
    .intro F D a B K C y d s o p A;have gB:=fq (d 2 24 rfl (o 2 rfl));have c0:B.cell? ⟨q,0,none⟩=some (.string x.name):=(aj.o.X p.X id).cell 0;clear y d s o;go_simp;exact A _ _ _ rfl (p.other G.o (by decide) (by decide) (O.refl _ _)) Sy
    .intro F D a B K C y d s o p A;have e5:a.tmps[5]?.getD undef=ptr q:=s 5 rfl;clear y d s o;go_simp;exact A _ _ _ rfl (p.other G.o (by decide) (by decide) (O.refl _ _)) Sy
    .intro F D a B K C y d s o p A;have gG:=fq (d 4 26 rfl (o 4 rfl));clear y d s o;go_simp;exact A _ _ _ rfl (p.other G.o (by decide) (by decide) (O.refl _ _)) Sy
    .intro F D a B K C y d s o p A;have gI:=fq (d 5 27 rfl (o 5 rfl));clear y d s o;go_simp;exact A _ _ _ rfl (p.other G.o (by decide) (by decide) (O.refl _ _)) Sy
    .intro F D a B K C y d s o p A;have gJ:=fq (d 6 28 rfl (o 6 rfl));have c0:B.cell? ⟨q,1,none⟩=some (.string x.version):=(aj.o.X p.X id).cell 1;clear y d s o;go_simp;exact A _ _ _ rfl (p.other G.o (by decide) (by decide) (O.refl _ _)) Sy
    .intro F D a B K C y d s o p A;have e5:a.tmps[5]?.getD undef=ptr q:=s 5 rfl;clear y d s o;go_simp;exact A _ _ _ rfl (p.other G.o (by decide) (by decide) (O.refl _ _)) Sy
    .intro F D a B K C y d s o p A;have gK:=fq (d 8 30 rfl (o 8 rfl));clear y d s o;go_simp;exact A _ _ _ rfl (p.other G.o (by decide) (by decide) (O.refl _ _)) Sy
    .intro F D a B K C y d s o p A;have gQ:=fq (d 9 31 rfl (o 9 rfl));clear y d s o;go_simp;exact A _ _ _ rfl (p.other G.o (by decide) (by decide) (O.refl _ _)) Sy
    .intro F D a B K C y d s o p A;have gU:=fq (d 10 32 rfl (o 10 rfl));have c0:B.cell? ⟨q,3,none⟩=some (.string x.condition):=(aj.o.X p.X id).cell 3;clear y d s o;go_simp;exact A _ _ _ rfl (p.other G.o (by decide) (by decide) (O.refl _ _)) Sy
    .intro F D a B K C y d s o p A;have e5:a.tmps[5]?.getD undef=ptr q:=s 5 rfl;clear y d s o;go_simp;exact A _ _ _ rfl (p.other G.o (by decide) (by decide) (O.refl _ _)) Sy
    .intro F D a B K C y d s o p A;have gV:=fq (d 12 34 rfl (o 12 rfl));clear y d s o;go_simp;exact A _ _ _ rfl (p.other G.o (by decide) (by decide) (O.refl _ _)) Sy
    .intro F D a B K C y d s o p A;have gW:=fq (d 13 35 rfl (o 13 rfl));clear y d s o;go_simp;exact A _ _ _ rfl (p.other G.o (by decide) (by decide) (O.refl _ _)) Sy
    .intro F D a B K C y d s o p A;have gY:=fq (d 14 36 rfl (o 14 rfl));have c0:B.cell? ⟨q,7,none⟩=some (.string x.bF):=(aj.o.X p.X id).cell 7;clear y d s o;go_simp;exact A _ _ _ rfl (p.other G.o (by decide) (by decide) (O.refl _ _)) Sy
    .intro F D a B K C y d s o p A;have e5:a.tmps[5]?.getD undef=ptr q:=s 5 rfl;clear y d s o;go_simp;exact A _ _ _ rfl (p.other G.o (by decide) (by decide) (O.refl _ _)) Sy
    .intro F D a B K C y d s o p A;have gZ:=fq (d 16 38 rfl (o 16 rfl));clear y d s o;go_simp;exact A _ _ _ rfl (p.other G.o (by decide) (by decide) (O.refl _ _)) Sy
    .intro F D a B K C y d s o p A;have ig:=fq (d 17 39 rfl (o 17 rfl));clear y d s o;go_simp;exact A _ _ _ rfl (p.other G.o (by decide) (by decide) (O.refl _ _)) Sy
    .intro F D a B K C y d s o p A;have ik:=fq (d 18 40 rfl (o 18 rfl));have c0:B.cell? ⟨q,5,none⟩=some (.bool x.enabled):=(aj.o.X p.X id).cell 5;clear y d s o;go_simp;exact A _ _ _ rfl (p.other G.o (by decide) (by decide) (O.refl _ _)) Sy
    .intro F D a B K C y d s o p A;have iq:=fq (d 3 25 rfl (o 3 rfl));have iw:=fq (d 7 29 rfl (o 7 rfl));have iy:=fq (d 11 33 rfl (o 11 rfl));have iC:=fq (d 15 37 rfl (o 15 rfl));have iD:=fq (d 19 41 rfl (o 19 rfl));have iE:=Jh;clear y d s o;go_simp;exact A _ _ _ rfl (p.other G.o (by decide) (by decide) (O.refl _ _)) Sy
    .intro F D a B K C y d s o p A;have di:=ny1 y 22 21 rfl C;have bD:=p.qH C;subst bD;have eX:=Z (p.lay (z:=LP) rfl (by decide) di);clear y d s o;clear di;go_simp;refine A (some B.heap.size) _ _ ⟨_,rfl,rfl⟩ eX.o ?_;refine λj J iF u E=> ?_
     match j,J with
     |0,_=>exact E
     |1,_=>exact E
     |2,_=>exact E
     |3,_=>exact E
     |4,_=>exact E
     |5,_=>exact E
     |6,_=>exact E
     |7,_=>exact E
     |8,_=>exact E
     |9,_=>exact E
     |10,_=>exact E
     |11,_=>exact E
     |12,_=>exact E
     |13,_=>exact E
     |14,_=>exact E
     |15,_=>exact E
     |16,_=>exact E
     |17,_=>exact E
     |18,_=>exact E
     |19,_=>exact E
     |20,_=>exact E
     |21,J=>exact absurd rfl J
     |22,_=>exact E
     |j+23,_=>exact E
    .intro F D a B K C y d s o p A;obtain⟨t9,rfl,e6⟩:=d 21 6 rfl (o 21 rfl);have eY:=fq (d 20 42 rfl (o 20 rfl));obtain⟨iG,c',H,fA, -⟩:=p.box t9 rfl;refine ax rfl ?_;refine dH dD rfl (vE e6) (vE eY) H fA (show(aI x (.slice none 0 0) (.slice none 0 0)).length=7 from rfl) rfl ?_;intro w3 bG hC fB;refine A (some t9) undef _ trivial (p.put G.o (by decide) hC bG rfl rfl) ?_;refine λj J _ u E=>E.keep hC (aV (i:=22) (λj hl J=> ?_) j J)
     match j,J with
     |0,_|1,_|2,_|3,_|4,_|5,_|6,_|7,_|8,_|9,_|10,_|11,_|12,_|13,_|14,_|15,_|16,_|17,_|18,_|19,_|20,_|21,_=>exact trivial
     |22,J=>exact absurd rfl J
     |j+23,_=>exact absurd hl (by simp)
   .intro F vs w2 aU bH p;obtain⟨g,bD,e6⟩:∃t,F=some t∧vs 21=.pointer (some ⟨t,0,none⟩):=aU 21 _ rfl (by decide);subst bD;obtain⟨dm,c9,dw, -,bI⟩:=p.box g rfl;have bI:=bI rfl;subst bI;have dA:=Z dw;have aW:=Z dm;have ak:=Z p.X;clear dw dm p aU bH;simp only[aX,Act.put,List.setIfInBounds_toArray,List.set_cons_succ,List.set_cons_zero,e6];clear e6;have dB:=Z (show ¬q=g from λe=>by have:=eF.o;have:=bC.o;have:=aW.o;omega);have dC:=Z (aj.o.X ak.o id);have fC:=Z (eG.o.X ak.o nE);have aJ:=Z (show ∀b,okB ok w b→¬b=g from λb H e=>by have:=H.2;have:=bC.o;have:=aW.o;omega);go_upto_region 6 with fail
    refine aT (FI [.eq (.pointer (some ⟨g,4,none⟩)),.eq (.slice none 0 0),.eq (ptr q),.eq (ptr q),.eq (.pointer (some ⟨q,4,none⟩)),.eq (.slice ta tn tc),.Mc w2.heap.size 9 (aH x.tags),.eq (.pointer (some ⟨g,4,none⟩)),.any])
     (λD w'=>rf g (λl=> [.string x.name,.string x.version,.string x.condition,.string x.bF,l,.bool x.enabled,.slice none 0 0]) 79 w2.heap.size 9 (aH x.tags) w2 w' (D 8)) (by kernel_rfl) (by kernel_rfl) (rf.start dA.o) ?_ ?_
    .refine⟨?_,?_,?_,?_,?_,?_,?_,?_,?_,trivial⟩
     .intro D a B K C y d s o p A;have e6:a.tmps[6]?.getD undef=ptr g:=s 6 rfl;clear y d s o;go_simp;exact A _ _ rfl (by simpa[dn] using p) Sy
     .intro D a B K C y d s o p A;have iH:=fq (d 0 43 rfl (o 0 rfl));have n8:=ny1 y 8 6 rfl (ny1 y 6 1 rfl C);have bJ:=p;rw[n8] at bJ;obtain⟨l',H,N, -⟩:=bJ.box;obtain rfl:=N rfl;have c0:B.cell? ⟨g,4,none⟩=some (.slice none 0 0):=H.cell 4;clear bJ H N n8;clear y d s o;go_simp;exact A _ _ rfl (by simpa[dn] using p) Sy
     .intro D a B K C y d s o p A;have e5:a.tmps[5]?.getD undef=ptr q:=s 5 rfl;clear y d s o;go_simp;exact A _ _ rfl (by simpa[dn] using p) Sy
     .intro D a B K C y d s o p A;have iI:=fq (d 2 45 rfl (o 2 rfl));clear y d s o;go_simp;exact A _ _ rfl (by simpa[dn] using p) Sy
     .intro D a B K C y d s o p A;have iJ:=fq (d 3 46 rfl (o 3 rfl));clear y d s o;go_simp;exact A _ _ rfl (by simpa[dn] using p) Sy
     .intro D a B K C y d s o p A;have iM:=fq (d 4 47 rfl (o 4 rfl));have c0:B.cell? ⟨q,4,none⟩=some (.slice ta tn tc):=(dC.o.X p.X dB.o).cell 4;clear y d s o;go_simp;exact A _ _ rfl (by simpa[dn] using p) Sy
     .intro D a B K C y d s o p A;have fD:=fq (d 1 44 rfl (o 1 rfl));have fE:=fq (d 5 48 rfl (o 5 rfl));have n8:=ny1 y 8 6 rfl C;rw[n8] at p;refine ax rfl ?_;refine uH iK rfl (vE fD) (vE fE) (fC.o.X p.X aJ.o) (by intro r hr;obtain⟨q, -,rfl⟩:=List.mem_map.1 hr;rfl) (by have:=dh.o.sm.tags.1;simp[aH];omega) (by decide) ?_;intro v' w3 R hc au;refine A _ _ ⟨R.lower p.X.size,au⟩ (by simpa[dn,n8] using p.df hc) (λ_ _ _ _ h=>h.aP hc)
     .intro D a B K C y d s o p A;have e6:a.tmps[6]?.getD undef=ptr g:=s 6 rfl;clear y d s o;go_simp;exact A _ _ rfl (by simpa[dn] using p) Sy
     .intro D a B K C y d s o p A;have fF:=fq (d 7 50 rfl (o 7 rfl));obtain⟨R,fG⟩:=d 6 49 rfl (o 6 rfl);rw[C] at p;obtain⟨l',H,N, -⟩:=p.box;obtain rfl:=N rfl;refine ax rfl ?_;refine iT rfl (vE fF) R.slice Tryz.sizeOf23 H (show 4<7 by decide) (by simp[Act.eval]) ?_;intro w3 bG dE fB;refine A undef _ trivial (by simpa[dn] using p.store (by decide) bG dE R fG) ?_;refine λj J _ u E=>E.keep dE (aV (i:=8) (λj hl J=> ?_) j J)
      match j,J with
      |0,_|1,_|2,_|3,_|4,_|5,_=>exact trivial
      |6,_=>exact λq hq hB=>by have e1:q=g:=hq;have h9:=dA.o.lt;omega
      |7,_=>exact trivial
      |8,J=>exact absurd rfl J
      |j+9,_=>exact absurd hl (by simp)
    .intro vs w3 aU bH p;have dF:=Z p;clear aU bH p;simp only[aX,Act.put,List.setIfInBounds_toArray,List.set_cons_succ,List.set_cons_zero];obtain⟨iO,dG, -,h6⟩:=dF.o.box;obtain⟨bK, -⟩:=h6 rfl;obtain⟨ua,un,uc,rfl⟩:=bK.slice;have P:O (·=g) w2 w3:=dF.o.X;have dI:=Z P;have dJ:=Z (show ay w3 g (aI x (.slice ua un uc) (.slice none 0 0)) 79 from dG);have dK:=Z bK;have fH:=Z ((eH.o.X ak.o nE).X P aJ.o);have fJ:=Z (λn u i N T=>((eP.o n u i N T).X ak.o nE).X P aJ.o);have q6:w3.cell? ⟨q,6,none⟩=some (.slice ia Q.length ic):=(dC.o.X P dB.o).cell 6;have iP:Q.length<=20:=by
      have h:=bz.o;have T:(uA x).imports.length=x.imports.length:=List.length_map _;have h3:=dh.o.kD;omega
     clear dG h6 bK P;go_wp2_with fail;go_loopw [56] (λct wr=>∃(m:Nat)(bM:Value),ct=.int .i64 m∧m<=Q.length∧ay wr g (aI x (.slice ua un uc) bM) 79∧aB wr w3.heap.size 110 4 bM (dS (x.imports.take m))∧O (·=g) w3 wr) (λct _=>Q.length - (intOf ct).toNat)
     case atStart=>exact⟨0,_,rfl,zL',dJ.o,by simpa[dS] using aB.nil w3 w3.heap.size 110 4,O.refl _ _⟩
     case round=>
      clear q6;obtain⟨m,bM,rfl,fK,az,R,af⟩:=hrel;obtain⟨L,rfl⟩:∃L,L=wr:=⟨_,rfl⟩;obtain⟨ja,jn,jc,rfl⟩:=R.slice;have fM:=Z az;have dL:=Z R;have fO:=Z af;have fP:=Z (show ¬(Value.slice ja jn jc).ownBlock=some g from λe=>R.iL (e':=79) (by decide) e ⟨_,az⟩);by_cases fQ:m<Q.length
      .obtain⟨u,E⟩:=gX' Q m (fQ);obtain⟨i,hi⟩:=gX' x.imports m ((by have h:=bz.o;omega));obtain⟨aG,dM,bm,nn,f,rfl,dN,dO,dP,dQ⟩:=fJ.o m u i E hi;have bP:=fH.o;have dR:(Q.map λu=> [u]).length=Q.length:=List.length_map _;rw[←dR] at bP;obtain⟨lb,lo,fV,aQ,U⟩:=bP.at (i:=m) (r:=[.iface 162 (.map (some bm))]) (by simp[E]);subst fV;have U:=(U.X af (aJ.o lb aQ)).one;simp only[Nat.mul_one] at U;have bQ:=dO.X af (aJ.o bm dN);have iQ:∀z,(Instr.typeAssert (.iface 162 (.map (some bm))) 20 9 true).run Tryz.prog z=.ok (.tuple #[.string ByteArray.empty,.bool false]) z:=λz=>by kernel_rfl
       have iR:∀z,(Instr.typeAssert (.iface 162 (.map (some bm))) 20 162 true).run Tryz.prog z=.ok (.tuple #[.map (some bm),.bool true]) z:=λz=>by kernel_rfl
       have iU:(Instr.lookup 162 (.map (some bm)) (.string ⟨#[99,104,105,108,100]⟩) false).run Tryz.prog L=.ok (.string i.child) L:=by rw[lX Tryz.underlying162 Tryz.zeroValue9 bQ (k:=⟨#[99,104,105,108,100]⟩) (by decide) false,show f ⟨#[99,104,105,108,100]⟩=_ from dP];rfl
       have iV:(Instr.lookup 162 (.map (some bm)) (.string ⟨#[112,97,114,101,110,116]⟩) false).run Tryz.prog L=.ok (.string i.parent) L:=by rw[lX Tryz.underlying162 Tryz.zeroValue9 bQ (k:=⟨#[112,97,114,101,110,116]⟩) (by decide) false,show f ⟨#[112,97,114,101,110,116]⟩=_ from dQ];rfl
       have iW:=Hf i.child i.parent;have HT:=Z (show dS (x.imports.take (m+1))=dS (x.imports.take m)++[[.string ByteArray.empty,.string i.child,.string i.parent,.bool true]] by rw[List.take_add_one,hi];simp[dS,dM,aG]);have y6:L.cell? ⟨g,6,none⟩=some (.slice ja jn jc):=az.cell 6;have bT:(dS (x.imports.take m)).length+1<=1099511627776:=by rw[List.length_map,List.length_take];omega
       have bU:w3.heap.size<=L.heap.size+1:=by have:=af.size;omega
       have aS:(m:Int)<(Q.length:Int):=(by omega);have fZ:([.string ByteArray.empty,.string i.child,.string i.parent,.bool true]:Y).length=4:=rfl;clear E hi dN dO bQ bP dR aQ af aG dM dP dQ;go_upto_region 22 with(first|(refine mQ (cs:=[.string ByteArray.empty,.string i.child,.string i.parent,.bool true]) rfl rfl rfl fZ ?_)|(at_builtin;refine aN rfl y8 rfl rfl (R.alloc _) rfl (aC.gX L [.string ByteArray.empty,.string i.child,.string i.parent,.bool true] 110 4 rfl) (by simp[Value.oneCell']) bT (by decide) (by simpa using bU) ?_;intro v' w6 ai P au bV;(obtain⟨sa,sn,sc,rfl⟩:=ai.slice);(have aK:=(fM.o.alloc (.cells #[.string ByteArray.empty,.string i.child,.string i.parent,.bool true] 110)).X P fP.o);(have k6:=aK.cell 6);(have f6:=aK.frozen 6);go_frame))
       generalize dU:World.setCell _ _ _=W;obtain⟨bW,aY, -⟩:=aK.setCell 6 (.slice sa sn sc);rw[dU] at bW aY;have HN:=Z (show ay W g (aI x (.slice ua un uc) (.slice sa sn sc)) 79∧aB W w3.heap.size 110 4 (.slice sa sn sc) (dS (x.imports.take (m+1)))∧O (·=g) w3 W from
        ⟨bW,by rw[HT.o];exact ai.X aY (λk hk e=>ai.iL (e':=79) (by decide) (hk.trans (congrArg some e)) ⟨_,aK⟩),((fO.o.trans' ((O.refl No L).alloc _)).trans P (λk hk e=>by have:=(dL.o.elem e).1;omega)).trans aY nE⟩)
       clear dU bW aY ai P au bV aK k6 f6 R az;go_wp2_with fail;go_roundw;case rel=>exact⟨m+1,_,by go_num,by omega,HN.o.1,HN.o.2.1,HN.o.2.2⟩
       case measure=>simp[intOf];omega
      .have gm:m=x.imports.length:=by
        have h:=bz.o;have T:(uA x).imports.length=x.imports.length:=List.length_map _;omega
       have aS:¬(m:Int)<(Q.length:Int):=(by omega);have dV:=Z (show aB L w3.heap.size 110 4 (.slice ja jn jc) (dS x.imports) by
        have h:=dL.o
        rwa[gm,List.take_length] at h)
       have iY:=ak.o.size;have bY:=Z (show O No wx L from(ak.o.trans dI.o (λk hk e=>by have e1:k=g:=e;have:=aW.o;omega)).trans af (λk hk e=>by have e1:k=g:=e;have:=aW.o;omega));have dW:=Z (dK.o.X af (λk hk e=>dK.o.lI (by decide) dJ.o (hk.trans (congrArg some e))));have dX:=I.o.own.X bY.o nE;have bT:aO.length+1<=1099511627776:=by have N:=I.o.len;have T:=I.o.le;have h3:=eu.o;omega
       have bU:w.heap.size<=L.heap.size+1:=by have N:=bC.o;have T:=bY.o.size;omega
       have dZ:(aI x (.slice ua un uc) (.slice ja jn jc)).length=7:=rfl;have ed:=az.cells;clear az R af fK;go_wp2_with (first|(with_reducible refine V rfl dD rfl rfl ed dZ ?_)|(refine fU (cs:=aI x (.slice ua un uc) (.slice ja jn jc)) rfl rfl rfl dZ ?_)|(at_builtin;refine aN rfl nU rfl rfl (dX.alloc _) rfl (aC.gX L (aI x (.slice ua un uc) (.slice ja jn jc)) 79 7 rfl) (by simp[aI,Value.oneCell']) bT (by decide) (by simpa using bU) ?_;intro v' w6 ai P au bV;go_frame));have HN:=Z (I.o.step eU.o (bY.o.alloc _) ⟨_,_,rfl,((dW.o.alloc _).rowAt.mono (λb H e=>⟨by have:=(dW.o.elem e).1;omega,H⟩) (by decide)),((dV.o.alloc _).rowAt.mono (λb H e=>⟨by have N:=(dV.o.elem e).1;have T:=dI.o.size;omega,H⟩) (by decide))⟩ P ai au);clear ai P au bV dX ed;go_roundw;case rel=>exact⟨n+1,_,by go_num,HN.o⟩
       case measure=>simp[intOf];omega
  .have gp:n=wants.length:=Nat.le_antisymm I.o.le (by rw[←HL.o];omega);have aS:¬(n:Int)<(M.length:Int):=(by omega);subst gp;go_wp2;go_ret;exact⟨_,rfl,⟨aO,I.o.own.rowAt.mono (λb _ h=>(I.o.own.elem h).1) (by decide),I.o.len,λi r x N T=>(I.o.val i r x N T).xP (λb _ h=>h.1)⟩,I.o.X⟩
theorem Ep{o:Oper}{a:Act}{w:World}{l:ag}{Q:ah}{m p q r:Operand}(s:o.op=.build 30 #[(0,m),(1,p),(2,q),(4,r)]){n v:K}{k:Int}{b:Bool}{i:Int}{f:Nat}{t:K}{c d:Value}{e:Option Addr}{g j:Nat}
  (u:a.eval m=.string n) (x:a.eval p=.string v) (y:a.eval q=.agg (ai k b i f t c d).toArray) (z:a.eval r=.slice e g j) (A:c.oneCell'=true) (B:d.oneCell'=true)
  (h:l (a.put o.dst (.agg (az n v k b i f t c d (.slice none 0 0) (.slice e g j)).toArray)) w):o.wp Tryz.prog a w l Q:=by
 have C:=Jg n v k b i f t c d e g j A B w;unfold Oper.wp;simp only[execOp,s,List.map_toArray,List.map_cons,List.map_nil,u,x,y,z,Sem.run_bind,C,Result.andThen_ok];exact h
theorem yU(w:World):Calls Tryz.prog 94 #[.iface 67 (.map none),.int .i64 0] w (rQ w .null):=by
 have a:=Ho (.map none);have b:=Hq (.map none);have c:=EI (.map none);have d:=Hr (.map none);have e:=BR (.map none);have f:=Ht (.map none);have g:=BU (.map none);have h:=EJ (.map none);have i:=EK (.map none);have j:=rP;have k:∀w,(Go.binOp BinOp.eql 20 (.iface 67 (.map none)) .nilIface).run Tryz.prog w=.ok (.bool false) w:=λw=>by kernel_rfl
 have l:∀(x:Operand) w,(eqGuard BinOp.eql 20 x (.const .nilIface) (.iface 67 (.map none)) .nilIface).run Tryz.prog w=.ok () w:=λx w=>by cases x<;>kernel_rfl
 go_enter Tryz.func94,Tryz.ntmps94;go_wp2;exact bodyPost_ret (bU rfl au rfl (ay.new w (ai 0 false 0 0 ⟨#[]⟩ (.slice none 0 0) (.slice none 0 0)) 26) rfl) rfl ⟨_,rfl,.null (dN _ _ _) (dN _ _ _),(O.refl _ _).alloc _⟩
theorem yV(w:World):Calls Tryz.prog 59 #[.iface 67 (.map none)] w (rQ w .null):=by
 have h:=Z (yU (w.alloc (.cells bu.toArray 26)));have a:=ay.new w bu 26;go_enter Tryz.func59,Tryz.ntmps59;go_wp2_with fail;refine h.o.mono ?_;rintro e n ⟨cs,rfl,c,d⟩;have j:=a.X d id;have f:=c.length;have k:=c.one;have l:=Z c;clear c;go_wp2_with (first|(with_reducible refine aA rfl au rfl rfl rfl j rfl f k ?_;intro w6 m g o));refine bodyPost_ret (bU rfl au rfl m f) rfl ⟨_,rfl,?_,(((O.refl No w).alloc _).trans' d).trans g (λi p e=>absurd e (by omega))⟩;refine((l.o.X g (λb a e=> ?_)).mono (λb _ a=> ?_))
 .simp at a;omega
 .simp at a;omega
theorem BC{ok:ae}{w:World}{d:Option Nat}{vals:J}(h:lG ok w (.map d) vals)(e:Wf 1900 50 vals):Calls Tryz.prog 59 #[.iface 67 (.map d)] w (rQ w vals):=by
 rcases h with⟨a,c⟩|⟨t,b,a,c,f⟩
 .cases c;rw[a];exact yV w
 .cases c;rw[a] at e⊢;exact qw 1900 (by decide) (by decide) f e
theorem Aw(L:Nat):∀(c:Ch)(ok:ae)(p:Nat)(w:World),iE ok w p c→BB L c→Calls Tryz.prog 49 #[ptr p] w (Ia w c):=by
 induction L with
 |zero=>intro c ok p w _ h;exact h.elim
 |succ L ih=>
  intro c ok p w hX hF;have hX:=hX.mono (ok':=okB ok w) (λb M h=>⟨h,M⟩);have bY:=hX.vX;cases hX with
  |@mk _ pm mv iI dv wv name af vals ak wants ps qs hp eG hm eH hv F hn h hw bZ N=>
  obtain⟨mp,rfl⟩:∃mp:Option Nat,mv=.map mp:=by rcases hv with⟨-,h⟩|⟨t,b, -,h, -⟩<;>exact⟨_,h⟩
  obtain⟨wa,wn,wc,rfl⟩:∃a k c,wv=.slice a k c:=by obtain⟨-, -,a,c,h, -⟩:=hw;exact⟨_,_,_,h⟩
  obtain⟨da,dc,rfl⟩:∃a c,dv=.slice a ps.length c:=by obtain⟨-, -,a,c,h, -⟩:=F;exact⟨a,c,by rw[h];simp[aF]⟩
  obtain⟨U,aJ⟩:∃U,U=w.alloc (.cells fZ.toArray 30):=⟨_,rfl⟩;have au:O No w U:=by rw[aJ];exact(O.refl _ _).alloc _
  have cu:U.heap.size=w.heap.size+1:=by rw[aJ];simp
  obtain⟨r0,aU⟩:∃r0,r0=w.heap.size:=⟨_,rfl⟩;have eP:=Z (show ay U r0 fZ 30 by rw[aJ,aU];exact ay.new _ _ _);have aN:=Z (And.intro aU cu);have eU:=Z au;have eX:=Z (bY.X au nE);have aW:=Z (hp.X au id);have cO:=Z (hm.X au id);have eY:=Z (hv.X au nE);have fA:=Z (hw.X au nE);have fB:=Z bZ;have fC:=Z (show ∀(i q:Nat)(x:Want),qs[i]?=some q→wants[i]?=some x→okB ok w q∧pW (okB ok w) U q x from λi q x P T=>⟨(N i q x P T).1,(N i q x P T).2.X au nE id⟩);have HD:=Z (F.X au nE);have HN:=Z hn;have HK:=Z (show ∀(i q:Nat)(d:Ch),ps[i]?=some q→ak[i]?=some d→iE (okB ok w) U q d from λi q d P T=>(h i q d P T).X au nE);have IH:=Z ih;have aY:=Z hF;have Q:=Z (show Ar (PB (.mk name af vals ak wants)) from λok S w w' c h W hs=>h.X W hs);have iJ:ps.length<=20:=by rw[hn];exact hF.2.2.2.1
  clear hp eG hm eH hv F hn h hw bZ N ih hF bY au cu;go_enter Tryz.func49,Tryz.ntmps49;go_upto_region 1 with fail
  generalize cZ:World.alloc _ _=dh;have di:dh=U:=by rw[aJ];exact cZ.symm
  rw[di];clear di;rw[←aU];clear aJ aU cZ;clear dh;refine eQ (λG=>FI [.eq (ptr p),.eq (.string name),.eq (ptr p),.eq (ptr p),.eq (ptr p),.eq (ptr pm),.eq (ptr pm),.eq (.pointer (some ⟨pm,1,none⟩)),.eq (.string af),.eq (ptr p),.eq (ptr p),.eq (.pointer (some ⟨p,1,none⟩)),.eq (.map mp),.eq (.iface 67 (.map mp)),.val (bz (λ_=>False) U.heap.size G) vals,.eq (ptr p),.eq (ptr p),.eq (ptr p),.eq (ptr pm),.eq (ptr pm),.eq (.pointer (some ⟨pm,2,none⟩)),.eq (.slice wa wn wc),.wr (bz (λ_=>False) U.heap.size G) wants,.pb (bz (λ_=>False) U.heap.size G) (.mk name af vals ak wants),.box G,.any])
   (λG H w'=>GX 30 11 (λ_=>False) (PB (.mk name af vals ak wants)) U 24 25 G H w') (by kernel_rfl) (by kernel_rfl) none (GX.start _ _ _ _ _ _ _) ?_ ?_
  .refine⟨?_,?_,?_,?_,?_,?_,?_,?_,?_,?_,?_,?_,?_,?_,?_,?_,?_,?_,?_,?_,?_,?_,?_,?_,?_,?_,trivial⟩
   .intro G H a E K F D v C s o A;have e0:a.tmps[0]?.getD undef=ptr p:=C 0 rfl;clear D v C s;go_simp;exact A _ _ _ rfl (o.other Q.o (by decide) (by decide) (O.refl _ _)) Sy
   .intro G H a E K F D v C s o A;have e6:=fq (v 0 6 rfl (s 0 rfl));refine ax rfl ?_;refine dW Tryz.call88 rfl (vE e6) (oh (eX.o.X o.X nE)) ?_;rintro e w3 ⟨rfl,bC⟩;obtain rfl:=bC.symm;exact⟨_,rfl,A G _ _ rfl (o.other Q.o (by decide) (by decide) (O.refl _ _)) Sy⟩
   .intro G H a E K F D v C s o A;have e0:a.tmps[0]?.getD undef=ptr p:=C 0 rfl;clear D v C s;go_simp;exact A _ _ _ rfl (o.other Q.o (by decide) (by decide) (O.refl _ _)) Sy
   .intro G H a E K F D v C s o A;have e8:=fq (v 2 8 rfl (s 2 rfl));clear D v C s;go_simp;exact A _ _ _ rfl (o.other Q.o (by decide) (by decide) (O.refl _ _)) Sy
   .intro G H a E K F D v C s o A;have e9:=fq (v 3 9 rfl (s 3 rfl));clear D v C s;go_simp;exact A _ _ _ rfl (o.other Q.o (by decide) (by decide) (O.refl _ _)) Sy
   .intro G H a E K F D v C s o A;have iK:=fq (v 4 10 rfl (s 4 rfl));have c0:E.cell? ⟨p,0,none⟩=some (ptr pm):=(aW.o.X o.X id).cell 0;clear D v C s;go_simp;exact A _ _ _ rfl (o.other Q.o (by decide) (by decide) (O.refl _ _)) Sy
   .intro G H a E K F D v C s o A;have iL:=fq (v 5 11 rfl (s 5 rfl));clear D v C s;go_simp;exact A _ _ _ rfl (o.other Q.o (by decide) (by decide) (O.refl _ _)) Sy
   .intro G H a E K F D v C s o A;have iM:=fq (v 6 12 rfl (s 6 rfl));clear D v C s;go_simp;exact A _ _ _ rfl (o.other Q.o (by decide) (by decide) (O.refl _ _)) Sy
   .intro G H a E K F D v C s o A;have iO:=fq (v 7 13 rfl (s 7 rfl));have c0:E.cell? ⟨pm,1,none⟩=some (.string af):=(cO.o.X o.X id).cell 1;clear D v C s;go_simp;exact A _ _ _ rfl (o.other Q.o (by decide) (by decide) (O.refl _ _)) Sy
   .intro G H a E K F D v C s o A;have e0:a.tmps[0]?.getD undef=ptr p:=C 0 rfl;clear D v C s;go_simp;exact A _ _ _ rfl (o.other Q.o (by decide) (by decide) (O.refl _ _)) Sy
   .intro G H a E K F D v C s o A;have iP:=fq (v 9 15 rfl (s 9 rfl));clear D v C s;go_simp;exact A _ _ _ rfl (o.other Q.o (by decide) (by decide) (O.refl _ _)) Sy
   .intro G H a E K F D v C s o A;have iQ:=fq (v 10 16 rfl (s 10 rfl));clear D v C s;go_simp;exact A _ _ _ rfl (o.other Q.o (by decide) (by decide) (O.refl _ _)) Sy
   .intro G H a E K F D v C s o A;have iR:=fq (v 11 17 rfl (s 11 rfl));have c0:E.cell? ⟨p,1,none⟩=some (.map mp):=(aW.o.X o.X id).cell 1;clear D v C s;go_simp;exact A _ _ _ rfl (o.other Q.o (by decide) (by decide) (O.refl _ _)) Sy
   .intro G H a E K F D v C s o A;have iU:=fq (v 12 18 rfl (s 12 rfl));clear D v C s;go_simp;exact A _ _ _ rfl (o.other Q.o (by decide) (by decide) (O.refl _ _)) Sy
   .intro G H a E K F D v C s o A;have fD:=fq (v 13 19 rfl (s 13 rfl));refine ax rfl ?_;refine dW Tryz.call59 rfl (vE fD) (BC (eY.o.X o.X nE) aY.o.1.1) ?_;rintro e w3 ⟨aj,rfl,I,W⟩;exact⟨_,rfl,A G _ _ ⟨aj,rfl,I.mono (λb _ M=>o.fresh M)⟩ (o.other Q.o (by decide) (by decide) W) (λ_ _ _ _ h=>h.aP W)⟩
   .intro G H a E K F D v C s o A;have e0:a.tmps[0]?.getD undef=ptr p:=C 0 rfl;clear D v C s;go_simp;exact A _ _ _ rfl (o.other Q.o (by decide) (by decide) (O.refl _ _)) Sy
   .intro G H a E K F D v C s o A;have iV:=fq (v 15 21 rfl (s 15 rfl));clear D v C s;go_simp;exact A _ _ _ rfl (o.other Q.o (by decide) (by decide) (O.refl _ _)) Sy
   .intro G H a E K F D v C s o A;have iW:=fq (v 16 22 rfl (s 16 rfl));clear D v C s;go_simp;exact A _ _ _ rfl (o.other Q.o (by decide) (by decide) (O.refl _ _)) Sy
   .intro G H a E K F D v C s o A;have iY:=fq (v 17 23 rfl (s 17 rfl));have c0:E.cell? ⟨p,0,none⟩=some (ptr pm):=(aW.o.X o.X id).cell 0;clear D v C s;go_simp;exact A _ _ _ rfl (o.other Q.o (by decide) (by decide) (O.refl _ _)) Sy
   .intro G H a E K F D v C s o A;have iZ:=fq (v 18 24 rfl (s 18 rfl));clear D v C s;go_simp;exact A _ _ _ rfl (o.other Q.o (by decide) (by decide) (O.refl _ _)) Sy
   .intro G H a E K F D v C s o A;have ja:=fq (v 19 25 rfl (s 19 rfl));clear D v C s;go_simp;exact A _ _ _ rfl (o.other Q.o (by decide) (by decide) (O.refl _ _)) Sy
   .intro G H a E K F D v C s o A;have jb:=fq (v 20 26 rfl (s 20 rfl));have c0:E.cell? ⟨pm,2,none⟩=some (.slice wa wn wc):=(cO.o.X o.X id).cell 2;clear D v C s;go_simp;exact A _ _ _ rfl (o.other Q.o (by decide) (by decide) (O.refl _ _)) Sy
   .intro G H a E K F D v C s o A;have fE:=fq (v 21 27 rfl (s 21 rfl));refine ax rfl ?_;refine dW Tryz.call89 rfl (vE fE) (Au (fA.o.X o.X nE) fB.o (λi q x P T=>(fC.o i q x P T).2.X o.X nE id) aY.o.2.2.2.2.2.2.2.1 aY.o.2.2.2.2.2.2.1) ?_;rintro e w3 ⟨v',rfl,I,W⟩;exact⟨_,rfl,A G _ _ ⟨v',rfl,I.mono (λb _ M=>o.fresh M)⟩ (o.other Q.o (by decide) (by decide) W) (λ_ _ _ _ h=>h.aP W)⟩
   .intro G H a E K F D v C s o A;have e7:=fq (v 1 7 rfl (s 1 rfl));have fF:=fq (v 8 14 rfl (s 8 rfl));obtain⟨aj,fG,I⟩:∃aj:Y,a.tmps[20]?.getD undef=.agg aj.toArray∧aG (bz (λ_=>False) U.heap.size G) E aj vals:=v 14 20 rfl (s 14 rfl);obtain⟨k,b,i,f,t,kv,lv,rfl⟩:=I.seven;obtain⟨u',fH,dm⟩:∃u':Value,a.tmps[28]?.getD undef=u'∧uK (bz (λ_=>False) U.heap.size G) E u' wants:=v 22 28 rfl (s 22 rfl);obtain⟨ua,um,uc,J⟩:∃a m c,u'=.slice a m c:=by obtain⟨aC,h4, -⟩:=dm;obtain⟨-, -,a,c,h, -⟩:=h4;exact⟨_,_,_,h⟩
    subst J;have bD:=I.one;have dw:kv.oneCell'=true∧lv.oneCell'=true:=(by simpa[ai,Value.oneCell'] using bD);have fJ:=Z (show PB (.mk name af vals ak wants) (bz (λ_=>False) U.heap.size G) E (az name af k b i f t kv lv (.slice none 0 0) (.slice ua um uc)) from⟨k,b,i,f,t,kv,lv,_,rfl,I,dm⟩);refine ax rfl ?_;refine Ep rfl (vE e7) (vE fF) (vE fG) (vE fH) dw.1 dw.2 ?_;exact A _ _ _ ⟨_,rfl,fJ.o⟩ (o.other Q.o (by decide) (by decide) (O.refl _ _)) Sy
   .intro G H a E K F D v C s o A;have dA:=ny1 D 25 24 rfl F;have bF:=o.qH F;subst bF;have fK:=Z (o.lay (z:=fZ) rfl (by decide) dA);clear D v C s;clear dA;go_simp;refine A (some E.heap.size) _ _ ⟨_,rfl,rfl⟩ fK.o ?_;refine λj I jc u J=> ?_
    match j,I with
    |0,_=>exact J
    |1,_=>exact J
    |2,_=>exact J
    |3,_=>exact J
    |4,_=>exact J
    |5,_=>exact J
    |6,_=>exact J
    |7,_=>exact J
    |8,_=>exact J
    |9,_=>exact J
    |10,_=>exact J
    |11,_=>exact J
    |12,_=>exact J
    |13,_=>exact J
    |14,_=>obtain⟨c,P,T⟩:=J;exact⟨c,P,(T.mono (λb M h=>bQ M h)).X ((O.refl No E).alloc _) nE⟩
    |15,_=>exact J
    |16,_=>exact J
    |17,_=>exact J
    |18,_=>exact J
    |19,_=>exact J
    |20,_=>exact J
    |21,_=>exact J
    |22,_=>obtain⟨c,P,T⟩:=J;exact⟨c,P,(T.mono (λb M h=>bQ M h)).X ((O.refl No E).alloc _) nE⟩
    |23,_=>obtain⟨c,P,T⟩:=J;exact⟨c,P,(T.mono (λb M h=>bQ M h)).X ((O.refl No E).alloc _) nE⟩
    |24,I=>exact absurd rfl I
    |25,_=>exact J
    |j+26,_=>exact J
   .intro G H a E K F D v C s o A;obtain⟨t9,rfl,e3⟩:=v 24 3 rfl (s 24 rfl);obtain⟨c2,fM,aZ⟩:∃c2:Y,a.tmps[29]?.getD undef=.agg c2.toArray∧PB (.mk name af vals ak wants) (bz (λ_=>False) U.heap.size (some t9)) E c2:=v 23 29 rfl (s 23 rfl);obtain⟨bG,c',M,fO, -⟩:=o.box t9 rfl;refine ax rfl ?_;refine dH aK rfl (vE e3) (vE fM) M fO aZ.one.1 aZ.one.2 ?_;intro w3 bH hC fP;refine A (some t9) undef _ trivial (o.put Q.o (by decide) hC bH aZ.one.1 aZ) ?_;refine λj I _ u J=>J.keep hC (aV (i:=25) (λj hl I=> ?_) j I)
    match j,I with
    |0,_|1,_|2,_|3,_|4,_|5,_|6,_|7,_|8,_|9,_|10,_|11,_|12,_|13,_=>exact trivial
    |14,_=>exact λb M e=>bI bG M e
    |15,_|16,_|17,_|18,_|19,_|20,_|21,_=>exact trivial
    |22,_=>exact λb M e=>bI bG M e
    |23,_=>exact λb M e=>bI bG M e
    |24,_=>exact trivial
    |25,I=>exact absurd rfl I
    |j+26,_=>exact absurd hl (by simp)
  .intro G vs w2 bf bJ o;obtain⟨g,bF,e3⟩:∃t,G=some t∧vs 24=.pointer (some ⟨t,0,none⟩):=bf 24 _ rfl (by decide);subst bF;obtain⟨dB,c9,dC, -,bK⟩:=o.box g rfl;have bK:=bK rfl;obtain⟨k,b,i,f,t,kv,lv,aO,rfl,dD,dE⟩:=bK;have dF:=Z dC;have bg:=Z dB;have aH:=Z o.X;have dG:=Z dD;have dI:=Z dE;clear dC dB o bf bJ dD dE;simp only[aX,Act.put,List.setIfInBounds_toArray,List.set_cons_succ,List.set_cons_zero,e3];clear e3;have fQ:=Z (aW.o.X aH.o id);have fU:=Z (kZ fQ.o);have fV:=Z (HD.o.X aH.o nE);have gm:=Z (show ∀(i q:Nat)(d:Ch),ps[i]?=some q→ak[i]?=some d→iE (okB ok w) w2 q d from λi q d P T=>(HK.o i q d P T).X aH.o nE);have gp:=Z (eP.o.X aH.o id);obtain⟨B,dJ⟩:∃B,B=w2.heap.size:=⟨_,rfl⟩;have dK:=Z dJ;have dL:=Z (show CX w2 g B (λl=>az name af k b i f t kv lv l aO) ak w2 0 (.slice none 0 0) [] from
    ⟨zL',dF.o,aB.nil _ _ _ _,rfl,λi r x h=>by simp at h,O.refl _ _,by have:=dF.o.lt;omega,by omega,by omega⟩)
   clear dJ;go_wp2_with fail;refine fU.o.mono ?_;rintro e wt ⟨rfl,dM⟩;obtain rfl:=dM.symm;clear dM;go_wp2_with fail;go_loopw [33] (λct wr=>∃(n:Nat)(iv:Value) (aC:List (Y)),ct=.int .i64 n∧CX w2 g B (λl=>az name af k b i f t kv lv l aO) ak wr n iv aC) (λct _=>ps.length - (intOf ct).toNat)
   case atStart=>exact⟨0,_,_,rfl,dL.o⟩
   case round=>
    clear dL;obtain⟨n,iv,aC,rfl,dN⟩:=hrel;obtain⟨wy,rfl⟩:∃wy,wy=wr:=⟨_,rfl⟩;have R:=Z dN;clear dN;have bM:=Z (show ∀x,okB ok w x→¬x=g from λx N e=>by have P:=N.2;have T:=bg.o;have h3:=aN.o.2;omega);by_cases dO:n<ps.length
    .obtain⟨q,hq⟩:=gX' ps n (dO);obtain⟨d,F⟩:=gX' ak n ((by rw[←HN.o];exact dO));have bP:=fV.o;have dP:(aF ps).length=ps.length:=(by simp[aF]);rw[←dP] at bP;obtain⟨lb,lo,gq,dQ,bn⟩:=bP.at (i:=n) (r:=[ptr q]) (by simp[hq]);subst gq;have bn:=(bn.X R.o.X (bM.o lb dQ)).one;simp only[Nat.mul_one] at bn;have gu:=Z ((gm.o n q d hq F).X R.o.X bM.o);have gy:=Z (aY.o.2.2.2.2.2.1 d (mG' F));have gz:=Z F;have aI:=Z (show g<B∧B<=wy.heap.size from⟨R.o.hB.1,R.o.hB.2.1⟩);have gB:=Z (show ∀b,okB ok w b→¬(b=g∨iv.ownBlock=some b) from λb M e=>by
      rcases e with e|e
      .exact bM.o b M e
      .have P:=(R.o.own.elem e).1;have T:=dK.o;have h3:=M.2;have h4:=aH.o.size;have h5:=aN.o.2;omega)
     have dR:=Z (show ∀q,iv.ownBlock=some q→q<wy.heap.size from λq e=>(R.o.own.elem e).2.1);have dS:=Z (show aC.length<=20 by have:=R.o.len;omega);have dU:(n:Int)<(ps.length:Int):=(by omega);clear hq F bP dP dQ;go_upto_region 5 with fail
     clear bn dU;refine aT (FI [.eq (.pointer (some ⟨g,9,none⟩)),.eq iv,.eq (ptr q),.DZ wy d,.xA wy d,.JZ B d aC iv wy aI.o.2,.eq (.pointer (some ⟨g,9,none⟩)),.any])
      (λH w'=>AC g B (λl=>az name af k b i f t kv lv l aO) iv aC d wy w' (H 5) (H 7)) (by kernel_rfl) (by kernel_rfl) (AC.start aI.o R.o.own R.o.jh) ?_ ?_
     .refine⟨?_,?_,?_,?_,?_,?_,?_,?_,trivial⟩
      .intro H a E K F D v C s o A;have e3:a.tmps[3]?.getD undef=.pointer (some ⟨g,0,none⟩):=C 3 rfl;clear D v C s;go_simp;exact A _ _ rfl (by simpa[dn] using o) Sy
      .intro H a E K F D v C s o A;have jd:=fq (v 0 37 rfl (s 0 rfl));have n7:=ny1 D 7 5 rfl (ny1 D 5 1 rfl F);have bT:=o;rw[n7] at bT;obtain⟨l',M,P, -⟩:=bT.box;obtain rfl:=P rfl;obtain⟨ia,dV,ic,aQ⟩:=R.o.own.slice;have c0:E.cell? ⟨g,9,none⟩=some (.slice ia dV ic):=by rw[←aQ];exact M.cell 9
       have gG:=Z aQ;clear aQ bT M P n7;clear D v C s;go_simp;exact A _ _ gG.o.symm (by simpa[dn] using o) Sy
      .intro H a E K F D v C s o A;have e5:a.tmps[5]?.getD undef=ptr q:=C 5 rfl;clear D v C s;go_simp;exact A _ _ rfl (by simpa[dn] using o) Sy
      .intro H a E K F D v C s o A;have gI:=fq (v 2 39 rfl (s 2 rfl));refine ax rfl ?_;refine dW Tryz.call49 rfl (vE gI) (IH.o d (okB ok w) q E (gu.o.X o.X gB.o) gy.o) ?_;rintro e w3 ⟨aj,rfl,I,W⟩;exact⟨_,rfl,A _ _ ⟨aj,rfl,I.mono (λb M h=>⟨Nat.le_trans o.X.size h,M⟩)⟩ (by simpa[dn] using o.df W) (λ_ _ _ _ h=>h.aP W)⟩
      .intro H a E K F D v C s o A;obtain⟨aj,gJ,I⟩:(Fact.DZ wy d).holds (a.tmps[40]?.getD undef) E:=v 3 40 rfl (s 3 rfl);have W:O No E (E.alloc (.cells aj.toArray 30)):=(O.refl No E).alloc _;have HC:=Z W;have HT:=Z (show(Fact.xA wy d).holds (.slice (some ⟨E.heap.size,0,none⟩) 1 1) (E.alloc (.cells aj.toArray 30)) from⟨aj,_,rfl,o.X.size,ay.new _ _ _,(I.X W nE).mono (λb _ M=>⟨M.1,Nat.lt_of_lt_of_le M.2 W.size⟩)⟩);refine ax rfl ?_;refine sN rfl (vE gJ) I.one.1 ?_;exact A _ _ HT.o (by simpa[dn] using o.df HC.o) (λ_ _ _ _ h=>h.aP HC.o)
      .intro H a E K F D v C s o A;have gK:=fq (v 1 38 rfl (s 1 rfl));obtain⟨aj,t1,gQ,je,gU,I⟩:(Fact.xA wy d).holds (a.tmps[41]?.getD undef) E:=v 4 41 rfl (s 4 rfl);have n7:=ny1 D 7 5 rfl F;rw[F,n7] at o;refine ax rfl ?_;refine mP tX rfl (vE gK) (o.own rfl) (vE gQ) (gU.kT I.one.1) (by intro r hr;obtain rfl:=List.mem_singleton.1 hr;exact I.one.2) (by have:=dS.o;simp only[List.length_cons,List.length_nil];omega) (by have:=dS.o;simp only[List.length_cons,List.length_nil];omega) (by have:=o.X.size;have:=aI.o.2;omega) ?_;intro v' w3 gV W gW jf;refine A _ _ (qW.of gV I R.o.own o.X.size W gW) (by simpa[dn,n7] using o.app W) ?_;refine λj I _ u J=>J.keep W (aV (i:=5) (λj hl I=> ?_) j I)
       match j,I with
       |0,_|1,_|2,_=>exact trivial
       |3,_=>exact λq hq=>dR.o q hq
       |4,_=>exact λq hq=>dR.o q hq
       |5,I=>exact absurd rfl I
       |6,_|7,_=>exact trivial
       |j+8,_=>exact absurd hl (by simp)
      .intro H a E K F D v C s o A;have e3:a.tmps[3]?.getD undef=.pointer (some ⟨g,0,none⟩):=C 3 rfl;clear D v C s;go_simp;exact A _ _ rfl (by simpa[dn] using o) Sy
      .intro H a E K F D v C s o A;have gX:=fq (v 6 43 rfl (s 6 rfl));have dX:qW B d aC iv wy (a.tmps[42]?.getD undef) E:=v 5 42 rfl (s 5 rfl);have h5:H 5=true:=s 5 rfl;rw[F,h5] at o;obtain⟨l',M,P, -⟩:=o.box;obtain rfl:=P rfl;have gY:=dX.choose_spec.1.slice;refine ax rfl ?_;refine iT rfl (vE gX) gY Tryz.sizeOf27 M (show 9<11 by decide) (by simp[Act.eval]) ?_;intro w3 bH dY fP;refine A undef _ trivial (by simpa[dn,h5] using o.store bH dY dX) ?_;refine λj I _ u J=>J.keep dY (aV (i:=7) (λj hl I=> ?_) j I)
       match j,I with
       |0,_|1,_|2,_=>exact trivial
       |3,_=>exact λq hq=>by have e1:q=g:=hq;have:=aI.o;omega
       |4,_=>exact λq hq=>by have e1:q=g:=hq;have:=aI.o;omega
       |5,_=>exact λq hq=>by have e1:q=g:=hq;have:=aI.o;omega
       |6,_=>exact trivial
       |7,I=>exact absurd rfl I
       |j+8,_=>exact absurd hl (by simp)
     .intro vs w3 bf bJ o;have gZ:=Z (R.o.step gz.o (O.refl No wy) o);clear bf bJ o;obtain⟨v2,jg,dZ⟩:=gZ.o;have ed:=Z dZ;clear dZ;simp only[aX,Act.put,List.setIfInBounds_toArray,List.set_cons_succ,List.set_cons_zero];go_wp2_with fail;go_roundw;case rel=>first|exact⟨n+1,_,_,by go_num,ed.o⟩|((repeat apply Exists.intro);exact⟨⟨n+1,_,_,by go_num,ed.o⟩,rfl⟩)
      case measure=>simp[intOf];omega
    .have ig:n=ak.length:=Nat.le_antisymm R.o.le (by rw[←HN.o];omega);have dU:¬(n:Int)<(ps.length:Int):=(by omega);subst ig;have eu:=R.o.jh;have ik:=eu.cells;have bD:(az name af k b i f t kv lv iv aO).all (·.oneCell')=true:=by
      have P:=dG.o.one;obtain⟨ia,dV,ic,aQ⟩:=R.o.own.slice;obtain⟨aC,h4, -⟩:=dI.o;obtain⟨-, -,a,cc,h5, -⟩:=h4;rw[aQ,h5];simp only[ai,List.all_cons,List.all_nil,Bool.and_true,Bool.and_eq_true] at P;obtain⟨-, -, -, -, -,h6,h7⟩:=P;simp[az,Value.oneCell'] at h6 h7⊢;exact⟨h6,h7⟩
     have iq:r0≠g:=by have:=aN.o;have:=bg.o;omega
     have iw:=gp.o.X R.o.X iq;have bV:(az name af k b i f t kv lv iv aO).length=11:=rfl;have iy:fZ.length=11:=rfl;clear eu;go_wp2_with (first|(with_reducible refine V rfl aK rfl rfl ik bV ?_)|(with_reducible refine aA rfl aK rfl rfl rfl iw iy bV bD ?_;intro w6 iC aS ji));refine bodyPost_ret (bU rfl aK rfl iC bV) rfl ⟨_,rfl,?_,?_⟩
     .have iD:=aN.o;have eF:=bg.o;have jk:=dK.o;have jl:=aH.o.size;have bu:∀x,bz (λ_=>False) U.heap.size (some g) x→¬x=g∧¬x=r0:=λx N=>⟨λe=>bI eF N e,λe=>by
       rcases N with h|h
       .exact h.1.elim
       .have:=h.1;omega⟩
      have iF:∀x,okF B iv x→¬x=r0:=λx N e=>by have:=N.1;omega
      obtain⟨jm,iG,iH,bC⟩:=(dI.o.X R.o.X (λx N=>(bu x N).1)).X aS (λx N=>(bu x N).2);have bW:∀x,bz (λ_=>False) U.heap.size (some g) x→w.heap.size<=x:=λx N=>by
       rcases N with h|h
       .exact h.1.elim
       .have:=h.1;omega
      have ho:=R.o.own.X aS (λk hk e=>by have e1:k=r0:=e;have:=(R.o.own.elem hk).1;omega);refine .mk ((((dG.o.X R.o.X (λx N=>(bu x N).1)).X aS (λx N=>(bu x N).2))).mono (λx _ N=>bW x N)) (ho.rowAt.mono (λx _ N=>by have:=(ho.elem N).1;omega) (by decide)) R.o.len (λn r d P T=>((R.o.val n r d P T).X aS iF).mono (λx _ N=>by have:=N.1;omega)) (iG.mono (λx _ N=>bW x N) (by decide)) iH (λn r y P T=>(bC n r y P T).xP (λx _ N=>bW x N))
     .have iD:=aN.o;have eF:=bg.o;exact((eU.o.trans' aH.o).trans R.o.X (λx N e=>by have e1:x=g:=e;omega)).trans aS (λx N e=>by have e1:x=r0:=e;omega)
section
variable {B mk:Nat} {γ:Option Nat} {done:Nat→Bool} {w w':World}
end
section
variable {B g:Nat} {name fB:K} {j:J} {wr:World} {γ:Option Nat} {done:Nat→Bool} {w w':World}
end
section
variable {pm:Nat} {nm ns:K} {rev:Int} {up ins:Bool} {wr:World} {γ:Option Nat × Option Nat} {done:Nat→Bool} {w w':World}
end
@[reducible] def Oz (s:K):Y:=ai 5 false 0 0 s (.slice none 0 0) (.slice none 0 0)
@[reducible] def Ol (b:Bool):Y:=ai 1 b 0 0 ⟨#[]⟩ (.slice none 0 0) (.slice none 0 0)
@[reducible] def OA (i:Int):Y:=ai 2 false i 0 ⟨#[]⟩ (.slice none 0 0) (.slice none 0 0)
section
variable {o:Oper} {a:Act} {w:World} {K':ag} {Q:ah}
end
section
variable {ops:Array Oper} {rest:List Oper} {o:Oper} {a:Act} {w:World} {Q:ah}
end
theorem aC.same{ok ok':ae}{w:World}{v:Value}{size:Nat}{d c:List (Y)}(D:0<size)(h:aC ok w v size d)(p:aC ok' w v size c):d=c:=by
 obtain⟨-,q,a,cap,e, -,s⟩:=h;obtain⟨-,t,E,F,e', -,x⟩:=p;rw[e] at e'
 injection e' with ea hl ec
 subst ea;by_cases f:d=[]
 .subst f;exact(List.eq_nil_of_length_eq_zero hl.symm).symm
 .have y:c≠ []:=λe=>f (List.eq_nil_of_length_eq_zero (by rw[hl,e];rfl))
  obtain⟨b,G,z, -,A⟩:=s f;obtain⟨H,I,l, -,B⟩:=x y;rw[z] at l;cases l;refine List.ext_getElem? λi=> ?_
  cases hr:d[i]? with
  |none=>
   have:c[i]?=none:=by rw[List.getElem?_eq_none_iff] at hr⊢;omega
   rw[this]
  |some r=>
   have J:=(gS'.1 hr).1;obtain⟨g,k⟩:=gX' c i ((by omega));rw[k]
   congr 1
   have K:=q r (mG' hr);have L:=t g (mG' k);refine List.ext_getElem? λj=> ?_
   by_cases M:j<size
   .obtain⟨u,m⟩:=gX' r j ((by omega));obtain⟨u',n⟩:=gX' g j ((by omega));have C:=A i r hr j u m;have o:=B i g k j u' n;rw[C] at o;rw[m,n,Option.some.inj o]
   .rw[List.getElem?_eq_none_iff.2 (by omega),List.getElem?_eq_none_iff.2 (by omega)]
theorem Hg{a b:List K}(h:aH a=aH b):a=b:=by
 induction a generalizing b with
 |nil=>cases b with
  |nil=>rfl
  |cons x r=>simp[aH] at h
 |cons x r c=>cases b with
  |nil=>simp[aH] at h
  |cons y s=>simp only[aH,List.map_cons,List.cons.injEq] at h;obtain⟨d,e⟩:=h;have f:x=y:=(by simpa using d);rw[f,c (b:=s) (by simpa[aH] using e)]
theorem aG.same{ok:ae}{w:World}{cs:Y}{j:J}(h:aG ok w cs j):∀{ok':ae}{d:J},aG ok' w cs d→j=d:=by
 induction h with
 |null g e=>intro ok' d a;generalize c:ai _ _ _ _ _ _ _=k at a;cases a<;>simp_all [ai]
 |bool g e=>intro ok' d a;generalize c:ai _ _ _ _ _ _ _=k at a;cases a<;>simp_all [ai]
 |int g e=>intro ok' d a;generalize c:ai _ _ _ _ _ _ _=k at a;cases a<;>simp_all [ai]
 |float g e=>intro ok' d a;generalize c:ai _ _ _ _ _ _ _=k at a;cases a<;>simp_all [ai]
 |text g e=>intro ok' d a;generalize c:ai _ _ _ _ _ _ _=k at a;cases a<;>simp_all [ai]
 |@list b i f t x y l xs g e z A q=>
  intro ok' d a;generalize c:ai _ _ _ _ _ _ _=k at a;cases a with
  |@list B C D E kv' F G N v r H s=>
   simp only[ai,List.cons.injEq] at c;obtain⟨-, -, -, -, -, -,rfl, -⟩:=c;have:=e.same (by decide) r;subst this
   congr 1
   refine List.ext_getElem (by omega) λn o p=> ?_
   have m:l[n]?=some l[n]:=List.getElem?_eq_getElem (by omega);exact q n _ _ m (List.getElem?_eq_getElem o) (s n _ _ m (List.getElem?_eq_getElem p))
  | _=>simp[ai] at c
 |@table b i f t x y l kvs g e z A q=>
  intro ok' d a;generalize c:ai _ _ _ _ _ _ _=k at a;cases a with
  |@table B C D E kv' F G u v r H s=>
   simp only[ai,List.cons.injEq] at c;obtain⟨-, -, -, -, -,rfl,rfl, -⟩:=c;have:=e.same (by decide) r;subst this;have I:kvs.map (·.1)=u.map (·.1):=Hg (by simpa[aH,List.map_map,Function.comp_def] using g.same (by decide) v)
   congr 1
   refine List.ext_getElem (by omega) λn o p=> ?_
   have m:l[n]?=some l[n]:=List.getElem?_eq_getElem (by omega);have K:=q n _ _ m (List.getElem?_eq_getElem o) (s n _ _ m (List.getElem?_eq_getElem p));have L:kvs[n].1=u[n].1:=by have M:(kvs.map (·.1))[n]?=(u.map (·.1))[n]? :=(by rw[I]);simpa[o,p] using M
   exact Prod.ext L K
  | _=>simp[ai] at c
theorem Es(U:List K)(N D:Nat)(T:∀k∈U,fK k)(aV:U.length<=N)(L:Nat):∀(ok:ae)(c:Ch)(cs:Y)(w:World),dU ok w cs c→iW U N D L c→CU L c→Calls Tryz.prog 12 #[.agg cs.toArray,.int .i64 1900] w (fA w λr _=>r=true→Ku L c):=by
 induction L with
 |zero=>intro ok c cs w _ h;exact h.elim
 |succ L ih=>
  intro ok c cs w o A p;obtain⟨name,af,k,b,i,f,t,kv,lv,dv,wv,rfl, -, -,B,⟨a,hd,C,ai⟩, -⟩:=o.dV.cells;have HV:=Z B;have HD:=Z hd;have HN:=Z C;have aW:=Z ai;have IH:=Z ih;have HR:=Z A;have aj:=Z p;have bH:a.length<=20:=by rw[C];exact p.2.2.2.1
  obtain⟨-, -,ax,aA⟩:=B.oH;have aX:=Z (show ∃n d,Wf n (d+1) c.vals by
   rcases p.1 with e|e
   .rw[e];exact⟨0,0,trivial⟩
   .cases hcv:c.vals with
    |table s=>
     have h:=(A.2.2.2.1 s hcv).1.wf T aV;cases D with
     |zero=>exact h.elim
     |succ D=>exact⟨_,D,h⟩
    | _=>rw[hcv] at e;cases e)
  obtain⟨-, -,E,F,rfl, -, -⟩:=hd;have aB:∀W,(w.alloc (.cells (az name af k b i f t kv lv (.slice E a.length F) wv).toArray 30))=W→ay W w.heap.size (az name af k b i f t kv lv (.slice E a.length F) wv) 30∧O No w W:=by rintro W rfl;exact⟨ay.new _ _ _,(O.refl No w).alloc _⟩
  have HF:=Z aB;have HK:=Z (And.intro ax aA);clear aB C ai ih A o p B ax aA T;go_enter Tryz.func12,Tryz.ntmps12;unfold az;go_upto_region 1 with fail
  generalize aC:World.alloc _ _=W;obtain⟨q,c1⟩:=HF.o W aC;clear aC HF;have k9:W.cell? ⟨w.heap.size,9,none⟩=some (.slice E a.length F):=q.cell 9;obtain⟨gx,aF⟩:∃g,g=w.heap.size:=⟨_,rfl⟩;rw[←aF] at q k9⊢;have aY:=Z q;have m:=Z c1;clear q c1 aF;go_wp2_with fail;clear k9;go_loopw [10] (λG wr=>∃n:Nat,G=.int .i64 n∧n<=a.length∧(∀d∈c.deps.take n,Ku L d)∧O No W wr) (λG _=>a.length - (intOf G).toNat);case atStart=>exact⟨0,rfl,zL',by simp,O.refl _ _⟩
  case round=>
   obtain⟨n,rfl,u,aG,o⟩:=hrel;have aH:=Z aG;have l:=Z o;clear aG o;by_cases aI:n<a.length
   .obtain⟨r,H⟩:=gX' a n (aI);obtain⟨x,I⟩:=gX' c.deps n ((by rw[←HN.o];exact aI));obtain⟨lb,lo,rfl, -,J⟩:=HD.o.at (i:=n) (r:=r) H;have J:=(J.X m.o id).X l.o id;have v:=(((aW.o n r x H I).X m.o nE).X l.o nE);have M:=v.one.1;have aZ:=v.one.2;have bf:=Z (v.X ((O.refl No wr).alloc (.cells r.toArray 30)) nE);have P:=Z I;have bg:(n:Int)<(a.length:Int):=(by omega);clear v I H;go_wp2_with (first|(with_reducible refine V rfl aK rfl rfl J M ?_)|(with_reducible refine ak rfl aK rfl rfl rfl rfl M aZ ?_)|(with_reducible refine V rfl aK rfl rfl (ay.new wr r 30).cells M ?_));refine(IH.o (okB ok w) x r (wr.alloc (.cells r.toArray 30)) bf.o (HR.o.2.2.2.2.2 x (mG' P.o)) (aj.o.2.2.2.2.2.2 x (mG' P.o))).mono ?_;rintro e w3 ⟨y,rfl,aN,aO⟩;have aP:=Z (l.o.trans' (((O.refl No wr).alloc (.cells r.toArray 30)).trans' aN));have bn:=Z aO;clear aN aO;cases y with
    |false=>go_wp2;go_ret;exact⟨false,rfl,m.o.trans' aP.o,λh=>by cases h⟩
    |true=>
     go_wp2_with fail
     go_roundw;case rel=>exact⟨n+1,by go_num,by omega,bP P.o aH.o (bn.o trivial),aP.o⟩
     case measure=>simp[intOf];omega
   .have bg:¬(n:Int)<(a.length:Int):=(by omega);have aQ:=Z (eG (by rw[←HN.o];omega) aH.o);have z:=aY.o.X l.o id;have k2:wr.cell? ⟨gx,2,none⟩=some (.int .i64 k):=z.cell 2;have Q:=z.tV;rcases aj.o.1 with u|aS
    .obtain rfl:=HK.o.1 u;have bu:=Z u;clear Q z u;go_wp2;go_ret;exact⟨true,rfl,m.o.trans' l.o,λ_=>⟨.inl bu.o,aQ.o⟩⟩
    .obtain rfl:=HK.o.2 aS;obtain⟨nn,dd,aT⟩:=aX.o;have R:=(HV.o.X m.o nE).X l.o nE;have bz:=Z (qB (R.raw aT) 1900 (by decide));have bC:=Z R;clear aT R z aS;go_wp2_with (first|(with_reducible refine aJ rfl au rfl rfl Q rfl ?_));refine bz.o.mono ?_;rintro e w4 ⟨y,rfl,S,aU⟩;have bD:=Z (l.o.trans' S);have bF:=Z (show y=true→Wf 1900 50 c.vals∧sz c.vals<=1900 from λbG=>by obtain⟨j,h1,h2,h3⟩:=aU bG;have h4:=(bC.o.X S nE).same h1;rw[h4];exact⟨h2.mono h3 lR',h3⟩);clear S aU Q k2;go_wp2;go_ret;exact⟨y,rfl,m.o.trans' bD.o,λh=>⟨.inr (bF.o h),aQ.o⟩⟩
theorem WU.cut{U:List K}{N n:Nat}:∀{d E:Nat}{j:J},WU U N E j→Wf n d j→WU U N d j:=by
 intro d;induction d with
 |zero=>intro E j _ h;exact h.elim
 |succ d b=>
  intro E j h c;cases E with
  |zero=>exact h.elim
  |succ E=>
   cases j with
   |float f=>exact h
   |list xs=>exact⟨h.1,λx e=>b (h.2 x e) (c.2 x e)⟩
   |table kvs=>exact⟨h.1,λp a=>⟨(h.2 p a).1,b (h.2 p a).2 (c.2.2 p a).2⟩⟩
   | _=>trivial
theorem iW.cut{U:List K}{N E:Nat}:∀{L:Nat}{c:Ch},iW U N E L c→Ku L c→iW U N 50 L c
 |0,_,h,_=>h.elim
 |L+1,c,h,b=>⟨h.1,h.2.1,h.2.2.1,λt a=>⟨by
   rcases b.1 with e|e
   .rw[a] at e;cases e
   .rw[a] at e;exact(h.2.2.2.1 t a).1.cut e.1,(h.2.2.2.1 t a).2⟩,h.2.2.2.2.1,λd f=>iW.cut (h.2.2.2.2.2 d f) (b.2 d f)⟩
theorem Ij(p q:Value)(w:World):CallsD Tryz.prog 44 #[p,q] .returning w λe u' a=>e=.returned (.tuple #[])∧u'=.returning∧a=w:=by
 refine callsD_of_wpS Tryz.func44 rfl λb cs c=> ?_
 apply wpS_seq;apply wpS_region;simp[wpOpsS,go_sem,recoverD,c,Tryz.ntmps44,Exit.thenS];refine wpS_cond (t:=false) (by simp[Act.eval,Array.replicate]) ?_;simp only[Bool.false_eq_true,if_false];refine wpS_of_wp (wp_skip ?_);cases b
 simp_all [bodyPostS,results,Tryz.results44]
theorem Ik(p q:Value)(w:World):CallsD Tryz.prog 57 #[p,q] .returning w λe u' a=>e=.returned (.tuple #[])∧u'=.returning∧a=w:=by
 refine callsD_of_wpS Tryz.func57 rfl λb cs c=> ?_
 apply wpS_seq;apply wpS_region;simp[wpOpsS,go_sem,recoverD,c,Tryz.ntmps57,Exit.thenS];refine wpS_cond (t:=false) (by simp[Act.eval,Array.replicate]) ?_;simp only[Bool.false_eq_true,if_false];refine wpS_of_wp (wp_skip ?_);cases b
 simp_all [bodyPostS,results,Tryz.results57]
theorem LQ(w:World):(Instr.build 30 #[]).run Tryz.prog w=.ok (.agg fZ.toArray) w:=by kernel_rfl
theorem LU(w:World):(Instr.build 26 #[]).run Tryz.prog w=.ok (.agg bu.toArray) w:=by kernel_rfl
structure Il (U:List K) (N:Nat) (c:Ch) (t:T):Prop where
 un:U.length<=N
 uk:∀k∈U,fK k
 gu:gK∈U
 en:sU U 6 c
 wu:WU U N 50 (.table t)
 sh:dC (.table t)
 wf:Wf 300 50 (.table t)
 sz:sz (.table t)<=300
def Kv(b:Bool):Int:=if b then 0 else 1
def Nl(w:World)(r:Option Ch)(e:Ending)(a:World):Prop:=
 ∃cs:Y,e=.returned (.tuple #[.agg cs.toArray,.int .i64 (Kv r.isSome)])∧O No w a∧(cs.length=11∧cs.all (·.oneCell')=true)∧∀c',r=some c'→dU (λx=>w.heap.size<=x) a cs c'
theorem lS(U:List K)(N:Nat)(hN:N<1099511627776)(bH:400<=N){c:Ch}{t:T}(G:Il U N c t)(ok:ae)(cs vs:Y)(w:World)(C:dU ok w cs c)(hv:aG ok w vs (.table t))(hF:∀c',seen 6 c t=some c'→BB 6 c'):
  Calls Tryz.prog 13 #[.agg cs.toArray,.agg vs.toArray,.bool true] w (Nl w (seen 6 c t)):=by
 have cZ:∀(fn:Fn)(first cap:Array Value)(w:World),(Instr.makeFunc fn first cap).run Tryz.prog w=.ok (.func fn first cap) w:=λ_ _ _ _=>rfl
 obtain⟨hl,ho⟩:=C.one;obtain⟨name,D,k,b,i,f,E,F,H,I,J,rfl, -, -, -,⟨df,bI, -⟩,⟨dh,bJ, -⟩⟩:=C.cells;obtain⟨vk,vb,vi,vf,vt,aS,aT,rfl⟩:=hv.seven;have aU:∀W,((((w.alloc (.cells (az name D k b i f E F H I J).toArray 30)).alloc (.cells (ai vk vb vi vf vt aS aT).toArray 26)).alloc (.cells fZ.toArray 30)).alloc (.cells [.int .i64 0].toArray 3))=W→
   ay W w.heap.size (az name D k b i f E F H I J) 30∧ay W (w.heap.size+1) (ai vk vb vi vf vt aS aT) 26∧ay W (w.heap.size+2) fZ 30∧ay W (w.heap.size+3) [.int .i64 0] 3∧O No w W:=by
  rintro W rfl;exact⟨(((ay.new _ _ _).alloc _).alloc _).alloc _,((ay.newAt (by simp) _ _).alloc _).alloc _,(ay.newAt (by simp) _ _).alloc _,ay.newAt (by simp) _ _,(((((O.refl No w).alloc _).alloc _).alloc _).alloc _)⟩
 have HF:=Z aU;have bK:=Z C;have bM:=Z hv;have j:=Z G;have bP:=Z hF;clear aU C hv G hF bI bJ hl ho
 go_enter_defers Tryz.func13,Tryz.ntmps13
 unfold az ai;go_upto_region 2 with fail
 generalize aV:World.alloc _ _=W;obtain⟨b3,b4,b6,b7,c1⟩:=HF.o W aV;clear aV HF;obtain⟨g,hg⟩:∃g,g=w.heap.size:=⟨_,rfl⟩;rw[←hg] at b3 b4 b6 b7⊢;have aW:=Z hg;have bQ:=Z b3;have ak:=Z b6;have ax:=Z b7;have aX:=Z c1;clear b3 b6 b7 c1 hg;go_wp2_with (first|(with_reducible refine V rfl au rfl rfl b4.cells rfl ?_));refine(uS (N:=300) (d:=50) (by decide) (bM.o.X aX.o nE) j.o.wf (.inr rfl) (Nat.le_trans j.o.sz (by decide)) (by decide)).mono ?_;rintro e w2 ⟨mv,rfl,aY,L⟩;obtain⟨M,rfl,aZ⟩:∃M,mv=.map (some M)∧bC (λy=>W.heap.size<=y) w2 (.iface 67 (.map (some M))) (.table t):=by
  rcases aY with⟨h, -⟩|⟨t',b',s,u,h3⟩
  .cases h
  .cases s;subst u;exact⟨b',rfl,h3⟩
 have bT:=Z aZ;have P:=Z (aX.o.trans' L);have bf:=bQ.o.X L id;have aB:=Z L;clear aY aZ L b4;have bU:(az name D k b i f E F H I J).length=11:=rfl;go_wp2_with (first|(with_reducible refine V rfl aK rfl rfl bf.cells bU ?_));refine(uJ 6 c (okB ok w) (az name D k b i f E F H I J) w2 0 (bK.o.dV.X P.o nE) (pg 6 j.o.en.en.gQ) (by decide)).mono ?_;rintro e w3 ⟨p,R,S,rfl,bg,hR,hS,bn,Q⟩;have bu:=Z (P.o.trans' Q);have bz:=Z (aB.o.trans' Q);have HS:=Z hS;have aC:=Z (BA U N hN bH j.o.un j.o.uk j.o.gu 6 (by decide) (λx=>R x∨x<w2.heap.size) S w3 p c M t
  ⟨j.o.en,bg.mono (λb v h=> .inl h),λx a hs=>by
   rcases a with a|a
   .exact bn x a hs
   .have:=hS x hs;omega,(((bT.o.mono (ok':=λx=>x<w2.heap.size) (λb v _=>v)).X Q nE).mono (λb _ h=> .inr h)),j.o.wu,j.o.sh,by decide,by decide⟩)
 have di:=Z hR;clear bg hR hS bn Q bf;go_wp2_with fail;refine aC.o.mono ?_;intro e w4 af;cases hr:seen 6 c t with
 |none=>rw[hr] at af;obtain⟨⟨eb,rfl⟩,l⟩:=af;have HR:=Z hr;have bV:=pX eb;have dm:=pY eb;have dn:=LQ;have aj:=Z (bu.o.trans l (λx a e=>by have s:=HS.o x e;have u:=P.o.size;omega));have z:=Z (bz.o.trans l (λx a e=>by have s:=HS.o x e;have u:=aB.o.size;omega));have aF:=ak.o.X z.o id;have aH:=Z (ax.o.X z.o id);have A:=Z (show ¬g+3=g+2 by omega);have m:fZ.length=11:=rfl;have B:fZ.all (·.oneCell')=true:=rfl;clear l hr aC;go_wp2_with (first|(with_reducible refine aA rfl aK rfl rfl rfl aF rfl m B ?_;intro w9 aI o bW;(have n:=aH.o.X o A.o);(have k3:=n.cell 0);(have f3:=n.frozen 0);(simp only[List.getElem?_cons_zero] at k3)));obtain⟨aJ,r, -⟩:=n.setCell 0 (.int .i64 1);have aN:=aI.X r (by have:=A.o;omega);refine leaves_cons (f:=44) (args:=#[.pointer (some ⟨g+2,0,none⟩),.pointer (some ⟨g+3,0,none⟩)]) (by simp) (by simp[go_sem]) ?_;refine(Ij _ _ _).mono ?_;rintro e u' bY ⟨rfl,rfl,rfl⟩;have bZ:=aW.o;have aO:=(aj.o.trans o (λx a e=>by omega)).trans r (λx a e=>by omega);rw[HR.o];exact⟨_,iP (p:=6) (q:=7) rfl aK rfl aN m Tryz.isAgg3 rfl (aJ.cell 0),_,rfl,aO,⟨m,B⟩,λc' h=>(by cases h)⟩
 |some c'=>rw[hr] at af;obtain⟨rfl,l,bD⟩:=af;have HR:=Z hr;have bV:=eY;have dw:=dO;have aj:=Z (bu.o.trans l (λx a e=>by have s:=HS.o x e;have u:=P.o.size;omega));have z:=Z (bz.o.trans l (λx a e=>by have s:=HS.o x e;have u:=aB.o.size;omega));have bF:=Z (Aw 6 c' _ p w4 bD (bP.o c' hr));clear l bD hr aC;go_wp2_with fail;refine bF.o.mono ?_;rintro e w5 ⟨dA,rfl,aP,aQ⟩;have cu:=Z aP;obtain⟨m,B⟩:=aP.one;have cO:=Z (aj.o.trans' aQ);have bG:=Z (z.o.trans' aQ);have aF:=ak.o.X bG.o id;have aH:=Z (ax.o.X bG.o id);have A:=Z (show ¬g+3=g+2 by omega);clear aP aQ bF;go_wp2_with (first|(with_reducible refine aA rfl aK rfl rfl rfl aF rfl m B ?_;intro w9 aI o bW;(have n:=aH.o.X o A.o);(have k3:=n.cell 0);(have f3:=n.frozen 0);(simp only[List.getElem?_cons_zero] at k3)));obtain⟨aJ,r, -⟩:=n.setCell 0 (.int .i64 0);have aN:=aI.X r (by have:=A.o;omega);refine leaves_cons (f:=44) (args:=#[.pointer (some ⟨g+2,0,none⟩),.pointer (some ⟨g+3,0,none⟩)]) (by simp) (by simp[go_sem]) ?_;refine(Ij _ _ _).mono ?_;rintro e u' bY ⟨rfl,rfl,rfl⟩;have bZ:=aW.o;have dB:=aj.o.size;have dC:=ak.o.lt;have dD:=ax.o.lt;have dE:=z.o.size;have aO:=(cO.o.trans o (λx a e=>by omega)).trans r (λx a e=>by omega);rw[HR.o];exact⟨_,iP (p:=6) (q:=7) rfl aK rfl aN m Tryz.isAgg3 rfl (aJ.cell 0),_,rfl,aO,⟨m,B⟩,λc2 h=>by cases h;exact(((cu.o.X o (λb v e=>by omega)).X r (λb v e=>by omega)).mono (λb _ v=>by omega))⟩
def Np(w:World)(r:Option T)(e:Ending)(a:World):Prop:=
 ∃cs:Y,e=.returned (.tuple #[.agg cs.toArray,.int .i64 (Kv r.isSome)])∧O No w a∧aG (λx=>w.heap.size<=x) a cs (jm r)
theorem ni(U:List K)(N:Nat)(hN:N<1099511627776){c0 c:Ch}{t:T}(G:Il U N c0 t)(hF:BB 6 c)(hW:iW U N 50 6 c)(ok:ae)(cs vs:Y)(w:World)(v:dU ok w cs c)(P:aG ok w vs (.table t))(aO:∀o,dJ false c t=some o→Wf 99999999999 60 (.table o)):
  Calls Tryz.prog 18 #[.agg cs.toArray,.agg vs.toArray] w (Np w (dJ false c t)):=by
 have df:∀(fn:Fn)(first cap:Array Value)(w:World),(Instr.makeFunc fn first cap).run Tryz.prog w=.ok (.func fn first cap) w:=λ_ _ _ _=>rfl
 obtain⟨hl,ho⟩:=v.one;obtain⟨name,z,k,b,i,f,A,B,C,D,E,rfl, -, -, -,⟨dh,bG, -⟩,⟨di,bH, -⟩⟩:=v.cells;obtain⟨vk,vb,vi,vf,vt,aP,aQ,rfl⟩:=P.seven;have aS:∀W,((((w.alloc (.cells (az name z k b i f A B C D E).toArray 30)).alloc (.cells (ai vk vb vi vf vt aP aQ).toArray 26)).alloc (.cells bu.toArray 26)).alloc (.cells [.int .i64 0].toArray 3))=W→
   ay W w.heap.size (az name z k b i f A B C D E) 30∧ay W (w.heap.size+1) (ai vk vb vi vf vt aP aQ) 26∧ay W (w.heap.size+2) bu 26∧ay W (w.heap.size+3) [.int .i64 0] 3∧O No w W:=by
  rintro W rfl;exact⟨(((ay.new _ _ _).alloc _).alloc _).alloc _,((ay.newAt (by simp) _ _).alloc _).alloc _,(ay.newAt (by simp) _ _).alloc _,ay.newAt (by simp) _ _,(((((O.refl No w).alloc _).alloc _).alloc _).alloc _)⟩
 have HF:=Z aS;have bI:=Z v;have bJ:=Z P;have a:=Z G;have bK:=Z hF;have bM:=Z hW;have WF:=Z aO;clear aS v P G hF hW aO bG bH hl ho
 go_enter_defers Tryz.func18,Tryz.ntmps18
 unfold az ai;go_upto_region 2 with fail
 generalize aT:World.alloc _ _=W;obtain⟨Q,b4,b6,b7,c1⟩:=HF.o W aT;clear aT HF;obtain⟨g,hg⟩:∃g,g=w.heap.size:=⟨_,rfl⟩;rw[←hg] at Q b4 b6 b7⊢;have aU:=Z hg;have bP:=Z Q;have af:=Z b6;have aj:=Z b7;have aV:=Z c1;clear Q b6 b7 c1 hg;go_wp2_with (first|(with_reducible refine V rfl au rfl rfl b4.cells rfl ?_));refine(uS (N:=300) (d:=50) (by decide) (bJ.o.X aV.o nE) a.o.wf (.inr rfl) (Nat.le_trans a.o.sz (by decide)) (by decide)).mono ?_;rintro e w2 ⟨mv,rfl,aW,F⟩;obtain⟨H,rfl,aX⟩:∃H,mv=.map (some H)∧bC (λy=>W.heap.size<=y) w2 (.iface 67 (.map (some H))) (.table t):=by
  rcases aW with⟨h, -⟩|⟨o,b',h1,h2,h3⟩
  .cases h
  .cases h1;subst h2;exact⟨b',rfl,h3⟩
 have bQ:=Z aX;have aY:=Z (aV.o.trans' F);have aZ:=bP.o.X F id;have bT:=Z F;clear aW aX F b4;have bU:(az name z k b i f A B C D E).length=11:=rfl;go_wp2_with (first|(with_reducible refine V rfl aK rfl rfl aZ.cells bU ?_));refine(uJ 6 c (okB ok w) (az name z k b i f A B C D E) w2 0 (bI.o.dV.X aY.o nE) bK.o (by decide)).mono ?_;rintro e w3 ⟨p,R,S,rfl,bf,hR,hS,bV,I⟩;have bg:=Z (aY.o.trans' I);have bn:=Z (bT.o.trans' I);have ak:=Z (pR U N hN a.o.un a.o.uk a.o.gu 48 6 (by decide) c bM.o (λ_=>True) p t H w3 (bf.vX.mono (λ_ _ _=>trivial)) ((bQ.o.X I nE).mono (λ_ _ _=>trivial)) a.o.wu a.o.sh);clear bf hR hS bV I aZ;go_wp2_with fail;refine ak.o.mono ?_;intro e w4 J;cases hr:dJ false c t with
 |none=>rw[hr] at J;obtain⟨⟨dm,eb,rfl⟩,j⟩:=J;have HR:=Z hr;have bW:=pX eb;have dn:=pY eb;have dw:=LU;have L:=Z (bg.o.trans' j);have r:=Z (bn.o.trans' j);have ax:=af.o.X r.o id;have aB:=Z (aj.o.X r.o id);have s:=Z (show ¬g+3=g+2 by omega);have u:bu.length=7:=rfl;have aC:bu.all (·.oneCell')=true:=rfl;clear j hr ak;go_wp2_with (first|(with_reducible refine aA rfl au rfl rfl rfl ax rfl u aC ?_;intro w9 aF m bY;(have l:=aB.o.X m s.o);(have k3:=l.cell 0);(have f3:=l.frozen 0);(simp only[List.getElem?_cons_zero] at k3)));obtain⟨aH,n, -⟩:=l.setCell 0 (.int .i64 1);have aI:=aF.X n (by have:=s.o;omega);refine leaves_cons (f:=57) (args:=#[.pointer (some ⟨g+2,0,none⟩),.pointer (some ⟨g+3,0,none⟩)]) (by simp) (by simp[go_sem]) ?_;refine(Ik _ _ _).mono ?_;rintro e u' bZ ⟨rfl,rfl,rfl⟩;have cu:=aU.o;have aJ:=(L.o.trans m (λx hx e=>by omega)).trans n (λx hx e=>by omega);rw[HR.o];exact⟨_,iP (p:=4) (q:=5) rfl au rfl aI u Tryz.isAgg3 rfl (aH.cell 0),_,rfl,aJ,.null (dN _ _ _) (dN _ _ _)⟩
 |some o=>rw[hr] at J;obtain⟨⟨g4,rfl,bz⟩,j, -⟩:=J;have HR:=Z hr;have bW:=eY;have dA:=dO;have L:=Z (bg.o.trans' j);have r:=Z (bn.o.trans' j);have bD:=Z (qw 99999999999 (by decide) (by decide) bz (WF.o o hr));clear j bz hr ak;go_wp2_with fail;refine bD.o.mono ?_;rintro e w5 ⟨dB,rfl,M,aN⟩;have cO:=Z M;have u:=M.length;have aC:=M.one;have cZ:=Z (L.o.trans' aN);have bF:=Z (r.o.trans' aN);have ax:=af.o.X bF.o id;have aB:=Z (aj.o.X bF.o id);have s:=Z (show ¬g+3=g+2 by omega);clear M aN bD;go_wp2_with (first|(with_reducible refine aA rfl au rfl rfl rfl ax rfl u aC ?_;intro w9 aF m bY;(have l:=aB.o.X m s.o);(have k3:=l.cell 0);(have f3:=l.frozen 0);(simp only[List.getElem?_cons_zero] at k3)));obtain⟨aH,n, -⟩:=l.setCell 0 (.int .i64 0);have aI:=aF.X n (by have:=s.o;omega);refine leaves_cons (f:=57) (args:=#[.pointer (some ⟨g+2,0,none⟩),.pointer (some ⟨g+3,0,none⟩)]) (by simp) (by simp[go_sem]) ?_;refine(Ik _ _ _).mono ?_;rintro e u' bZ ⟨rfl,rfl,rfl⟩;have cu:=aU.o;have dC:=L.o.size;have dD:=af.o.lt;have dE:=aj.o.lt;have dF:=r.o.size;have aJ:=(cZ.o.trans m (λx hx e=>by omega)).trans n (λx hx e=>by omega);rw[HR.o];exact⟨_,iP (p:=4) (q:=5) rfl au rfl aI u Tryz.isAgg3 rfl (aH.cell 0),_,rfl,aJ,(((cO.o.X m (λb hb e=>by omega)).X n (λb hb e=>by omega)).mono (λb _ hb=>by omega))⟩
end Go.Proofs.YtljaoopfomcaoaaGreatDoor
namespace Go.Proofs.YtljaoopfomcaoaaGreatDoor
theorem Az:∀(L:Nat){c:Ch},nM L c→(jZ L c).length<=441*21 ^ L
 |0,_,h=>h.elim
 |L+1,c,h=>by have e:=qJ 50 c.vals;have f:=h.1.2.1;have a:=jw (jZ L) (λ_=>441*21 ^ L) c.deps (λd b=>Az L (h.2.2.2.2.2.1 d b));rw[List.map_const',List.sum_replicate_nat] at a;have g:c.deps.length*(441*21 ^ L)<=20*(441*21 ^ L):=Nat.mul_le_mul_right _ h.2.2.2.1;have i:1<=21 ^ L:=Nat.one_le_pow _ _ (by decide);have j:=h.2.2.2.2.2.2.1;simp only[jZ,List.length_cons,List.length_append,List.length_map];rw[Nat.pow_succ];omega
theorem CW:∀(L:Nat){c:Ch},nM L c→∀k∈jZ L c,fK k
 |0,_,h,_,_=>h.elim
 |L+1,c,h,k,a=>by
  simp only[jZ,List.mem_cons,List.mem_append,List.mem_flatMap,List.mem_map] at a;rcases a with rfl|a|⟨x,b,rfl⟩|⟨d,e,a⟩
  .have:=h.2.1.le;unfold fK;omega
  .exact pV 50 h.1.1 k a
  .have:=(h.2.2.2.2.2.2.2.1 x b).named.le;unfold fK;omega
  .exact CW L (h.2.2.2.2.2.1 d e) k a
theorem AA{i:iy}(h:zF i):i.parent.size<=200:=by
 cases hm:i.isMap with
 |true=>
  obtain⟨-, -,a, -⟩:=h.1 hm;rcases a with a|a
  .exact a.1
  .rw[a];decide
 |false=>obtain⟨-,b, -⟩:=h.2 hm;rw[b];decide
theorem Kw(l:List Want):(l.map λx=>x.imports.length*201).sum=iq l*201:=by
 unfold iq;induction l with
 |nil=>rfl
 |cons a r b=>simp only[List.map_cons,List.sum_cons,b];omega
theorem AB:∀(L:Nat){c:Ch},nM L c→(∀e,lF e c)→(mV L c).length<=201*21 ^ L
 |0,_,h,_=>h.elim
 |L+1,c,h,a=>by
  have j:=jw (λx:Want=>x.imports.flatMap λi=>parts i.parent 46) (λx=>x.imports.length*201) c.wants (λx k=>by
   have b:=jw (λi:iy=>parts i.parent 46) (λ_=>201) x.imports (λi l=>by have f:=ik i.parent 46;have m:=AA (((a 1).1.2.2 x k).kD i l);omega)
   rwa[List.map_const',List.sum_replicate_nat] at b)
  rw[Kw] at j;have b:iq c.wants<=1:=(a 1).1.2.1;have f:=jw (mV L) (λ_=>201*21 ^ L) c.deps (λd g=>AB L (h.2.2.2.2.2.1 d g) (λe=>(a (e+1)).2 d g));rw[List.map_const',List.sum_replicate_nat] at f;have m:c.deps.length*(201*21 ^ L)<=20*(201*21 ^ L):=Nat.mul_le_mul_right _ h.2.2.2.1;have n:1<=21 ^ L:=Nat.one_le_pow _ _ (by decide);simp only[mV,List.length_append];rw[Nat.pow_succ];omega
theorem CY:∀(L:Nat){c:Ch},nM L c→(∀e,lF e c)→∀k∈mV L c,fK k
 |0,_,h,_,_,_=>h.elim
 |L+1,c,h,b,k,a=>by
  simp only[mV,List.mem_append,List.mem_flatMap] at a;rcases a with⟨x,g,i,j,a⟩|⟨d,f,a⟩
  .have l:=iQ a;have m:=AA (((b 1).1.2.2 x g).kD i j);unfold fK;omega
  .exact CY L (h.2.2.2.2.2.1 d f) (λe=>(b (e+1)).2 d f) k a
def lM(c:Ch)(t:T):List K:=gK::(jZ 6 c++(mV 6 c++iH 50 (.table t)))
theorem Ky{ok:ae}{w:World}{cs vs:Y}{c:Ch}{t:T}(h:JW ok w cs vs c t)(b:∀e,lF e c):Il (lM c t) 99999999999 c t:=by
 refine⟨?_,λk a=> ?_,by simp[lM],⟨⟨h.gQ,h.E5,λk a=>by simp[lM,a]⟩,b,λk a=>by simp[lM,a]⟩,?_,h.NM,h.wf,h.sz⟩
 .have d:=Az 6 h.gQ;have f:=qJ 50 (.table t);have g:=h.sz;have i:=AB 6 h.gQ b;have j:441*21 ^ 6+201*21 ^ 6<=99999990000:=(by decide);simp only[lM,List.length_cons,List.length_append];omega
 .simp only[lM,List.mem_cons,List.mem_append] at a;rcases a with rfl|a|a|a
  .unfold fK;decide
  .exact CW 6 h.gQ k a
  .exact CY 6 h.gQ b k a
  .exact pV 50 h.wf k a
 .exact(D5 50 h.wf (λk a=>by simp[lM,a])).mono (λ_ h=>h) (by decide) lR'
theorem Kz{U:List K}{N:Nat}(e:400<=N){c c':Ch}{t:T}(h:Il U N c t)(a:seen 6 c t=some c'):iW U N (dI 48 6+2) 6 c'∧CU 6 c':=by
 unfold seen at a;cases he:fF 6 c t ByteArray.empty with
 |none=>rw[he] at a;cases a
 |some b=>rw[he] at a;have d:=tY e 6 c b t _ h.en he;have f:=xI 6 c b t _ h.en he;exact⟨xJ (D:=48) h.gu 6 b c' (by decide) d a,CV 6 b c' d f a⟩
end Go.Proofs.YtljaoopfomcaoaaGreatDoor
namespace Go.Proofs.YtljaoopfomcaoaaGreatDoor
open Go.RowKit
theorem AP{P:Program}{f:FuncId}(j:∀(args:Array Value)(w:World),(callFunc f args).run P w=.ok (.enter f args) w){o:Oper}{a:Act}{w:World}{K:ag}{Q:ah}{c d:Operand}{ts:Array TypeId}(k:o.op=.call {callee:=.value (.func f),args:=#[c,d],argTypes:=ts})
  {u1 u2:Value} (g:a.eval c=u1) (i:a.eval d=u2) {R:Ending→World→Prop} (l:Calls P f #[u1,u2] w R) (h:∀e b,R e b→∃v,e=.returned v∧K (a.put o.dst v) b):o.wp P a w K Q:=by
 unfold Oper.wp;have m:(execOp a.eval o).run P w=.ok (.enter f #[u1,u2]) w:=by simp only[execOp,k,List.map_toArray,List.map_cons,List.map_nil,g,i];simp[resolve,Act.eval,go_sem,j];exact⟨by rw[←g];cases c<;>simp[Act.eval],by rw[←i];cases d<;>simp[Act.eval]⟩
 rw[m,Oper.upon_enter];refine l.mono λe b n=> ?_
 obtain⟨v,rfl,p⟩:=h e b n;exact p
def RC(r:Option Ch)(ok:ae)(w:World)(cs:Y):Prop:=(cs.length=11∧cs.all (·.oneCell')=true)∧∀c',r=some c'→dU ok w cs c'
theorem RC.X{r:Option Ch}{ok S:ae}{w a:World}{cs:Y}(h:RC r ok w cs)(c:O S w a)(d:∀b,ok b→¬S b):RC r ok a cs:=⟨h.1,λc' e=>(h.2 c' e).X c d⟩
theorem RC.mono{r:Option Ch}{ok ok':ae}{w:World}{cs:Y}(h:RC r ok w cs)(a:∀b,b<w.heap.size→ok b→ok' b):RC r ok' w cs:=⟨h.1,λc' e=>(h.2 c' e).mono a⟩
def ku{α:Type}(r:Option α):Int:=Kv r.isSome
def Fact.Io(ok:ae)(c:Ch):Fact:=
 ⟨λv w=>∃cs:Y,v=.agg cs.toArray∧dU ok w cs c,λS _=>∀b,ok b→¬S b,
  λS v w g h a d=>by obtain⟨cs,f,h⟩:=h;exact⟨cs,f,h.X a d⟩,λ_ _ _ e=>e⟩
def Fact.Ip(ok:ae)(j:J)(n:Int):Fact:=
 ⟨λv w=>∃cs:Y,v=.tuple #[.agg cs.toArray,.int .i64 n]∧aG ok w cs j,λS _=>∀b,ok b→¬S b,
  λS v w f h a c=>by obtain⟨cs,d,h⟩:=h;exact⟨cs,d,h.X a c⟩,λ_ _ _ e=>e⟩
def Fact.Iq(ok:ae)(r:Option Ch):Fact:=
 ⟨λv w=>∃cs:Y,v=.tuple #[.agg cs.toArray,.int .i64 (ku r)]∧RC r ok w cs,λS _=>∀b,ok b→¬S b,
  λS v w f h a c=>by obtain⟨cs,d,h⟩:=h;exact⟨cs,d,h.X a c⟩,λ_ _ _ e=>e⟩
def Fact.rc(ok:ae)(r:Option Ch):Fact:=
 ⟨λv w=>∃cs:Y,v=.agg cs.toArray∧RC r ok w cs,λS _=>∀b,ok b→¬S b,
  λS v w f h a c=>by obtain⟨cs,d,h⟩:=h;exact⟨cs,d,h.X a c⟩,λ_ _ _ e=>e⟩
theorem yX(ok:ae)(cs vs:Y)(w:World)(E:kG ok w cs)(hv:jK ok w vs):
  Calls Tryz.prog 3 #[.agg cs.toArray,.agg vs.toArray] w (fA w λr _=>r=true):=by
 have HC:=Z (E.mono (ok':=okB ok w) (λb k h=>⟨h,k⟩));have HV:=Z (hv.mono (ok':=okB ok w) (λb k h=>⟨h,k⟩));have bG:=Z Dz;obtain⟨cn,cv,ck,cb,ci,cf,ct,aS,aT,aU,aW,jl, -⟩:=E.cells;obtain⟨M,N,P,Q,R,T,U,jo⟩:=hv.cells;subst jl;subst jo;have bf:∀W,((w.alloc (.cells (az cn cv ck cb ci cf ct aS aT aU aW).toArray 30)).alloc (.cells (ai M N P Q R T U).toArray 26))=W→
   ay W w.heap.size (az cn cv ck cb ci cf ct aS aT aU aW) 30∧ay W (w.heap.size+1) (ai M N P Q R T U) 26∧O No w W:=by
  rintro W rfl;exact⟨(ay.new _ _ _).alloc _,ay.newAt (by simp) _ _,((O.refl No w).alloc _).alloc _⟩
 have HF:=Z bf;clear bf E hv;go_enter Tryz.func3,Tryz.ntmps3;unfold az ai;go_upto_region 1 with fail
 generalize bg:World.alloc _ _=W;obtain⟨b3,b4,v⟩:=HF.o W bg;clear bg HF;obtain⟨g,hg⟩:∃g,g=w.heap.size:=⟨_,rfl⟩;rw[←hg] at b3 b4⊢;have dw:=Z b3;have dA:=Z b4;have iI:=Z v;clear b4 v hg;go_wp2_with (first|(with_reducible refine V rfl aK rfl rfl b3.cells rfl ?_));refine(DT (HC.o.X iI.o nE)).mono ?_;rintro e n ⟨r1,rfl,dN, -⟩;have b4:=(dA.o.X dN id).cells;have dZ:=Z (iI.o.trans' dN);have jq:=Z dN;clear dN b3;cases r1 with
 |false=>go_wp2;go_ret;exact⟨true,rfl,dZ.o,rfl⟩
 |true=>
 go_wp2_with (first|(with_reducible refine aJ rfl au rfl rfl b4 rfl ?_))
 refine(Dv (HV.o.X dZ.o nE)).mono ?_;rintro e w2 ⟨C,rfl,ed, -⟩;have dO:=Z (dZ.o.trans' ed);have dP:=Z (jq.o.trans' ed);clear ed b4;cases C with
 |false=>go_wp2;go_ret;exact⟨true,rfl,dO.o,rfl⟩
 |true=>
 have b3:=(dw.o.X dP.o id).cells;have b4:=(dA.o.X dP.o id).cells;go_wp2_with (first|(with_reducible refine V rfl aK rfl rfl b3 rfl ?_)|(with_reducible refine V rfl au rfl rfl b4 rfl ?_));refine(DU (HC.o.X dO.o nE) (HV.o.X dO.o nE)).mono ?_;rintro e w4 ⟨r4,rfl,dQ,eu⟩;have eF:=(dw.o.X (dP.o.trans' dQ) id).cells;have iJ:=Z (dO.o.trans' dQ);have jr:=Z (dP.o.trans' dQ);clear dQ b3 b4;cases r4 with
 |false=>clear eu eF;go_wp2_with fail;refine(bG.o w4).mono ?_;rintro e w5 ⟨rfl,bH⟩;have dR:=Z (iJ.o.trans' bH);clear bH;go_wp2;go_ret;exact⟨true,rfl,dR.o,rfl⟩
 |true=>
 obtain⟨c,t,iK⟩:=eu rfl;have HG:=Z iK;clear eu iK;go_wp2_with (first|(with_reducible refine aJ rfl aK rfl rfl eF rfl ?_));refine(Dy 6 _ c _ w4 HG.o.Ld HG.o.gQ).mono ?_;rintro e w5 ⟨r5,rfl,bH,eG⟩;have dR:=Z (iJ.o.trans' bH);have eH:=Z (jr.o.trans' bH);have eP:=Z bH;clear bH eF;cases r5 with
 |false=>clear eG;go_wp2_with fail;refine(bG.o w5).mono ?_;rintro e w6 ⟨rfl,bJ⟩;have eU:=Z (dR.o.trans' bJ);clear bJ;go_wp2;go_ret;exact⟨true,rfl,eU.o,rfl⟩
 |true=>
 have af:=Z (Ky HG.o (eG rfl));clear eG;have b3:=(dw.o.X eH.o id).cells;have b4:=(dA.o.X eH.o id).cells;have jv:=Z (HG.o.Ld.X eP.o nE);have jw:=Z (HG.o.JX.X eP.o nE);obtain⟨r,hr⟩:∃r,r=seen 6 c t:=⟨_,rfl⟩;have eX:=Z (FC (lM c t) 99999999999 (by have:=af.o.un;omega) (by decide) af.o.gu 6 (by decide) c af.o.en 50 (okB ok w) _ _ t w5 jv.o jw.o af.o.wu);rw[←hr] at eX;have HR:=Z hr;clear hr;go_wp2_with (first|(with_reducible refine V rfl aK rfl rfl b3 rfl ?_)|(with_reducible refine V rfl au rfl rfl b4 rfl ?_));refine eX.o.mono ?_;rintro e w6 ⟨bK,rfl,bJ,⟨dB,jy⟩,iL⟩;have iM:=Z iL;have eU:=Z (dR.o.trans' bJ);have jA:=Z (eH.o.trans' bJ);have jB:=Z (eP.o.trans' bJ);clear bJ iL b3 b4 eX;have bf:∀o,w6.alloc (.cells bK.toArray 30)=o→ay o w6.heap.size bK 30∧O No w6 o:=by rintro o rfl;exact⟨ay.new _ _ _,(O.refl No w6).alloc _⟩
 have iO:=Z bf;clear bf;go_upto_region 6 with(first|(with_reducible refine ak rfl aK rfl rfl rfl rfl dB jy ?_))
 generalize bg:World.alloc _ _=w7;obtain⟨b5,aY⟩:=iO.o w7 bg;clear bg iO;obtain⟨g5,iP⟩:∃g5,g5=w6.heap.size:=⟨_,rfl⟩;rw[←iP] at b5⊢;have iQ:=Z b5;have iR:=Z (eU.o.trans' aY);have eY:=Z (jA.o.trans' aY);have fB:=Z (jB.o.trans' aY);have fC:=Z (show ∀c',r=some c'→dU (λ_=>True) w7 bK c' from λc' h=>((iM.o c' h).X aY nE).mono (λ_ _ _=>trivial));have fD:=b5.cells;have jC:=Z dB;clear aY b5 iP iM;have L:=Z (show Ar (RC r) from λok S w w' c h E hs=>h.X E hs);cases Nq:r.isSome with
 |false=>
  have bn:r=none:=by cases r<;>simp_all
  have dm:=Z bn;have fE:=Z (show ∀c',seen 6 c t=some c'→BB 6 c' from λc' h=>by rw[←HR.o,bn] at h;cases h);clear bn fD;go_upto_region 8 with fail
  obtain⟨o,I⟩:∃o,o=w7:=⟨_,rfl⟩;rw[←I];have dS:=Z (show ay o g (az cn cv ck cb ci cf ct aS aT aU aW) 30 from I▸dw.o.X eY.o id);have bu:=Z (show ay o (g+1) (ai M N P Q R T U) 26 from I▸dA.o.X eY.o id);have fF:=Z (show dU (okB ok w) o (az cn cv ck cb ci cf ct aS aT aU aW) c from I▸HG.o.Ld.X fB.o nE);have bC:=Z (show aG (okB ok w) o (ai M N P Q R T U) (.table t) from I▸HG.o.JX.X fB.o nE);have bM:=Z (show O No w o from I▸iR.o);clear I;refine eQ (λf=>FI [.eq (.agg (az cn cv ck cb ci cf ct aS aT aU aW).toArray),.Io (bz (λ_=>False) o.heap.size f) c,.eq (.agg (ai M N P Q R T U).toArray),.val (bz (λ_=>False) o.heap.size f) (.table t),.Iq (bz (λ_=>False) o.heap.size f) r,.Iq (bz (λ_=>False) o.heap.size f) r,.rc (bz (λ_=>False) o.heap.size f) r,.eq (.int .i64 (ku r)),.box f,.any,.eq (.int .i64 (ku r))])
   (λf A w'=>GX 30 11 (λ_=>False) (RC r) o 8 9 f A w') (by kernel_rfl) (by kernel_rfl) none (GX.start _ _ _ _ _ _ _) ?_ ?_
  .refine⟨?_,?_,?_,?_,?_,?_,?_,?_,?_,?_,?_,trivial⟩
   .intro f A a n K B s l q m d p;have e2:a.tmps[2]?.getD undef=.pointer (some ⟨g,0,none⟩):=q 2 rfl;refine ax rfl ?_;refine aO aK rfl (vE e2) (dS.o.X d.X id).cells rfl ?_;exact p _ _ _ rfl (d.other L.o (by decide) (by decide) (O.refl _ _)) Sy
   .intro f A a n K B s l q m d p;have fG:=fq (l 0 45 rfl (m 0 rfl));refine ax rfl ?_;refine dW Tryz.call14 rfl (vE fG) (mf 6 c (okB ok w) (az cn cv ck cb ci cf ct aS aT aU aW) n (fF.o.X d.X nE) (pg 6 HG.o.gQ)) ?_;rintro e w2 ⟨J,rfl,x,E⟩;exact⟨_,rfl,p f _ _ ⟨J,rfl,x.mono (λb _ k=>d.fresh k)⟩ (d.other L.o (by decide) (by decide) E) (λ_ _ _ _ h=>h.aP E)⟩
   .intro f A a n K B s l q m d p;have e3:a.tmps[3]?.getD undef=.pointer (some ⟨g+1,0,none⟩):=q 3 rfl;refine ax rfl ?_;refine aO au rfl (vE e3) (bu.o.X d.X id).cells rfl ?_;exact p _ _ _ rfl (d.other L.o (by decide) (by decide) (O.refl _ _)) Sy
   .intro f A a n K B s l q m d p;have fH:=fq (l 2 47 rfl (m 2 rfl));refine ax rfl ?_;refine dW Tryz.call15 rfl (vE fH) (mg 300 (by decide) 50 (okB ok w) (.table t) (ai M N P Q R T U) n (bC.o.X d.X nE) HG.o.wf) ?_;rintro e w2 ⟨J,rfl,x,E⟩;exact⟨_,rfl,p f _ _ ⟨J,rfl,x.mono (λb _ k=>d.fresh k)⟩ (d.other L.o (by decide) (by decide) E) (λ_ _ _ _ h=>h.aP E)⟩
   .intro f A a n K B s l q m d p;obtain⟨bP,fJ,bT⟩:∃J:Y,a.tmps[46]?.getD undef=.agg J.toArray∧dU (bz (λ_=>False) o.heap.size f) n J c:=l 1 46 rfl (m 1 rfl);obtain⟨bU,fK,bV⟩:=l 3 48 rfl (m 3 rfl);refine ax rfl ?_;refine gB Tryz.call13 rfl (vE fJ) (vE fK) rfl (lS (lM c t) 99999999999 (by decide) (by decide) af.o (bz (λ_=>False) o.heap.size f) bP bU n bT bV fE.o) ?_;intro e w2 aI;rw[←HR.o] at aI;obtain⟨bW,rfl,E,fM,bY⟩:=aI;exact⟨_,rfl,p f _ _ ⟨bW,rfl,fM,λc' h=>(bY c' h).mono (λb _ k=>d.fresh k)⟩ (d.other L.o (by decide) (by decide) E) (λ_ _ _ _ h=>h.aP E)⟩
   .intro f A a n K B s l q m d p;obtain⟨v,jD,G⟩:∃v:Y,a.tmps[49]?.getD undef=.tuple #[.agg v.toArray,.int .i64 (ku r)]∧RC r (bz (λ_=>False) o.heap.size f) n v:=l 4 49 rfl (m 4 rfl);have aB:=Z G;clear G;clear s l q m;go_simp;exact p _ _ _ ⟨v,rfl,aB.o⟩ (d.other L.o (by decide) (by decide) (O.refl _ _)) Sy
   .intro f A a n K B s l q m d p;obtain⟨v,fO,G⟩:∃v:Y,a.tmps[44]?.getD undef=.tuple #[.agg v.toArray,.int .i64 (ku r)]∧RC r (bz (λ_=>False) o.heap.size f) n v:=l 5 44 rfl (m 5 rfl);have aB:=Z G;clear G;clear s l q m;go_simp;exact p _ _ _ ⟨v,rfl,aB.o⟩ (d.other L.o (by decide) (by decide) (O.refl _ _)) Sy
   .intro f A a n K B s l q m d p;obtain⟨v,fO,G⟩:∃v:Y,a.tmps[44]?.getD undef=.tuple #[.agg v.toArray,.int .i64 (ku r)]∧RC r (bz (λ_=>False) o.heap.size f) n v:=l 5 44 rfl (m 5 rfl);clear G;clear s l q m;go_simp;exact p _ _ _ rfl (d.other L.o (by decide) (by decide) (O.refl _ _)) Sy
   .intro f A a n K B s l q m d p;have n9:=ny1 s 9 8 rfl B;have aC:=d.qH B;subst aC;have bZ:=Z (d.lay (z:=fZ) rfl (by decide) n9);clear s l q m;clear n9;go_simp;refine p (some n.heap.size) _ _ ⟨_,rfl,rfl⟩ bZ.o ?_;refine λj x fP u y=> ?_
    match j,x with
    |0,_=>exact y
    |1,_=>obtain⟨c,D,F⟩:=y;exact⟨c,D,(F.mono (λb k h=>bQ k h)).X ((O.refl No n).alloc _) nE⟩
    |2,_=>exact y
    |3,_=>obtain⟨c,D,F⟩:=y;exact⟨c,D,(F.mono (λb k h=>bQ k h)).X ((O.refl No n).alloc _) nE⟩
    |4,_=>obtain⟨c,D,F⟩:=y;exact⟨c,D,(F.mono (λb k h=>bQ k h)).X ((O.refl No n).alloc _) nE⟩
    |5,_=>obtain⟨c,D,F⟩:=y;exact⟨c,D,(F.mono (λb k h=>bQ k h)).X ((O.refl No n).alloc _) nE⟩
    |6,_=>obtain⟨c,D,F⟩:=y;exact⟨c,D,(F.mono (λb k h=>bQ k h)).X ((O.refl No n).alloc _) nE⟩
    |7,_=>exact y
    |8,x=>exact absurd rfl x
    |9,_=>exact y
    |10,_=>exact y
    |j+11,_=>exact y
   .intro f A a n K B s l q m d p;obtain⟨t9,rfl,e7⟩:=l 8 7 rfl (m 8 rfl);obtain⟨c2,fQ,aj⟩:∃c2:Y,a.tmps[50]?.getD undef=.agg c2.toArray∧RC r (bz (λ_=>False) o.heap.size (some t9)) n c2:=l 6 50 rfl (m 6 rfl);obtain⟨H,c',k,cu, -⟩:=d.box t9 rfl;refine ax rfl ?_;refine dH aK rfl (vE e7) (vE fQ) k cu aj.1.1 aj.1.2 ?_;intro w2 cO hC fU;refine p (some t9) undef _ trivial (d.put L.o (by decide) hC cO aj.1.1 aj) ?_;refine λj x _ u y=>y.keep hC (aV (i:=9) (λj hl x=> ?_) j x)
    match j,x with
    |0,_=>exact trivial
    |1,_=>exact λb k e=>bI H k e
    |2,_=>exact trivial
    |3,_=>exact λb k e=>bI H k e
    |4,_=>exact λb k e=>bI H k e
    |5,_=>exact λb k e=>bI H k e
    |6,_=>exact λb k e=>bI H k e
    |7,_|8,_=>exact trivial
    |9,x=>exact absurd rfl x
    |10,_=>exact trivial
    |j+11,_=>exact absurd hl (by simp)
   .intro f A a n K B s l q m d p;have jE:=fq (l 7 51 rfl (m 7 rfl));clear s l q m;go_simp;exact p _ _ _ rfl (d.other L.o (by decide) (by decide) (O.refl _ _)) Sy
  .intro f vs wz aF cZ d;obtain⟨g8,aC,e7⟩:∃t,f=some t∧vs 8=.pointer (some ⟨t,0,none⟩):=aF 8 _ rfl (by decide);have dC:vs 10=.int .i64 (ku r):=aF 10 _ rfl (by decide);subst aC;obtain⟨H,c8,dD,fV,dE⟩:=d.box g8 rfl;have gm:=Z dD;have iT:=Z (dE rfl);have aA:=Z d.X;clear dD dE d aF cZ H;simp only[aX,Act.put,List.setIfInBounds_toArray,List.set_cons_succ,List.set_cons_zero,e7,dC];clear e7 dC;have df:=Z (bM.o.trans' aA.o);have gp:ku r=1:=by rw[dm.o];rfl
   rw[gp];go_wp2_with fail;refine(bG.o wz).mono ?_;rintro e w9 ⟨rfl,aN⟩;have dh:=Z (df.o.trans' aN);clear aN;go_wp2;go_ret;exact⟨true,rfl,dh.o,rfl⟩
 |true=>
  obtain⟨c',bn⟩:∃c',r=some c':=by cases r with
   |none=>cases Nq
   |some c'=>exact⟨c',rfl⟩
  have dm:=Z bn;have dV:=Z (Kz (by decide) af.o (HR.o.symm.trans bn));have iU:=Z (Es (lM c t) 99999999999 (dI 48 6+2) af.o.uk af.o.un 6 (λ_=>True) c' bK w7 (fC.o c' bn) dV.o.1 dV.o.2);clear bn;go_wp2_with (first|(with_reducible refine aJ rfl aK rfl rfl fD dB ?_));refine iU.o.mono ?_;rintro e w8 ⟨r8,rfl,aQ,gq⟩;have dn:=Z (iR.o.trans' aQ);have iV:=Z (eY.o.trans' aQ);have iW:=Z (fB.o.trans' aQ);have iY:=Z aQ;clear aQ fD iU;cases r8 with
  |false=>clear gq;go_wp2_with fail;refine(bG.o w8).mono ?_;rintro e w9 ⟨rfl,aN⟩;have dh:=Z (dn.o.trans' aN);clear aN;go_wp2;go_ret;exact⟨true,rfl,dh.o,rfl⟩
  |true=>
  have iZ:=Z (gq rfl);have dF:=Z (Ih 6 c' dV.o.2 iZ.o);have dX:=Z (dV.o.1.cut iZ.o);have fE:=Z (show ∀c',seen 6 c t=some c'→BB 6 c' from λc2 h=>by rw[←HR.o,dm.o] at h;cases h;exact dF.o);clear gq;go_upto_region 8 with fail
  obtain⟨o,I⟩:∃o,o=w8:=⟨_,rfl⟩;rw[←I];have dS:=Z (show ay o g (az cn cv ck cb ci cf ct aS aT aU aW) 30 from I▸dw.o.X iV.o id);have bu:=Z (show ay o (g+1) (ai M N P Q R T U) 26 from I▸dA.o.X iV.o id);have fF:=Z (show dU (okB ok w) o (az cn cv ck cb ci cf ct aS aT aU aW) c from I▸HG.o.Ld.X iW.o nE);have bC:=Z (show aG (okB ok w) o (ai M N P Q R T U) (.table t) from I▸HG.o.JX.X iW.o nE);have jF:=Z (show ay o g5 bK 30 from I▸iQ.o.X iY.o id);have jG:=Z (show dU (λ_=>True) o bK c' from I▸((fC.o c' dm.o).X iY.o nE));have bM:=Z (show O No w o from I▸dn.o);clear I iQ fC;refine eQ (λf=>FI [.eq (.agg (az cn cv ck cb ci cf ct aS aT aU aW).toArray),.Io (bz (λ_=>False) o.heap.size f) c,.eq (.agg (ai M N P Q R T U).toArray),.val (bz (λ_=>False) o.heap.size f) (.table t),.Iq (bz (λ_=>False) o.heap.size f) r,.Iq (bz (λ_=>False) o.heap.size f) r,.rc (bz (λ_=>False) o.heap.size f) r,.eq (.int .i64 (ku r)),.box f,.any,.eq (.int .i64 (ku r))])
   (λf A w'=>GX 30 11 (λ_=>False) (RC r) o 8 9 f A w') (by kernel_rfl) (by kernel_rfl) none (GX.start _ _ _ _ _ _ _) ?_ ?_
  .refine⟨?_,?_,?_,?_,?_,?_,?_,?_,?_,?_,?_,trivial⟩
   .intro f A a n K B s l q m d p;have e2:a.tmps[2]?.getD undef=.pointer (some ⟨g,0,none⟩):=q 2 rfl;refine ax rfl ?_;refine aO aK rfl (vE e2) (dS.o.X d.X id).cells rfl ?_;exact p _ _ _ rfl (d.other L.o (by decide) (by decide) (O.refl _ _)) Sy
   .intro f A a n K B s l q m d p;have fG:=fq (l 0 45 rfl (m 0 rfl));refine ax rfl ?_;refine dW Tryz.call14 rfl (vE fG) (mf 6 c (okB ok w) (az cn cv ck cb ci cf ct aS aT aU aW) n (fF.o.X d.X nE) (pg 6 HG.o.gQ)) ?_;rintro e w2 ⟨J,rfl,x,E⟩;exact⟨_,rfl,p f _ _ ⟨J,rfl,x.mono (λb _ k=>d.fresh k)⟩ (d.other L.o (by decide) (by decide) E) (λ_ _ _ _ h=>h.aP E)⟩
   .intro f A a n K B s l q m d p;have e3:a.tmps[3]?.getD undef=.pointer (some ⟨g+1,0,none⟩):=q 3 rfl;refine ax rfl ?_;refine aO au rfl (vE e3) (bu.o.X d.X id).cells rfl ?_;exact p _ _ _ rfl (d.other L.o (by decide) (by decide) (O.refl _ _)) Sy
   .intro f A a n K B s l q m d p;have fH:=fq (l 2 47 rfl (m 2 rfl));refine ax rfl ?_;refine dW Tryz.call15 rfl (vE fH) (mg 300 (by decide) 50 (okB ok w) (.table t) (ai M N P Q R T U) n (bC.o.X d.X nE) HG.o.wf) ?_;rintro e w2 ⟨J,rfl,x,E⟩;exact⟨_,rfl,p f _ _ ⟨J,rfl,x.mono (λb _ k=>d.fresh k)⟩ (d.other L.o (by decide) (by decide) E) (λ_ _ _ _ h=>h.aP E)⟩
   .intro f A a n K B s l q m d p;obtain⟨bP,fJ,bT⟩:∃J:Y,a.tmps[46]?.getD undef=.agg J.toArray∧dU (bz (λ_=>False) o.heap.size f) n J c:=l 1 46 rfl (m 1 rfl);obtain⟨bU,fK,bV⟩:=l 3 48 rfl (m 3 rfl);refine ax rfl ?_;refine gB Tryz.call13 rfl (vE fJ) (vE fK) rfl (lS (lM c t) 99999999999 (by decide) (by decide) af.o (bz (λ_=>False) o.heap.size f) bP bU n bT bV fE.o) ?_;intro e w2 aI;rw[←HR.o] at aI;obtain⟨bW,rfl,E,fM,bY⟩:=aI;exact⟨_,rfl,p f _ _ ⟨bW,rfl,fM,λc' h=>(bY c' h).mono (λb _ k=>d.fresh k)⟩ (d.other L.o (by decide) (by decide) E) (λ_ _ _ _ h=>h.aP E)⟩
   .intro f A a n K B s l q m d p;obtain⟨v,jD,G⟩:∃v:Y,a.tmps[49]?.getD undef=.tuple #[.agg v.toArray,.int .i64 (ku r)]∧RC r (bz (λ_=>False) o.heap.size f) n v:=l 4 49 rfl (m 4 rfl);have aB:=Z G;clear G;clear s l q m;go_simp;exact p _ _ _ ⟨v,rfl,aB.o⟩ (d.other L.o (by decide) (by decide) (O.refl _ _)) Sy
   .intro f A a n K B s l q m d p;obtain⟨v,fO,G⟩:∃v:Y,a.tmps[44]?.getD undef=.tuple #[.agg v.toArray,.int .i64 (ku r)]∧RC r (bz (λ_=>False) o.heap.size f) n v:=l 5 44 rfl (m 5 rfl);have aB:=Z G;clear G;clear s l q m;go_simp;exact p _ _ _ ⟨v,rfl,aB.o⟩ (d.other L.o (by decide) (by decide) (O.refl _ _)) Sy
   .intro f A a n K B s l q m d p;obtain⟨v,fO,G⟩:∃v:Y,a.tmps[44]?.getD undef=.tuple #[.agg v.toArray,.int .i64 (ku r)]∧RC r (bz (λ_=>False) o.heap.size f) n v:=l 5 44 rfl (m 5 rfl);clear G;clear s l q m;go_simp;exact p _ _ _ rfl (d.other L.o (by decide) (by decide) (O.refl _ _)) Sy
   .intro f A a n K B s l q m d p;have n9:=ny1 s 9 8 rfl B;have aC:=d.qH B;subst aC;have bZ:=Z (d.lay (z:=fZ) rfl (by decide) n9);clear s l q m;clear n9;go_simp;refine p (some n.heap.size) _ _ ⟨_,rfl,rfl⟩ bZ.o ?_;refine λj x fP u y=> ?_
    match j,x with
    |0,_=>exact y
    |1,_=>obtain⟨c,D,F⟩:=y;exact⟨c,D,(F.mono (λb k h=>bQ k h)).X ((O.refl No n).alloc _) nE⟩
    |2,_=>exact y
    |3,_=>obtain⟨c,D,F⟩:=y;exact⟨c,D,(F.mono (λb k h=>bQ k h)).X ((O.refl No n).alloc _) nE⟩
    |4,_=>obtain⟨c,D,F⟩:=y;exact⟨c,D,(F.mono (λb k h=>bQ k h)).X ((O.refl No n).alloc _) nE⟩
    |5,_=>obtain⟨c,D,F⟩:=y;exact⟨c,D,(F.mono (λb k h=>bQ k h)).X ((O.refl No n).alloc _) nE⟩
    |6,_=>obtain⟨c,D,F⟩:=y;exact⟨c,D,(F.mono (λb k h=>bQ k h)).X ((O.refl No n).alloc _) nE⟩
    |7,_=>exact y
    |8,x=>exact absurd rfl x
    |9,_=>exact y
    |10,_=>exact y
    |j+11,_=>exact y
   .intro f A a n K B s l q m d p;obtain⟨t9,rfl,e7⟩:=l 8 7 rfl (m 8 rfl);obtain⟨c2,fQ,aj⟩:∃c2:Y,a.tmps[50]?.getD undef=.agg c2.toArray∧RC r (bz (λ_=>False) o.heap.size (some t9)) n c2:=l 6 50 rfl (m 6 rfl);obtain⟨H,c',k,cu, -⟩:=d.box t9 rfl;refine ax rfl ?_;refine dH aK rfl (vE e7) (vE fQ) k cu aj.1.1 aj.1.2 ?_;intro w2 cO hC fU;refine p (some t9) undef _ trivial (d.put L.o (by decide) hC cO aj.1.1 aj) ?_;refine λj x _ u y=>y.keep hC (aV (i:=9) (λj hl x=> ?_) j x)
    match j,x with
    |0,_=>exact trivial
    |1,_=>exact λb k e=>bI H k e
    |2,_=>exact trivial
    |3,_=>exact λb k e=>bI H k e
    |4,_=>exact λb k e=>bI H k e
    |5,_=>exact λb k e=>bI H k e
    |6,_=>exact λb k e=>bI H k e
    |7,_|8,_=>exact trivial
    |9,x=>exact absurd rfl x
    |10,_=>exact trivial
    |j+11,_=>exact absurd hl (by simp)
   .intro f A a n K B s l q m d p;have jE:=fq (l 7 51 rfl (m 7 rfl));clear s l q m;go_simp;exact p _ _ _ rfl (d.other L.o (by decide) (by decide) (O.refl _ _)) Sy
  .intro f vs wz aF cZ d;obtain⟨g8,aC,e7⟩:∃t,f=some t∧vs 8=.pointer (some ⟨t,0,none⟩):=aF 8 _ rfl (by decide);have dC:vs 10=.int .i64 (ku r):=aF 10 _ rfl (by decide);subst aC;obtain⟨H,c8,dD,fV,dE⟩:=d.box g8 rfl;have gm:=Z dD;have iT:=Z (dE rfl);have aA:=Z d.X;clear dD dE d aF cZ H;simp only[aX,Act.put,List.setIfInBounds_toArray,List.set_cons_succ,List.set_cons_zero,e7,dC];clear e7 dC;have df:=Z (bM.o.trans' aA.o);have gp:ku r=0:=by rw[dm.o];rfl
   rw[gp];have ja:=Z (iT.o.2 c' dm.o);have jX:=Z (dS.o.X aA.o id);have gy:=Z (bu.o.X aA.o id);have gz:=Z (bC.o.X aA.o nE);have b5:=(jF.o.X aA.o id).cells;have b4:=gy.o.cells;have dB:=jC.o;obtain⟨C,gG⟩:∃C,C=dJ false c' t:=⟨_,rfl⟩;have gI:=Z (oN (lM c t) 99999999999 (by have:=af.o.un;omega) af.o.gu false 50 6 c' dX.o 50 (λ_=>True) bK (.table t) _ t wz (jG.o.X aA.o nE) (gz.o.mono (λ_ _ _=>trivial)) (.inr rfl) af.o.wu);rw[←gG] at gI;have dG:=Z gG;clear gG;go_wp2_with (first|(with_reducible refine V rfl aK rfl rfl b5 dB ?_)|(with_reducible refine V rfl au rfl rfl b4 rfl ?_));refine gI.o.mono ?_;rintro e wa ⟨di,rfl,dY,gJ⟩;have jb:=Z dY;have gK:=dY.length;have jH:=dY.one;have jI:=Z (df.o.trans' gJ);have jJ:=Z gJ;clear dY gJ b4 b5 gI;have bf:∀o,wa.alloc (.cells di.toArray 26)=o→ay o wa.heap.size di 26∧O No wa o:=by rintro o rfl;exact⟨ay.new _ _ _,(O.refl No wa).alloc _⟩
   have jc:=Z bf;clear bf;go_upto_region 12 with(first|(with_reducible refine ak rfl au rfl rfl rfl rfl gK jH ?_))
   generalize bg:World.alloc _ _=wb;obtain⟨b9,aY⟩:=jc.o wb bg;clear bg jc;obtain⟨g9,jd⟩:∃g9,g9=wa.heap.size:=⟨_,rfl⟩;rw[←jd] at b9⊢;have jL:=Z b9;have gU:=Z (jI.o.trans' aY);have bD:=Z (jJ.o.trans' aY);have gV:=Z (show aG (λ_=>True) wb di (jm C) from(jb.o.X aY nE).mono (λ_ _ _=>trivial));have gW:=b9.cells;have jM:=Z gK;clear aY b9 jd jb;cases jO:C.isSome with
   |false=>
    have bF:C=none:=by cases C<;>simp_all
    have gX:=Z bF;have gY:=Z (show ∀t',dJ false c' t=some t'→Wf 99999999999 60 (.table t') from λt' h=>by rw[←dG.o,bF] at h;cases h);clear bF gW;go_upto_region 14 with fail
    obtain⟨o,I⟩:∃o,o=wb:=⟨_,rfl⟩;rw[←I];have gZ:=Z (show ay o g8 c8 30 from I▸gm.o.X bD.o id);have ig:=Z (show dU (λ_=>True) o c8 c' from I▸((ja.o.X bD.o nE).mono (λ_ _ _=>trivial)));have bu:=Z (show ay o (g+1) (ai M N P Q R T U) 26 from I▸gy.o.X bD.o id);have bC:=Z (show aG (okB ok w) o (ai M N P Q R T U) (.table t) from I▸gz.o.X bD.o nE);have bM:=Z (show O No w o from I▸gU.o);clear I aA;refine eQ (λf=>FI [.eq (.agg c8.toArray),.Io (bz (λ_=>False) o.heap.size f) c',.eq (.agg (ai M N P Q R T U).toArray),.val (bz (λ_=>False) o.heap.size f) (.table t),.Ip (bz (λ_=>False) o.heap.size f) (jm C) (ku C),.Ip (bz (λ_=>False) o.heap.size f) (jm C) (ku C),.val (bz (λ_=>False) o.heap.size f) (jm C),.eq (.int .i64 (ku C)),.box f,.any,.eq (.int .i64 (ku C))])
     (λf A w'=>GH (λ_=>False) o 8 9 (jm C) f A w') (by kernel_rfl) (by kernel_rfl) none (GH.start _ _ _ _ _) ?_ ?_
    .refine⟨?_,?_,?_,?_,?_,?_,?_,?_,?_,?_,?_,trivial⟩
     .intro f A a n K B s l q m d p;have e7:a.tmps[7]?.getD undef=.pointer (some ⟨g8,0,none⟩):=q 7 rfl;refine ax rfl ?_;refine aO aK rfl (vE e7) (gZ.o.X d.X id).cells fV ?_;exact p _ _ _ rfl (d.other (by decide) (by decide) (O.refl _ _)) Sy
     .intro f A a n K B s l q m d p;have ik:=fq (l 0 73 rfl (m 0 rfl));refine ax rfl ?_;refine dW Tryz.call14 rfl (vE ik) (mf 6 c' _ c8 n (ig.o.X d.X nE) dF.o) ?_;rintro e w2 ⟨J,rfl,x,E⟩;exact⟨_,rfl,p f _ _ ⟨J,rfl,x.mono (λb _ k=>d.fresh k)⟩ (d.other (by decide) (by decide) E) (λ_ _ _ _ h=>h.aP E)⟩
     .intro f A a n K B s l q m d p;have e3:a.tmps[3]?.getD undef=.pointer (some ⟨g+1,0,none⟩):=q 3 rfl;refine ax rfl ?_;refine aO au rfl (vE e3) (bu.o.X d.X id).cells rfl ?_;exact p _ _ _ rfl (d.other (by decide) (by decide) (O.refl _ _)) Sy
     .intro f A a n K B s l q m d p;have iq:=fq (l 2 75 rfl (m 2 rfl));refine ax rfl ?_;refine dW Tryz.call15 rfl (vE iq) (mg 300 (by decide) 50 (okB ok w) (.table t) (ai M N P Q R T U) n (bC.o.X d.X nE) HG.o.wf) ?_;rintro e w2 ⟨J,rfl,x,E⟩;exact⟨_,rfl,p f _ _ ⟨J,rfl,x.mono (λb _ k=>d.fresh k)⟩ (d.other (by decide) (by decide) E) (λ_ _ _ _ h=>h.aP E)⟩
     .intro f A a n K B s l q m d p;obtain⟨bP,iw,bT⟩:∃J:Y,a.tmps[74]?.getD undef=.agg J.toArray∧dU (bz (λ_=>False) o.heap.size f) n J c':=l 1 74 rfl (m 1 rfl);obtain⟨bU,iy,bV⟩:=l 3 76 rfl (m 3 rfl);refine ax rfl ?_;refine AP Tryz.call18 rfl (vE iw) (vE iy) (ni (lM c t) 99999999999 (by decide) af.o dF.o dX.o (bz (λ_=>False) o.heap.size f) bP bU n bT bV gY.o) ?_;intro e w2 aI;rw[←dG.o] at aI;obtain⟨bW,rfl,E,bY⟩:=aI;exact⟨_,rfl,p f _ _ ⟨bW,rfl,bY.mono (λb _ k=>d.fresh k)⟩ (d.other (by decide) (by decide) E) (λ_ _ _ _ h=>h.aP E)⟩
     .intro f A a n K B s l q m d p;obtain⟨v,jP,G⟩:∃v:Y,a.tmps[77]?.getD undef=.tuple #[.agg v.toArray,.int .i64 (ku C)]∧aG (bz (λ_=>False) o.heap.size f) n v (jm C):=l 4 77 rfl (m 4 rfl);have aB:=Z G;clear G;clear s l q m;go_simp;exact p _ _ _ ⟨v,rfl,aB.o⟩ (d.other (by decide) (by decide) (O.refl _ _)) Sy
     .intro f A a n K B s l q m d p;obtain⟨v,iC,G⟩:∃v:Y,a.tmps[72]?.getD undef=.tuple #[.agg v.toArray,.int .i64 (ku C)]∧aG (bz (λ_=>False) o.heap.size f) n v (jm C):=l 5 72 rfl (m 5 rfl);have aB:=Z G;clear G;clear s l q m;go_simp;exact p _ _ _ ⟨v,rfl,aB.o⟩ (d.other (by decide) (by decide) (O.refl _ _)) Sy
     .intro f A a n K B s l q m d p;obtain⟨v,iC,G⟩:∃v:Y,a.tmps[72]?.getD undef=.tuple #[.agg v.toArray,.int .i64 (ku C)]∧aG (bz (λ_=>False) o.heap.size f) n v (jm C):=l 5 72 rfl (m 5 rfl);clear G;clear s l q m;go_simp;exact p _ _ _ rfl (d.other (by decide) (by decide) (O.refl _ _)) Sy
     .intro f A a n K B s l q m d p;have n9:=ny1 s 9 8 rfl B;have aC:=d.qH B;subst aC;have bZ:=Z (d.lay (by decide) n9);clear s l q m;clear n9;go_simp;refine p (some n.heap.size) _ _ ⟨_,rfl,rfl⟩ bZ.o ?_;refine λj x fP u y=> ?_
      match j,x with
      |0,_=>exact y
      |1,_=>obtain⟨c,D,F⟩:=y;exact⟨c,D,(F.mono (λb k h=>bQ k h)).X ((O.refl No n).alloc _) nE⟩
      |2,_=>exact y
      |3,_=>obtain⟨c,D,F⟩:=y;exact⟨c,D,(F.mono (λb k h=>bQ k h)).X ((O.refl No n).alloc _) nE⟩
      |4,_=>obtain⟨c,D,F⟩:=y;exact⟨c,D,(F.mono (λb k h=>bQ k h)).X ((O.refl No n).alloc _) nE⟩
      |5,_=>obtain⟨c,D,F⟩:=y;exact⟨c,D,(F.mono (λb k h=>bQ k h)).X ((O.refl No n).alloc _) nE⟩
      |6,_=>obtain⟨c,D,F⟩:=y;exact⟨c,D,(F.mono (λb k h=>bQ k h)).X ((O.refl No n).alloc _) nE⟩
      |7,_=>exact y
      |8,x=>exact absurd rfl x
      |9,_=>exact y
      |10,_=>exact y
      |j+11,_=>exact y
     .intro f A a n K B s l q m d p;obtain⟨t9,rfl,aZ⟩:=l 8 11 rfl (m 8 rfl);obtain⟨c2,iD,aj⟩:=l 6 78 rfl (m 6 rfl);obtain⟨H,c',k,cu, -⟩:=d.box t9 rfl;refine ax rfl ?_;refine dH au rfl (vE aZ) (vE iD) k cu aj.length aj.one ?_;intro w2 cO hC fU;refine p (some t9) undef _ trivial (d.put (by decide) hC cO aj) ?_;refine λj x _ u y=>y.keep hC (aV (i:=9) (λj hl x=> ?_) j x)
      match j,x with
      |0,_=>exact trivial
      |1,_=>exact λb k e=>bI H k e
      |2,_=>exact trivial
      |3,_=>exact λb k e=>bI H k e
      |4,_=>exact λb k e=>bI H k e
      |5,_=>exact λb k e=>bI H k e
      |6,_=>exact λb k e=>bI H k e
      |7,_|8,_=>exact trivial
      |9,x=>exact absurd rfl x
      |10,_=>exact trivial
      |j+11,_=>exact absurd hl (by simp)
     .intro f A a n K B s l q m d p;have jQ:=fq (l 7 79 rfl (m 7 rfl));clear s l q m;go_simp;exact p _ _ _ rfl (d.other (by decide) (by decide) (O.refl _ _)) Sy
    .intro f vs wz aF cZ d;obtain⟨iE,aC,aZ⟩:∃t,f=some t∧vs 8=.pointer (some ⟨t,0,none⟩):=aF 8 _ rfl (by decide);have dK:vs 10=.int .i64 (ku C):=aF 10 _ rfl (by decide);subst aC;obtain⟨H,je,dL,jR,dM⟩:=d.box iE rfl;have jf:=Z dL;have iF:=Z (dM rfl);have aA:=Z d.X;clear dL dM d aF cZ H;simp only[aX,Act.put,List.setIfInBounds_toArray,List.set_cons_succ,List.set_cons_zero,aZ,dK];clear aZ dK;have df:=Z (bM.o.trans' aA.o);have iG:ku C=1:=by rw[gX.o];rfl
     rw[iG];go_wp2_with fail;refine(bG.o wz).mono ?_;rintro e w9 ⟨rfl,aN⟩;have dh:=Z (df.o.trans' aN);clear aN;go_wp2;go_ret;exact⟨true,rfl,dh.o,rfl⟩
   |true=>
    obtain⟨tt,bF⟩:∃tt,C=some tt:=by cases C with
     |none=>cases jO
     |some tt=>exact⟨tt,rfl⟩
    have gX:=Z bF;have jg:jK (λ_=>True) wb di:=by obtain⟨E',hE⟩:=sJ af.o.gu false 6 c' 50 t tt dX.o af.o.wu (by rw[←dG.o,bF]);have x:=gV.o;rw[bF] at x;exact aG.raw x (hE.wf af.o.uk af.o.un)
    have jh:=Z (qB jg 1900 (by decide));clear bF jg;go_wp2_with (first|(with_reducible refine aJ rfl au rfl rfl gW gK ?_));refine jh.o.mono ?_;rintro e wc ⟨r7,rfl,aH,iH⟩;clear gW jh;cases r7 with
    |false=>clear iH;have jS:=Z (gU.o.trans' aH);clear aH;go_wp2_with fail;refine(bG.o wc).mono ?_;rintro e w8 ⟨rfl,aQ⟩;have dn:=Z (jS.o.trans' aQ);clear aQ;go_wp2;go_ret;exact⟨true,rfl,dn.o,rfl⟩
    |true=>
    have ji:=Z (show Wf 1900 50 (jm C) from by obtain⟨j,D,F,h3⟩:=iH rfl;have h4:=(gV.o.X aH nE).same D;rw[h4];exact F.mono h3 lR');have gY:=Z (show ∀t',dJ false c' t=some t'→Wf 99999999999 60 (.table t') from λt' h=>by rw[←dG.o] at h;have D:=ji.o;rw[h] at D;exact D.mono (by decide) (by decide));clear iH;go_upto_region 14 with fail
    obtain⟨o,I⟩:∃o,o=wc:=⟨_,rfl⟩;rw[←I];rw[←I] at aH;have gZ:=Z (show ay o g8 c8 30 from gm.o.X (bD.o.trans' aH) id);have ig:=Z (show dU (λ_=>True) o c8 c' from((ja.o.X (bD.o.trans' aH) nE).mono (λ_ _ _=>trivial)));have bu:=Z (show ay o (g+1) (ai M N P Q R T U) 26 from gy.o.X (bD.o.trans' aH) id);have bC:=Z (show aG (okB ok w) o (ai M N P Q R T U) (.table t) from gz.o.X (bD.o.trans' aH) nE);have jT:=Z (show ay o g9 di 26 from jL.o.X aH id);have jU:=Z (show aG (λ_=>True) o di (jm C) from gV.o.X aH nE);have bM:=Z (show O No w o from gU.o.trans' aH);clear I aA aH;refine eQ (λf=>FI [.eq (.agg c8.toArray),.Io (bz (λ_=>False) o.heap.size f) c',.eq (.agg (ai M N P Q R T U).toArray),.val (bz (λ_=>False) o.heap.size f) (.table t),.Ip (bz (λ_=>False) o.heap.size f) (jm C) (ku C),.Ip (bz (λ_=>False) o.heap.size f) (jm C) (ku C),.val (bz (λ_=>False) o.heap.size f) (jm C),.eq (.int .i64 (ku C)),.box f,.any,.eq (.int .i64 (ku C))])
     (λf A w'=>GH (λ_=>False) o 8 9 (jm C) f A w') (by kernel_rfl) (by kernel_rfl) none (GH.start _ _ _ _ _) ?_ ?_
    .refine⟨?_,?_,?_,?_,?_,?_,?_,?_,?_,?_,?_,trivial⟩
     .intro f A a n K B s l q m d p;have e7:a.tmps[7]?.getD undef=.pointer (some ⟨g8,0,none⟩):=q 7 rfl;refine ax rfl ?_;refine aO aK rfl (vE e7) (gZ.o.X d.X id).cells fV ?_;exact p _ _ _ rfl (d.other (by decide) (by decide) (O.refl _ _)) Sy
     .intro f A a n K B s l q m d p;have ik:=fq (l 0 73 rfl (m 0 rfl));refine ax rfl ?_;refine dW Tryz.call14 rfl (vE ik) (mf 6 c' _ c8 n (ig.o.X d.X nE) dF.o) ?_;rintro e w2 ⟨J,rfl,x,E⟩;exact⟨_,rfl,p f _ _ ⟨J,rfl,x.mono (λb _ k=>d.fresh k)⟩ (d.other (by decide) (by decide) E) (λ_ _ _ _ h=>h.aP E)⟩
     .intro f A a n K B s l q m d p;have e3:a.tmps[3]?.getD undef=.pointer (some ⟨g+1,0,none⟩):=q 3 rfl;refine ax rfl ?_;refine aO au rfl (vE e3) (bu.o.X d.X id).cells rfl ?_;exact p _ _ _ rfl (d.other (by decide) (by decide) (O.refl _ _)) Sy
     .intro f A a n K B s l q m d p;have iq:=fq (l 2 75 rfl (m 2 rfl));refine ax rfl ?_;refine dW Tryz.call15 rfl (vE iq) (mg 300 (by decide) 50 (okB ok w) (.table t) (ai M N P Q R T U) n (bC.o.X d.X nE) HG.o.wf) ?_;rintro e w2 ⟨J,rfl,x,E⟩;exact⟨_,rfl,p f _ _ ⟨J,rfl,x.mono (λb _ k=>d.fresh k)⟩ (d.other (by decide) (by decide) E) (λ_ _ _ _ h=>h.aP E)⟩
     .intro f A a n K B s l q m d p;obtain⟨bP,iw,bT⟩:∃J:Y,a.tmps[74]?.getD undef=.agg J.toArray∧dU (bz (λ_=>False) o.heap.size f) n J c':=l 1 74 rfl (m 1 rfl);obtain⟨bU,iy,bV⟩:=l 3 76 rfl (m 3 rfl);refine ax rfl ?_;refine AP Tryz.call18 rfl (vE iw) (vE iy) (ni (lM c t) 99999999999 (by decide) af.o dF.o dX.o (bz (λ_=>False) o.heap.size f) bP bU n bT bV gY.o) ?_;intro e w2 aI;rw[←dG.o] at aI;obtain⟨bW,rfl,E,bY⟩:=aI;exact⟨_,rfl,p f _ _ ⟨bW,rfl,bY.mono (λb _ k=>d.fresh k)⟩ (d.other (by decide) (by decide) E) (λ_ _ _ _ h=>h.aP E)⟩
     .intro f A a n K B s l q m d p;obtain⟨v,jP,G⟩:∃v:Y,a.tmps[77]?.getD undef=.tuple #[.agg v.toArray,.int .i64 (ku C)]∧aG (bz (λ_=>False) o.heap.size f) n v (jm C):=l 4 77 rfl (m 4 rfl);have aB:=Z G;clear G;clear s l q m;go_simp;exact p _ _ _ ⟨v,rfl,aB.o⟩ (d.other (by decide) (by decide) (O.refl _ _)) Sy
     .intro f A a n K B s l q m d p;obtain⟨v,iC,G⟩:∃v:Y,a.tmps[72]?.getD undef=.tuple #[.agg v.toArray,.int .i64 (ku C)]∧aG (bz (λ_=>False) o.heap.size f) n v (jm C):=l 5 72 rfl (m 5 rfl);have aB:=Z G;clear G;clear s l q m;go_simp;exact p _ _ _ ⟨v,rfl,aB.o⟩ (d.other (by decide) (by decide) (O.refl _ _)) Sy
     .intro f A a n K B s l q m d p;obtain⟨v,iC,G⟩:∃v:Y,a.tmps[72]?.getD undef=.tuple #[.agg v.toArray,.int .i64 (ku C)]∧aG (bz (λ_=>False) o.heap.size f) n v (jm C):=l 5 72 rfl (m 5 rfl);clear G;clear s l q m;go_simp;exact p _ _ _ rfl (d.other (by decide) (by decide) (O.refl _ _)) Sy
     .intro f A a n K B s l q m d p;have n9:=ny1 s 9 8 rfl B;have aC:=d.qH B;subst aC;have bZ:=Z (d.lay (by decide) n9);clear s l q m;clear n9;go_simp;refine p (some n.heap.size) _ _ ⟨_,rfl,rfl⟩ bZ.o ?_;refine λj x fP u y=> ?_
      match j,x with
      |0,_=>exact y
      |1,_=>obtain⟨c,D,F⟩:=y;exact⟨c,D,(F.mono (λb k h=>bQ k h)).X ((O.refl No n).alloc _) nE⟩
      |2,_=>exact y
      |3,_=>obtain⟨c,D,F⟩:=y;exact⟨c,D,(F.mono (λb k h=>bQ k h)).X ((O.refl No n).alloc _) nE⟩
      |4,_=>obtain⟨c,D,F⟩:=y;exact⟨c,D,(F.mono (λb k h=>bQ k h)).X ((O.refl No n).alloc _) nE⟩
      |5,_=>obtain⟨c,D,F⟩:=y;exact⟨c,D,(F.mono (λb k h=>bQ k h)).X ((O.refl No n).alloc _) nE⟩
      |6,_=>obtain⟨c,D,F⟩:=y;exact⟨c,D,(F.mono (λb k h=>bQ k h)).X ((O.refl No n).alloc _) nE⟩
      |7,_=>exact y
      |8,x=>exact absurd rfl x
      |9,_=>exact y
      |10,_=>exact y
      |j+11,_=>exact y
     .intro f A a n K B s l q m d p;obtain⟨t9,rfl,aZ⟩:=l 8 11 rfl (m 8 rfl);obtain⟨c2,iD,aj⟩:=l 6 78 rfl (m 6 rfl);obtain⟨H,c',k,cu, -⟩:=d.box t9 rfl;refine ax rfl ?_;refine dH au rfl (vE aZ) (vE iD) k cu aj.length aj.one ?_;intro w2 cO hC fU;refine p (some t9) undef _ trivial (d.put (by decide) hC cO aj) ?_;refine λj x _ u y=>y.keep hC (aV (i:=9) (λj hl x=> ?_) j x)
      match j,x with
      |0,_=>exact trivial
      |1,_=>exact λb k e=>bI H k e
      |2,_=>exact trivial
      |3,_=>exact λb k e=>bI H k e
      |4,_=>exact λb k e=>bI H k e
      |5,_=>exact λb k e=>bI H k e
      |6,_=>exact λb k e=>bI H k e
      |7,_|8,_=>exact trivial
      |9,x=>exact absurd rfl x
      |10,_=>exact trivial
      |j+11,_=>exact absurd hl (by simp)
     .intro f A a n K B s l q m d p;have jQ:=fq (l 7 79 rfl (m 7 rfl));clear s l q m;go_simp;exact p _ _ _ rfl (d.other (by decide) (by decide) (O.refl _ _)) Sy
    .intro f vs wz aF cZ d;obtain⟨iE,aC,aZ⟩:∃t,f=some t∧vs 8=.pointer (some ⟨t,0,none⟩):=aF 8 _ rfl (by decide);have dK:vs 10=.int .i64 (ku C):=aF 10 _ rfl (by decide);subst aC;obtain⟨H,je,dL,jR,dM⟩:=d.box iE rfl;have jf:=Z dL;have iF:=Z (dM rfl);have aA:=Z d.X;clear dL dM d aF cZ H;simp only[aX,Act.put,List.setIfInBounds_toArray,List.set_cons_succ,List.set_cons_zero,aZ,dK];clear aZ dK;have df:=Z (bM.o.trans' aA.o);have iG:ku C=0:=by rw[gX.o];rfl
     rw[iG];have jk:=jf.o.cells;have b9:=(jT.o.X aA.o id).cells;have jV:=iF.o.length;have jW:=jM.o;go_wp2_with (first|(with_reducible refine aJ rfl au rfl rfl jk jV ?_)|(with_reducible refine aJ rfl au rfl rfl b9 jW ?_));refine(IK 1900 (by decide) 50 (λ_=>True) (jm C) je di wz (iF.o.mono (λ_ _ _=>trivial)) (jU.o.X aA.o nE) ji.o).mono ?_;rintro e w8 ⟨rfl,aQ⟩;have dn:=Z (df.o.trans' aQ);clear aQ b9 jk;go_wp2_with fail;refine(bG.o w8).mono ?_;rintro e w9 ⟨rfl,aN⟩;have dh:=Z (dn.o.trans' aN);clear aN;go_wp2;go_ret;exact⟨true,rfl,dh.o,rfl⟩
end Go.Proofs.YtljaoopfomcaoaaGreatDoor
namespace Go.Proofs.YtljaoopfomcaoaaGreatDoor
open Go.RowKit Go.ChangeShapes Go.WideShapes
section
variable {H:Type} {enc:TypeId × Value→H} {W W':World}
theorem kids:Kids Tryz.prog (·<Tryz.prog.types.size):=kids_rows (by kernel_rfl) (by kernel_rfl)
theorem O.sameAt(a:O No W W'){p:MemPlace}(c:p.block<W.heap.size):W.sameAt W' p:=by
 have h:=a.block p.block c id;cases p with
 |cell b o=>exact a.KF (p:=⟨b,o,none⟩) c id
 |map b=>exact h
theorem C9{ts:List TypeId}(c:O No W W'):∀{ts:List TypeId}{vs:Y} {d:List (DataW H)} {a:List MemPlace},
  DataW.TrodAll enc Tryz.prog W 0 (λ_=>true) true ts vs d a→(∀p∈a,p.block<W.heap.size)→DataW.TrodAll enc Tryz.prog W' 0 (λ_=>true) true ts vs d a
 |[],[],[],_,h,_=>h
 | _:: _,_:: _,_:: _,_,⟨p,q,⟨n,hn⟩,g,e⟩,f=>
  ⟨p,q,⟨n,DataW.trod_carry n _ _ _ hn (λx b=>c.sameAt (f x (by rw[e];exact List.mem_append_left _ b)))⟩,
   C9 (ts:=ts) c g (λx b=>f x (by rw[e];exact List.mem_append_right _ b)),e⟩
theorem full:∀t e,t<Tryz.prog.types.size→Tryz.prog.underlying t=some (.slice e)→0<Tryz.prog.cellsOf e:=slices_full_of Tryz.prog (by kernel_rfl)
theorem O.keptBut(a:O No W W')(b:MemPlace→Prop):W.keptBut W' b:=by
 refine⟨a.os,a.output,λi c=> ?_⟩;rw[a.block i c id];cases h:W.heap[i]? with
 |none=>rfl
 |some o=>cases o<;>first|exact⟨rfl,rfl,rfl,λ_ _=>rfl⟩|exact .inr ⟨rfl,rfl⟩|rfl
theorem Ji{f:Func}{s:ChangeSpec}{w D E F:Bool}{args:Array Value}{v:Value}{d h:List (DataW H)}{c:List MemPlace}
  (G:∀t∈f.params.toList,t<Tryz.prog.types.size) (y:s.vars=[])
  (k:DataW.Whole enc Tryz.prog f.params.toList s.vars w W args.toList d h c) (l:O No W W')
  (z:∀(b:Nat)(g:Nat→Bool)(I:Bool),DataW.TrodAll enc Tryz.prog W' b g I f.resultTypes.toList (v.resultList f.resultTypes.size) (s.fn H (d++h)).results [])
  (J:(s.fn H (d++h)).args=d) (K:(s.fn H (d++h)).vars=[])
  (L:∀(j:Nat)(t:TypeId)(r:Value),f.resultTypes[j]?=some t→(v.resultList f.resultTypes.size)[j]?=some r→Value.okWide Tryz.prog W' .any 0 t r):
  s.post enc Tryz.prog f w D E F W args v W':=by
 have m:=k.lt;have M:∀p∈c,(λb=>decide (b<W.heap.size)) p.block=true:=λp n=>by simpa using m p n
 have N:=k;obtain⟨p,q,P,o,e,Q,R⟩:=k;rw[y] at o;have S:h=[]∧q=[]:=by
  cases h with
  |nil=>exact⟨rfl,o⟩
  |cons a b=>exact o.elim
 obtain⟨rfl,rfl⟩:=S;rw[List.append_nil] at e;subst e;have T:=C9 (ts:=[]) l P m;have A:∀g:Nat→Bool,(∀x∈c,g x.block=true)→DataW.TrodAll enc Tryz.prog W' 0 g true f.params.toList args.toList (s.fn H (d++[])).args c:=by intro g U;rw[J];exact DataW.TrodAll.respare kids full G T U
 have B:∀g:Nat→Bool,DataW.TrodVars enc Tryz.prog W' g s.vars (s.fn H (d++[])).vars []:=by intro g;rw[K,y];exact rfl
 refine⟨d,[],c,[],c,[],N,z _ _ _,A _ M,B _,World.keptBut_mono (λx i=>⟨i,.inr (.inl i)⟩) (l.keptBut (·∈c)),λ_=> ?_⟩;refine⟨L,_,_,([]++c)++[],⟨[]++c,[],trodAll_append (A _ (λ_ _=>rfl)) (z _ _ _),B _,rfl,?_,?_⟩,?_⟩
 .intro b u n;have C:MemPlace.cell b u∈c:=(by simpa using n);rw[l.IA (p:=⟨b,u,none⟩) (m _ C) id];exact Q b u C
 .intro V;simpa using R V
 .intro x i _;simpa using i
theorem rq{a:Addr}{n:Nat}{cs:Y}(h:W.cells? 0 a n=some cs)(c:0<n):a.spot=none∧a.block<W.heap.size:=by obtain⟨-,e,d⟩:=World.cells?_some h;have b:=d 0 c;rw[List.getElem?_eq_getElem (by omega)] at b;exact⟨by simpa[Addr.add] using World.cell?_spot b,by simpa[Addr.add] using World.block_lt_of_cell? _ _ b⟩
abbrev okW(W:World):ae:=λb=>b<W.heap.size
theorem oP{P:Program}{e:TypeId}:∀{l:List (DataW H)} {d:DataW H},d∈l→∀n∈d.weights P e,n∈DataW.weightsAll P e l
 | _:: _,d,h,n,a=>by
  unfold DataW.weightsAll;rcases List.mem_cons.1 h with rfl|h
  .exact List.mem_append_left _ a
  .exact List.mem_append_right _ (oP h n a)
theorem uM{t e size:Nat}{g:Bool}{p:Nat}{v:Value}{x:DataW H × List MemPlace}(E:Tryz.prog.underlying t=some (.slice e))(L:Tryz.prog.cellsOf e=size)(M:0<size)
  (h:DataW.trod enc Tryz.prog W 0 (λ_=>true) g p t [v]=some x):
  ∃d,aC (okW W) W v size d∧∃n,n<p∧∀r∈d,∃y,DataW.trod enc Tryz.prog W 0 (λ_=>true) g n e r=some y∧∀m∈y.1.weights Tryz.prog e,m∈x.1.weights Tryz.prog t:=by
 rcases DataW.trod_slice E h with⟨N, -⟩|⟨a,q,cap,l,rest,n,rfl,O,rfl, -,P,s,Q,w, -, -⟩
 .cases N;exact⟨[],⟨by simp[maxLen],by simp,none,0,rfl,λ_=>rfl,λe=>absurd rfl e⟩,0,by
   cases p with
   |zero=>simp[DataW.trod] at h
   |succ n=>omega,by simp⟩
 .cases O;rw[L] at w;have R:∀y∈l,∀m∈y.1.weights Tryz.prog e,m∈DataW.weights Tryz.prog t (.slice (l.map (·.1)) (rest.map (·.1))):=by
   intro y z m s;unfold DataW.weights;rw[E];exact List.mem_cons_of_mem _ (List.mem_append_left _ (oP (List.mem_map_of_mem z) m s))
  have F:∀i,i<q→∃cs,W.cells? 0 (a.add (i*size)) size=some cs∧∃y∈l,DataW.trod enc Tryz.prog W 0 (λ_=>true) g n e cs=some y:=by intro i c;have G:=w i c;rw[List.getElem?_eq_getElem (by omega)] at G;obtain⟨cs,A,B⟩:=Option.bind_eq_some_iff.1 G;exact⟨cs,A,_,List.getElem_mem _,B⟩
  have S:∃d:List (Y),d.length=q∧∀(i:Nat)(r:Y),d[i]?=some r→W.cells? 0 (a.add (i*size)) size=some r∧∃y∈l,DataW.trod enc Tryz.prog W 0 (λ_=>true) g n e r=some y:=by
   clear w Q P s h;induction q with
   |zero=>exact⟨[],rfl,by simp⟩
   |succ k T=>
    obtain⟨d,o,f⟩:=T (λi c=>F i (by omega));obtain⟨cs,A,B⟩:=F k (by omega);refine⟨d++[cs],by simp[o],λi r c=> ?_⟩;by_cases U:i<d.length
    .rw[List.getElem?_append_left U] at c;exact f i r c
    .rw[List.getElem?_append_right (by omega)] at c;have:i=d.length:=by
      have:=(gS'.1 c).1;simp at this;omega
     subst this;rw[Nat.sub_self] at c;cases c;rw[o];exact⟨A,B⟩
  obtain⟨d,o,f⟩:=S;subst o;refine⟨d,⟨by omega,λr C=> ?_,some a,cap,rfl,(by intro e;cases e),λV=> ?_⟩,n,by omega,λr C=> ?_⟩
  .obtain⟨i,c⟩:=List.getElem?_of_mem C;exact(World.cells?_some (f i r c).1).2.1
  .obtain⟨X,af⟩:∃r,d[0]?=some r:=by
    cases d with
    |nil=>exact absurd rfl V
    |cons r rs=>exact⟨r,rfl⟩
   obtain⟨ai,hb⟩:=rq (f 0 X af).1 M;have I:a.spot=none:=(by simpa[Addr.add] using ai);have J:a.block<W.heap.size:=(by simpa[Addr.add] using hb);obtain⟨b,aj,sp⟩:=a;simp only at I J;subst I;refine⟨b,aj,rfl,J,λi r c j u K=> ?_⟩;have D:=(World.cells?_some (f i r c).1).2.2 j (by have:=(World.cells?_some (f i r c).1).2.1;have:=(gS'.1 K).1;omega);rw[K] at D;rw[add_eq,add_eq] at D;exact D
  .obtain⟨i,c⟩:=List.getElem?_of_mem C;obtain⟨y,z,h6⟩:=(f i r c).2;exact⟨y,h6,R y z⟩
theorem BD(P:Program)(t:TypeId)(l:List UInt8):l.length∈DataW.weights P t (.lit (.string l):DataW H):=by unfold DataW.weights;exact List.mem_singleton.2 rfl
theorem BF{f:Bool}{g:Nat}{v:Value}{x:DataW H × List MemPlace}(h:DataW.trod enc Tryz.prog W 0 (λ_=>true) f g 23 [v]=some x)(i:∀n∈x.1.weights Tryz.prog 23,n<=reachBytes):
  ∃ks:List K,aC (okW W) W v 1 (aH ks)∧∀k∈ks,fK k:=by
 obtain⟨c,d,n, -,e⟩:=uM (size:=1) Tryz.underlying23 (by kernel_rfl) (by decide) h;have j:∃ks:List K,c=aH ks∧∀k∈ks,fK k:=by
  clear d;induction c with
  |nil=>exact⟨[],rfl,by simp⟩
  |cons r z l=>
   obtain⟨ks,a,m⟩:=l (λr o=>e r (by simp[o]));obtain⟨y,p,q⟩:=e r (by simp);obtain⟨s,t,u,A⟩:=DataW.trod_string Tryz.underlying9 p;refine⟨s::ks,by rw[t,a];rfl,λk b=> ?_⟩;rcases List.mem_cons.1 b with rfl|b
   .have w:=i k.data.toList.length (q _ (by rw[u];exact BD _ _ _));have B:k.size=k.data.toList.length:=by rw[Array.length_toList];rfl
    unfold fK;unfold reachBytes at w;omega
   .exact m k b
 obtain⟨ks,rfl,a⟩:=j;exact⟨ks,d,a⟩
theorem yY{t:Nat}{b:Bool}{c:Nat}{cs:Y}{x:DataW H × List MemPlace}{e:Array Field}(g:Tryz.prog.underlying t=some (.struct e))
  (h:DataW.trod enc Tryz.prog W 0 (λ_=>true) b c t cs=some x):∃n,c=n+1∧cs.length=Tryz.prog.cellsOf t∧
   ∀(i:Nat)(f:Field),e[i]?=some f→∃y,DataW.trod enc Tryz.prog W 0 (λ_=>true) b n f.type ((cs.drop f.offset).take (Tryz.prog.cellsOf f.type))=some y∧∀m∈y.1.weights Tryz.prog f.type,m∈x.1.weights Tryz.prog t:=by
 obtain⟨xs,n,rfl,rfl,o,r,p⟩:=DataW.trod_struct g h;refine⟨n,rfl,o,λi f a=> ?_⟩;have k:=p i f a;have l:i<xs.length:=by have:=(Array.getElem?_eq_some_iff.1 a).1;omega
 rw[List.getElem?_eq_getElem l] at k;refine⟨_,k,λm q=> ?_⟩;unfold DataW.weights;rw[g];refine DataW.weights_mem_each (j:=i) (t:=f.type) (d:=xs[i].1) ?_ ?_ m q
 .simp[Array.getElem?_toList,a]
 .simp[List.getElem?_eq_getElem l]
theorem qO:Tryz.prog.cellsOf 26=7:=by kernel_rfl
theorem FV:Tryz.prog.cellsOf 2=1:=by kernel_rfl
theorem FW:Tryz.prog.cellsOf 3=1:=by kernel_rfl
theorem tu:Tryz.prog.cellsOf 4=1:=by kernel_rfl
theorem iw:Tryz.prog.cellsOf 9=1:=by kernel_rfl
theorem Et:Tryz.prog.cellsOf 22=1:=by kernel_rfl
theorem wU:Tryz.prog.cellsOf 23=1:=by kernel_rfl
theorem Eu:Tryz.prog.cellsOf 24=1:=by kernel_rfl
theorem KA{cs:Y}(h:cs.length=7):∃a b c d e f g,cs=[a,b,c,d,e,f,g]:=by
 match cs,h with
 |[a,b,c,d,e,f,g],_=>exact⟨a,b,c,d,e,f,g,rfl⟩
theorem FX{P:Program}{t:TypeId}{k:FloatKind}{w:World}{c:Nat}{d:Nat→Bool}{e:Bool}{a:Nat}{cs:Y}{x:DataW H × List MemPlace}(f:P.underlying t=some (.float k))(h:DataW.trod enc P w c d e a t cs=some x):∃b,cs=[.float k b]:=by
 cases a with
 |zero=>simp[DataW.trod] at h
 |succ n=>
  unfold DataW.trod at h;rw[f] at h
  split at h<;>simp_all
theorem AQ{t:Nat}{c:Bool}{d:Nat}{cs:Y}{x:DataW H × List MemPlace}{e:Array Field}(g:Tryz.prog.underlying t=some (.struct e))
  (h:DataW.trod enc Tryz.prog W 0 (λ_=>true) c d t cs=some x):∃n,d=n+1∧cs.length=Tryz.prog.cellsOf t∧
   ∀(i:Nat)(f:Field)(a b size:Nat),e[i]?=some f→f.type=a→f.offset=b→Tryz.prog.cellsOf a=size→∃y,DataW.trod enc Tryz.prog W 0 (λ_=>true) c n a ((cs.drop b).take size)=some y∧∀m∈y.1.weights Tryz.prog a,m∈x.1.weights Tryz.prog t:=by
 obtain⟨n,j,k,l⟩:=yY g h;refine⟨n,j,k,λi f a b size o p q r=> ?_⟩;subst p;subst q;subst r;exact l i f o
theorem wV{w:Bool}(c:Nat):∀(cs:Y)(x:DataW H × List MemPlace),DataW.trod enc Tryz.prog W 0 (λ_=>true) w c 26 cs=some x→(∀n∈x.1.weights Tryz.prog 26,n<=reachBytes)→jK (okW W) W cs:=by
 induction c using Nat.strongRecOn with
 | _ c z=>
  intro cs x h d;obtain⟨n,rfl,e,a⟩:=AQ Tryz.underlying26 h;rw[qO] at e;obtain⟨P,Q,R,S,T,U,V,rfl⟩:=KA e;obtain⟨X,g, -⟩:=a 0 _ 3 0 1 rfl rfl rfl FW;obtain⟨y1,j, -⟩:=a 1 _ 4 1 1 rfl rfl rfl tu;obtain⟨y2,l, -⟩:=a 2 _ 2 2 1 rfl rfl rfl FV;obtain⟨y3,o, -⟩:=a 3 _ 22 3 1 rfl rfl rfl Et;obtain⟨y4,p, -⟩:=a 4 _ 9 4 1 rfl rfl rfl iw;obtain⟨y5,s,A⟩:=a 5 _ 23 5 1 rfl rfl rfl wU;obtain⟨y6,u,w6⟩:=a 6 _ 24 6 1 rfl rfl rfl Eu;simp only[List.drop_succ_cons,List.drop_zero,List.take_succ_cons,List.take_zero] at g j l o p s u;obtain⟨k,B, -, -⟩:=DataW.trod_int Tryz.underlying3 g;obtain⟨b,C, -⟩:=DataW.trod_bool Tryz.underlying4 j;obtain⟨i,D, -, -⟩:=DataW.trod_int Tryz.underlying2 l;obtain⟨f,E⟩:=FX Tryz.underlying22 o;obtain⟨t,F, -, -⟩:=DataW.trod_string Tryz.underlying9 p;obtain⟨ks,G,I⟩:=BF s (λm v=>d m (A m v));obtain⟨af,J,m,v,K⟩:=uM Tryz.underlying24 qO (by decide) u;cases B;cases C;cases D;cases E;cases F;refine jK.mk (ks:=ks) G I J λr L=> ?_
  obtain⟨y,M,N⟩:=K r L;exact z m (by omega) r y M (λq O=>d q (w6 q (N q O)))
end
end Go.Proofs.YtljaoopfomcaoaaGreatDoor
