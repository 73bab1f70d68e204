/- A part of the proof. -/
import Derived.Test.YtljaoopfomcaoaaGreatDoorMc6
set_option linter.unusedVariables false
set_option linter.unusedSimpArgs false
set_option maxRecDepth 100000
set_option maxHeartbeats 4000000
namespace Go.Proofs.YtljaoopfomcaoaaGreatDoor
open Go.RowKit
theorem iT{P:Program}{o:Oper}{a:Act}{w:World}{K:ag}{Q:ah}{f:TypeId}{x y:Operand}(n:o.op=.store f x y)
  {g i:Nat} (p:a.eval x=.pointer (some ⟨g,i,none⟩)) {v:Value} (q:∃b c d,v=.slice b c d) (r:∀w,(Go.sizeOf f).run P w=.ok 1 w) {cs:Y} {t:TypeId} (e:ay w g cs t) (s:i<cs.length) (u:a.eval y=v)
  (h:∀w',ay w' g (cs.set i v) t→O (·=g) w w'→w'.heap.size=w.heap.size→K (a.put o.dst undef) w'):o.wp P a w K Q:=by
 obtain⟨b,c,d,rfl⟩:=q;have j:=e.cell i;have z:=e.frozen i;rw[List.getElem?_eq_getElem s] at j;obtain⟨k,l,m⟩:=e.setCell i (.slice b c d);have A:=h _ k l m;clear h k l m;unfold Oper.wp execOp;simp only[n,p,u];simp[go_sem,r,j,z];exact A
def nT(B:Nat)(v:Value)(w:World):Prop:=∃b,v=.slice (some ⟨b,0,none⟩) 0 0∧B<=b∧ay w b [] 9
theorem nT.keep{B:Nat}:∀v w w',nT B v w→O No w w'→nT B v w':=by rintro v w w' ⟨b,a,c,d⟩ e;exact⟨b,a,c,d.X e id⟩
theorem nT.new{B:Nat}{w:World}(h:B<=w.heap.size):nT B (.slice (some ⟨w.heap.size,0,none⟩) 0 0) (w.alloc (.cells #[] 9)):=⟨_,rfl,h,ay.new w [] 9⟩
def Cf(B:Nat)(x:Want)(v:Value)(w:World):Prop:=∃a,v=.agg (jc x ByteArray.empty a (.slice none 0 0)).toArray∧aB w B 9 1 a (aH x.tags)
theorem Cf.keep{B:Nat}{x:Want}:∀v w w',Cf B x v w→O No w w'→Cf B x v w':=by rintro v w w' ⟨a,b,c⟩ d;exact⟨a,b,c.X d nE⟩
def qV(B:Nat)(x:Want)(v:Value)(w:World):Prop:=∃q a,v=ptr q∧B<=q∧ay w q (jc x ByteArray.empty a (.slice none 0 0)) 154∧aB w B 9 1 a (aH x.tags)
theorem qV.keep{B:Nat}{x:Want}:∀v w w',qV B x v w→O No w w'→qV B x v w':=by rintro v w w' ⟨q,b,c,d,e,f⟩ a;exact⟨q,b,c,d,e.X a id,f.X a nE⟩
theorem qV.new{B:Nat}{x:Want}{w:World}{a:Value}(h:B<=w.heap.size)(b:aB w B 9 1 a (aH x.tags)):qV B x (ptr w.heap.size) (w.alloc (.cells (jc x ByteArray.empty a (.slice none 0 0)).toArray 154)):=
 ⟨_,a,rfl,h,ay.new w _ 154,b.alloc _⟩
def DW(B:Nat)(w:World):ae:=λy=>B<=y∧∀a b m,w.heap[y]?≠some (.cells a b m)
def mO(B:Nat)(b:List Nat)(w:World):ae:=λy=>B<=y∧∀c a m,w.heap[y]?=some (.cells c a m)→a∉b
theorem DW.X{B:Nat}{w w':World}{S:ae}(g:O S w w')(j:∀y,y<w.heap.size→S y→∃c d m,w.heap[y]?=some (.cells c d m)){v:Value}{i:iy}(h:qU (DW B w) w v i):qU (DW B w') w' v i:=by
 have k:qU (λy=>DW B w y∧y<w.heap.size) w v i:=h.mono (λb a h=>⟨h,a⟩);refine(k.X g (λb a e=> ?_)).mono (λb _ a=>⟨a.1.1,λc d m e=> ?_⟩)
 .obtain⟨c,d,m,f⟩:=j b a.2 e;exact a.1.2 _ _ _ f
 .have l:¬S b:=λn=>by
   obtain⟨c,d,m,f⟩:=j b a.2 n;exact a.1.2 _ _ _ f
  rw[g.block b a.2 l] at e;exact a.1.2 _ _ _ e
theorem mO.X{B:Nat}{c:List Nat}{w w':World}{S:ae}(g:O S w w')(j:∀y,y<w.heap.size→S y→∃f d m,w.heap[y]?=some (.cells f d m)∧d∈c){q:Nat}{x:Want}(h:iF (mO B c w) w q x)(k:¬S q):iF (mO B c w') w' q x:=by
 have i:∀b,mO B c w b∧b<w.heap.size→¬S b:=λb a e=>by obtain⟨f,d,m,l,n⟩:=j b a.2 e;exact a.1.2 _ _ _ l n
 refine((h.mono (ok':=λy=>mO B c w y∧y<w.heap.size) (λb a h=>⟨h,a⟩)).X g i k).mono (λb _ a=>⟨a.1.1,λf d m e=> ?_⟩);rw[g.block b a.2 (i b a)] at e;exact a.1.2 _ _ _ e
structure WI (B:Nat) (x:Want) (q:Nat) (tv:Value) (W0 wr:World) (n:Nat) (iv:Value) (MW:Y):Prop where
 jh:ay wr q (jc x ByteArray.empty tv iv) 154
 own:aB wr B 20 1 iv (MW.map λu=> [u])
 len:MW.length=n
 imp:∀(j:Nat)(u:Value)(i:iy),MW[j]?=some u→x.imports[j]?=some i→qU (DW B wr) wr u i
 X:O (λk=>k=q) W0 wr
 new:∀k,iv.ownBlock=some k→W0.heap.size<=k
theorem WI.keep{B:Nat}{x:Want}{q:Nat}{b:Value}{c wr w':World}{n:Nat}{d:Value}{f:Y}(h:WI B x q b c wr n d f)(a:O No wr w'):WI B x q b c w' n d f:=
 ⟨h.jh.X a id,h.own.X a nE,h.len,λj u i g k=>DW.X a (λ_ _ e=>e.elim) (h.imp j u i g k),h.X.trans' a,h.new⟩
theorem WI.step{B:Nat}{x:Want}{q:Nat}{g:Value}{m wy w2:World}{n:Nat}{f c:Value}{d:Y}(h:WI B x q g m wy n f d){u:Value}{im:iy}(r:x.imports[n]?=some im)(s:ay w2 q (jc x ByteArray.empty g c) 154)
  (t:aB w2 B 20 1 c ((d.map λu=> [u])++[[u]])) (w:c.ownBlock=f.ownBlock∨∀k,c.ownBlock=some k→wy.heap.size<=k) (o:O (λb=>b=q∨f.ownBlock=some b) wy w2) (z:qU (DW B w2) w2 u im) (E:∀k,f.ownBlock=some k→k<wy.heap.size):WI B x q g m w2 (n+1) c (d++[u]):=by
 have F:=h.X.size;refine⟨s,by simpa using t,by simp[h.len],λj v i a l=> ?_,h.X.trans o (λi G e=> ?_),λk p=> ?_⟩
 .by_cases A:j<d.length
  .rw[List.getElem?_append_left A] at a;refine DW.X o (λy _ e=> ?_) (h.imp j v i a l);rcases e with e|e
   .subst e;exact⟨_,_,_,h.jh⟩
   .obtain⟨-, -,H,C⟩:=h.own.elem e;exact⟨_,_,_,C⟩
  .have D:j=d.length:=by
    have:=(gS'.1 a).1;simp at this;omega
   subst D;rw[List.getElem?_append_right lR',Nat.sub_self] at a;cases a;rw[h.len,r] at l;cases l;exact z
 .rcases e with e|e
  .exact e
  .have:=h.new i e;omega
 .rcases w with a|a
  .exact h.new k (a▸p)
  .have:=a k p;omega
def H5(im:iy)(c p:Bool):K→Option Value:=λk=>if k=dX then(if c then some (.iface 9 (.string im.child)) else none) else if k=dG then(if p then some (.iface 9 (.string im.parent)) else none) else none
theorem GG:dX≠dG:=by decide
structure MG (wy:World) (im:iy) (γ:Option Nat) (done:Nat→Bool) (w:World):Prop where
 iff:done 5=γ.isSome
 map:∀b,γ=some b→wy.heap.size<=b∧aU w b ((done 9).toNat+(done 13).toNat) (H5 im (done 9) (done 13))
theorem E8(c p:Bool):c.toNat+p.toNat<maxLen:=by cases c<;>cases p<;>decide
theorem aU.DX{w:World}{b n:Nat}{f:K→Option Value}(h:aU w b n f){e:TypeId}:¬∃a,w.heap[b]?=some (.cells a e (0,0)):=by rintro⟨a,g⟩;obtain⟨D,⟨i,c,d, -⟩, -⟩:=h;rw[g] at d;cases d
theorem MG.start(wy:World)(im:iy):MG wy im none (λ_=>false) wy.drew:=⟨rfl,λb h=>by cases h⟩
section
variable {wy:World} {im:iy} {γ:Option Nat} {done:Nat→Bool} {w w':World}
theorem MG.X{S:ae}(h:MG wy im γ done w){i:Nat}(c:i≠5)(d:i≠9)(e:i≠13)(g:O S w w')(j:∀b n f,aU w b n f→¬S b):MG wy im γ (dn done i) w':=by refine⟨by rw[fH c];exact h.iff,λb k=> ?_⟩;obtain⟨l,a⟩:=h.map b k;rw[fH d,fH e];exact⟨l,a.X g (j _ _ _ a)⟩
theorem MG.other(h:MG wy im γ done w){i:Nat}(a:i≠5)(b:i≠9)(c:i≠13)(d:O No w w'):MG wy im γ (dn done i) w':=h.X a b c d (λ_ _ _ _ e=>e)
theorem MG.MX(h:MG wy im γ done w)(b:done 5=false):γ=none:=by
 have a:=h.iff;rw[b] at a;cases γ with
 |none=>rfl
 |some t=>cases a
theorem MG.lay(h:MG wy im none done w)(d:wy.heap.size<=w.heap.size)(e:done 9=false)(f:done 13=false):MG wy im (some w.heap.size) (dn done 5) (w.alloc (.map #[] 0)):=by
 refine⟨by rw[rE];rfl,λb g=> ?_⟩;cases g;rw[fH (by decide),fH (by decide),e,f];refine⟨d,?_⟩;have i:H5 im false false=λ_=>none:=by
  funext k
  unfold H5;by_cases a:k=dX
  .rw[if_pos a];rfl
  .rw[if_neg a];by_cases c:k=dG
   .rw[if_pos c];rfl
   .rw[if_neg c]
 rw[i];exact aU.made w
theorem MG.NP{b:Nat}(h:MG wy im (some b) done w)(d:done 9=false)(e:wy.heap.size<=b)(c:aU w' b ((done 9).toNat+(done 13).toNat+1) (λz=>if z=dX then some (.iface 9 (.string im.child)) else H5 im (done 9) (done 13) z))(i:O (·=b) w w'):MG wy im (some b) (dn done 9) w':=by
 refine⟨by rw[fH (by decide)];exact h.iff,λj f=> ?_⟩;cases f;rw[rE,fH (by decide)];rw[d] at c;have g:(λz=>if z=dX then some (.iface 9 (.string im.child)) else H5 im false (done 13) z)=H5 im true (done 13):=by
  funext z
  unfold H5;by_cases a:z=dX
  .rw[if_pos a,if_pos a];rfl
  .rw[if_neg a,if_neg a,if_neg a]
 rw[g] at c;refine⟨e,?_⟩;rw[show true.toNat+(done 13).toNat=false.toNat+(done 13).toNat+1 by simp;omega];exact c
theorem MG.MZ{b:Nat}(h:MG wy im (some b) done w)(d:done 13=false)(f:wy.heap.size<=b)(c:aU w' b ((done 9).toNat+(done 13).toNat+1) (λz=>if z=dG then some (.iface 9 (.string im.parent)) else H5 im (done 9) (done 13) z))(k:O (·=b) w w'):MG wy im (some b) (dn done 13) w':=by
 refine⟨by rw[fH (by decide)];exact h.iff,λl g=> ?_⟩;cases g;rw[rE,fH (by decide)];rw[d] at c;have i:(λz=>if z=dG then some (.iface 9 (.string im.parent)) else H5 im (done 9) false z)=H5 im (done 9) true:=by
  funext z
  unfold H5;by_cases a:z=dG
  .have j:z≠dX:=λe=>GG (e▸a)
   rw[if_pos a,if_neg j,if_pos a];rfl
  .rw[if_neg a,if_neg a,if_neg a]
 rw[i] at c;refine⟨f,?_⟩;exact c
end
def Fact.L8(γ:Option Nat):Fact:=⟨λv _=>∃b,γ=some b∧v=.map (some b),λ_ _=>True,λS v w w' h _ _=>h,λ_=>trivial⟩
def Fact.Oh(γ:Option Nat):Fact:=⟨λv _=>∃b,γ=some b∧v=.iface 67 (.map (some b)),λ_ _=>True,λS v w w' h _ _=>h,λ_=>trivial⟩
theorem JY{B:Nat}{w:World}{b n:Nat}{im:iy}(h:aU w b n (H5 im true true))(l:B<=b):bC (DW B w) w (.iface 67 (.map (some b))) (.table [(dX,.text im.child),(dG,.text im.parent)]):=by
 have g:∀k,get [(dX,J.text im.child),(dG,.text im.parent)] k=if k=dX then some (.text im.child) else if k=dG then some (.text im.parent) else none:=λk=>by
  show(if dX=k then some (J.text im.child) else if dG=k then some (J.text im.parent) else none)=_
  simp only[eq_comm (a:=dX),eq_comm (a:=dG)]
 refine .table h ⟨l,λo p m e=> ?_⟩ (λk=> ?_) (λk u x f d=> ?_)
 .obtain⟨D,⟨q,c,d, -⟩, -⟩:=h;rw[e] at d;cases d
 .rw[g];unfold H5;by_cases f:k=dX
  .rw[if_pos f,if_pos f];rfl
  .rw[if_neg f,if_neg f];by_cases d:k=dG
   .rw[if_pos d,if_pos d];rfl
   .rw[if_neg d,if_neg d];rfl
 .rw[g] at d;unfold H5 at f;by_cases i:k=dX
  .rw[if_pos i] at f d;cases f;cases d;exact .text
  .rw[if_neg i] at f d;by_cases j:k=dG
   .rw[if_pos j] at f d;cases f;cases d;exact .text
   .rw[if_neg j] at f;cases f
structure WL (w:World) (xs:List Want) (wr:World) (n:Nat) (wv:Value) (qs:List Nat):Prop where
 le:n<=xs.length
 own:aB wr w.heap.size 152 1 wv (aF qs)
 nil:n=0→wv=.slice none 0 0
 len:qs.length=n
 nd:qs.Nodup
 lo:∀q∈qs,w.heap.size<=q
 dep:∀(i q:Nat)(x:Want),qs[i]?=some q→xs[i]?=some x→iF (mO w.heap.size [154,152] wr) wr q x
 X:O No w wr
theorem WL.lt{w:World}{xs:List Want}{wr:World}{n:Nat}{c:Value}{a:List Nat}(h:WL w xs wr n c a):∀q∈a,q<wr.heap.size:=λq d=>by obtain⟨i,b⟩:=List.getElem?_of_mem d;have f:=(gS'.1 b).1;obtain⟨x,e⟩:=gX' xs i ((by have:=h.len;have:=h.le;omega));exact(h.dep i q x b e).lt
theorem aB.GI{w:World}{c e size k:Nat}{v:Value}{d:List (Y)}(h:aB w c e size v d)(f:v.ownBlock=some k){g:Array Value}{a:TypeId}{m:Nat × Nat}(i:w.heap[k]?=some (.cells g a m)):a=e:=by
 obtain⟨-, -,j,b⟩:=h.elem f;rw[i] at b;cases b
 rfl
theorem WL.step{w:World}{xs:List Want}{wr:World}{n:Nat}{l:Value}{s:List Nat}(h:WL w xs wr n l s){x:Want}(I:xs[n]?=some x){t D w3 v:World}{q:Nat}{E J K:Value}{L:Y}(M:O No wr t)(N:O No t D)(ax:t.heap.size<=q)
  (g:WI t.heap.size x q E D w3 x.imports.length J L) (F:aB w3 t.heap.size 9 1 E (aH x.tags)) (ay:q<D.heap.size)
  (G:O (λb=>l.ownBlock=some b) (w3.alloc (.cells #[ptr q] 152)) v) (U:aB v w.heap.size 152 1 K (aF s++[[ptr q]])):WL w xs v (n+1) K (s++[q]):=by
 have V:n<xs.length:=(gS'.1 I).1;have az:=h.X.size;have aA:=M.size;have aC:=N.size;have aG:=g.X.size;have W:=G.size;simp at W;have P:=h.lt;have af:∀k,l.ownBlock=some k→k<wr.heap.size:=λk H=>(h.own.elem H).2.1
 have A:O (λk=>k=q) wr w3:=(((M.trans' N).mono (λ_ _ e=>e.elim))).trans g.X nE;have ai:O (λk=>k=q∨l.ownBlock=some k) wr v:=((A.mono (S':=λk=>k=q∨l.ownBlock=some k) (λ_ _ e=> .inl e)).alloc _).trans G (λi g e=> .inr e);have Q:O (λk=>l.ownBlock=some k) w3 v:=((O.refl _ w3).alloc _).trans G (λi g e=>e);have R:∀k,l.ownBlock=some k→∃d,w3.heap[k]?=some (.cells d 152 (0,0)):=λk H=>by obtain⟨-,c,d,o⟩:=h.own.elem H;exact⟨d,(A.block k c (λe=>by omega)).trans o⟩
 have S:∀y,y<w3.heap.size→l.ownBlock=some y→∃d p m,w3.heap[y]?=some (.cells d p m)∧p∈ [154,152]:=λy _ r=>by obtain⟨d,B⟩:=R y r;exact⟨_,_,_,B,by decide⟩
 refine⟨V,by simpa[aF] using U,λe=>by omega,by simp[h.len],?_,λy r=> ?_,λi y z c o=> ?_,h.X.trans ai (λi g e=> ?_)⟩
 .refine List.nodup_append.2 ⟨h.nd,by simp,λa ha b f e=> ?_⟩;have c:b=q:=(by simpa using f);have:=P a ha;omega
 .rcases List.mem_append.1 r with r|r
  .exact h.lo y r
  .have:y=q:=(by simpa using r);omega
 .by_cases hj:i<s.length
  .rw[List.getElem?_append_left hj] at c;have aI:=P y (mG' c);have C:=h.dep i y z c o;have aJ:iF (mO w.heap.size [154,152] wr) wr y z:=C;have aj:iF (λb=>mO w.heap.size [154,152] wr b∧b<wr.heap.size) wr y z:=C.mono (λb f h=>⟨h,f⟩);have T:=(aj.X A (λb f e=>by have:=f.2;omega) (λe=>by omega)).mono (ok':=mO w.heap.size [154,152] w3) (λb _ f=>⟨f.1.1,λd p m e=>f.1.2 d p m (by rw[←A.block b f.2 (λe=>by have:=f.2;omega)];exact e)⟩);refine mO.X Q S T (λe=> ?_);obtain⟨aK,t1,t2,t3,ak, -⟩:=T;obtain⟨d,B⟩:=R y e;have h3:w3.heap[y]?=_:=ak;rw[h3] at B;cases B
  .have au:i=s.length:=by
    have:=(gS'.1 c).1;simp at this;omega
   subst au;rw[List.getElem?_append_right lR',Nat.sub_self] at c;cases c;rw[h.len,I] at o;cases o;have C:iF (mO w.heap.size [154,152] w3) w3 q x:=by refine⟨ByteArray.empty,E,J,L,g.jh,F.rowAt.mono (λb f c=>⟨by have:=(F.elem c).1;omega,λd p m e=>by rw[F.GI c e];decide⟩) (by decide),g.own.rowAt.mono (λb f c=>⟨by have:=(g.own.elem c).1;omega,λd p m e=>by rw[g.own.GI c e];decide⟩) (by decide),g.len,λj u im c o=>(g.imp j u im c o).mono (λb _ c=>⟨by have:=c.1;omega,λd p m e=>absurd e (c.2 _ _ _)⟩)⟩
   refine mO.X Q S C (λe=> ?_);have:=af q e;omega
 .rcases e with e|e
  .omega
  .exact absurd (h.own.elem e).1 (by omega)
def Ci(w:World)(xs:List Want)(e:Ending)(w':World):Prop:=
 ∃d b,e=.returned (.tuple #[d,.bool true])∧(∃a n c,d=.slice a n c)∧(xs=[]→d=.slice none 0 0)∧aC (λy=>w.heap.size<=y∧y∉b) w' d 1 (aF b)∧b.length=xs.length∧b.Nodup∧(∀q∈b,w.heap.size<=q)∧
  (∀(i q:Nat)(x:Want),b[i]?=some q→xs[i]?=some x→iF (λy=>w.heap.size<=y∧y∉b) w' q x)∧O No w w'
theorem WL.done{w:World}{xs:List Want}{wr:World}{a:Value}{c:List Nat}(h:WL w xs wr xs.length a c):Ci w xs (.returned (.tuple #[a,.bool true])) wr:=by
 have k:∀q∈c,∃d,wr.heap[q]?=some (.cells d 154 (0,0)):=λq n=>by obtain⟨i,l⟩:=List.getElem?_of_mem n;have o:=(gS'.1 l).1;obtain⟨x,p⟩:=gX' xs i ((by rw[←h.len];exact o));obtain⟨u,v,y,z,r, -⟩:=h.dep i q x l p;exact⟨_,r⟩
 refine⟨a,c,rfl,h.own.slice,λe=>h.nil (by rw[e];rfl),h.own.rowAt.mono (λb f m=>⟨(h.own.elem m).1,λg=> ?_⟩) (by decide),h.len,h.nd,h.lo,λi q x s t=>(h.dep i q x s t).mono (λb _ f=>⟨f.1,λg=> ?_⟩),h.X⟩
 .obtain⟨d,j⟩:=k b g;have:=h.own.GI m j;cases this
 .obtain⟨d,j⟩:=k b g;exact f.2 _ _ _ j (by decide)
theorem DY{ok:ae}{lv:Value}{w:World}{Q:List (Y)}{xs:List Want}(h:aC ok w lv 7 Q)(hn:Q.length=xs.length)(hx:∀(n:Nat)(r:Y)(x:Want),Q[n]?=some r→xs[n]?=some x→dF ok w r x)(hs:∀x∈xs,mF x)(dR:xs.length<=40):
  Calls Tryz.prog 83 #[lv] w (Ci w xs):=by
 have HR:=Z (h.mono (ok':=okB ok w) (λb H h=>⟨h,H⟩) (by decide));have HN:=Z hn;have HX:=Z (λn r x W R=>(hx n r x W R).mono (ok':=okB ok w) (λb H h=>⟨h,H⟩));have HS:=Z hs;have fV:=Z dR;have h4:¬(40:Int)<(Q.length:Int):=(by omega);have h5:(Q.length:Int)<=40:=(by omega);obtain⟨-, -,la,lc,rfl, -, -⟩:=h;have dU:=Z (show WL w xs w 0 (.slice none 0 0) [] from⟨zL',aB.nil _ _ _ _,λ_=>rfl,rfl,by simp,by simp,λi q x h=>by simp at h,O.refl _ _⟩);clear hn hx hs dR;go_enter Tryz.func83,Tryz.ntmps83;go_wp2_with fail;go_loopw [4,12] (λv ct wr=>∃(n:Nat)(qs:List Nat)(wa:Option Addr)(wc:Nat),v=.slice wa n wc∧ct=.int .i64 n∧WL w xs wr n (.slice wa n wc) qs) (λ_ ct _=>Q.length - (intOf ct).toNat)
 case atStart=>exact⟨0,[],none,0,rfl,rfl,dU.o⟩
 case round=>
  obtain⟨n,qs,wa,wc,rfl,rfl,dV⟩:=hrel;have S:=Z dV;clear dV dU;by_cases dW:n<Q.length
  .obtain⟨r,hr⟩:=gX' Q n (dW);obtain⟨x,hx⟩:=gX' xs n ((by rw[←HN.o];exact dW));obtain⟨lb,lo,rfl, -,bf⟩:=HR.o.at (i:=n) (r:=r) hr;have bf:=bf.X S.o.X id;have dZ:=(HX.o n r x hr hx).X S.o.X nE;have bH:=HS.o x (mG' hx);obtain⟨bI,bW⟩:=dZ.len;obtain⟨iQ,iR,rfl,ht,hi⟩:=dZ;have ed:=Z bH.sm;have fZ:=Z bH.fB;have gm:=Z hx;have bY:=Z ht;have bZ:=Z hi;have eu:=ht.1;have eF:=hi.1;have iU:=bH.kD;obtain⟨-, -,ta,tc,rfl, -, -⟩:=ht;obtain⟨-, -,ia,ic,rfl, -, -⟩:=hi;simp only[aH,dS,List.length_map] at eu eF bf bI bW bY bZ;unfold maxLen at eu eF;have iV:¬(20:Int)<(x.imports.length:Int):=(by omega);have iW:(x.imports.length:Int)<=20:=(by omega);have gp:(n:Int)<(Q.length:Int):=(by omega);obtain⟨M,eG⟩:∃g,g=wr.heap.size:=⟨_,rfl⟩;have eH:=Z eG;clear hr hx bH eG;go_upto_region 5 with(first|(with_reducible refine V rfl dD rfl rfl bf bI ?_)|(with_reducible refine ak rfl dD rfl rfl rfl rfl bI bW ?_))
   obtain⟨I,cO⟩:∃I,I=wr.alloc (.cells (aI x (.slice ta x.tags.length tc) (.slice ia x.imports.length ic)).toArray 79):=⟨_,rfl⟩;have bg:=ay.newAt eH.o (aI x (.slice ta x.tags.length tc) (.slice ia x.imports.length ic)) 79;rw[←cO] at bg⊢;rw[←eH.o];have aJ:=Z (show O No wr I by rw[cO];exact(O.refl No wr).alloc _);have aK:=Z bg;have gq:=Z (bY.o.X aJ.o nE);have aO:=Z (bZ.o.X aJ.o nE);have k1:I.cell? ⟨M,1,none⟩=some (.string x.version):=bg.cell 1;have k6:I.cell? ⟨M,6,none⟩=some (.slice ia x.imports.length ic):=bg.cell 6;clear bg cO bf bI bW bY bZ;go_wp2_with fail;refine(zD x.version ed.o.fB.ok fZ.o I).mono ?_;rintro e wt ⟨rfl,eP⟩;obtain rfl:=eP.symm;clear eP;go_upto_region 7 with fail
   clear k1 k6;refine aT (FI [.eq (.pointer (some ⟨M,0,none⟩)),.eq (.string x.name),.eq (.pointer (some ⟨M,1,none⟩)),.eq (.string x.version),.eq (.pointer (some ⟨M,2,none⟩)),.eq (.string x.condition),.eq (.pointer (some ⟨M,3,none⟩)),.eq (.string x.bF),.zU (nT I.heap.size) nT.keep,.eq (.pointer (some ⟨M,4,none⟩)),.eq (.slice ta x.tags.length tc),.own I.heap.size 9 1 (aH x.tags),.eq (.pointer (some ⟨M,5,none⟩)),.eq (.bool x.enabled),.zU (Cf I.heap.size x) Cf.keep,.zU (qV I.heap.size x) qV.keep,.zU (qV I.heap.size x) qV.keep])
    (λdone w'=>O No I w') (by kernel_rfl) (by kernel_rfl) ((O.refl No _).drew) ?_ ?_
   .refine⟨?_,?_,?_,?_,?_,?_,?_,?_,?_,?_,?_,?_,?_,?_,?_,?_,?_,trivial⟩
    .intro done a z K C o s y p d A;have e6:a.tmps[6]?.getD undef=.pointer (some ⟨M,0,none⟩):=y 6 rfl;clear o s y p;go_simp;exact A _ _ rfl (d.trans' (O.refl No _)) Sy
    .intro done a z K C o s y p d A;have iY:=fq (s 0 31 rfl (p 0 rfl));have c0:z.cell? ⟨M,0,none⟩=some (.string x.name):=(aK.o.X d id).cell 0;clear o s y p;go_simp;exact A _ _ rfl (d.trans' (O.refl No _)) Sy
    .intro done a z K C o s y p d A;have e6:a.tmps[6]?.getD undef=.pointer (some ⟨M,0,none⟩):=y 6 rfl;clear o s y p;go_simp;exact A _ _ rfl (d.trans' (O.refl No _)) Sy
    .intro done a z K C o s y p d A;have iZ:=fq (s 2 33 rfl (p 2 rfl));have c0:z.cell? ⟨M,1,none⟩=some (.string x.version):=(aK.o.X d id).cell 1;clear o s y p;go_simp;exact A _ _ rfl (d.trans' (O.refl No _)) Sy
    .intro done a z K C o s y p d A;have e6:a.tmps[6]?.getD undef=.pointer (some ⟨M,0,none⟩):=y 6 rfl;clear o s y p;go_simp;exact A _ _ rfl (d.trans' (O.refl No _)) Sy
    .intro done a z K C o s y p d A;have ja:=fq (s 4 35 rfl (p 4 rfl));have c0:z.cell? ⟨M,2,none⟩=some (.string x.condition):=(aK.o.X d id).cell 2;clear o s y p;go_simp;exact A _ _ rfl (d.trans' (O.refl No _)) Sy
    .intro done a z K C o s y p d A;have e6:a.tmps[6]?.getD undef=.pointer (some ⟨M,0,none⟩):=y 6 rfl;clear o s y p;go_simp;exact A _ _ rfl (d.trans' (O.refl No _)) Sy
    .intro done a z K C o s y p d A;have jb:=fq (s 6 37 rfl (p 6 rfl));have c0:z.cell? ⟨M,3,none⟩=some (.string x.bF):=(aK.o.X d id).cell 3;clear o s y p;go_simp;exact A _ _ rfl (d.trans' (O.refl No _)) Sy
    .intro done a z K C o s y p d A;have bK:=zV;have J:O No z (z.alloc (.cells #[] 9)):=(O.refl No z).alloc _;have HC:=Z J;have HE:=Z (nT.new (B:=I.heap.size) d.size);clear J;clear o s y p;go_simp;exact A _ _ HE.o (d.trans' HC.o) (λ_ _ _ _ h=>h.aP HC.o)
    .intro done a z K C o s y p d A;have e6:a.tmps[6]?.getD undef=.pointer (some ⟨M,0,none⟩):=y 6 rfl;clear o s y p;go_simp;exact A _ _ rfl (d.trans' (O.refl No _)) Sy
    .intro done a z K C o s y p d A;have jd:=fq (s 9 40 rfl (p 9 rfl));have c0:z.cell? ⟨M,4,none⟩=some (.slice ta x.tags.length tc):=(aK.o.X d id).cell 4;clear o s y p;go_simp;exact A _ _ rfl (d.trans' (O.refl No _)) Sy
    .intro done a z K C o s y p d A;obtain⟨eb,gu,gy,gz⟩:nT I.heap.size (a.tmps[39]?.getD undef) z:=s 8 39 rfl (p 8 rfl);have gB:=fq (s 10 41 rfl (p 10 rfl));refine ax rfl ?_;refine yJ iK rfl (vE gu) gy gz (vE gB) (gq.o.X d nE) (by intro r hr;simp only[aH,List.mem_map] at hr;obtain⟨q, -,rfl⟩:=hr;rfl) (by have:=ed.o.tags.1;simp only[aH,List.length_map];omega) (by decide) d.size ?_;intro v' w2 G J;exact A _ _ G (d.trans' J) (λ_ _ _ _ h=>h.aP J)
    .intro done a z K C o s y p d A;have e6:a.tmps[6]?.getD undef=.pointer (some ⟨M,0,none⟩):=y 6 rfl;clear o s y p;go_simp;exact A _ _ rfl (d.trans' (O.refl No _)) Sy
    .intro done a z K C o s y p d A;have je:=fq (s 12 43 rfl (p 12 rfl));have c0:z.cell? ⟨M,5,none⟩=some (.bool x.enabled):=(aK.o.X d id).cell 5;clear o s y p;go_simp;exact A _ _ rfl (d.trans' (O.refl No _)) Sy
    .intro done a z K C o s y p d A;have jf:=fq (s 1 32 rfl (p 1 rfl));have jg:=fq (s 3 34 rfl (p 3 rfl));have ji:=fq (s 5 36 rfl (p 5 rfl));have jk:=fq (s 7 38 rfl (p 7 rfl));have G:aB z I.heap.size 9 1 (a.tmps[42]?.getD undef) (aH x.tags):=s 11 42 rfl (p 11 rfl);have jl:=fq (s 13 44 rfl (p 13 rfl));obtain⟨ua,un,uc,gG⟩:=G.slice;rw[gG] at G;have jm:=IX;have gI:=Z G;clear G;clear o s y p;go_simp;exact A _ _ ⟨_,rfl,gI.o⟩ (d.trans' (O.refl No _)) Sy
    .intro done a z K C o s y p d A;obtain⟨tv,jo,G⟩:Cf I.heap.size x (a.tmps[45]?.getD undef) z:=s 14 45 rfl (p 14 rfl);have J:O No z (z.alloc (.cells (jc x ByteArray.empty tv (.slice none 0 0)).toArray 154)):=(O.refl No z).alloc _;have HC:=Z J;have HD:=Z (qV.new (x:=x) d.size G);have jq:(jc x ByteArray.empty tv (.slice none 0 0)).length=8:=rfl;clear G J;clear o s y p;go_simp;exact A _ _ HD.o (d.trans' HC.o) (λ_ _ _ _ h=>h.aP HC.o)
    .intro done a z K C o s y p d A;have gJ:qV I.heap.size x (a.tmps[46]?.getD undef) z:=s 15 46 rfl (p 15 rfl);obtain⟨q,tv,jr,eU⟩:=gJ;have HQ:=Z eU;clear eU;clear o s y p;go_simp;exact A _ _ ⟨q,tv,rfl,HQ.o⟩ (d.trans' (O.refl No _)) Sy
   .intro vs w2 aY bn d;obtain⟨q,tv,e7,eX,eY,fA⟩:qV I.heap.size x (vs 16) w2:=aY 16 _ rfl (by decide);have cZ:=Z eX;have dh:=Z eY;have fC:=Z fA;have aZ:=Z d;clear aY bn d eX eY fA;simp only[aX,Act.put,List.setIfInBounds_toArray,List.set_cons_succ,List.set_cons_zero,e7];clear e7;have k6:w2.cell? ⟨M,6,none⟩=some (.slice ia x.imports.length ic):=(aK.o.X aZ.o id).cell 6;have aO:=Z (aO.o.X aZ.o nE);have fD:=Z (show WI I.heap.size x q tv w2 w2 0 (.slice none 0 0) [] from⟨dh.o,aB.nil _ _ _ _,rfl,λj u i h=>by simp at h,O.refl _ _,λk L=>by cases L⟩);go_wp2_with fail;clear k6;go_loopw [50] (λct wr=>∃(m:Nat)(iv:Value)(az:Y),ct=.int .i64 m∧m<=x.imports.length∧WI I.heap.size x q tv w2 wr m iv az) (λct _=>x.imports.length - (intOf ct).toNat);case atStart=>exact⟨0,_,_,rfl,zL',fD.o⟩
    case round=>
     obtain⟨m,iv,az,rfl,jv,fE⟩:=hrel;have aA:=Z fE;clear fE fD;by_cases gK:m<x.imports.length
     .obtain⟨im,di⟩:=gX' x.imports m (gK);obtain⟨ib,io,rfl,fF,bM⟩:=aO.o.at (i:=m) (r:=cu im) (by simp[di]);have bM:=bM.X aA.o.X (λe=>by
       have e1:ib=q:=e;have:=fF.2;have:=cZ.o;have:=S.o.X.size;have:=aJ.o.size;omega)
      have fG:(cu im).all (·.oneCell')=true:=rfl;have fH:=Z di;have gQ:(m:Int)<(x.imports.length:Int):=(by omega);have gU:=Z aA.o.jh.lt;obtain⟨T,dm⟩:∃g,g=wr.heap.size:=⟨_,rfl⟩;have bP:=Z dm;have gV:(wr.alloc (.cells (cu im).toArray 110)).cell? ⟨T,3,none⟩=some (.bool im.isMap):=(ay.newAt dm (cu im) 110).cell 3;clear di fF dm
      go_upto_if 55 with(first|(with_reducible refine V rfl kH rfl rfl bM rfl ?_)|(with_reducible refine ak rfl kH rfl rfl rfl rfl rfl fG ?_))
      obtain⟨wy,dw⟩:∃wy,wy=wr.alloc (.cells (cu im).toArray 110):=⟨_,rfl⟩;have dA:=ay.newAt bP.o (cu im) 110;rw[←dw] at dA⊢;rw[←bP.o];have dB:=Z dA;have U:=Z (aA.o.keep (show O No wr wy by rw[dw];exact(O.refl No wr).alloc _));have bQ:=Z (show ∀k,iv.ownBlock=some k→k<wy.heap.size from λk L=>(U.o.own.elem L).2.1);have bT:=Z U.o.jh.lt;have dC:=Z (show ¬(T=q∨iv.ownBlock=some T) from λe=>by
       rcases e with e|e
       .have:=gU.o;have:=bP.o;omega
       .have:=(aA.o.own.elem e).2.1;have:=bP.o;omega)
      have fJ:=Z (show az.length+1<=1000000 by rw[U.o.len];omega);have dE:=Z (show I.heap.size<=wy.heap.size by have:=aZ.o.size;have:=U.o.X.size;omega);clear dA dw bM fG gV;cases bU:im.isMap with
      |false=>
       have dH:=Z bU;clear bU;go_upto_region 13 with fail
       refine aT (FI [.eq (ptr q),.eq (ptr q),.eq (ptr q),.eq (.pointer (some ⟨q,6,none⟩)),.eq iv,.eq (.pointer (some ⟨T,0,none⟩)),.eq (.string im.plain),.eq (.iface 9 (.string im.plain)),.ng wy.heap.size [.iface 9 (.string im.plain)] 20,.L6 I.heap.size 20 iv (az.map λu=> [u]) [.iface 9 (.string im.plain)] wy,.eq (ptr q),.eq (.pointer (some ⟨q,6,none⟩)),.any])
        (λdone w'=>AG q (λl=>jc x ByteArray.empty tv l) 154 I.heap.size 20 iv (az.map λu=> [u]) [.iface 9 (.string im.plain)] wy w' (done 9) (done 12)) (by kernel_rfl) (by kernel_rfl) (AG.start U.o.own U.o.jh) ?_ ?_
       .refine⟨?_,?_,?_,?_,?_,?_,?_,?_,?_,?_,?_,?_,?_,trivial⟩
        .intro done a z K C o s y p d A;have e7:a.tmps[7]?.getD undef=ptr q:=y 7 rfl;clear o s y p;go_simp;exact A _ _ rfl (by simpa[dn] using d) Sy
        .intro done a z K C o s y p d A;have e7:a.tmps[7]?.getD undef=ptr q:=y 7 rfl;clear o s y p;go_simp;exact A _ _ rfl (by simpa[dn] using d) Sy
        .intro done a z K C o s y p d A;have jw:=fq (s 1 75 rfl (p 1 rfl));clear o s y p;go_simp;exact A _ _ rfl (by simpa[dn] using d) Sy
        .intro done a z K C o s y p d A;have jy:=fq (s 2 76 rfl (p 2 rfl));clear o s y p;go_simp;exact A _ _ rfl (by simpa[dn] using d) Sy
        .intro done a z K C o s y p d A;have jA:=fq (s 3 77 rfl (p 3 rfl));have bu:=ny1 o 12 9 rfl (ny1 o 9 4 rfl C);have aQ:=d;rw[bu] at aQ;obtain⟨l',H,W, -⟩:=aQ.box;obtain rfl:=W rfl;obtain⟨ia,dI,ic,aS⟩:=U.o.own.slice;have c0:z.cell? ⟨q,6,none⟩=some (.slice ia dI ic):=by rw[←aS];exact H.cell 6
         have aO:=Z aS;clear aS aQ H W bu;clear o s y p;go_simp;exact A _ _ aO.o.symm (by simpa[dn] using d) Sy
        .intro done a z K C o s y p d A;have e9:a.tmps[9]?.getD undef=.pointer (some ⟨T,0,none⟩):=y 9 rfl;clear o s y p;go_simp;exact A _ _ rfl (by simpa[dn] using d) Sy
        .intro done a z K C o s y p d A;have jB:=fq (s 5 79 rfl (p 5 rfl));have c0:z.cell? ⟨T,0,none⟩=some (.string im.plain):=(dB.o.X d.X dC.o).cell 0;clear o s y p;go_simp;exact A _ _ rfl (by simpa[dn] using d) Sy
        .intro done a z K C o s y p d A;have jC:=fq (s 6 80 rfl (p 6 rfl));clear o s y p;go_simp;exact A _ _ rfl (by simpa[dn] using d) Sy
        .intro done a z K C o s y p d A;have jD:=fq (s 7 81 rfl (p 7 rfl));have bK:=mM (.iface 9 (.string im.plain)) rfl;have J:O No z (z.alloc (.cells #[.iface 9 (.string im.plain)] 20)):=(O.refl No z).alloc _;have HC:=Z J;have HT:=Z (show ∃t,(Value.slice (some ⟨z.heap.size,0,none⟩) 1 1)=.slice (some ⟨t,0,none⟩) 1 1∧wy.heap.size<=t∧ay (z.alloc (.cells #[.iface 9 (.string im.plain)] 20)) t [.iface 9 (.string im.plain)] 20 from⟨_,rfl,d.X.size,ay.new _ _ _⟩);have dJ:=Z (d.df J);clear J;clear o s y p;go_simp;exact A _ _ HT.o (by simpa[dn] using dJ.o) (λ_ _ _ _ h=>h.aP HC.o)
        .intro done a z K C o s y p d A;have gY:=fq (s 4 78 rfl (p 4 rfl));obtain⟨t,gZ,ig,dK⟩:=s 8 82 rfl (p 8 rfl);have bu:=ny1 o 12 9 rfl C;rw[C,bu] at d;refine ax rfl ?_;refine bJ rO rfl (vE gY) (d.own rfl) (vE gZ) (dK.kT rfl) (by intro r hr;obtain rfl:=List.mem_singleton.1 hr;rfl) (by have:=fJ.o;simp only[List.length_map,List.length_cons,List.length_nil];omega) (by decide) (by have:=d.X.size;have:=dE.o;omega) ?_;intro v' w2 G J bz dL;refine A _ _ ⟨G,bz.imp id (λh k L=>Nat.le_trans d.X.size (h k L))⟩ (by simpa[dn,bu] using d.app (by decide) J) ?_;refine λj F _ u D=>D.keep J (aV (i:=9) (λj hl F=> ?_) j F)
         match j,F with
         |0,_|1,_|2,_|3,_|4,_|5,_|6,_|7,_=>exact trivial
         |8,_=>exact λk L=>bQ.o k L
         |9,F=>exact absurd rfl F
         |10,_|11,_|12,_=>exact trivial
         |j+13,_=>exact absurd hl (by simp)
        .intro done a z K C o s y p d A;have jE:=fq (s 0 74 rfl (p 0 rfl));clear o s y p;go_simp;exact A _ _ rfl (by simpa[dn] using d) Sy
        .intro done a z K C o s y p d A;have jF:=fq (s 10 84 rfl (p 10 rfl));clear o s y p;go_simp;exact A _ _ rfl (by simpa[dn] using d) Sy
        .intro done a z K C o s y p d A;have ik:=fq (s 11 85 rfl (p 11 rfl));obtain⟨G,aj⟩:=s 9 83 rfl (p 9 rfl);have h9:done 9=true:=p 9 rfl;rw[C,h9] at d;obtain⟨l',H,W, -⟩:=d.box;obtain rfl:=W rfl;have dM:∀{w:World}{cs:Y},ay w q cs 154→¬∃bC,w.heap[q]?=some (.cells bC 20 (0,0)):=by rintro w cs H ⟨bC,bD⟩;have R:w.heap[q]?=_:=H;rw[R] at bD;cases bD
         refine ax rfl ?_;refine iT rfl (vE ik) G.slice Tryz.sizeOf151 H (show 6<8 by decide) (by simp[Act.eval]) ?_;intro w2 dN E dO;refine A undef _ trivial (by simpa[dn,h9] using d.store (by decide) dN E G aj) ?_;refine λj F _ u D=>D.keep E (aV (i:=12) (λj hl F=> ?_) j F)
         match j,F with
         |0,_|1,_|2,_|3,_|4,_|5,_|6,_|7,_=>exact trivial
         |8,_=>exact λk L=>by have e1:k=q:=L;have:=bT.o;omega
         |9,_=>exact λk L _=>by have e1:k=q:=L;subst e1;exact dM H
         |10,_|11,_=>exact trivial
         |12,F=>exact absurd rfl F
         |j+13,_=>exact absurd hl (by simp)
       .intro vs w2 aY bn d;obtain⟨l',H, -,R⟩:=d.box;obtain⟨G,aj⟩:=R rfl;have bG:=Z (U.o.step fH.o H G aj d.X (.inl ⟨dH.o,rfl⟩) bQ.o);clear aY bn d H R G aj;simp only[aX,Act.put,List.setIfInBounds_toArray,List.set_cons_succ,List.set_cons_zero];go_wp2_with fail;go_roundw;case rel=>first|exact⟨m+1,_,_,by go_num,by omega,bG.o⟩|((repeat apply Exists.intro);exact⟨⟨m+1,_,_,by go_num,by omega,bG.o⟩,rfl⟩)
        case measure=>simp[intOf];omega
      |true=>
       have dH:=Z bU;clear bU;go_upto_region 12 with fail
       refine eQ (λγ=>FI [.eq (ptr q),.eq (ptr q),.eq (ptr q),.eq (.pointer (some ⟨q,6,none⟩)),.eq iv,.L8 γ,.eq (.pointer (some ⟨T,1,none⟩)),.eq (.string im.child),.eq (.iface 9 (.string im.child)),.any,.eq (.pointer (some ⟨T,2,none⟩)),.eq (.string im.parent),.eq (.iface 9 (.string im.parent)),.any,.L8 γ,.Oh γ,.ng wy.heap.size [.iface 67 (.map γ)] 20,.L6 I.heap.size 20 iv (az.map λu=> [u]) [.iface 67 (.map γ)] wy,.eq (ptr q),.eq (.pointer (some ⟨q,6,none⟩)),.any])
        (λγ done w'=>AG q (λl=>jc x ByteArray.empty tv l) 154 I.heap.size 20 iv (az.map λu=> [u]) [.iface 67 (.map γ)] wy w' (done 17) (done 20)∧MG wy im γ done w') (by kernel_rfl) (by kernel_rfl) none ⟨AG.start U.o.own U.o.jh,MG.start wy im⟩ ?_ ?_
       .refine⟨?_,?_,?_,?_,?_,?_,?_,?_,?_,?_,?_,?_,?_,?_,?_,?_,?_,?_,?_,?_,?_,trivial⟩
        .intro γ done a z K C o s y p d A;have e7:a.tmps[7]?.getD undef=ptr q:=y 7 rfl;clear o s y p;go_simp;exact A γ _ _ rfl ⟨by simpa[dn] using d.1,d.2.other (by decide) (by decide) (by decide) (O.refl No _)⟩ Sy
        .intro γ done a z K C o s y p d A;have e7:a.tmps[7]?.getD undef=ptr q:=y 7 rfl;clear o s y p;go_simp;exact A γ _ _ rfl ⟨by simpa[dn] using d.1,d.2.other (by decide) (by decide) (by decide) (O.refl No _)⟩ Sy
        .intro γ done a z K C o s y p d A;have jG:=fq (s 1 57 rfl (p 1 rfl));clear o s y p;go_simp;exact A γ _ _ rfl ⟨by simpa[dn] using d.1,d.2.other (by decide) (by decide) (by decide) (O.refl No _)⟩ Sy
        .intro γ done a z K C o s y p d A;have jH:=fq (s 2 58 rfl (p 2 rfl));clear o s y p;go_simp;exact A γ _ _ rfl ⟨by simpa[dn] using d.1,d.2.other (by decide) (by decide) (by decide) (O.refl No _)⟩ Sy
        .intro γ done a z K C o s y p d A;have jI:=fq (s 3 59 rfl (p 3 rfl));have P:=ny1 o 20 17 rfl (ny1 o 17 4 rfl C);have aQ:=d.1;rw[P] at aQ;obtain⟨l',H,W, -⟩:=aQ.box;obtain rfl:=W rfl;obtain⟨ia,dI,ic,aS⟩:=U.o.own.slice;have c0:z.cell? ⟨q,6,none⟩=some (.slice ia dI ic):=by rw[←aS];exact H.cell 6
         have aO:=Z aS;clear aS aQ H W P;clear o s y p;go_simp;exact A γ _ _ aO.o.symm ⟨by simpa[dn] using d.1,d.2.other (by decide) (by decide) (by decide) (O.refl No _)⟩ Sy
        .intro γ done a z K C o s y p d A;have n5:=C;have au:=ny1 o 17 16 rfl (ny1 o 16 15 rfl (ny1 o 15 14 rfl (ny1 o 14 5 rfl C)));have P:=ny1 o 20 17 rfl (ny1 o 17 16 rfl (ny1 o 16 15 rfl (ny1 o 15 14 rfl (ny1 o 14 5 rfl C))));have iq:=d.2.MX C;subst iq;have jJ:=gW;have n9:=ny1 o 9 5 rfl C;have fK:=ny1 o 13 5 rfl C;have N:=d.1;rw[au,P] at N;have iw:=Z (d.2.lay N.X.size n9 fK);have iy:=Z (show AG q (λl=>jc x ByteArray.empty tv l) 154 I.heap.size 20 iv (az.map λu=> [u]) [.iface 67 (.map (some z.heap.size))] wy (z.alloc (.map #[] 0)) (dn done 5 17) (dn done 5 20) by simpa[dn,au,P] using(N.MV (row':=[.iface 67 (.map (some z.heap.size))])).df ((O.refl No z).alloc _));have iC:=Z o;clear s y p N au P n9 fK o;go_simp;have o:=iC.o;refine A (some z.heap.size) _ _ ⟨_,rfl,rfl⟩ ⟨iy.o,iw.o⟩ ?_;refine λj F ai u D=> ?_
         match j,F with
         |0,_=>exact D.aP ((O.refl No z).alloc _)
         |1,_=>exact D.aP ((O.refl No z).alloc _)
         |2,_=>exact D.aP ((O.refl No z).alloc _)
         |3,_=>exact D.aP ((O.refl No z).alloc _)
         |4,_=>exact D.aP ((O.refl No z).alloc _)
         |5,F=>exact absurd rfl F
         |6,_=>exact D.aP ((O.refl No z).alloc _)
         |7,_=>exact D.aP ((O.refl No z).alloc _)
         |8,_=>exact D.aP ((O.refl No z).alloc _)
         |9,_=>exact D.aP ((O.refl No z).alloc _)
         |10,_=>exact D.aP ((O.refl No z).alloc _)
         |11,_=>exact D.aP ((O.refl No z).alloc _)
         |12,_=>exact D.aP ((O.refl No z).alloc _)
         |13,_=>exact D.aP ((O.refl No z).alloc _)
         |14,_=>exact absurd (o 14 5 rfl (ai)) (by rw[n5];decide)
         |15,_=>exact absurd (o 14 5 rfl (o 15 14 rfl (ai))) (by rw[n5];decide)
         |16,_=>exact absurd (o 14 5 rfl (o 15 14 rfl (o 16 15 rfl (ai)))) (by rw[n5];decide)
         |17,_=>exact absurd (o 14 5 rfl (o 15 14 rfl (o 16 15 rfl (o 17 16 rfl (ai))))) (by rw[n5];decide)
         |18,_=>exact D.aP ((O.refl No z).alloc _)
         |19,_=>exact D.aP ((O.refl No z).alloc _)
         |20,_=>exact D.aP ((O.refl No z).alloc _)
         |j+21,_=>exact D.aP ((O.refl No z).alloc _)
        .intro γ done a z K C o s y p d A;have e9:a.tmps[9]?.getD undef=.pointer (some ⟨T,0,none⟩):=y 9 rfl;clear o s y p;go_simp;exact A γ _ _ rfl ⟨by simpa[dn] using d.1,d.2.other (by decide) (by decide) (by decide) (O.refl No _)⟩ Sy
        .intro γ done a z K C o s y p d A;have jK:=fq (s 6 62 rfl (p 6 rfl));have c0:z.cell? ⟨T,1,none⟩=some (.string im.child):=(dB.o.X d.1.X dC.o).cell 1;clear o s y p;go_simp;exact A γ _ _ rfl ⟨by simpa[dn] using d.1,d.2.other (by decide) (by decide) (by decide) (O.refl No _)⟩ Sy
        .intro γ done a z K C o s y p d A;have jL:=fq (s 7 63 rfl (p 7 rfl));clear o s y p;go_simp;exact A γ _ _ rfl ⟨by simpa[dn] using d.1,d.2.other (by decide) (by decide) (by decide) (O.refl No _)⟩ Sy
        .intro γ done a z K C o s y p d A;have ni:=C;obtain⟨b,af,bV⟩:=s 5 61 rfl (p 5 rfl);have iD:=fq (s 8 64 rfl (p 8 rfl));have au:=ny1 o 17 16 rfl (ny1 o 16 15 rfl (ny1 o 15 14 rfl (ny1 o 14 9 rfl C)));have P:=ny1 o 20 17 rfl (ny1 o 17 16 rfl (ny1 o 16 15 rfl (ny1 o 15 14 rfl (ny1 o 14 9 rfl C))));subst af;obtain⟨aW,aG⟩:=d.2.map b rfl;have N:=d.1;rw[au,P] at N;refine ax rfl ?_;refine yf rfl (vE bV) aG (E8 _ _) (k:=dX) rfl (by unfold dX maxLen;decide) (vE iD) ?_;intro w2 dP E dO;refine A (some b) undef _ trivial ⟨by simpa[dn,au,P] using N.HY E aW (by have:=bT.o;omega) (aU.DX aG),d.2.NP C aW dP E⟩ ?_;refine λj F ai u D=> ?_
         match j,F with
         |0,_=>exact D.keep E trivial
         |1,_=>exact D.keep E trivial
         |2,_=>exact D.keep E trivial
         |3,_=>exact D.keep E trivial
         |4,_=>exact D.keep E trivial
         |5,_=>exact D.keep E trivial
         |6,_=>exact D.keep E trivial
         |7,_=>exact D.keep E trivial
         |8,_=>exact D.keep E trivial
         |9,F=>exact absurd rfl F
         |10,_=>exact D.keep E trivial
         |11,_=>exact D.keep E trivial
         |12,_=>exact D.keep E trivial
         |13,_=>exact D.keep E trivial
         |14,_=>exact D.keep E trivial
         |15,_=>exact D.keep E trivial
         |16,_=>exact absurd (o 14 9 rfl (o 15 14 rfl (o 16 15 rfl (ai)))) (by rw[ni];decide)
         |17,_=>exact absurd (o 14 9 rfl (o 15 14 rfl (o 16 15 rfl (o 17 16 rfl (ai))))) (by rw[ni];decide)
         |18,_=>exact D.keep E trivial
         |19,_=>exact D.keep E trivial
         |20,_=>exact D.keep E trivial
         |j+21,_=>exact D.keep E trivial
        .intro γ done a z K C o s y p d A;have e9:a.tmps[9]?.getD undef=.pointer (some ⟨T,0,none⟩):=y 9 rfl;clear o s y p;go_simp;exact A γ _ _ rfl ⟨by simpa[dn] using d.1,d.2.other (by decide) (by decide) (by decide) (O.refl No _)⟩ Sy
        .intro γ done a z K C o s y p d A;have jM:=fq (s 10 65 rfl (p 10 rfl));have c0:z.cell? ⟨T,2,none⟩=some (.string im.parent):=(dB.o.X d.1.X dC.o).cell 2;clear o s y p;go_simp;exact A γ _ _ rfl ⟨by simpa[dn] using d.1,d.2.other (by decide) (by decide) (by decide) (O.refl No _)⟩ Sy
        .intro γ done a z K C o s y p d A;have jO:=fq (s 11 66 rfl (p 11 rfl));clear o s y p;go_simp;exact A γ _ _ rfl ⟨by simpa[dn] using d.1,d.2.other (by decide) (by decide) (by decide) (O.refl No _)⟩ Sy
        .intro γ done a z K C o s y p d A;have ni:=C;obtain⟨b,af,bV⟩:=s 5 61 rfl (p 5 rfl);have iE:=fq (s 12 67 rfl (p 12 rfl));have au:=ny1 o 17 16 rfl (ny1 o 16 15 rfl (ny1 o 15 14 rfl (ny1 o 14 13 rfl C)));have P:=ny1 o 20 17 rfl (ny1 o 17 16 rfl (ny1 o 16 15 rfl (ny1 o 15 14 rfl (ny1 o 14 13 rfl C))));subst af;obtain⟨aW,aG⟩:=d.2.map b rfl;have N:=d.1;rw[au,P] at N;refine ax rfl ?_;refine yf rfl (vE bV) aG (E8 _ _) (k:=dG) rfl (by unfold dG maxLen;decide) (vE iE) ?_;intro w2 dP E dO;refine A (some b) undef _ trivial ⟨by simpa[dn,au,P] using N.HY E aW (by have:=bT.o;omega) (aU.DX aG),d.2.MZ C aW dP E⟩ ?_;refine λj F ai u D=> ?_
         match j,F with
         |0,_=>exact D.keep E trivial
         |1,_=>exact D.keep E trivial
         |2,_=>exact D.keep E trivial
         |3,_=>exact D.keep E trivial
         |4,_=>exact D.keep E trivial
         |5,_=>exact D.keep E trivial
         |6,_=>exact D.keep E trivial
         |7,_=>exact D.keep E trivial
         |8,_=>exact D.keep E trivial
         |9,_=>exact D.keep E trivial
         |10,_=>exact D.keep E trivial
         |11,_=>exact D.keep E trivial
         |12,_=>exact D.keep E trivial
         |13,F=>exact absurd rfl F
         |14,_=>exact D.keep E trivial
         |15,_=>exact D.keep E trivial
         |16,_=>exact absurd (o 14 13 rfl (o 15 14 rfl (o 16 15 rfl (ai)))) (by rw[ni];decide)
         |17,_=>exact absurd (o 14 13 rfl (o 15 14 rfl (o 16 15 rfl (o 17 16 rfl (ai))))) (by rw[ni];decide)
         |18,_=>exact D.keep E trivial
         |19,_=>exact D.keep E trivial
         |20,_=>exact D.keep E trivial
         |j+21,_=>exact D.keep E trivial
        .intro γ done a z K C o s y p d A;obtain⟨b,af,bV⟩:=s 5 61 rfl (p 5 rfl);clear o s y p;go_simp;exact A γ _ _ ⟨b,af,rfl⟩ ⟨by simpa[dn] using d.1,d.2.other (by decide) (by decide) (by decide) (O.refl No _)⟩ Sy
        .intro γ done a z K C o s y p d A;obtain⟨b,af,jP⟩:=s 14 68 rfl (p 14 rfl);clear o s y p;go_simp;exact A γ _ _ ⟨b,af,rfl⟩ ⟨by simpa[dn] using d.1,d.2.other (by decide) (by decide) (by decide) (O.refl No _)⟩ Sy
        .intro γ done a z K C o s y p d A;obtain⟨b,af,jQ⟩:=s 15 69 rfl (p 15 rfl);subst af;have bK:=mM (.iface 67 (.map (some b))) rfl;have J:O No z (z.alloc (.cells #[.iface 67 (.map (some b))] 20)):=(O.refl No z).alloc _;have HC:=Z J;have HT:=Z (show ∃t,(Value.slice (some ⟨z.heap.size,0,none⟩) 1 1)=.slice (some ⟨t,0,none⟩) 1 1∧wy.heap.size<=t∧ay (z.alloc (.cells #[.iface 67 (.map (some b))] 20)) t [.iface 67 (.map (some b))] 20 from⟨_,rfl,d.1.X.size,ay.new _ _ _⟩);have dJ:=Z (d.1.df J);have iF:=Z d.2;clear J;clear o s y p;go_simp;exact A (some b) _ _ HT.o ⟨by simpa[dn] using dJ.o,iF.o.other (by decide) (by decide) (by decide) HC.o⟩ (λ_ _ _ _ h=>h.aP HC.o)
        .intro γ done a z K C o s y p d A;have iG:=fq (s 4 60 rfl (p 4 rfl));obtain⟨t,iH,ig,dK⟩:=s 16 70 rfl (p 16 rfl);have P:=ny1 o 20 17 rfl C;have N:=d.1;rw[C,P] at N;refine ax rfl ?_;refine bJ rO rfl (vE iG) (N.own rfl) (vE iH) (dK.kT rfl) (by intro r hr;obtain rfl:=List.mem_singleton.1 hr;rfl) (by have:=fJ.o;simp only[List.length_map,List.length_cons,List.length_nil];omega) (by decide) (by have:=N.X.size;have:=dE.o;omega) ?_;intro v' w2 G J bz dL;refine A γ _ _ ⟨G,bz.imp id (λh k L=>Nat.le_trans N.X.size (h k L))⟩ ⟨by simpa[dn,P] using N.app (by decide) J,d.2.X (by decide) (by decide) (by decide) J (λb n f hm e=>hm.DX (N.own rfl|>.elem e).2.2)⟩ ?_;refine λj F _ u D=>D.keep J (aV (i:=17) (λj hl F=> ?_) j F)
         match j,F with
         |0,_|1,_|2,_|3,_|4,_|5,_|6,_|7,_|8,_|9,_|10,_|11,_|12,_|13,_|14,_|15,_=>exact trivial
         |16,_=>exact λk L=>bQ.o k L
         |17,F=>exact absurd rfl F
         |18,_|19,_|20,_=>exact trivial
         |j+21,_=>exact absurd hl (by simp)
        .intro γ done a z K C o s y p d A;have jR:=fq (s 0 56 rfl (p 0 rfl));clear o s y p;go_simp;exact A γ _ _ rfl ⟨by simpa[dn] using d.1,d.2.other (by decide) (by decide) (by decide) (O.refl No _)⟩ Sy
        .intro γ done a z K C o s y p d A;have jS:=fq (s 18 72 rfl (p 18 rfl));clear o s y p;go_simp;exact A γ _ _ rfl ⟨by simpa[dn] using d.1,d.2.other (by decide) (by decide) (by decide) (O.refl No _)⟩ Sy
        .intro γ done a z K C o s y p d A;have iI:=fq (s 19 73 rfl (p 19 rfl));obtain⟨G,aj⟩:=s 17 71 rfl (p 17 rfl);have fM:done 17=true:=p 17 rfl;have N:=d.1;rw[C,fM] at N;obtain⟨l',H,W, -⟩:=N.box;obtain rfl:=W rfl;have dM:∀{w:World}{cs:Y},ay w q cs 154→¬∃bC,w.heap[q]?=some (.cells bC 20 (0,0)):=by rintro w cs H ⟨bC,bD⟩;have R:w.heap[q]?=_:=H;rw[R] at bD;cases bD
         refine ax rfl ?_;refine iT rfl (vE iI) G.slice Tryz.sizeOf151 H (show 6<8 by decide) (by simp[Act.eval]) ?_;intro w2 dN E dO;refine A γ undef _ trivial ⟨by simpa[dn,fM] using N.store (by decide) dN E G aj,d.2.X (by decide) (by decide) (by decide) E (λb n f hm e=>by have e1:b=q:=e;subst e1;obtain⟨es,c,R, -⟩:=hm.choose_spec.1;have h3:z.heap[b]?=_:=H;rw[R] at h3;cases h3)⟩ ?_;refine λj F _ u D=>D.keep E (aV (i:=20) (λj hl F=> ?_) j F)
         match j,F with
         |0,_|1,_|2,_|3,_|4,_|5,_|6,_|7,_|8,_|9,_|10,_|11,_|12,_|13,_|14,_|15,_=>exact trivial
         |16,_=>exact λk L=>by have e1:k=q:=L;have:=bT.o;omega
         |17,_=>exact λk L _=>by have e1:k=q:=L;subst e1;exact dM H
         |18,_|19,_=>exact trivial
         |20,F=>exact absurd rfl F
         |j+21,_=>exact absurd hl (by simp)
       .intro γ vs w2 aY bn d;obtain⟨l',H, -,R⟩:=d.1.box;obtain⟨G,aj⟩:=R rfl;obtain⟨b,af⟩:∃b,γ=some b:=by
         have h5:=d.2.iff;cases γ with
         |none=>cases h5
         |some b=>exact⟨b,rfl⟩
        subst af;obtain⟨aW,aG⟩:=d.2.map b rfl;have bG:=Z (U.o.step fH.o H G aj d.1.X (.inr ⟨dH.o,b,rfl,JY aG (by have:=dE.o;omega)⟩) bQ.o);clear aY bn d H R G aj aG aW;simp only[aX,Act.put,List.setIfInBounds_toArray,List.set_cons_succ,List.set_cons_zero];go_wp2_with fail;go_roundw;case rel=>first|exact⟨m+1,_,_,by go_num,by omega,bG.o⟩|((repeat apply Exists.intro);exact⟨⟨m+1,_,_,by go_num,by omega,bG.o⟩,rfl⟩)
        case measure=>simp[intOf];omega
     .have iJ:m=x.imports.length:=(by omega);subst iJ;have gQ:¬((x.imports.length:Nat):Int)<(x.imports.length:Int):=(by omega);have fO:=fC.o.X aA.o.X (λk L e=>fC.o.lI (by decide) dh.o (by have e1:k=q:=e;rw[←e1];exact L));have iL:=Z fO;have G:=(((S.o.own.X aJ.o nE).X aZ.o nE).X aA.o.X (λk L e=>by
       have e1:k=q:=e;have:=(S.o.own.elem L).2.1;have:=cZ.o;have:=aJ.o.size;omega))
      have iM:(aF qs).length+1<=1099511627776:=by have:=S.o.len;have:=S.o.le;have:=fV.o;simp only[aF,List.length_map];omega
      have bK:w.heap.size<=wr.heap.size+1:=by have:=S.o.X.size;have:=aJ.o.size;have:=aZ.o.size;have:=aA.o.X.size;omega
      clear fO;go_wp2_with (first|(at_builtin;refine aN rfl zW rfl rfl (G.alloc _) rfl (aC.gX wr [ptr q] 152 1 rfl) (by simp[Value.oneCell']) iM (by decide) (by simpa using bK) ?_;intro jT w6 dQ fP bz dL;(obtain⟨sa,sn,sc,rfl⟩:=dQ.dY);go_frame));have iO:=Z (S.o.step gm.o aJ.o aZ.o cZ.o aA.o iL.o dh.o.lt fP dQ);have fQ:(aF qs++[[ptr q]]).length=n+1:=(by simp[aF,S.o.len]);have fU:=Z fQ;clear dQ fP bz dL G fQ;refine⟨⟨n+1,qs++[q],sa,sn,by rw[fU.o],by go_num,?_⟩,by simp[intOf];omega⟩;have h9:=iO.o;rw[fU.o] at h9;exact h9
  .have iP:n=Q.length:=by have:=S.o.le;have:=HN.o;omega
   subst iP;have gp:¬((Q.length:Nat):Int)<(Q.length:Int):=(by omega);have HD:=Z (show WL w xs wr xs.length (.slice wa Q.length wc) qs by rw[←HN.o];exact S.o);go_wp2;go_ret2;exact HD.o.done
theorem xy{P:Program}{w:World}{t e size A j:Nat}(T:iJ P t e size A)(m:TypeId){v:Value}{rows:List (Y)}(f:aB w j e size v rows)
  {ok:ae} {x:Value} {c:List (Y)} (K:aC ok w x size c) (U:∀r∈c,r.all (·.oneCell')=true)
  (hn:rows.length+c.length<=1099511627776) (B:(rows.length+c.length)*A<=140737488355328) (V:j<=w.heap.size):
  ∃v' w',(Builtin.append_ #[t,t] m #[v,x]).run P w=.ok v' w'∧aB w' j e size v' (rows++c)∧O (λb=>v.ownBlock=some b) w w'∧
   (v'.ownBlock=v.ownBlock∨∀k,v'.ownBlock=some k→w.heap.size<=k)∧aB w' j e size v rows:=by
 obtain⟨l,⟨i,z,n,C,o,D,W⟩,L⟩:=T;have af:=K;obtain⟨hm,h,a,cap,rfl,ai,aj⟩:=af;have ak:∀r∈rows++c,r.length=size:=λr d=>(List.mem_append.1 d).elim (f.1 r) (h r)
 have E:rows.length+c.length<=maxLen:=by unfold maxLen;omega
 cases a with
 |none=>
  have au:c=[]:=by
   cases c with
   |nil=>rfl
   |cons r rs=>obtain⟨b,aK,hb, -⟩:=aj (by simp);cases hb
  subst au;have d:=run_append_owned_none (P:=P) w j t m e i size l n v rows.length _ f.2;obtain rfl:=ai rfl;exact⟨_,_,d,by simpa using f,O.refl _ _,.inl rfl,f⟩
 |some p=>
  have q:=K.flat L rfl;have M:∀u∈c.flatten,u.oneCell'=true:=λu l=>by obtain⟨r,d,ax⟩:=List.mem_flatten.1 l;exact List.all_eq_true.1 (U r d) u ax
  obtain⟨v',w',s,ay,az,aA⟩:=run_append_own (P:=P) w j t m e i z size A l n C o D W L v rows.length _ f.2 p c.length cap _ (bW h) q M E B V;have hO:aB w' j e size v' (rows++c):=⟨ak,by simpa using ay⟩;suffices h:(v'.ownBlock=v.ownBlock∨∀k,v'.ownBlock=some k→w.heap.size<=k)∧aB w' j e size v rows from⟨v',w',s,hO,(O.grown az).mono nE,h.1,h.2⟩
  rcases f.2.2 with⟨rfl,N⟩|⟨g,y,F,rfl,aF,Q,aG,aH,R,aI⟩
  .by_cases aJ:c.length=0
   .have G:rows=[]:=List.eq_nil_of_length_eq_zero N;subst G;exact⟨.inl (by rw[aA.2 ⟨rfl,aJ⟩]),aB.nil _ _ _ _⟩
   .have G:rows=[]:=List.eq_nil_of_length_eq_zero N;subst G;refine⟨.inr ?_,aB.nil _ _ _ _⟩;subst o;have d:=run_append_nil (P:=P) w t m e i z l n C p c.length cap _ (bW h) q (by omega) (by unfold maxLen at E;omega) (by subst D;simp at B;omega);rw[s] at d;cases d;intro k H;cases H;exact lR'
  .by_cases I:rows.length+c.length<=y
   .subst o;have d:=run_append_room (P:=P) w t m e i l n g rows.length y F Q p c.length cap _ (bW h) q M I (by rw[bW h,R,←Nat.add_mul];exact Nat.mul_le_mul_right _ I);rw[s] at d;cases d;refine⟨.inl rfl,f.1,f.2.1,.inr ⟨g,y,_,rfl,aF,setRow_heap w g F _ e _ Q,aG,aH,?_,?_⟩⟩
    .have J:=bW h;have h3:rows.length*i.size+c.flatten.length<=F.size:=by rw[J,R,←Nat.add_mul];exact Nat.mul_le_mul_right _ I
     simp only[List.size_toArray,List.length_append,List.length_take,List.length_drop,Array.length_toList];omega
    .rw[aI,List.append_assoc];have J:=bW f.1;rw[←J];exact List.take_left
   .subst o;subst D;have d:=run_append_grow (P:=P) w t m e i z l n C ⟨g,0,none⟩ rows.length y _ f.2.1 (f.2.cells (g:=g) rfl) p c.length cap _ (bW h) q (by omega) (by unfold maxLen at E;omega) (growslice_fits (by omega) B);rw[s] at d;cases d;exact⟨.inr (by intro k H;cases H;exact lR'),f.X (S:=No) (((O.refl _ _).drew).alloc _) nE⟩
theorem mP{P:Program}{o:Oper}{a:Act}{w:World}{K:ag}{Q:ah}{t e size f d:Nat}(i:iJ P t e size f){s x:Operand}
  (j:o.op=.call {callee:=.builtin .append,args:=#[s,x],argTypes:=#[t,t]}) {v:Value} {rows:List (Y)} (l:a.eval s=v) (m:aB w d e size v rows)
  {ok:ae} {g:Value} {c:List (Y)} (n:a.eval x=g) (p:aC ok w g size c) (q:∀r∈c,r.all (·.oneCell')=true)
  (u:rows.length+c.length<=1099511627776) (y:(rows.length+c.length)*f<=140737488355328) (z:d<=w.heap.size)
  (h:∀v' w',aB w' d e size v' (rows++c)→O (λb=>v.ownBlock=some b) w w'→(v'.ownBlock=v.ownBlock∨∀k,v'.ownBlock=some k→w.heap.size<=k)→aB w' d e size v rows→K (a.put o.dst v') w'):o.wp P a w K Q:=by
 obtain⟨v',w',A,B,C,D,E⟩:=xy (P:=P) i o.type m p q u y z;unfold Oper.wp execOp;simp only[j,resolve,invoke,builtin,Sem.run_bind,Sem.run_pure,Result.andThen_ok,List.map_toArray,List.map_cons,List.map_nil,l,n,A];exact h v' w' B C D E
@[reducible] def fZ:Y:=az ByteArray.empty ByteArray.empty 0 false 0 0 ByteArray.empty (.slice none 0 0) (.slice none 0 0) (.slice none 0 0) (.slice none 0 0)
theorem tX:iJ Tryz.prog 27 30 11 176:=by refine⟨Tryz.underlying27,?_,by decide⟩;have h:(Tryz.prog.info? 30).map (λi=>(i.zero,i.size,i.bytes))=some (some (.agg fZ.toArray),11,176):=(by kernel_rfl);obtain⟨i,a,b,c,d⟩:=info_parts h;exact⟨i,_,a,b,c,d,rfl⟩
theorem nU:iJ Tryz.prog 28 79 7 120:=by refine⟨Tryz.underlying28,?_,by decide⟩;have h:(Tryz.prog.info? 79).map (λi=>(i.zero,i.size,i.bytes))=some (some (.agg #[.string ByteArray.empty,.string ByteArray.empty,.string ByteArray.empty,.string ByteArray.empty,.slice none 0 0,.bool false,.slice none 0 0]),7,120):=(by kernel_rfl);obtain⟨i,a,b,c,d⟩:=info_parts h;exact⟨i,_,a,b,c,d,rfl⟩
theorem y8:iJ Tryz.prog 77 110 4 56:=by refine⟨Tryz.underlying77,?_,by decide⟩;have h:(Tryz.prog.info? 110).map (λi=>(i.zero,i.size,i.bytes))=some (some (.agg #[.string ByteArray.empty,.string ByteArray.empty,.string ByteArray.empty,.bool false]),4,56):=(by kernel_rfl);obtain⟨i,a,b,c,d⟩:=info_parts h;exact⟨i,_,a,b,c,d,rfl⟩
theorem zX(cs:Y)(h:cs.length=11)(w:World):(Instr.buildSlice 27 1 #[(0,.agg cs.toArray)]).run Tryz.prog w=.ok (.slice (some ⟨w.heap.size,0,none⟩) 1 1) (w.alloc (.cells cs.toArray 30)):=by
 obtain⟨a,b,c,d,e,f,g,i,j,k,l,rfl⟩:∃a b c d e f g i j k l,cs=[a,b,c,d,e,f,g,i,j,k,l]:=by
  match cs,h with
  |[a,b,c,d,e,f,g,i,j,k,l],_=>exact⟨a,b,c,d,e,f,g,i,j,k,l,rfl⟩
 clear h
 kernel_rfl
theorem sN{o:Oper}{a:Act}{w:World}{K:ag}{Q:ah}{x:Operand}(b:o.op=.buildSlice 27 1 #[(0,x)]){cs:Y}(c:a.eval x=.agg cs.toArray)(d:cs.length=11)
  (h:K (a.put o.dst (.slice (some ⟨w.heap.size,0,none⟩) 1 1)) (w.alloc (.cells cs.toArray 30))):o.wp Tryz.prog a w K Q:=by
 have e:=zX cs d w;unfold Oper.wp;simp only[execOp,b,List.map_toArray,List.map_cons,List.map_nil,c,Sem.run_bind,e,Result.andThen_ok];exact h
def qW(B:Nat)(d:Ch)(rows:List (Y))(iv:Value)(wr:World)(v:Value)(w:World):Prop:=
 ∃cs,aB w B 30 11 v (rows++[cs])∧dU (λx=>wr.heap.size<=x∧v.ownBlock≠some x) w cs d∧(v.ownBlock=iv.ownBlock∨∀k,v.ownBlock=some k→wr.heap.size<=k)
theorem qW.X{B:Nat}{d:Ch}{rows:List (Y)}{iv:Value}{wr:World}{v:Value}{S:ae}{w w':World}(h:qW B d rows iv wr v w)(j:B<=wr.heap.size)(b:O S w w')(c:∀k,S k→k<B):qW B d rows iv wr v w':=by obtain⟨cs,f,g,i⟩:=h;exact⟨cs,f.X b (λk a e=>by have:=(f.elem a).1;have:=c k e;omega),g.X b (λk a e=>by have:=c k e;have:=a.1;omega),i⟩
def Fact.DZ(wr:World)(d:Ch):Fact:=
 ⟨λv w=>∃cs:Y,v=.agg cs.toArray∧dU (λx=>wr.heap.size<=x∧x<w.heap.size) w cs d,λS _=>∀k,S k→k<wr.heap.size,
  λS v w w' h c f=>by
  obtain⟨cs,rfl,g⟩:=h;exact⟨cs,rfl,(g.X c (λb a e=>by have:=f b e;omega)).mono (λb _ a=>⟨a.1,Nat.lt_of_lt_of_le a.2 c.size⟩)⟩,λ_ _ e=>e.elim⟩
def Fact.xA(wr:World)(d:Ch):Fact:=
 ⟨λv w=>∃(cs:Y)(t:Nat),v=.slice (some ⟨t,0,Option.none⟩) 1 1∧wr.heap.size<=t∧ay w t cs 30∧dU (λx=>wr.heap.size<=x∧x<w.heap.size) w cs d,λS _=>∀k,S k→k<wr.heap.size,
  λS v w w' h c f=>by
  obtain⟨cs,t,rfl,g,a,i⟩:=h;exact⟨cs,t,rfl,g,a.X c (λe=>by have:=f t e;omega),(i.X c (λb a e=>by have:=f b e;omega)).mono (λb _ a=>⟨a.1,Nat.lt_of_lt_of_le a.2 c.size⟩)⟩,λ_ _ e=>e.elim⟩
def Fact.JZ(B:Nat)(d:Ch)(rows:List (Y))(iv:Value)(wr:World)(a:B<=wr.heap.size):Fact:=
 ⟨λv w=>qW B d rows iv wr v w,λS _=>∀k,S k→k<B,λS v w w' h b c=>h.X a b c,λ_ _ e=>e.elim⟩
structure AC (q B:Nat) (mk:Value→Y) (iv:Value) (rows:List (Y)) (d:Ch) (wr w:World) (da ds:Bool):Prop where
 X:O (λb=>b=q∨iv.ownBlock=some b) wr w
 hq:q<B∧B<=wr.heap.size
 own:da=false→aB w B 30 11 iv rows
 box:∃l',ay w q (mk l') 30∧(ds=false→l'=iv)∧(ds=true→qW B d rows iv wr l' w)
section
variable {q B:Nat} {mk:Value→Y} {iv:Value} {rows:List (Y)} {d:Ch} {wr w w':World} {da ds:Bool}
theorem AC.start(a:q<B∧B<=wr.heap.size)(b:aB wr B 30 11 iv rows)(c:ay wr q (mk iv) 30):AC q B mk iv rows d wr wr.drew false false:=
 ⟨(O.refl _ wr).drew,a,λ_=>b.X ((O.refl No wr).drew) nE,iv,c.drew,λ_=>rfl,λe=>(by cases e)⟩
theorem AC.df(g:AC q B mk iv rows d wr w da ds)(a:O No w w'):AC q B mk iv rows d wr w' da ds:=by obtain⟨b,c,f,h⟩:=g.box;exact⟨g.X.trans' a,g.hq,λe=>(g.own e).X a nE,b,c.X a id,f,λe=>(h e).X g.hq.2 a (λ_ e=>e.elim)⟩
theorem AC.app(g:AC q B mk iv rows d wr w false false)(a:O (λb=>iv.ownBlock=some b) w w'):AC q B mk iv rows d wr w' true false:=by obtain⟨c,f,h,j⟩:=g.box;exact⟨g.X.trans a (λi _ e=> .inr e),g.hq,λe=>(by cases e),c,f.X a (λe=>by have:=((g.own rfl).elem e).1;have:=g.hq.1;omega),h,λe=>(by cases e)⟩
theorem AC.store{v:Value}(g:AC q B mk iv rows d wr w true false)(b:ay w' q (mk v) 30)(a:O (·=q) w w')(c:qW B d rows iv wr v w):AC q B mk iv rows d wr w' true true:=by obtain⟨h,j,l,m⟩:=g.box;exact⟨g.X.trans a (λi _ e=> .inl e),g.hq,λe=>(by cases e),v,b,λe=>(by cases e),λ_=>c.X g.hq.2 a (λk f=>by have e:k=q:=f;have:=g.hq.1;omega)⟩
theorem qW.of{cs:Y}{v':Value}{a w2:World}(j:aB w2 B 30 11 v' (rows++[cs]))(l:dU (λx=>wr.heap.size<=x∧x<a.heap.size) a cs d)(m:aB wr B 30 11 iv rows)(n:wr.heap.size<=a.heap.size)
  (o:O (λb=>iv.ownBlock=some b) a w2) (f:v'.ownBlock=iv.ownBlock∨∀k,v'.ownBlock=some k→a.heap.size<=k):qW B d rows iv wr v' w2:=by
 have g:∀k,iv.ownBlock=some k→k<wr.heap.size:=λk c=>(m.elem c).2.1
 refine⟨cs,j,(l.X o (λb i e=>by have:=g b e;omega)).mono (λb _ i=>⟨i.1,λe=> ?_⟩),f.imp id (λh k c=>Nat.le_trans n (h k c))⟩;rcases f with h|h
 .have:=g b (h▸e);omega
 .have:=h b e;omega
end
structure CC (w:World) (g B:Nat) (mk:Value→Y) (cv:Y) (vals:J) (xs:List Ch) (wr:World) (n:Nat) (v:Value) (rows:List (Y)):Prop where
 le:n<=xs.length
 jh:ay wr g (mk v) 30
 own:aB wr B 30 11 v rows
 len:rows.length=n
 vals:aG (okF B v) wr cv vals
 val:∀(i:Nat)(r:Y)(x:Ch),rows[i]?=some r→xs[i]?=some x→dU (okF B v) wr r x
 X:O No w wr
 hB:w.heap.size<=g∧g<B∧B<=wr.heap.size
 res:ay wr (g+1) fZ 30∧g+1<B
theorem CC.step{w:World}{g B:Nat}{mk:Value→Y}{cv:Y}{vals:J}{xs:List Ch}{wr:World}{n:Nat}{v:Value}{rows:List (Y)}(h:CC w g B mk cv vals xs wr n v rows){x:Ch}(o:xs[n]?=some x){p w2:World}(q:O No wr p)
  (f:AC g B mk v rows x p w2 true true):∃v' E,CC w g B mk cv vals xs w2 (n+1) v' E:=by
 obtain⟨v',a, -,F⟩:=f.box;obtain⟨cs,G,H,I⟩:=F rfl;have K:n<xs.length:=(gS'.1 o).1;have s:∀k,v.ownBlock=some k→B<=k∧k<wr.heap.size:=λk t=>⟨(h.own.elem t).1,(h.own.elem t).2.1⟩
 have M:=q.size;have N:=f.X.size;have u:=h.hB;have d:O (λb=>b=g∨v.ownBlock=some b) wr w2:=(q.mono (λ_ _ e=>e.elim)).trans f.X nE;have z:∀b,b<wr.heap.size→okF B v b→okF B v' b:=λb a A=>⟨A.1,λe=>by
  rcases I with j|j
  .exact A.2 (j▸e)
  .have:=j b e;omega⟩
 have C:∀b,okF B v b∧b<wr.heap.size→¬(b=g∨v.ownBlock=some b):=λb a e=>by
  rcases e with e|e
  .have:=a.1.1;omega
  .exact a.1.2 e
 refine⟨v',rows++[cs],K,a,G,by simp[h.len],?_,λi r y c l=> ?_,h.X.trans d (λi D e=> ?_),⟨u.1,u.2.1,by omega⟩,⟨h.res.1.X d (λe=> ?_),h.res.2⟩⟩
 .exact((h.vals.mono (ok':=λb=>okF B v b∧b<wr.heap.size) (λb a m=>⟨m,a⟩)).X d C).mono (λb _ a=>z b a.2 a.1)
 .by_cases D:i<rows.length
  .rw[List.getElem?_append_left D] at c;exact(((h.val i r y c l).mono (ok':=λb=>okF B v b∧b<wr.heap.size) (λb a m=>⟨m,a⟩)).X d C).mono (λb _ a=>z b a.2 a.1)
  .have L:i=rows.length:=by
    have:=(gS'.1 c).1;simp at this;omega
   subst L;rw[List.getElem?_append_right lR',Nat.sub_self] at c;cases c;rw[h.len,o] at l;cases l;exact H.mono (λb _ a=>⟨by have:=a.1;omega,a.2⟩)
 .rcases e with e|e
  .omega
  .have:=(s i e).1;omega
 .rcases e with e|e
  .omega
  .have:=(s _ e).1;have:=h.res.2;omega
theorem ay.eq{w:World}{g:Nat}{a b:Y}{c:TypeId}(h:ay w g a c)(d:ay w g b c):a=b:=by have e:=h.symm.trans d;simpa using e
theorem CC.keep{w:World}{g B:Nat}{mk:Value→Y}{cv:Y}{vals:J}{xs:List Ch}{wr w':World}{n:Nat}{v:Value}{rows:List (Y)}(h:CC w g B mk cv vals xs wr n v rows)(c:O No wr w'):CC w g B mk cv vals xs w' n v rows:=
 ⟨h.le,h.jh.X c id,h.own.X c nE,h.len,h.vals.X c nE,λi r x a b=>(h.val i r x a b).X c nE,h.X.trans' c,⟨h.hB.1,h.hB.2.1,Nat.le_trans h.hB.2.2 c.size⟩,h.res.1.X c id,h.res.2⟩
theorem Fe{A R:Y}{r:Y}{j:Nat}(a:j<r.length)(u:Value):(A++(r++R)).set (A.length+j) u=A++(r.set j u++R):=by rw[List.set_append_right _ _ (Nat.le_add_right _ _),Nat.add_sub_cancel_left,List.set_append_left _ _ a]
structure WC (b n:Nat) (x:Want) (A R:Y) (tv iv:Value) (B:Nat) (wr w:World) (dt di:Bool):Prop where
 X:O (·=b) wr w
 hB:b<B∧B<=w.heap.size
 box:∃t' i',ay w b (A++(aI x t' i'++R)) 79∧(dt=false→t'=tv)∧(dt=true→aB w B 9 1 t' (aH x.tags))∧(di=false→i'=iv)∧(di=true→aB w B 110 4 i' (dS x.imports))
theorem WC.start{b n:Nat}{x:Want}{A R:Y}{a iv:Value}{B:Nat}{wr:World}(c:b<B∧B<=wr.heap.size)(h:ay wr b (A++(aI x a iv++R)) 79):WC b n x A R a iv B wr wr.drew false false:=
 ⟨(O.refl _ wr).drew,c,a,iv,h.drew,λ_=>rfl,(λe=>by cases e),λ_=>rfl,(λe=>by cases e)⟩
theorem WC.df{b n:Nat}{x:Want}{A R:Y}{c iv:Value}{B:Nat}{wr w w':World}{d f:Bool}(h:WC b n x A R c iv B wr w d f)(a:O No w w'):WC b n x A R c iv B wr w' d f:=by obtain⟨g,i,j,k,l,m,o⟩:=h.box;exact⟨h.X.trans' a,⟨h.hB.1,Nat.le_trans h.hB.2 a.size⟩,g,i,j.X a id,k,λe=>(l e).X a nE,m,λe=>(o e).X a nE⟩
theorem WC.storeT{b n:Nat}{x:Want}{A R:Y}{d iv:Value}{B:Nat}{wr w w':World}{f:Bool}(h:WC b n x A R d iv B wr w false f){v:Value}(g:aB w B 9 1 v (aH x.tags)){cs:Y}(m:ay w b cs 79)(i:ay w' b (cs.set (A.length+4) v) 79)(a:O (·=b) w w'):WC b n x A R d iv B wr w' true f:=by obtain⟨t,o,p,r,u,s,j⟩:=h.box;obtain rfl:=r rfl;have k:=h.hB;obtain rfl:=m.eq p;rw[Fe (by simp[aI])] at i;refine⟨h.X.trans a nE,⟨k.1,Nat.le_trans k.2 a.size⟩,v,o,i,(λe=>by cases e),λ_=>g.X a (λq c e=>by have e:q=b:=e;have:=(g.elem c).1;omega),s,λe=>(j e).X a (λq c l=>by have l:q=b:=l;have:=((j e).elem c).1;omega)⟩
theorem WC.Le{b n:Nat}{x:Want}{A R:Y}{d iv:Value}{B:Nat}{wr w w':World}{f:Bool}(h:WC b n x A R d iv B wr w f false){v:Value}(g:aB w B 110 4 v (dS x.imports)){cs:Y}(m:ay w b cs 79)(i:ay w' b (cs.set (A.length+6) v) 79)(a:O (·=b) w w'):WC b n x A R d iv B wr w' f true:=by obtain⟨o,t,p,r,j,s,u⟩:=h.box;obtain rfl:=s rfl;have k:=h.hB;obtain rfl:=m.eq p;rw[Fe (by simp[aI])] at i;refine⟨h.X.trans a nE,⟨k.1,Nat.le_trans k.2 a.size⟩,o,v,i,r,λe=>(j e).X a (λq c l=>by have l:q=b:=l;have:=((j e).elem c).1;omega),(λe=>by cases e),λ_=>g.X a (λq c e=>by have e:q=b:=e;have:=(g.elem c).1;omega)⟩
structure WK (wx:World) (b B:Nat) (wants:List Want) (rows:List (Y)) (pad:Y) (wr:World) (n:Nat) (A:List (Y)):Prop where
 le:n<=wants.length
 len:A.length=n
 seven:∀r∈A,r.length=7
 jh:ay wr b (A.flatten++((rows.drop n).flatten++pad)) 79
 hB:b<B∧B<=wr.heap.size
 val:∀(i:Nat)(r:Y)(x:Want),A[i]?=some r→wants[i]?=some x→dF (λy=>B<=y) wr r x
 X:O (·=b) wx wr
theorem IY{A:List (Y)}(h:∀r∈A,r.length=7):A.flatten.length=A.length*7:=bW h
theorem WK.step{m:World}{b B:Nat}{wants:List Want}{rows:List (Y)}{g:Y}{wr:World}{n:Nat}{A:List (Y)}(h:WK m b B wants rows g wr n A){x:Want}(o:wants[n]?=some x){R:Y}(u:R=(rows.drop (n+1)).flatten++g){v iv:Value}{p w2:World}(w:O No wr p)
  (q:WC b n x A.flatten R v iv B p w2 true true):∃z,WK m b B wants rows g w2 (n+1) z:=by
 obtain⟨s,t,C, -,c, -,d⟩:=q.box;have c:=c rfl;have d:=d rfl;have j:O (·=b) wr w2:=(w.mono (λ_ _ e=>e.elim)).trans q.X nE;have D:=h.hB;refine⟨A++[aI x s t],(gS'.1 o).1,by simp[h.len],λr a=> ?_,?_,⟨D.1,by have:=j.size;omega⟩,λi r y a l=> ?_,h.X.trans j nE⟩
 .rcases List.mem_append.1 a with a|a
  .exact h.seven r a
  .obtain rfl:=List.mem_singleton.1 a;rfl
 .subst u;simpa using C
 .by_cases E:i<A.length
  .rw[List.getElem?_append_left E] at a;exact(h.val i r y a l).X j (λk f e=>by have e:k=b:=e;omega)
  .have F:i=A.length:=by
    have:=(gS'.1 a).1;simp at this;omega
   subst F;rw[List.getElem?_append_right lR',Nat.sub_self] at a;cases a;rw[h.len,o] at l;cases l;refine⟨s,t,rfl,c.rowAt.mono (λk _ f=>(c.elem f).1) (by decide),d.rowAt.mono (λk _ f=>(d.elem f).1) (by decide)⟩
theorem aC.Na{w:World}{b:Nat}{rows:List (Y)}{f:Y}{g:TypeId}{size cap:Nat}(h:ay w b (rows.flatten++f) g)(a:∀r∈rows,r.length=size)(k:rows.length<=maxLen):aC (λx=>x=b) w (.slice (some ⟨b,0,none⟩) rows.length cap) size rows:=by refine⟨k,a,_,_,rfl,(by intro e;cases e),λ_=>⟨b,0,rfl,rfl,λi r c j u d=> ?_⟩⟩;rw[Nat.zero_add,h.cell,List.getElem?_append_left,nz a c d];have l:=nz a c d;exact(gS'.1 l).1
def GK(cs:Y):Nat→Y→Y
 | _,[]=>cs
 |o,v::vs=>GK (cs.set o v) (o+1) vs
theorem ay.setCells(vs:Y):∀{w:World}{g:Nat}{cs:Y}{a:TypeId}(_:ay w g cs a)(o:Nat),ay (w.setCells g o vs) g (GK cs o vs) a∧O (·=g) w (w.setCells g o vs)∧(w.setCells g o vs).heap.size=w.heap.size:=by
 induction vs with
 |nil=>intro w g cs a h o;exact⟨h,O.refl _ _,rfl⟩
 |cons v vs b=>intro w g cs a h o;obtain⟨c,d,e⟩:=h.setCell o v;obtain⟨f,i,j⟩:=b c (o+1);exact⟨f,d.trans i nE,j.trans e⟩
theorem pU{P:Program}{e:Array Oper}{rest:List Oper}{o:Oper}{a:Act}{w:World}{Q:ah}{b n:Nat}(f:o.guard=none)(k:jG P b n){x y:Operand}(l:o.op=.store b x y)
  {g i:Nat} {t:TypeId} {c cs:Y} (m:a.eval x=.pointer (some ⟨g,i,none⟩)) (p:a.eval y=.agg cs.toArray) (d:ay w g c t) (A:i+n<=c.length) (q:cs.length=n) (r:cs.all (·.oneCell')=true)
  (h:∀w',ay w' g (GK c i cs) t→O (·=g) w w'→w'.heap.size=w.heap.size→wpList P e Q rest (a.put o.dst undef) w'):wpList P e Q (o::rest) a w:=by
 obtain⟨s,u,v⟩:=d.setCells cs i;refine wpList_store_mid f b x y l g i cs.toArray m p (λj z=> ?_) (by simpa[q] using k.2) (by simpa using r) (h _ s u v);simp at z;exact⟨by rw[d.cell,List.getElem?_eq_getElem (by omega)];rfl,d.frozen _⟩
theorem WK.cells{f:World}{b B:Nat}{wants:List Want}{rows:List (Y)}{c:Y}{wr:World}{n:Nat}{A:List (Y)}(h:WK f b B wants rows c wr n A){r:Y}(g:rows[n]?=some r):
  ay wr b (A.flatten++(r++((rows.drop (n+1)).flatten++c))) 79∧A.flatten.length=n*7∧je wr b (n*7) r:=by
 obtain⟨i,k⟩:=gS'.1 g;have a:=h.jh;rw[List.drop_eq_getElem_cons i,k,List.flatten_cons,List.append_assoc] at a;have d:A.flatten.length=n*7:=(by rw[IY h.seven,h.len]);refine⟨a,d,λj u e=> ?_⟩;have l:=(gS'.1 e).1;rw[a.cell,List.getElem?_append_right (by omega),d,Nat.add_sub_cancel_left,List.getElem?_append_left l,e]
theorem WK.start{a:World}{b B:Nat}{wants:List Want}{rows:List (Y)}{c:Y}(d:ay a b (rows.flatten++c) 79)(e:b<B∧B<=a.heap.size):WK a b B wants rows c a 0 []:=
 ⟨zL',rfl,(λr h=>by cases h),by simpa using d,e,(λi r x h=>by simp at h),O.refl _ _⟩
theorem dU.fin{w:World}{g B:Nat}{name m:K}{k:Int}{b:Bool}{i:Int}{f:Nat}{t:K}{p q E z:Value}{c:Ch}{wr o:World}{v:Value}{rows A:List (Y)}
  (h:CC w g B (λl=>az name m k b i f t p q l E) (ai k b i f t p q) c.vals c.deps wr c.deps.length v rows) (F:c.name=name) (G:c.version=m) (s:O (·=g) wr o)
  (H:aC (λy=>B<=y) o z 7 A) (I:A.length=c.wants.length) (u:∀(j:Nat)(r:Y)(x:Want),A[j]?=some r→c.wants[j]?=some x→dF (λy=>B<=y) o r x):dU (λx=>B<=x) o (az name m k b i f t p q v z) c:=by
 have C:∀x,okF B v x→¬x=g:=λx u e=>by have:=u.1;have:=h.hB.2.1;omega
 obtain⟨J,L,vals,Q,wants⟩:=c;obtain rfl:J=name:=F;obtain rfl:L=m:=G;refine .mk ((h.vals.X s C).mono (λb _ a=>a.1)) ?_ h.len (λn r d M N=>((h.val n r d M N).X s C).mono (λb _ a=>a.1)) H I u;have D:=h.own.X s (λk P e=>by have R:k=g:=e;have:=(h.own.elem P).1;have:=h.hB.2.1;omega);exact D.rowAt.mono (λb _ a=>(D.elem a).1) (by decide)
def jT(all:T)(a:K):List K→Option Bool
 |[]=>none
 |c::r=>if c=ByteArray.empty then jT all a r else match iG all (a++c) with
  |some (.bool b)=>some b
  | _=>jT all a r
def o6(all:T)(a:K)(x:Want):Bool:=(jT all a (parts x.condition 44)).getD x.enabled
def gG(all:T)(a:K)(x:Want):Want:={x with enabled:=o6 all a x}
theorem wo{all:T}{a:K}{P:List K}{n:Nat}(h:P[n]?=some ByteArray.empty):jT all a (P.drop n)=jT all a (P.drop (n+1)):=by obtain⟨b,c⟩:=gS'.1 h;rw[List.drop_eq_getElem_cons b,c,jT,if_pos rfl]
theorem o7{all:T}{a c:K}{P:List K}{n:Nat}(h:P[n]?=some c)(d:c≠ByteArray.empty)(e:∀b,iG all (a++c)≠some (.bool b)):jT all a (P.drop n)=jT all a (P.drop (n+1)):=by
 obtain⟨f,g⟩:=gS'.1 h;rw[List.drop_eq_getElem_cons f,g,jT,if_neg d]
 split
 .rename_i b hb;exact absurd hb (e b)
 .rfl
theorem wB{all:T}{a c:K}{P:List K}{n:Nat}{b:Bool}(h:P[n]?=some c)(d:c≠ByteArray.empty)(e:iG all (a++c)=some (.bool b)):jT all a (P.drop n)=some b:=by obtain⟨f,g⟩:=gS'.1 h;rw[List.drop_eq_getElem_cons f,g,jT,if_neg d,e]
theorem aG.J3{ok:ae}{w:World}{k b i f t kv lv}{j:J}(h:aG ok w (ai k b i f t kv lv) j):(k=1→j=.bool b)∧(∀a,j=.bool a→k=1):=by cases h<;>simp
structure WV (ok:ae) (w:World) (f:Want→Want) (xs:List Want) (wr:World) (n:Nat) (v:Value) (rows:List (Y)):Prop where
 le:n<=xs.length
 own:aB wr w.heap.size 79 7 v rows
 len:rows.length=n
 val:∀(i:Nat)(r:Y)(x:Want),rows[i]?=some r→xs[i]?=some x→dF ok w r (f x)
 X:O No w wr
theorem WV.start{ok:ae}{w:World}{f:Want→Want}{xs:List Want}{wr:World}(a:O No w wr):WV ok w f xs wr 0 (.slice none 0 0) []:=
 ⟨zL',aB.nil _ _ _ _,rfl,λi r x h=>by simp at h,a⟩
theorem WV.step{ok:ae}{w:World}{f:Want→Want}{xs:List Want}{wr g w6:World}{n:Nat}{v v':Value}{c:List (Y)}{x:Want}{r:Y}(h:WV ok w f xs wr n v c)(j:xs[n]?=some x)(l:dF ok w r (f x)){q:Nat}(A:w.heap.size<=q)
  (m:O No w g) (o:O (λb=>v.ownBlock=some b) (g.alloc (.cells r.toArray 79)) w6) (p:aB w6 w.heap.size 79 7 v' (c++[r])) (s:∀k,v.ownBlock=some k→w.heap.size<=k):WV ok w f xs w6 (n+1) v' (c++[r]):=by
 refine⟨(gS'.1 j).1,p,by simp[h.len],λi t y a d=> ?_,(m.alloc _).trans o (λi a e=>by have:=s i e;omega)⟩;by_cases u:i<c.length
 .rw[List.getElem?_append_left u] at a;exact h.val i t y a d
 .have z:i=c.length:=by
   have:=(gS'.1 a).1;simp at this;omega
  subst z;rw[List.getElem?_append_right lR',Nat.sub_self] at a;cases a;rw[h.len,j] at d;cases d;exact l
def oL(ok:ae)(w:World)(c:List Want)(e:Ending)(d:World):Prop:=
 ∃(v:Value) (a:List (Y)),e=.returned v∧aC (λb=>ok b∨w.heap.size<=b) d v 7 a∧a.length=c.length∧(∀(n:Nat)(r:Y)(y:Want),a[n]?=some r→c[n]?=some y→dF ok w r y)∧O No w d
theorem WV.post{ok:ae}{w:World}{f:Want→Want}{xs:List Want}{wr:World}{v:Value}{c:List (Y)}(h:WV ok w f xs wr xs.length v c):oL ok w (xs.map f) (.returned v) wr:=by
 refine⟨v,c,rfl,h.own.rowAt.mono (λb _ d=> .inr (h.own.elem d).1) (by decide),by simp[h.len],λn r y e a=> ?_,h.X⟩;rw[List.getElem?_map] at a;cases hx:xs[n]? with
 |none=>rw[hx] at a;cases a
 |some x=>rw[hx] at a;cases a;exact h.val n r x e hx
theorem zY(cs:Y)(h:cs.length=7)(w:World):(Instr.buildSlice 28 1 #[(0,.agg cs.toArray)]).run Tryz.prog w=.ok (.slice (some ⟨w.heap.size,0,none⟩) 1 1) (w.alloc (.cells cs.toArray 79)):=by
 obtain⟨a,b,c,d,e,f,g,rfl⟩:∃a b c d e f g,cs=[a,b,c,d,e,f,g]:=by
  match cs,h with
  |[a,b,c,d,e,f,g],_=>exact⟨a,b,c,d,e,f,g,rfl⟩
 clear h
 kernel_rfl
theorem fU{b:Array Oper}{rest:List Oper}{o:Oper}{a:Act}{w:World}{Q:ah}(c:o.guard=none){x:Operand}(d:o.op=.buildSlice 28 1 #[(0,x)]){cs:Y}(e:a.eval x=.agg cs.toArray)(f:cs.length=7)
  (h:wpList Tryz.prog b Q rest (a.put o.dst (.slice (some ⟨w.heap.size,0,none⟩) 1 1)) (w.alloc (.cells cs.toArray 79))):wpList Tryz.prog b Q (o::rest) a w:=by
 refine wpList_plain c λj g=> ?_
 have i:=zY cs f w;unfold Oper.wp;simp only[execOp,d,List.map_toArray,List.map_cons,List.map_nil,e,Sem.run_bind,i,Result.andThen_ok];exact g _ _ h
theorem yL{ok:ae}{w:World}(lv:Value)(aJ:List (Y))(xs:List Want)(cs:Y)(all:T)(a:K)(hl:aC ok w lv 7 aJ)(hn:aJ.length=xs.length)(Q:∀(n:Nat)(r:Y)(x:Want),aJ[n]?=some r→xs[n]?=some x→dF ok w r x)(hv:aG ok w cs (.table all))(bV:∀x∈xs,gq x.condition)(hp:a.size<=1048576)(aQ:xs.length<=1048576):
  Calls Tryz.prog 79 #[lv,.agg cs.toArray,.string a] w (oL ok w (xs.map (gG all a))):=by
 have HL:=Z (hl.mono (ok':=okB ok w) (λb hb h=>⟨h,hb⟩) (by decide));have HN:=Z hn;have HR:=Z Q;have HV:=Z hv;have dI:=Z bV;have HP:=Z hp;have bW:=Z aQ;have bY:=hl.1;obtain⟨-, -,la,lc,rfl, -, -⟩:=hl;unfold maxLen at bY;obtain⟨kb,ki,kf,kt,kv,aS,rfl⟩:=hv.fV;have bZ:∀W,w.alloc (.cells (ai 7 kb ki kf kt kv aS).toArray 26)=W→ay W w.heap.size (ai 7 kb ki kf kt kv aS) 26∧O No w W∧W.heap.size=w.heap.size+1:=by rintro W rfl;exact⟨ay.new _ _ _,(O.refl No w).alloc _,by simp⟩
 have HF:=Z bZ;rw[hn] at HL bY⊢;clear hn Q hv bV hp aQ bZ;go_enter Tryz.func79,Tryz.ntmps79;unfold ai;go_upto_region 1 with fail
 generalize cu:World.alloc _ _=W;obtain⟨b0,c1,u⟩:=HF.o W cu;clear cu HF;obtain⟨g,hg⟩:∃g,g=w.heap.size:=⟨_,rfl⟩;rw[←hg] at b0 u⊢;have HG:=Z hg;have eF:=Z u;have dJ:=Z b0;have dK:=Z c1;clear b0 c1 u hg;go_wp2_with fail;go_loopw [7,16] (λv B wr=>∃(n:Nat) (R:List (Y)),B=.int .i64 n∧WV ok w (gG all a) xs wr n v R∧ay wr g (ai 7 kb ki kf kt kv aS) 26) (λ_ B _=>xs.length - (intOf B).toNat)
 case atStart=>exact⟨0,[],rfl,WV.start dK.o,dJ.o⟩
 case round=>
  obtain⟨n,R,rfl,aT,cO⟩:=hrel;obtain⟨o,rfl⟩:∃o,o=wr:=⟨_,rfl⟩;have m:=Z aT;have aj:=Z cO;have s:=aT.own;obtain⟨va,vc,rfl⟩:=s.dY;clear aT cO;by_cases aU:n<xs.length
  .obtain⟨r,aV⟩:=gX' aJ n ((by rw[HN.o];exact aU));obtain⟨x,hx⟩:=gX' xs n (aU);obtain⟨lb,lo,rfl, -,S⟩:=HL.o.at (i:=n) (r:=r) aV;have S:=S.X m.o.X id;have aW:=HR.o n r x aV hx;have ax:=aW.len.1;have aK:=aW.len.2;have HX:=Z hx;have cZ:=Z (dI.o x (mG' hx));have eG:(n:Int)<(xs.length:Int):=(by omega);clear hx aV;obtain⟨tv,iv,rfl,ht,hi⟩:=aW;have HT:=Z ht;have HI:=Z hi;obtain⟨-, -,c,d,rfl, -, -⟩:=ht;obtain⟨-, -,f,j,rfl, -, -⟩:=hi;have df:(aH x.tags).length=x.tags.length:=(by simp[aH]);have dh:(dS x.imports).length=x.imports.length:=(by simp[dS]);rw[df] at HT S ax aK;rw[dh] at HI S ax aK;clear df dh;have bx:=ay.new o (aI x (.slice c x.tags.length d) (.slice f x.imports.length j)) 79;obtain⟨z,aX⟩:∃z,z=o.heap.size:=⟨_,rfl⟩;have dL:=Z aX;go_upto_region 5 with(first|(with_reducible refine V rfl dD rfl rfl S ax ?_)|(with_reducible refine ak rfl dD rfl rfl rfl rfl ax aK ?_))
   obtain⟨wx,aY⟩:∃wx,wx=o.alloc (.cells (aI x (.slice c x.tags.length d) (.slice f x.imports.length j)).toArray 79):=⟨_,rfl⟩;have dM:=Z (show O No o wx by rw[aY];exact(O.refl No o).alloc _);rw[←aY] at bx⊢;rw[←aX] at bx⊢;have dN:=Z bx;have q2:wx.cell? ⟨z,2,none⟩=some (.string x.condition):=bx.cell 2;clear aY aX S ax aK bx;go_wp2_with fail;refine(vT x.condition (by have:=cZ.o;unfold gq at this;omega) wx).mono ?_;rintro e wz ⟨pv,rfl,aZ,bf⟩;have bg:=Z aZ.rowAt;have aO:=Z (dM.o.trans' bf);have di:=Z (dN.o.X bf id);obtain⟨pa,pc,rfl⟩:=aZ.dY;simp only[aH,List.length_map] at bg⊢;obtain⟨P,hP⟩:∃P,P=parts x.condition 44:=⟨_,rfl⟩;have dO:=oK x.condition 44;have bn:=λy (hy:y∈parts x.condition 44)=>iQ hy
   rw[←hP] at bg dO bn⊢;have dm:=Z hP;have dP:=Z bn;have dQ:=cZ.o;unfold gq at dQ;clear aZ bf hP bn q2;go_wp2_with fail;go_loopw [24] (λB wr=>∃k:Nat,B=.int .i64 k∧k<=P.length∧jT all a P=jT all a (P.drop k)∧O No wz wr) (λB _=>P.length - (intOf B).toNat)
   case atStart=>exact⟨0,rfl,zL',rfl,O.refl _ _⟩
   case round=>
    obtain⟨k,rfl,A,dn,dw⟩:=hrel;have az:=Z dn;have C:=Z dw;clear dn dw;by_cases dR:k<P.length
    .obtain⟨y,hy⟩:=gX' P k (dR);obtain⟨eH,eP,rfl, -,bu⟩:=bg.o.at (i:=k) (r:=[.string y]) (by simp[hy]);have bu:=(bu.X C.o id).one;simp only[Nat.mul_one] at bu;have HY:=Z hy;have dU:(k:Int)<(P.length:Int):=(by omega);clear hy;by_cases U:y=ByteArray.empty
     .have dV:(ByteArray.toList y).isEmpty=true:=by rw[←decide_eq_emptyBytes];exact decide_eq_true U
      have HE:=Z (show P[k]?=some ByteArray.empty by rw[HY.o,U]);clear U;go_wp2_with fail;go_roundw;case rel=>exact⟨k+1,by go_num,by omega,by rw[az.o,wo HE.o],C.o⟩
      case measure=>simp[intOf];omega
     .have dV:(ByteArray.toList y).isEmpty=false:=by rw[←decide_eq_emptyBytes];exact decide_eq_false U
      have HE:=Z U;have b4:=((aj.o.X aO.o id).X C.o id).cells;have eQ:=dP.o y (mG' HY.o);have eU:=HP.o;clear U;go_wp2_with (first|(with_reducible refine V rfl au rfl rfl b4 rfl ?_));refine(zS (a++y) (by rw[ByteArray.size_append];omega) ((HV.o.X m.o.X nE).X (aO.o.trans' C.o) nE)).mono ?_;rintro e w3 ⟨dA,c3,j3,rfl,aA,dB⟩;have dC:=Z (C.o.trans' dA);have bC:=aA.length;have bD:=aA.one;obtain⟨D,l,E,F,G,H,I,rfl⟩:=aA.seven;have dE:=Z aA.J3;have dG:=Z dB;have bz:=ay.new w3 (ai D l E F G H I) 26;have z0:(w3.alloc (.cells (ai D l E F G H I).toArray 26)).cell? ⟨w3.heap.size,0,none⟩=some (.int .i64 D):=bz.cell 0;have z1:(w3.alloc (.cells (ai D l E F G H I).toArray 26)).cell? ⟨w3.heap.size,1,none⟩=some (.bool l):=bz.cell 1;have bF:=Z (dC.o.alloc (.cells (ai D l E F G H I).toArray 26));clear dA aA dB b4 bz;cases ho:iG all (a++y) with
      |none=>
       have HO:=Z ho;clear ho;go_wp2_with (first|(with_reducible refine ak rfl au rfl rfl rfl rfl bC bD ?_));go_roundw;case rel=>exact⟨k+1,by go_num,by omega,by rw[az.o,o7 HY.o HE.o (λb h=>by rw[HO.o] at h;cases h)],bF.o⟩
       case measure=>simp[intOf];omega
      |some xv=>
       have HO:=Z ho;clear ho;by_cases hz:D=1
       .subst hz;obtain rfl:xv=j3:=dG.o _ HO.o;have dH:=dE.o.1 rfl;have dW:=Z (show jT all a P=some l by rw[az.o];exact wB HY.o HE.o (by rw[HO.o,dH]));have aP:=((di.o.X dC.o id).alloc (.cells (ai 1 l E F G H I).toArray 26));have k5:(w3.alloc (.cells (ai 1 l E F G H I).toArray 26)).cell? ⟨z,5,none⟩=some (.bool x.enabled):=aP.cell 5;have f5:=aP.frozen 5;have dX:=Z aP;clear aP dH;go_upto_region 13 with(first|(with_reducible refine ak rfl au rfl rfl rfl rfl bC bD ?_))
        obtain⟨J,bG, -⟩:=dX.o.setCell 5 (.bool l);obtain⟨p,u⟩:∃p,p=(w3.alloc (.cells (ai 1 l E F G H I).toArray 26)).setCell ⟨z,5,none⟩ (.bool l):=⟨_,rfl⟩;rw[←u] at J bG⊢;have t:=Z (show O No o p from(aO.o.trans' bF.o).trans bG (λi hi e=>by have e1:i=z:=e;have:=dL.o;omega));have af:ay p z (aI (gG all a x) (.slice c x.tags.length d) (.slice f x.imports.length j)) 79:=by
         have e1:o6 all a x=l:=by unfold o6;rw[←dm.o,dW.o];rfl
         have e2:aI (gG all a x) (.slice c x.tags.length d) (.slice f x.imports.length j)=(aI x (.slice c x.tags.length d) (.slice f x.imports.length j)).set 5 (.bool l):=by unfold gG;rw[e1];rfl
         rw[e2];exact J
        clear u bG J k5 f5;have aB:=s.X t.o nE;have L:(aI (gG all a x) (.slice c x.tags.length d) (.slice f x.imports.length j)).length=7:=rfl;have bH:R.length+1<=1099511627776:=by rw[m.o.len];have:=bW.o;omega
        have J:w.heap.size<=p.heap.size+1:=by have h1:=m.o.X.size;have M:=t.o.size;omega
        have bI:=Z (show dF ok w (aI (gG all a x) (.slice c x.tags.length d) (.slice f x.imports.length j)) (gG all a x) from⟨_,_,rfl,HT.o,HI.o⟩);have bJ:=Z (aj.o.X t.o id);have bK:=Z (λk A=>(s.elem (k:=k) A).1);have bM:=Z (show ∀k,(Value.slice va R.length vc).ownBlock=some k→g≠k from λk A e=>by subst e;obtain⟨-, -,dZ,M⟩:=s.elem A;have h3:o.heap[g]?=_:=aj.o;rw[h3] at M;cases M);go_wp2_with (first|(with_reducible refine V rfl dD rfl rfl af.cells L ?_)|(refine fU rfl rfl rfl L ?_)|(at_builtin;refine aN rfl nU rfl rfl (aB.alloc _) rfl (aC.gX p (aI (gG all a x) (.slice c x.tags.length d) (.slice f x.imports.length j)) 79 7 L) (by intro r Q;obtain rfl:=List.mem_singleton.1 Q;rfl) bH (by decide) (by simpa using J) ?_;intro v' w6 aF N bP bQ;go_frame))
        have bT:=Z (m.o.step HX.o bI.o (q:=w.heap.size) lR' (m.o.X.trans' t.o) N aF bK.o);have bU:=Z ((bJ.o.alloc (.cells (aI (gG all a x) (.slice c x.tags.length d) (.slice f x.imports.length j)).toArray 79)).X N (λe=>bM.o g e rfl));clear aF N bP bQ aB af s;go_roundw;case rel=>exact⟨n+1,_,by go_num,bT.o,bU.o⟩
        case measure=>simp[intOf];omega
       .have eX:(D==1)=false:=(by simpa using hz);have ed:=Z (show ∀b,iG all (a++y)≠some (.bool b) from λb h=>hz (dE.o.2 b (dG.o _ h).symm));clear hz;go_wp2_with (first|(with_reducible refine ak rfl au rfl rfl rfl rfl bC bD ?_));go_roundw;case rel=>exact⟨k+1,by go_num,by omega,by rw[az.o,o7 HY.o HE.o ed.o],bF.o⟩
        case measure=>simp[intOf];omega
    .have dU:¬(k:Int)<(P.length:Int):=(by omega);have t:=Z (show O No o wr from aO.o.trans' C.o);have af:ay wr z (aI (gG all a x) (.slice c x.tags.length d) (.slice f x.imports.length j)) 79:=by
      have e1:o6 all a x=x.enabled:=by unfold o6;rw[←dm.o,az.o,List.drop_of_length_le (by omega)];rfl
      have e2:gG all a x=x:=by unfold gG;rw[e1]
      rw[e2];exact di.o.X C.o id
     obtain⟨p,u⟩:∃p,p=wr:=⟨_,rfl⟩;rw[←u] at t af⊢;clear u;have aB:=s.X t.o nE;have L:(aI (gG all a x) (.slice c x.tags.length d) (.slice f x.imports.length j)).length=7:=rfl;have bH:R.length+1<=1099511627776:=by rw[m.o.len];have:=bW.o;omega
     have J:w.heap.size<=p.heap.size+1:=by have h1:=m.o.X.size;have M:=t.o.size;omega
     have bI:=Z (show dF ok w (aI (gG all a x) (.slice c x.tags.length d) (.slice f x.imports.length j)) (gG all a x) from⟨_,_,rfl,HT.o,HI.o⟩);have bJ:=Z (aj.o.X t.o id);have bK:=Z (λk A=>(s.elem (k:=k) A).1);have bM:=Z (show ∀k,(Value.slice va R.length vc).ownBlock=some k→g≠k from λk A e=>by subst e;obtain⟨-, -,dZ,M⟩:=s.elem A;have h3:o.heap[g]?=_:=aj.o;rw[h3] at M;cases M);go_wp2_with (first|(with_reducible refine V rfl dD rfl rfl af.cells L ?_)|(refine fU rfl rfl rfl L ?_)|(at_builtin;refine aN rfl nU rfl rfl (aB.alloc _) rfl (aC.gX p (aI (gG all a x) (.slice c x.tags.length d) (.slice f x.imports.length j)) 79 7 L) (by intro r Q;obtain rfl:=List.mem_singleton.1 Q;rfl) bH (by decide) (by simpa using J) ?_;intro v' w6 aF N bP bQ;go_frame))
     have bT:=Z (m.o.step HX.o bI.o (q:=w.heap.size) lR' (m.o.X.trans' t.o) N aF bK.o);have bU:=Z ((bJ.o.alloc (.cells (aI (gG all a x) (.slice c x.tags.length d) (.slice f x.imports.length j)).toArray 79)).X N (λe=>bM.o g e rfl));clear aF N bP bQ aB af s;go_roundw;case rel=>exact⟨n+1,_,by go_num,bT.o,bU.o⟩
     case measure=>simp[intOf];omega
  .have eu:n=xs.length:=Nat.le_antisymm m.o.le (Nat.not_lt.1 aU);subst eu;have aQ:¬((xs.length:Nat):Int)<(xs.length:Int):=(by omega);clear s;go_wp2_with fail;go_ret;exact m.o.post
def dK(g:T)(b:Bool)(k:K):Bool:=match get g k with|some (.bool c)=>c==b| _=>false
def qI(all:T)(x:Want):Bool:=match bD all (parts tK 46) with
 |none=>x.enabled
 |some g=>x.tags.any (dK g true)|| !(x.tags.any (dK g false))
def jL(all:T)(x:Want):Want:={x with enabled:=qI all x}
theorem iI{f:K→Bool}{l:List K}{n:Nat}{k:K}(h:l[n]?=some k):(l.take (n+1)).any f=((l.take n).any f||f k):=by rw[List.take_add_one,h,List.any_append];simp
theorem IZ{ok:ae}{w:World}(lv:Value)(L:List (Y))(xs:List Want)(cs:Y)(all:T)(hl:aC ok w lv 7 L)(hn:L.length=xs.length)(hr:∀(n:Nat)(r:Y)(x:Want),L[n]?=some r→xs[n]?=some x→dF ok w r x)(hv:aG ok w cs (.table all))(aW:xs.length<=1048576):
  Calls Tryz.prog 80 #[lv,.agg cs.toArray] w (oL ok w (xs.map (jL all))):=by
 have bY:=Z hl;have HL:=Z (hl.mono (ok':=okB ok w) (λb u h=>⟨h,u⟩) (by decide));have HN:=Z hn;have HR:=Z hr;have HV:=Z hv;have dW:=Z aW;have bZ:=hl.1;obtain⟨-, -,la,lc,rfl, -, -⟩:=hl;unfold maxLen at bZ;obtain⟨kb,ki,kf,kt,kv,cu,rfl⟩:=hv.fV;have cO:∀W,w.alloc (.cells (ai 7 kb ki kf kt kv cu).toArray 26)=W→ay W w.heap.size (ai 7 kb ki kf kt kv cu) 26∧O No w W∧W.heap.size=w.heap.size+1:=by rintro W rfl;exact⟨ay.new _ _ _,(O.refl No w).alloc _,by simp⟩
 have HF:=Z cO;rw[hn] at HL bY bZ⊢;clear hn hr hv aW cO;go_enter Tryz.func80,Tryz.ntmps80;unfold ai;go_upto_region 1 with fail
 generalize cZ:World.alloc _ _=W;obtain⟨b0,c1,dX⟩:=HF.o W cZ;clear cZ HF;have fK:=Z b0;have df:=Z c1;clear c1 dX;go_wp2_with (first|(with_reducible refine V rfl au rfl rfl b0.cells rfl ?_));have dh:(⟨#[116,97,103,115]⟩:K)=tK:=rfl;rw[dh];clear dh;refine(nP tK (by decide) (HV.o.dV.X df.o nE)).mono ?_;rintro e w2 ⟨di,hm⟩;have dm:=Z (df.o.trans' di);clear di b0;cases iU:bD all (parts tK 46) with
 |none=>
  rw[iU] at hm;obtain rfl:=hm;have aX:=Z iU;clear iU;go_wp2_with (first|(with_reducible refine ak rfl au rfl rfl rfl rfl rfl rfl ?_));go_ret;have M:=dm.o.alloc (.cells bu.toArray 26);have dZ:∀x:Want,jL all x=x:=λx=>by unfold jL qI;rw[aX.o]
  refine⟨_,L,rfl,?_,by simp[HN.o],λn r y h1 f=> ?_,M⟩
  .exact(bY.o.X M nE).mono (λb _ u=> .inl u) (by decide)
  .rw[List.getElem?_map] at f;cases z:xs[n]? with
   |none=>rw[z] at f;cases f
   |some x=>rw[z] at f;cases f;rw[dZ];exact HR.o n r x h1 z
 |some a=>
  rw[iU] at hm;obtain⟨cg,rfl,N⟩:=hm;have dn:=N.length;have dw:=N.one;obtain⟨gb,gi,gf,aB,aF,aJ,rfl⟩:=N.fV;have dA:=Z N;have aX:=Z iU;have bg:=ay.new w2 (ai 7 gb gi gf aB aF aJ) 26;obtain⟨P,dB⟩:∃P,P=w2.heap.size:=⟨_,rfl⟩;clear iU N;go_upto_region 2 with(first|(with_reducible refine ak rfl au rfl rfl rfl rfl dn dw ?_))
  obtain⟨C,aK⟩:∃C,C=w2.alloc (.cells (ai 7 gb gi gf aB aF aJ).toArray 26):=⟨_,rfl⟩;have ed:=Z (show O No w C by rw[aK];exact dm.o.alloc _);have eu:=Z (show aG (okB ok w) C (ai 7 gb gi gf aB aF aJ) (.table a) by rw[aK];exact dA.o.X ((O.refl No w2).alloc _) nE);rw[←aK] at bg⊢;rw[←dB] at bg⊢;have eF:=Z bg;clear bg aK dB dn dw dA;go_wp2_with fail;go_loopw [7,26] (λv A wr=>∃(n:Nat) (aO:List (Y)),A=.int .i64 n∧WV ok w (jL all) xs wr n v aO∧O (λb=>w.heap.size<=b∧b≠P) C wr) (λ_ A _=>xs.length - (intOf A).toNat)
  case atStart=>exact⟨0,[],rfl,WV.start ed.o,O.refl _ _⟩
  case round=>
   obtain⟨n,aO,rfl,aY,aP⟩:=hrel;obtain⟨g,rfl⟩:∃g,g=wr:=⟨_,rfl⟩;have p:=Z aY;have eG:=Z aP;have dC:=Z (eF.o.X aP (λe=>e.2 rfl));have eH:=Z (eu.o.X aP (λb u e=>by have:=u.2;omega));have D:=aY.own;obtain⟨va,vc,rfl⟩:=D.dY;clear aY aP;by_cases aZ:n<xs.length
   .obtain⟨r,bf⟩:=gX' L n ((by rw[HN.o];exact aZ));obtain⟨x,z⟩:=gX' xs n (aZ);obtain⟨lb,lo,rfl, -,E⟩:=HL.o.at (i:=n) (r:=r) bf;have E:=E.X p.o.X id;have bn:=HR.o n r x bf z;have Q:=bn.len.1;have aQ:=bn.len.2;have HX:=Z z;have fM:(n:Int)<(xs.length:Int):=(by omega);clear z bf;obtain⟨tv,iv,rfl,ht,hi⟩:=bn;have HT:=Z ht;have dE:=Z (ht.mono (ok':=okB ok w) (λb u h=>⟨h,u⟩) (by decide));have HI:=Z hi;have dG:=ht.1;obtain⟨-, -,j,l,rfl, -, -⟩:=ht;obtain⟨-, -,s,t,rfl, -, -⟩:=hi;have dH:(aH x.tags).length=x.tags.length:=(by simp[aH]);have dI:(dS x.imports).length=x.imports.length:=(by simp[dS]);rw[dH] at HT dE dG E Q aQ;rw[dI] at HI E Q aQ;clear dI;unfold maxLen at dG;have R:=ay.new g (aI x (.slice j x.tags.length l) (.slice s x.imports.length t)) 79;obtain⟨F,bC⟩:∃F,F=g.heap.size:=⟨_,rfl⟩;have eP:=Z bC;go_upto_region 8 with(first|(with_reducible refine V rfl dD rfl rfl E Q ?_)|(with_reducible refine ak rfl dD rfl rfl rfl rfl Q aQ ?_))
    obtain⟨S,bF⟩:∃S,S=g.alloc (.cells (aI x (.slice j x.tags.length l) (.slice s x.imports.length t)).toArray 79):=⟨_,rfl⟩;have aS:=Z (show O No g S by rw[bF];exact(O.refl No g).alloc _);rw[←bF] at R⊢;rw[←bC] at R⊢;have eQ:=Z R;have q4:S.cell? ⟨F,4,none⟩=some (.slice j x.tags.length l):=R.cell 4;clear bF bC E Q aQ R dH;go_wp2_with fail;clear q4;go_loopw [10,11,33] (λyv nv A wr=>∃k:Nat,A=.int .i64 k∧k<=x.tags.length∧yv=.bool ((x.tags.take k).any (dK a true))∧nv=.bool ((x.tags.take k).any (dK a false))∧O No S wr) (λ_ _ A _=>x.tags.length - (intOf A).toNat);case atStart=>exact⟨0,rfl,zL',rfl,rfl,O.refl _ _⟩
    case round=>
     obtain⟨k,rfl,hk,rfl,rfl,dJ⟩:=hrel;have G:=Z dJ;clear dJ;obtain⟨m,bG⟩:∃m,m=(x.tags.take k).any (dK a true):=⟨_,rfl⟩;obtain⟨o,bH⟩:∃o,o=(x.tags.take k).any (dK a false):=⟨_,rfl⟩;rw[←bG,←bH];have U:=Z bG;have af:=Z bH;clear bG bH;by_cases eU:k<x.tags.length
     .obtain⟨y,hy⟩:=gX' x.tags k (eU);obtain⟨fO,fP,rfl, -,bI⟩:=dE.o.at (i:=k) (r:=[.string y]) (by simp[aH,hy]);have bI:=(((bI.X p.o.X id).X aS.o id).X G.o id).one;simp only[Nat.mul_one] at bI;have H:=Z hy;have eX:(k:Int)<(x.tags.length:Int):=(by omega);have b5:=((dC.o.X aS.o id).X G.o id).cells;clear hy;go_wp2_with (first|(with_reducible refine V rfl au rfl rfl b5 rfl ?_));refine(JU (okB ok w) a y gb gi gf aB aF aJ _ ((eH.o.X aS.o nE).X G.o nE)).mono ?_;rintro e w3 ⟨M,c3,rfl,aj⟩;have eY:=Z (G.o.trans' M);have bJ:=aj.length;have bK:=aj.one;obtain⟨B,d,zi,zf,zt,ax,az,rfl⟩:=aj.seven;have dL:=Z aj.J3;have bz:=ay.new w3 (ai B d zi zf zt ax az) 26;have z0:(w3.alloc (.cells (ai B d zi zf zt ax az).toArray 26)).cell? ⟨w3.heap.size,0,none⟩=some (.int .i64 B):=bz.cell 0;have z1:(w3.alloc (.cells (ai B d zi zf zt ax az).toArray 26)).cell? ⟨w3.heap.size,1,none⟩=some (.bool d):=bz.cell 1;have aT:=Z (eY.o.alloc (.cells (ai B d zi zf zt ax az).toArray 26));clear M aj b5 bz;cases ho:get a y with
      |none=>
       have I:=Z (show m=(x.tags.take (k+1)).any (dK a true) by rw[iI H.o,←U.o];unfold dK;rw[ho];simp);have J:=Z (show o=(x.tags.take (k+1)).any (dK a false) by rw[iI H.o,←af.o];unfold dK;rw[ho];simp);clear ho;go_wp2_with (first|(with_reducible refine ak rfl au rfl rfl rfl rfl bJ bK ?_));go_roundw;case rel=>exact⟨k+1,by go_num,by omega,by rw[←I.o],by rw[←J.o],aT.o⟩
       case measure=>simp[intOf];omega
      |some xv=>
       by_cases hz:B=1
       .subst hz;have bM:(get a y).getD .null=.bool d:=dL.o.1 rfl;have bP:get a y=some (.bool d):=by rw[ho] at bM⊢;exact congrArg some bM
        have I:=Z (show(m||d)=(x.tags.take (k+1)).any (dK a true) by rw[iI H.o,←U.o];unfold dK;rw[bP];cases d<;>simp);have J:=Z (show(o|| !d)=(x.tags.take (k+1)).any (dK a false) by rw[iI H.o,←af.o];unfold dK;rw[bP];cases d<;>simp);clear ho bP bM;go_upto_region 14 with(first|(with_reducible refine ak rfl au rfl rfl rfl rfl bJ bK ?_))
        obtain⟨w4,dM⟩:∃w4,w4=w3.alloc (.cells (ai 1 d zi zf zt ax az).toArray 26):=⟨_,rfl⟩;rw[←dM] at z0 z1 aT⊢;clear dM;cases m<;>cases o<;>(
         simp only[Bool.true_or,Bool.false_or] at I J
         go_quiet (fail)
         have dN:=Z (aT.o.trans' (O.drewN w4 nq));generalize w4.drewN nq=w6 at dN⊢;go_wp2_with fail;go_roundw;case rel=>exact⟨k+1,by go_num,by omega,by rw[←I.o],by rw[←J.o],dN.o⟩
         case measure=>simp[intOf];omega)
       .have fQ:(B==1)=false:=(by simpa using hz);have dO:=Z (show ∀b,get a y≠some (.bool b) from λb h=>hz (dL.o.2 b (by rw[h];rfl)));have I:=Z (show m=(x.tags.take (k+1)).any (dK a true) by rw[iI H.o,←U.o];unfold dK;split;(rename_i c hc;exact absurd hc (dO.o c));simp);have J:=Z (show o=(x.tags.take (k+1)).any (dK a false) by rw[iI H.o,←af.o];unfold dK;split;(rename_i c hc;exact absurd hc (dO.o c));simp);clear hz ho;go_wp2_with (first|(with_reducible refine ak rfl au rfl rfl rfl rfl bJ bK ?_));go_roundw;case rel=>exact⟨k+1,by go_num,by omega,by rw[←I.o],by rw[←J.o],aT.o⟩
        case measure=>simp[intOf];omega
     .have eX:¬(k:Int)<(x.tags.length:Int):=(by omega);have hY:m=x.tags.any (dK a true):=(by rw[U.o,List.take_of_length_le (by omega)]);have hN:o=x.tags.any (dK a false):=(by rw[af.o,List.take_of_length_le (by omega)]);have bQ:=Z (show qI all x=(m|| !o) by unfold qI;rw[aX.o,hY,hN]);have aU:=eQ.o.X G.o id;have k5:wr.cell? ⟨F,5,none⟩=some (.bool x.enabled):=aU.cell 5;have f5:=aU.frozen 5;have fA:=Z aU;clear hY hN aU U af;cases m<;>cases o<;>(
       go_upto_region 17 with fail
       have bT:=fA.o.setCell 5 (.bool (qI all x));rw[bQ.o] at bT;simp only[Bool.true_or,Bool.false_or,Bool.not_true,Bool.not_false] at bT bQ;obtain⟨aA,bU, -⟩:=bT;generalize World.setCell _ _ _=ws at aA bU⊢;have aV:=Z (show O No g ws from(aS.o.trans' G.o).trans bU (λi hi e=>by have e1:i=F:=e;have:=eP.o;omega));have dP:ay ws F (aI (jL all x) (.slice j x.tags.length l) (.slice s x.imports.length t)) 79:=by have e2:aI (jL all x) (.slice j x.tags.length l) (.slice s x.imports.length t)=(aI x (.slice j x.tags.length l) (.slice s x.imports.length t)).set 5 (.bool (qI all x)):=rfl;rw[e2,bQ.o];exact aA
       clear bU aA k5 f5;have dQ:=D.X aV.o nE;have bV:(aI (jL all x) (.slice j x.tags.length l) (.slice s x.imports.length t)).length=7:=rfl;have fB:aO.length+1<=1099511627776:=by rw[p.o.len];have:=dW.o;omega
       have aA:w.heap.size<=ws.heap.size+1:=by have h1:=p.o.X.size;have f:=aV.o.size;omega
       have fC:=Z (show dF ok w (aI (jL all x) (.slice j x.tags.length l) (.slice s x.imports.length t)) (jL all x) from⟨_,_,rfl,HT.o,HI.o⟩);have dR:=Z (λk hk=>(D.elem (k:=k) hk).1);have fD:=Z (show ∀k,(Value.slice va aO.length vc).ownBlock=some k→k≠P from λk hk e=>by subst e;obtain⟨-, -,fZ,f⟩:=D.elem hk;have h3:g.heap[k]?=_:=dC.o;rw[h3] at f;cases f);go_wp2_with (first|(with_reducible refine V rfl dD rfl rfl dP.cells bV ?_)|(refine fU rfl rfl rfl bV ?_)|(at_builtin;refine aN rfl nU rfl rfl (dQ.alloc _) rfl (aC.gX ws (aI (jL all x) (.slice j x.tags.length l) (.slice s x.imports.length t)) 79 7 bV) (by intro r hr;obtain rfl:=List.mem_singleton.1 hr;rfl) fB (by decide) (by simpa using aA) ?_;intro v' w6 dU bW fE fF;go_frame))
       have fG:=Z (p.o.step HX.o fC.o (q:=w.heap.size) lR' (p.o.X.trans' aV.o) bW dU dR.o);have fH:=Z (show O (λb=>w.heap.size<=b∧b≠P) C w6 from(eG.o.trans' (aV.o.trans' ((O.refl No ws).alloc _))).trans bW (λi hi e=>⟨dR.o i e,fD.o i e⟩));clear dU bW fE fF dQ dP D;go_roundw;case rel=>exact⟨n+1,_,by go_num,fG.o,fH.o⟩
       case measure=>simp[intOf];omega)
   .have fJ:n=xs.length:=Nat.le_antisymm p.o.le (Nat.not_lt.1 aZ);subst fJ;have aW:¬((xs.length:Nat):Int)<(xs.length:Int):=(by omega);clear D;go_wp2_with fail;go_ret;exact p.o.post
end Go.Proofs.YtljaoopfomcaoaaGreatDoor
namespace Go.Proofs.YtljaoopfomcaoaaGreatDoor
def iH:Nat→J→List K
 |0,_=> []
 |d+1,j=>match j with
  | .list xs=>xs.flatMap (iH d)
  | .table kvs=>kvs.flatMap λp=>p.1::iH d p.2
  | _=> []
theorem jw{α β:Type}(f:α→List β)(g:α→Nat):∀(l:List α),(∀x∈l,(f x).length<=g x)→(l.flatMap f).length<=(l.map g).sum
 |[],_=>by simp
 |a::r,h=>by have c:=jw f g r (λx b=>h x (by simp[b]));have d:=h a (by simp);simp only[List.flatMap_cons,List.length_append,List.map_cons,List.sum_cons];omega
theorem Ff:∀xs:List J,iO xs=(xs.map sz).sum
 |[]=>rfl
 |x::r=>by simp[iO,Ff r]
theorem Fg:∀xs:T,pJ xs=(xs.map λp=>sz p.2).sum
 |[]=>rfl
 |p::r=>by rw[pJ,Hm,Fg r];rfl
theorem qJ:∀(d:Nat)(j:J),(iH d j).length+1<=sz j
 |0,j=>by have:=Di j;simp[iH];omega
 |d+1,j=>by
  cases j with
  |list xs=>have h:=jw (iH d) sz xs (λx _=>by have:=qJ d x;omega);simp only[iH,sz,Ff];omega
  |table kvs=>have h:=jw (λp:K × J=>p.1::iH d p.2) (λp=>sz p.2) kvs (λp _=>by have:=qJ d p.2;simp;omega);simp only[iH,sz,Fg];omega
  | _=>simp[iH,sz]
theorem D5{N:Nat}:∀(d:Nat){j:J}{U:List K},Wf N d j→(∀k∈iH d j,k∈U)→WU U N d j
 |0,_,_,h,_=>h.elim
 |d+1,j,U,h,a=>by
  cases j with
  |list xs=>exact⟨h.1,λx e=>D5 d (h.2 x e) (λk b=>a k (by simp only[iH,List.mem_flatMap];exact⟨x,e,b⟩))⟩
  |table kvs=>refine⟨h.1,λp c=>⟨a p.1 (by simp only[iH,List.mem_flatMap];exact⟨p,c,by simp⟩),D5 d (h.2.2 p c).2 (λk b=>a k (by simp only[iH,List.mem_flatMap];exact⟨p,c,by simp[b]⟩))⟩⟩
  |float f=>exact h
  |null|bool|int|text=>trivial
theorem pV{N:Nat}:∀(d:Nat){j:J},Wf N d j→∀k∈iH d j,fK k
 |0,_,h,_,_=>h.elim
 |d+1,j,h,k,a=>by
  cases j with
  |list xs=>simp only[iH,List.mem_flatMap] at a;obtain⟨x,c,a⟩:=a;exact pV d (h.2 x c) k a
  |table kvs=>
   simp only[iH,List.mem_flatMap] at a;obtain⟨p,b,a⟩:=a;rcases List.mem_cons.1 a with rfl|a
   .exact(h.2.2 p b).1
   .exact pV d (h.2.2 p b).2 k a
  |float f=>simp[iH] at a
  |null|bool|int|text=>simp[iH] at a
def qK:Nat→Ch→List K
 |0,_=> []
 |L+1,c=>c.name::(iH 50 c.vals++c.deps.flatMap (qK L))
theorem I4:∀(L:Nat){c:Ch},nM L c→∀k∈qK L c,fK k
 |0,_,h,_,_=>h.elim
 |L+1,c,h,k,a=>by
  simp only[qK,List.mem_cons,List.mem_append,List.mem_flatMap] at a;rcases a with rfl|a|⟨d,b,a⟩
  .have:=h.2.1.le;unfold fK;omega
  .exact pV 50 h.1.1 k a
  .exact I4 L (h.2.2.2.2.2.1 d b) k a
theorem y9{U:List K}{N:Nat}(f:400<=N):∀(L:Nat){c:Ch},nM L c→(∀e,Dw e c)→(∀k∈qK L c,k∈U)→iW U N 50 L c
 |0,_,h,_,_=>h.elim
 |L+1,c,h,g,a=>by
  have j:∀k,k∈iH 50 c.vals→k∈U:=λk h=>a k (by simp[qK,h])
  refine⟨?_,a _ (by simp[qK]),h.2.1.ND,λt i=>⟨?_,?_⟩,h.2.2.2.2.1,λd b=>y9 f L (h.2.2.2.2.2.1 d b) (λe=>(g (e+1)).2 d b) (λk l=>a k (by simp only[qK,List.mem_cons,List.mem_append,List.mem_flatMap];exact .inr (.inr ⟨d,b,l⟩)))⟩
  .have:=h.2.1.le;unfold fK;omega
  .rw[←i];exact(D5 50 h.1.1 j).mono (λ_ h=>h) f lR'
  .rw[←i];exact(g 1).1
def gy(x:Want):Want:={x with name:=named x,enabled:=true}
def bK(x:Want)(d:Ch):Bool:=decide (x.name=d.name) && decide (x.version=d.version)
def Ch.as(d:Ch)(k:K):Ch:=.mk k d.version d.vals d.deps d.wants
def fG(a:List Ch)(x:Want):Option Ch:=(a.find? (bK x)).map λd=>d.as (named x)
def loneD(wants:List Want)(d:Ch):Bool:= !(wants.any λx=>bK x d)
def dw(a:List Ch)(wants:List Want):List Ch:=a.filter (loneD wants)++wants.filterMap (fG a)
def gI(a:List Want)(d:Ch):Bool:=a.any λx=>decide (x.name=d.name) && !x.enabled
def bG(all:T)(a:K)(b:List Want):List Want:=((b.map gy).map (jL all)).map (gG all a)
def eH(f:Ch→Option Ch):List Ch→Option (List Ch)
 |[]=>some []
 |d::r=>match f d with
  |none=>none
  |some x=>match eH f r with
   |none=>none
   |some y=>some (x::y)
def fF:Nat→Ch→T→K→Option Ch
 |0,c,_,_=>some c
 |L+1,c,v,a=>if c.wants.isEmpty then some c else
  match dJ false (.mk c.name c.version c.vals (dw c.deps c.wants) c.wants) v with
  |none=>none
  |some all=>match eH (λd=>fF L d all (a++d.name++dB)) ((dw c.deps c.wants).filter λd=> !gI (bG all a c.wants) d) with
   |none=>none
   |some b=>some (.mk c.name c.version c.vals b ((bG all a c.wants).filter (·.enabled)))
theorem wC(f:Ch→Option Ch):∀(a b:List Ch),eH f (a++b)=match eH f a with|none=>none|some x=>match eH f b with|none=>none|some y=>some (x++y)
 |[],b=>by simp only[List.nil_append,eH];cases eH f b<;>rfl
 |d::r,b=>by
  simp only[List.cons_append,eH];rw[wC f r b];cases f d with
  |none=>rfl
  |some x=>cases eH f r with
   |none=>rfl
   |some y=>cases eH f b<;>rfl
theorem oM{f:Ch→Option Ch}:∀{l:List Ch}{d:Ch},d∈l→f d=none→eH f l=none
 |a::r,d,h,b=>by
  simp only[eH];rcases List.mem_cons.1 h with rfl|h
  .rw[b]
  .cases f a with
   |none=>rfl
   |some x=>rw[oM h b]
theorem qL{f:Ch→Option Ch}{l:List Ch}{d x:Ch}{a:List Ch}(h:eH f l=some a)(b:f d=some x):eH f (l++[d])=some (a++[x]):=by rw[wC,h];simp only[eH,b]
theorem fP{α:Type}{p:α→Bool}{l:List α}{n:Nat}{x:α}(h:l[n]?=some x):(l.take (n+1)).filter p=(l.take n).filter p++if p x then [x] else []:=by rw[List.take_add_one,h,List.filter_append];cases hp:p x<;>simp[hp]
theorem iV{α β:Type}{f:α→Option β}{l:List α}{n:Nat}{x:α}(h:l[n]?=some x):(l.take (n+1)).filterMap f=(l.take n).filterMap f++(f x).toList:=by rw[List.take_add_one,h,List.filterMap_append];cases hp:f x<;>simp[hp]
def jZ:Nat→Ch→List K
 |0,_=> []
 |L+1,c=>c.name::(iH 50 c.vals++(c.wants.map named++c.deps.flatMap (jZ L)))
theorem wE:∀(L:Nat)(c:Ch)(k:K),k∈qK L c→k∈jZ L c
 |0,_,_,h=>by cases h
 |L+1,c,k,h=>by
  simp only[qK,List.mem_cons,List.mem_append,List.mem_flatMap] at h;simp only[jZ,List.mem_cons,List.mem_append,List.mem_flatMap];rcases h with h|h|⟨d,a,h⟩
  .exact .inl h
  .exact .inr (.inl h)
  .exact .inr (.inr (.inr ⟨d,a,wE L d k h⟩))
structure GL (U:List K) (L:Nat) (c:Ch):Prop where
 gQ:nM L c
 E5:∀e,Dw e c
 keys:∀k∈jZ L c,k∈U
theorem mF.named{x:Want}(h:mF x):lC (named x):=by
 unfold Go.Proofs.YtljaoopfomcaoaaGreatDoor.named
 split
 .rename_i Dh
  exact h.yE.resolve_left Dh
 .exact h.name
theorem nM.as{L:Nat}{d:Ch}{k:K}(h:nM L d)(a:lC k):nM L (d.as k):=by
 cases L with
 |zero=>exact h.elim
 |succ L=>exact⟨h.1,a,h.2.2⟩
theorem Dw.as{e:Nat}{d:Ch}{k:K}(h:Dw e d):Dw e (d.as k):=by
 cases e with
 |zero=>trivial
 |succ e=>exact h
theorem uU{b:List Ch}{wants:List Want}{d:Ch}(h:d∈dw b wants):(d∈b∧loneD wants d=true)∨∃x∈wants,∃c∈b,bK x c=true∧d=c.as (named x):=by
 unfold dw at h;rcases List.mem_append.1 h with h|h
 .exact .inl (List.mem_filter.1 h)
 .obtain⟨x,e,a⟩:=List.mem_filterMap.1 h;unfold fG at a;cases hf:b.find? (bK x) with
  |none=>rw[hf] at a;cases a
  |some c=>rw[hf] at a;cases a;exact .inr ⟨x,e,c,List.mem_of_find?_eq_some hf,by have:=List.find?_some hf;exact this,rfl⟩
theorem GL.dep{U:List K}{L:Nat}{c d:Ch}(h:GL U (L+1) c)(l:d∈dw c.deps c.wants):GL U L d:=by
 have g:∀a∈c.deps,∀k∈jZ L a,k∈U:=λa f k g=>h.keys k (by simp only[jZ,List.mem_cons,List.mem_append,List.mem_flatMap];exact .inr (.inr (.inr ⟨a,f,g⟩)))
 rcases uU l with⟨i, -⟩|⟨x,j,a,f, -,rfl⟩
 .exact⟨h.gQ.2.2.2.2.2.1 d i,λe=>(h.E5 (e+1)).2 d i,g d i⟩
 .refine⟨(h.gQ.2.2.2.2.2.1 a f).as (h.gQ.2.2.2.2.2.2.2.1 x j).named,λe=>((h.E5 (e+1)).2 a f).as,λk b=> ?_⟩;cases L with
  |zero=>cases b
  |succ L=>
   simp only[jZ,List.mem_cons] at b;rcases b with b|b
   .refine h.keys k ?_;simp only[jZ,List.mem_cons,List.mem_append,List.mem_map];exact .inr (.inr (.inl ⟨x,j,b.symm⟩))
   .refine g a f k ?_;simp only[jZ,List.mem_cons];exact .inr b
theorem Fh{c:List Ch}(d:(c.map Ch.name).Nodup){a b:Ch}(g:a∈c)(i:b∈c)(h:a.name=b.name):a=b:=by
 induction c with
 |nil=>cases g
 |cons x r l=>
  simp only[List.map_cons,List.nodup_cons,List.mem_map] at d;rcases List.mem_cons.1 g with j|k
  .rcases List.mem_cons.1 i with e|f
   .rw[j,e]
   .subst j;exact absurd ⟨b,f,h.symm⟩ d.1
  .rcases List.mem_cons.1 i with e|f
   .subst e;exact absurd ⟨a,k,h⟩ d.1
   .exact l d.2 k f
theorem wF{L:Nat}{c:Ch}(h:nM (L+1) c):((dw c.deps c.wants).map Ch.name).Nodup:=by
 have o:=h.2.2.2.2.1;have v:=h.2.2.2.2.2.2.2.2.1;have w:=h.2.2.2.2.2.2.2.2.2;unfold dw;rw[List.map_append,List.nodup_append];refine⟨o.sublist ((List.filter_sublist).map _),?_,λa z b A e=> ?_⟩
 .have B:∀(l:List Want),l.Pairwise kL→((l.filterMap (fG c.deps)).map Ch.name).Nodup:=by
   intro l C;induction l with
   |nil=>exact List.Pairwise.nil
   |cons x r p=>
    obtain⟨D,q⟩:=List.pairwise_cons.1 C;rw[List.filterMap_cons]
    split
    .exact p q
    .rename_i d f
     rw[List.map_cons,List.nodup_cons];refine⟨λE=> ?_,p q⟩;obtain⟨s,g,e⟩:=List.mem_map.1 E;obtain⟨y,F,i⟩:=List.mem_filterMap.1 g;have G:d.name=named x:=by
      unfold fG at f;cases hf:c.deps.find? (bK x) with
      |none=>rw[hf] at f;cases f
      |some k=>rw[hf] at f;cases f;rfl
     have H:s.name=named y:=by
      unfold fG at i;cases hf:c.deps.find? (bK y) with
      |none=>rw[hf] at i;cases i
      |some k=>rw[hf] at i;cases i;rfl
     exact(D y F).2.1 (by rw[←G,←H,e])
  exact B _ v
 .subst e;obtain⟨d,f,rfl⟩:=List.mem_map.1 z;obtain⟨t,g⟩:=List.mem_filter.1 f;obtain⟨s,I,e⟩:=List.mem_map.1 A;obtain⟨x,u,j⟩:=List.mem_filterMap.1 I;unfold fG at j;cases hf:c.deps.find? (bK x) with
  |none=>rw[hf] at j;cases j
  |some k=>
   rw[hf] at j;cases j;have n:=List.find?_some hf;have J:=List.mem_of_find?_eq_some hf;have m:named x=d.name:=e;unfold named at m
   split at m
   .exact w x u d t m
   .simp only[bK,Bool.and_eq_true,decide_eq_true_eq] at n;have K:k=d:=Fh o J t (by rw[←n.1,m]);subst K;have:(c.wants.any λx=>bK x k)=true:=List.any_eq_true.2 ⟨x,u,by simp[bK,n]⟩;unfold loneD at g;rw[this] at g;cases g
theorem GL.Lh{U:List K}{L:Nat}{c:Ch}(h:GL U (L+1) c){N:Nat}(f:400<=N):iW U N 50 (L+1) (.mk c.name c.version c.vals (dw c.deps c.wants) c.wants):=by have a:=y9 f (L+1) h.gQ h.E5 (λk b=>h.keys k (wE _ _ k b));exact⟨a.1,a.2.1,a.2.2.1,a.2.2.2.1,wF h.gQ,λd e=>y9 f L (h.dep e).gQ (h.dep e).E5 (λk b=>(h.dep e).keys k (wE _ _ k b))⟩
end Go.Proofs.YtljaoopfomcaoaaGreatDoor
