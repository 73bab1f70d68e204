/- A part of the proof. -/
import Derived.Test.YtljaoopfomcaoaaGreatDoorMc4
set_option linter.unusedVariables false
set_option linter.unusedSimpArgs false
set_option maxRecDepth 100000
set_option maxHeartbeats 4000000
namespace Go.Proofs.YtljaoopfomcaoaaGreatDoor
open Go.RowKit
section
variable {w:World} {ops:Array Oper} {rest:List Oper} {o:Oper} {a:Act} {Q:ah}
theorem EW{b n:Nat}{D:DataW Value}(h:w.ownsMap Tryz.prog 9 RV b n D){k:K}(g:k.size<=maxLen):
  (Instr.lookup 218 (.map (some b)) (.string k) false).run Tryz.prog w=.ok ((mv D k).getD (.bool false)) w:=by
 obtain⟨e,o,i,F,_,rfl⟩:=h;have j:=Tryz.zeroValue4 w;rcases Maps.fit_look false kJ Tryz.underlying218 j i F (iM g) with⟨c,_,a⟩|⟨f,y,_,_,c,l,a,_⟩
 .have d:mv (DataW.map ((e.toList.map (WideElems.rg Tryz.prog 9 RV)).foldr DataW.insert [])) k=none:=by unfold mv;rw[a]
  rw[d,c];rfl
 .have m:y.1=.held f.val:=by cases l;rfl
  rw[m] at a;have d:mv (DataW.map ((e.toList.map (WideElems.rg Tryz.prog 9 RV)).foldr DataW.insert [])) k=some f.val:=by unfold mv;rw[a]
  rw[d,c];rfl
theorem qE{b n:Nat}{f:K→Option Value}(a:aU w b n f){k:K}(c:k.size<=maxLen):(Instr.lookup 218 (.map (some b)) (.string k) false).run Tryz.prog w=.ok ((f k).getD (.bool false)) w:=by obtain⟨D,d,e⟩:=a;rw[EW d c,←e]
theorem qQ(j:o.guard=none){m x v:Operand}(l:o.op=Op.mapUpdate 218 m x v){b n:Nat}{f:K→Option Value}(p:a.eval m=.map (some b))(q:aU w b n f)(r:n<maxLen)
  {k:K} {u:Value} (s:a.eval x=.string k) (t:k.size<=maxLen) (y:a.eval v=u)
  (A:∀d,aU d b (n+1) (λz=>if z=k then some u else f z)→O (·=b) w d→d.heap.size=w.heap.size→wpList Tryz.prog ops Q rest (a.put o.dst undef) d):
  wpList Tryz.prog ops Q (o::rest) a w:=by
 obtain⟨D,g,B⟩:=q;refine wpList_mapUpdate_in w j m x v 218 l 9 4 kJ Tryz.underlying218 RV b n D p g r _ u (jJ k) s y (iM t) (.held u) [] rfl ?_;intro d C h;refine A d ⟨_,C,λz=> ?_⟩ ((O.grown h.grown).mono (λi _ e=>(Option.some.inj e).symm)) ?_
 .simp only[vH g.isMap,B]
 .obtain⟨E,c,F,c',G,rfl⟩:=h;simp[ChangeMaps.setBlock]
end
theorem qR(w:World):(Instr.makeMap 218 none).run Tryz.prog w=.ok (.map (some w.heap.size)) (w.alloc (.map #[] 0)):=rfl
def A8:J→Bool
 | .null=>true
 | _=>false
theorem uT{v:Value}{j:J}(h:rF v j)(w:World):(Go.binOp BinOp.eql 20 v .nilIface).run Tryz.prog w=.ok (.bool (A8 j)) w:=by obtain⟨_,_,h⟩:=h;cases h<;>kernel_rfl
theorem qF{v:Value}{j:J}(h:rF v j)(w:World):(Go.binOp BinOp.neq 20 v .nilIface).run Tryz.prog w=.ok (.bool (!A8 j)) w:=by obtain⟨_,_,h⟩:=h;cases h<;>kernel_rfl
theorem qG{v:Value}{j:J}(h:rF v j)(x:Operand)(w:World):(eqGuard BinOp.eql 20 x (.const .nilIface) v .nilIface).run Tryz.prog w=.ok () w:=by obtain⟨_,_,h⟩:=h;cases x<;>cases h<;>kernel_rfl
theorem nR{v:Value}{j:J}(h:rF v j)(x:Operand)(w:World):(eqGuard BinOp.neq 20 x (.const .nilIface) v .nilIface).run Tryz.prog w=.ok () w:=by obtain⟨_,_,h⟩:=h;cases x<;>cases h<;>kernel_rfl
theorem kY(v:Value)(w:World):(Instr.typeAssert (.iface 67 v) 20 67 false).run Tryz.prog w=.ok v w:=by kernel_rfl
theorem aZ{v:Value}{j:J}(h:rF v j)(w:World):Calls Tryz.prog 145 #[v] w λe a=>e=.returned (.bool (dA j))∧a=w:=by
 have b:∀z,(Instr.typeAssert v 20 67 true).run Tryz.prog z=.ok (.tuple #[mapOf v,.bool (dA j)]) z:=λz=>dP h
 go_enter Tryz.func145,Tryz.ntmps145;go_wp2;go_ret;exact⟨rfl,rfl⟩
theorem zJ(a:K):(a.toList==[])=decide (a=ByteArray.empty):=by
 have h:=aS a ByteArray.empty
 rwa[show ByteArray.empty.toList=[] from by rw[ByteArray.toList_eq];rfl] at h
theorem gV(a b:K)(w:World)(h:a.size<=1000000000000000000)(i:b.size<=1000000000000000000):Calls Tryz.prog 142 #[.string a,.string b] w λe d=>(∃s,e=.returned (.string s)∧s.size<=a.size+b.size+1)∧d=w:=by
 by_cases c:a=ByteArray.empty
 .have f:(a.toList==[])=true:=by rw[zJ];simpa using c
  go_enter Tryz.func142,Tryz.ntmps142;go_wp2;go_ret;exact⟨⟨b,rfl,by omega⟩,rfl⟩
 .have f:(a.toList==[])=false:=by rw[zJ];simpa using c
  have g:(a++(⟨#[46]⟩:ByteArray)).size=a.size+1:=by rw[ByteArray.size_append];rfl
  clear c;go_enter Tryz.func142,Tryz.ntmps142;go_wp2;go_ret;refine⟨⟨_,rfl,?_⟩,rfl⟩;rw[ByteArray.size_append,g];omega
abbrev l7:Value:=.func (.func 93) #[] #[]
theorem zK{P:Program}{f:FuncId}(q:∀(args:Array Value)(w:World),(callFunc f args).run P w=.ok (.enter f args) w){o:Oper}{a:Act}{w:World}{K:ag}{Q:ah}{c d g i j:Operand}{ts:Array TypeId}(r:o.op=.call {callee:=.value (.func f),args:=#[c,d,g,i,j],argTypes:=ts})
  {u1 u2 u3 u4 u5:Value} (k:a.eval c=u1) (l:a.eval d=u2) (m:a.eval g=u3) (n:a.eval i=u4) (p:a.eval j=u5) {R:Ending→World→Prop} (s:Calls P f #[u1,u2,u3,u4,u5] w R) (h:∀e b,R e b→∃v,e=.returned v∧K (a.put o.dst v) b):o.wp P a w K Q:=by
 unfold Oper.wp;have t:(execOp a.eval o).run P w=.ok (.enter f #[u1,u2,u3,u4,u5]) w:=by simp only[execOp,r,List.map_toArray,List.map_cons,List.map_nil,k,l,m,n,p];simp[resolve,Act.eval,go_sem,q];exact⟨by rw[←k];cases c<;>simp[Act.eval],by rw[←l];cases d<;>simp[Act.eval],by rw[←m];cases g<;>simp[Act.eval],by rw[←n];cases i<;>simp[Act.eval],by rw[←p];cases j<;>simp[Act.eval]⟩
 rw[t,Oper.upon_enter];refine s.mono λe b u=> ?_
 obtain⟨v,rfl,x⟩:=h e b u;exact x
theorem yF(u v:Value)(a:u.oneCell'=true)(b:v.oneCell'=true)(w:World):(Instr.buildSlice 151 2 #[(0,u),(1,v)]).run Tryz.prog w=.ok (.slice (some ⟨w.heap.size,0,none⟩) 2 2) (w.alloc (.cells #[u,v] 20)):=by cases u<;>first|(simp[Value.oneCell'] at a;done)|(cases v<;>first|(simp[Value.oneCell'] at b;done)|kernel_rfl)
theorem iD{b:Array Oper}{rest:List Oper}{o:Oper}{a:Act}{w:World}{Q:ah}(c:o.guard=none){x y:Operand}(d:o.op=.buildSlice 151 2 #[(0,x),(1,y)]){u v:Value}(e:a.eval x=u)(f:a.eval y=v)(g:u.oneCell'=true)(i:v.oneCell'=true)
  (h:wpList Tryz.prog b Q rest (a.put o.dst (.slice (some ⟨w.heap.size,0,none⟩) 2 2)) (w.alloc (.cells #[u,v] 20))):wpList Tryz.prog b Q (o::rest) a w:=by
 refine wpList_plain c λl j=> ?_
 have k:=yF u v g i w;unfold Oper.wp;simp only[execOp,d,List.map_toArray,List.map_cons,List.map_nil,e,f,Sem.run_bind,k,Result.andThen_ok];exact j _ _ h
theorem iR(s l:Value)(w:World):Calls Tryz.prog 93 #[s,l] w λe a=>e=.returned (.tuple #[])∧a=w:=by go_enter Tryz.func93,Tryz.ntmps93;go_wp2;refine bodyPost_end (results_none rfl _ _ _) rfl ?_;exact⟨rfl,rfl⟩
structure CE (ok:ae) (w:World) (a b:T) (ba bb na nb:Nat) (fa fb:K→Option Value) (Fa Fb:K→ae):Prop where
 ta:iC ok w ba na fa a Fa
 tb:iC ok w bb nb fb b Fb
 ap:∀x,fC ba Fa x→¬fC bb Fb x
 Ba:∀x,fC ba Fa x∨fC bb Fb x→¬ok x
 oQ:∀x,ok x→x<w.heap.size
def ig(a:T)(k:K):Bool:=match get a k with|some .null=>true| _=>false
def fE(b:T)(k:K):Option Value:=match get b k with|none=>none|some .null=>none|some _=>some (.bool true)
structure CT (ok:ae) (w:World) (m:Bool) (a b:T) (ba bb r lim nf:Nat) (fa fs:K→Option Value) (Fa Fb:K→ae) (s ns:Nat) (wr:World) (left:K→Bool) (cnt nd:Nat) (fd:K→Option Value) (F:K→ae):Prop where
 fO:bM wr bb r nf fs left cnt
 num:nd+cnt<=lim
 dst:aU wr ba nd fd
 vK:∀k,left k=false→(fs k).isSome=true→(fd k).isSome=(dM m (get a k) (get b k)).isSome∧∀u z,fd k=some u→dM m (get a k) (get b k)=some z→bf ok wr u z (F k)
 kU:∀k,(left k=true∨fs k=none)→fd k=fa k∧∀x,F k x↔Fa k x
 old:∀k,(left k=true∨fs k=none)→∀u x,fa k=some u→get a k=some x→bf ok wr u x (Fa k)
 src:∀k,left k=true→∀u y,fs k=some u→ig a k=false→get b k=some y→bf ok wr u y (Fb k)
 sub:∀k x,F k x→Fa k x∨Fb k x
 JJ:∀k,fd k=none→∀x,¬F k x
 org:aU wr s ns (fE b)
 X:O (λx=>fC ba Fa x∨fC bb Fb x) w wr
 rs:w.heap.size<=s∧s<r
theorem CT.step{ok:ae}{w:World}{m:Bool}{a b:T}{ba n r lim I na nb:Nat}{L fb t:K→Option Value}{i l:K→ae}{s ns:Nat}{wr:World}{o:K→Bool}{ai nd:Nat}{fd:K→Option Value}{F:K→ae}
  (h:CT ok w m a b ba n r lim I L t i l s ns wr o ai nd fd F) (e:CE ok w a b ba n na nb L fb i l) {k:K} {w3:World} {M N:Nat} {p:K→Option Value} {G:ae} (hl:o k=true) (hf:(t k).isSome=true) (aH:M<ai) (aI:N<=nd+1)
  {P:World} (ak:bM P n r I t (λz=>o z && !(z==k)) M) (Q:O (·=r) wr P) (A:O (λx=>x=ba∨i k x∨l k x) P w3) (hd:aU w3 ba N p) (R:∀z,z≠k→p z=fd z)
  (au:(p k).isSome=(dM m (get a k) (get b k)).isSome∧∀u z,p k=some u→dM m (get a k) (get b k)=some z→bf ok w3 u z G) (ax:∀x,G x→i k x∨l k x) (ay:p k=none→∀x,¬G x):
  CT ok w m a b ba n r lim I L t i l s ns w3 (λz=>o z && !(z==k)) M N p (λz=>if z=k then G else F z):=by
 have az:=h.rs;have aJ:=h.fO.lt;have B:∀x,fC ba i x∨fC n l x→x<w.heap.size:=λx c=>c.elim (e.ta.lt) (e.tb.lt)
 have aK:ba<w.heap.size:=B ba (.inl (.inl rfl));have aN:n<w.heap.size:=B n (.inr (.inl rfl));have C:∀z x,i z x→x<w.heap.size:=λz x c=>B x (.inl (.inr ⟨z,c⟩))
 have D:∀z x,l z x→x<w.heap.size:=λz x c=>B x (.inr (.inr ⟨z,c⟩))
 have E:∀z x,i z x→∀U,¬l U x:=λz x c U aA=>e.ap x (.inr ⟨z,c⟩) (.inr ⟨U,aA⟩)
 have aB:ba≠n:=λq=>e.ap ba (.inl rfl) (.inl q)
 have aj:∀z,¬l z ba:=λz q=>e.ap ba (.inl rfl) (.inr ⟨z,q⟩)
 have aC:∀z,¬i z n:=λz q=>e.ap n (.inr ⟨z,q⟩) (.inl rfl)
 have V:∀{u:Value}{j:J}{S:ae},bf ok wr u j S→(∀x,S x→x<w.heap.size∧x≠ba∧¬i k x∧¬l k x)→bf ok w3 u j S:=by
  intro u j S ho hS;refine(ho.X Q (λx c q=> ?_) (λx c q=> ?_)).X A (λx c q=> ?_) (λx c q=> ?_)
  .have:=e.oQ x c;omega
  .have:=(hS x c).1;omega
  .rcases q with q|q|q
   .exact e.Ba x (.inl (.inl q)) c
   .exact e.Ba x (.inl (.inr ⟨k,q⟩)) c
   .exact e.Ba x (.inr (.inr ⟨k,q⟩)) c
  .obtain⟨h1,W,h3,h4⟩:=hS x c;rcases q with q|q|q
   .exact W q
   .exact h3 q
   .exact h4 q
 have aF:∀z,z≠k→∀x,F z x→x<w.heap.size∧x≠ba∧¬i k x∧¬l k x:=by
  intro z d x c;rcases h.sub z x c with q|q
  .exact⟨C z x q,λg=>e.ta.kF z (g▸q),λg=>d (e.ta.apart z k x q g),E z x q k⟩
  .exact⟨D z x q,λg=>aj z (g▸q),λg=>E k x g z q,λg=>d (e.tb.apart z k x q g)⟩
 have H:∀z,z≠k→(o z && !(z==k))=o z:=λz d=>by
  have:(z==k)=false:=by rw[lT];exact decide_eq_false d
  rw[this];simp
 have af:∀z,((o z && !(z==k))=true∨t z=none)→z≠k:=λz d q=>by
  subst q;rcases d with d|d
  .simp at d
  .rw[d] at hf;cases hf
 refine⟨ak.X A (λq=> ?_) (λq=> ?_),by have:=h.num;omega,hd,λz d aG=> ?_,λz d=> ?_,λz d u x v c=> ?_,λz d u y v hn hy=> ?_,λz x c=> ?_,λz d x c=> ?_,?_,?_,az⟩
 .rcases q with q|q|q
  .exact aB q.symm
  .exact aC k q
  .exact e.tb.kF k q
 .rcases q with q|q|q
  .omega
  .have:=C k r q;omega
  .have:=D k r q;omega
 .by_cases f:z=k
  .subst f;rw[if_pos rfl];exact au
  .rw[H z f] at d;rw[if_neg f,R z f];obtain⟨h1,W⟩:=h.vK z d aG;exact⟨h1,λu x v c=>V (W u x v c) (aF z f)⟩
 .have f:=af z d;rw[H z f] at d;rw[if_neg f,R z f];exact h.kU z d
 .have f:=af z d;rw[H z f] at d;exact V (h.old z d u x v c) (λx c=>⟨C z x c,λg=>e.ta.kF z (g▸c),λg=>f (e.ta.apart z k x c g),E z x c k⟩)
 .have f:=af z (.inl d);rw[H z f] at d;exact V (h.src z d u y v hn hy) (λx c=>⟨D z x c,λg=>aj z (g▸c),λg=>E k x g z c,λg=>f (e.tb.apart z k x c g)⟩)
 .by_cases f:z=k
  .rw[if_pos f] at c;rw[f];exact ax x c
  .rw[if_neg f] at c;exact h.sub z x c
 .by_cases f:z=k
  .rw[if_pos f] at c;rw[f] at d;exact ay d x c
  .rw[if_neg f] at c;rw[R z f] at d;exact h.JJ z d x c
 .refine(h.org.X Q (λq=>by omega)).X A (λq=> ?_);rcases q with q|q|q
  .omega
  .have:=C k s q;omega
  .have:=D k s q;omega
 .refine(h.X.trans Q (λx c q=>by omega)).trans A (λx c q=> ?_);rcases q with q|q|q
  .exact .inl (.inl q)
  .exact .inl (.inr ⟨k,q⟩)
  .exact .inr (.inr ⟨k,q⟩)
theorem CT.done{ok:ae}{w:World}{m:Bool}{a b:T}{ba l r lim G H I:Nat}{n o d:K→Option Value}{p t:K→ae}{s J:Nat}{wr:World}{y:K→Bool}{L A:Nat}{B:K→Option Value}{F:K→ae}
  (h:CT ok w m a b ba l r lim G n d p t s J wr y L A B F) (e:CE ok w a b ba l H I n o p t) (C:∀k,y k=false) (M:∀k,d k=if ig a k then some .nilIface else o k):
  iC ok wr ba A B (bV m a b) F:=by
 have D:∀k,d k=none→get b k=none∧dM m (get a k) (get b k)=get a k:=by
  intro k c;rw[M] at c
  split at c
  .cases c
  .have E:=e.tb.get_none c;exact⟨E,by rw[E,vP]⟩
 refine⟨h.dst,λk=> ?_,λk u z j i=> ?_,λk f x N O=> ?_,λk c=> ?_,h.JJ⟩
 .rw[kS];cases hf:d k with
  |none=>rw[(h.kU k (.inr hf)).1,(D k hf).2,e.ta.dom]
  |some u=>exact(h.vK k (C k) (by rw[hf];rfl)).1
 .rw[kS] at i;cases hf:d k with
  |none=>rw[(D k hf).2] at i;obtain⟨P,Q⟩:=h.kU k (.inr hf);rw[P] at j;exact(h.old k (.inr hf) u z j i).set Q
  |some v=>exact(h.vK k (C k) (by rw[hf];rfl)).2 u z j i
 .rcases h.sub k x N with q|q<;>rcases h.sub f x O with g|g
  .exact e.ta.apart k f x q g
  .exact absurd (.inr ⟨f,g⟩) (e.ap x (.inr ⟨k,q⟩))
  .exact absurd (.inr ⟨k,q⟩) (e.ap x (.inr ⟨f,g⟩))
  .exact e.tb.apart k f x q g
 .rcases h.sub k ba c with q|q
  .exact e.ta.kF k q
  .exact e.ap ba (.inl rfl) (.inr ⟨k,q⟩)
theorem bf.dL{ok:ae}{w:World}{v:Value}{j:J}{S:ae}(h:bf ok w v j S):rF v j:=h.vV.dL
def Cb(ok:ae)(w:World)(b:Nat)(j:J)(a c:ae)(e:Ending)(d:World):Prop:=
 e=.returned (.map (some b))∧∃S',bf ok d (.iface 67 (.map (some b))) j S'∧(∀x,S' x→a x∨c x)∧O (λx=>a x∨c x) w d
theorem jY(U:List K)(N:Nat)(hU:U.length<1099511627776)(fZ:∀k∈U,fK k)(m:Bool)(d:Nat):∀(ok:ae)(a b:T)(ba V:Nat)(Sa Sb:ae)(w:World)(cu:K),
  bf ok w (.iface 67 (.map (some ba))) (.table a) Sa→bf ok w (.iface 67 (.map (some V))) (.table b) Sb→(∀x,Sa x→¬Sb x)→(∀x,Sa x∨Sb x→¬ok x)→WU U N d (.table a)→WU U N d (.table b)→cu.size+d*140737488355329<=900000000000000000→
  Calls Tryz.prog 144 #[l7,.map (some ba),.map (some V),.string cu,.bool m] w (Cb ok w ba (.table (bV m a b)) Sa Sb):=by
 induction d with
 |zero=>intro ok a b ba V Sa Sb w cu _ _ _ _ h;exact h.elim
 |succ d ih=>
  intro ok a b ba V Sa Sb w cu ha hb gm gp wa wb gq;obtain⟨_,jH,fa,S,ea,cO,dO⟩:=ha.dV.tab;obtain⟨_,jI,fb,Fb,eb,cZ,dP⟩:=hb.dV.tab;cases ea;cases eb;replace cO:=cO.fit;replace cZ:=cZ.fit;obtain⟨na,gu⟩:∃na,na=a.length:=⟨_,rfl⟩;obtain⟨nb,gy⟩:∃nb,nb=b.length:=⟨_,rfl⟩;rw[←gu] at cO;rw[←gy] at cZ;have dU:=Z (show na<1099511627776∧nb<1099511627776 by have h1:=wa.len;have h2:=wb.len;omega);have c:=Z (show CE (okB ok w) w a b ba V na nb fa fb S Fb from⟨cO,cZ,λx l dW=>gm x ((dO x).2 l) ((dP x).2 dW),λx l ho=>gp x (l.imp (dO x).2 (dP x).2) ho.1,λx l=>l.2⟩);have dX:=Z dO;have gz:=Z dP;have WA:=Z wa;have WB:=Z wb;have IH:=Z ih;have gB:=Z gq;have gG:=Z fZ;have dB:=cO.map;have dY:=cZ.map;have iW:=Z dB.lt;have dQ:=Z dY.lt;have iY:=jO ba;have iZ:=jO V;have ja:=qR;clear ha hb gm gp wa wb ih gu gy cO cZ dO dP gq fZ;go_enter Tryz.func144,Tryz.ntmps144;obtain⟨s,hs⟩:∃s,s=w.heap.size:=⟨_,rfl⟩;go_wp2_with (first|(at_range;refine dR rfl rfl rfl (dY.alloc _) ?_;intro w0 jJ dZ jb df gI;go_frame));have gJ:(w.alloc (.map #[] 0)).heap.size=s+1:=(by simp[hs]);rw[gJ] at dZ gI⊢;rw[←hs];have HS:=Z hs;have jc:=Z (((O.refl No w).alloc (.map #[] 0)).trans' df);have gK:aU w0 s 0 (λ_=>none):=by have h:=aU.made w;rw[←hs] at h;exact h.X df id
  clear hs gI gJ df iY iZ ja dB dY;go_loopw [12] (λ_ wr=>∃(ay:K→Bool)(bu n1:Nat)(f1:K→Option Value),bM wr V (s+1) nb fb ay bu∧n1+bu<=nb∧aU wr s n1 f1∧(∀k,f1 k=if ay k then none else fE b k)∧O No w wr) (λ_ wr=>wr.rangeLeft V (s+1))
  case atStart=>
   refine⟨_,_,0,_,dZ,by omega,gK,λk=> ?_,jc.o⟩;cases h:fb k with
   |none=>unfold fE;rw[c.o.tb.get_none h];rfl
   |some _=>rfl
  case round=>
   obtain⟨ay,bu,n1,f1,aC,jK,aW,hA,aI⟩:=hrel;have dC:=Z hA;have eu:=Z aI;clear hA aI dZ gK jb;go_wp2_with (first|(at_next;refine ed rfl rfl rfl aC ?_ ?_))
   .intro df bG;have jd:f1=fE b:=funext λk=>by rw[dC.o,bG];rfl
    subst jd;have dB:=c.o.ta.map.X eu.o id;have eG:=aC.lt;clear bG dC;go_wp2_with (first|(at_range;refine dR rfl rfl rfl dB ?_;intro wq je eH jf eP jg;go_frame));obtain⟨r2,gQ⟩:∃r2,r2=wr.heap.size:=⟨_,rfl⟩;rw[←gQ] at eH⊢;have dS:=Z (show s+1<r2 by omega);have gU:=Z (eu.o.trans' eP);have gW:=Z (aW.X eP id);have gX:=c.o.tb.map.X gU.o id;clear gQ eP jg dB eG aC aW;go_loopw [14] (λ_ wx=>∃(ay:K→Bool)(bu n2:Nat)(f2:K→Option Value),bM wx ba r2 na fa ay bu∧n2+bu<=nb+na∧aU wx V n2 f2∧(∀k,f2 k=if(!ay k && ig a k) then some .nilIface else fb k)∧O (·=V) w wx∧aU wx s n1 (fE b)) (λ_ wx=>wx.rangeLeft ba r2)
    case atStart=>
     refine⟨_,_,nb,_,eH,by omega,gX,λk=> ?_,gU.o.mono (λ_ _ q=>q.elim),gW.o⟩;cases h:fa k with
     |none=>unfold ig;rw[c.o.ta.get_none h];rfl
     |some _=>rfl
    case round=>
     obtain⟨ay,je,n2,f2,aC,jh,aW,hA,aI,gY⟩:=hrel;have dD:=Z hA;have dE:=Z aI;have gZ:=Z gY;clear hA aI eH gX jf gW gY;go_wp2_with (first|(at_next;refine ed rfl rfl rfl aC ?_ ?_))
     .intro df bG;have ik:∀k,f2 k=if ig a k then some .nilIface else fb k:=λk=>by rw[dD.o,bG];rfl
      have dh:=Z ik;have eG:=aC.lt;have ji:V<wr.heap.size:=aW.lt;clear bG dD ik;go_wp2_with (first|(at_range;refine dR rfl rfl rfl aW ?_;intro wy jk eQ jl di jm;go_frame));obtain⟨r3,iq⟩:∃r3,r3=wr.heap.size:=⟨_,rfl⟩;rw[←iq] at eQ⊢;have iw:ba≠V:=λq=>c.o.ap ba (.inl rfl) (.inl q)
      have iy:=Z (show CT (okB ok w) w m a b ba V r3 (na+n2) n2 fa f2 S Fb s n1 wy (λk=>(f2 k).isSome) jk na fa S from
       ⟨eQ,by omega,(c.o.ta.map.X dE.o iw).X di id,λk h1 h2=>(by rw[h2] at h1;cases h1),λk _=>⟨rfl,λx=>Iff.rfl⟩,
        λk _ u x A l=>((c.o.ta.val k u x A l).X dE.o (λy f q=>c.o.Ba y (.inr (.inl q)) f) (λy f q=>c.o.ap y (.inr ⟨k,f⟩) (.inl q))).X di nE nE,
        λk hl u y A hn f=>by have h:=dh.o k;rw[hn,if_neg (by decide),A] at h;exact((c.o.tb.val k u y h.symm f).X dE.o (λz g q=>c.o.Ba z (.inr (.inl q)) g) (λz g q=>c.o.tb.kF k (q▸g))).X di nE nE,
        λk x h=> .inl h,c.o.ta.none,gZ.o.X di id,(dE.o.mono (λi _ q=> .inr (.inl q))).trans' di,by have h1:=HS.o;have h2:=dS.o;omega⟩)
      have jo:=Z (show na+n2<3298534883328 by have:=dU.o;omega);clear iq eQ di jm aW aC jl eG ji iw jh;go_loopw [16] (λ_ wr=>∃(ay:K→Bool)(bu nd:Nat)(fd:K→Option Value)(F:K→ae),CT (okB ok w) w m a b ba V r3 (na+n2) n2 fa f2 S Fb s n1 wr ay bu nd fd F) (λ_ wr=>wr.rangeLeft V r3);case atStart=>exact⟨_,_,_,_,_,iy.o⟩
      case round=>
       obtain⟨ay,bu,nd,fd,F,eU⟩:=hrel;have o:=Z eU;have aC:=eU.fO;clear eU iy;go_wp2_with (first|(at_next;refine ed rfl rfl rfl aC ?_ ?_))
       .intro df bG;have HD:=Z (o.o.done c.o bG dh.o);clear bG aC;go_wp2;go_ret;refine⟨rfl,fC ba F,HD.o.any.mono (λx _ l=>l.1),λx l=> ?_,o.o.X.mono (λx _ l=>l.imp (dX.o x).2 (gz.o x).2)⟩;rcases l with rfl|⟨k,l⟩
        .exact .inl ((dX.o _).2 (.inl rfl))
        .rcases o.o.sub k x l with q|q
         .exact .inl ((dX.o _).2 (.inr ⟨k,q⟩))
         .exact .inr ((gz.o _).2 (.inr ⟨k,q⟩))
       .intro k u n aY hk bz bg bH dw aJ dF iC;have iE:=Z (o.o.kU k (.inl bz)).1;have aF:=Z (show(f2 k).isSome=true by rw[bg];rfl);have dG:=Z bg;have af:=Z bz;have E:=Z dw;have ai:=Z bH;have M:=Z aJ;have aj:=Z aC.left_eq;have jq:=Z (show ba<r3∧V<r3 by have:=o.o.rs;have:=iW.o;have:=dQ.o;omega);have aH:=Z (o.o.dst.X aJ (by have:=jq.o;omega));have eX:=Z (o.o.org.X aJ (by have:=o.o.rs;omega));have iF:=Z (show fK k by
         have h:=dh.o k;rw[bg] at h;cases hn:ig a k with
         |true=>
          unfold ig at hn;cases hg:get a k with
          |none=>rw[hg] at hn;cases hn
          |some x=>exact gG.o k (WA.o.get hg).1
         |false=>rw[hn,if_neg (by decide)] at h;obtain⟨y,f, -⟩:=c.o.tb.some h.symm;exact gG.o k (WB.o.get f).1)
        have bI:=Z hk;have iG:cu.size<=1000000000000000000:=by have:=gB.o;omega
        have iH:k.size<=1000000000000000000:=by have h:=iF.o;unfold fK at h;omega
        clear bz bg bH dw aJ dF aC hk;go_wp2_with fail;refine(gV cu k n iG iH).mono ?_;rintro e Q ⟨⟨sx,rfl,jr⟩,r⟩;obtain rfl:=r.symm;have iI:=Z (show sx.size+d*140737488355329<=900000000000000000 by have h1:=gB.o;have h2:=iF.o;unfold fK at h2;rw[Nat.succ_mul] at h1;omega);have az:=aH.o;have W:=bI.o;have jv:nd<maxLen:=by have:=o.o.num;have:=jo.o;unfold maxLen;omega
        clear jr iG iH;cases eF:get a k with
        |none=>
         have bP:fa k=none:=by
          have h:=c.o.ta.dom k;rw[eF] at h;cases hf:fa k with
          |none=>rfl
          |some _=>rw[hf] at h;cases h
         have J:=Z eF;have p:=Z (iE.o.trans bP);have bQ:ig a k=false:=by unfold ig;rw[eF]
         obtain⟨y,aK⟩:∃y,get b k=some y:=by have h:=dh.o k;rw[bQ,if_neg (by decide),dG.o] at h;obtain⟨y,f, -⟩:=c.o.tb.some h.symm;exact⟨y,f⟩
         have aA:=Z (o.o.src k af.o u y dG.o bQ aK);have I:=Z aK;clear eF bP bQ aK;go_wp2_with (first|(at_lookup;refine aQ rfl rfl rfl az rfl W ?_;rw[p.o];go_frame)|(at_mapUpdate;refine bY (u:=u) rfl rfl rfl az jv rfl W rfl ?_;intro w3 aP aG bT;go_frame));have B:=Z (o.o.step c.o (G:=Fb k) af.o aF.o E.o lR' ai.o M.o (aG.mono (λ_ _ q=> .inl q)) aP (λz g=>by rw[if_neg g])
          ⟨by rw[if_pos rfl,J.o,I.o];rfl,λv z hv g=>by rw[if_pos rfl] at hv;rw[J.o,I.o] at g;cases hv;cases g;exact(aA.o.X M.o (λx l q=>by have:=c.o.oQ x l;have:=o.o.rs;omega) (λx l q=>by have:=c.o.tb.lt (.inr ⟨k,l⟩);have:=o.o.rs;omega)).X aG (λx l q=>c.o.Ba x (.inl (.inl q)) l) (λx l q=>c.o.ap x (.inl q) (.inr ⟨k,l⟩))⟩ (λx l=> .inr l) (λh=>by rw[if_pos rfl] at h;cases h))
         clear aP aG bT;go_roundw;case rel=>exact⟨_,_,_,_,_,B.o⟩
         case measure=>rw[B.o.fO.left_eq,aj.o];exact E.o
        |some x=>
         obtain⟨u0,bP⟩:∃u0,fa k=some u0:=by
          have h:=c.o.ta.dom k;rw[eF] at h;cases hf:fa k with
          |none=>rw[hf] at h;cases h
          |some v=>exact⟨v,rfl⟩
         have p:=Z (iE.o.trans bP);have R:=Z (o.o.old k (.inl af.o) u0 x bP eF);have jL:=Z bP;have bJ:=uT R.o.dL;have iJ:=qG R.o.dL;clear bP;cases ak:A8 x with
         |true=>
          have l:x=.null:=by cases x<;>first|rfl|cases ak
          subst l;have jw:u0=.nilIface:=by have h:=R.o.vV;cases h;rfl
          subst jw;have A:u=.nilIface:=by have h:=dh.o k;rw[show ig a k=true by unfold ig;rw[eF],if_pos rfl,dG.o] at h;exact Option.some.inj h
          subst A;have J:=Z eF;rw[ak] at bJ;clear eF ak;cases m with
          |true=>
           go_wp2_with (first|(at_lookup;refine aQ rfl rfl rfl az rfl W ?_;rw[p.o];go_frame))
           refine(aZ ⟨No,w,bC.null⟩ n).mono ?_;rintro e Q ⟨rfl,r⟩;obtain rfl:=r.symm;go_wp2_with fail;refine(aZ ⟨No,w,bC.null⟩ _).mono ?_;rintro e Q ⟨rfl,r⟩;obtain rfl:=r.symm;go_wp2_with fail;have B:=Z (o.o.step c.o (G:=S k) af.o aF.o E.o (Nat.le_succ nd) ai.o M.o ((O.refl No n).mono (λ_ _ q=>q.elim)) (aH.o.X (O.refl No n) id) (λ_ _=>rfl)
            ⟨by rw[p.o,show dM _ (get a k) (get b k)=some .null by rw[J.o];cases get b k with|none=>rfl|some y=>cases y<;>rfl];rfl,λu z A g=>by rw[p.o] at A;rw[show dM _ (get a k) (get b k)=some .null by rw[J.o];cases get b k with|none=>rfl|some y=>cases y<;>rfl] at g;cases A;cases g;exact(R.o.X M.o (λy f q=>by have:=c.o.oQ y f;have:=o.o.rs;omega) (λy f q=>by have:=c.o.ta.lt (.inr ⟨k,f⟩);have:=o.o.rs;omega)).X (O.refl No n) nE nE⟩ (λx l=> .inl l) (λh=>by rw[p.o] at h;cases h))
           go_roundw;case rel=>exact⟨_,_,_,_,_,B.o⟩
           case measure=>rw[B.o.fO.left_eq,aj.o];exact E.o
          |false=>
           cases aK:get b k with
           |none=>
            have I:=Z aK;clear aK;have iK:(Instr.lookup 218 (.map (some s)) (.string k) false).run Tryz.prog n=.ok (.bool false) n:=by rw[qE eX.o bI.o];unfold fE;rw[I.o];rfl
            go_wp2_with (first|(at_lookup;refine aQ rfl rfl rfl az rfl W ?_;rw[p.o];go_frame))
            refine(aZ ⟨No,w,bC.null⟩ n).mono ?_;rintro e Q ⟨rfl,r⟩;obtain rfl:=r.symm;go_wp2_with fail;refine(aZ ⟨No,w,bC.null⟩ _).mono ?_;rintro e Q ⟨rfl,r⟩;obtain rfl:=r.symm;go_wp2_with fail;have B:=Z (o.o.step c.o (G:=S k) af.o aF.o E.o (Nat.le_succ nd) ai.o M.o ((O.refl No n).mono (λ_ _ q=>q.elim)) (aH.o.X (O.refl No n) id) (λ_ _=>rfl)
             ⟨by rw[p.o,show dM _ (get a k) (get b k)=some .null by rw[J.o,I.o];rfl];rfl,λu z A g=>by rw[p.o] at A;rw[show dM _ (get a k) (get b k)=some .null by rw[J.o,I.o];rfl] at g;cases A;cases g;exact(R.o.X M.o (λy f q=>by have:=c.o.oQ y f;have:=o.o.rs;omega) (λy f q=>by have:=c.o.ta.lt (.inr ⟨k,f⟩);have:=o.o.rs;omega)).X (O.refl No n) nE nE⟩ (λx l=> .inl l) (λh=>by rw[p.o] at h;cases h))
            go_roundw;case rel=>exact⟨_,_,_,_,_,B.o⟩
            case measure=>rw[B.o.fO.left_eq,aj.o];exact E.o
           |some y=>
            have I:=Z aK;clear aK;cases zL:A8 y with
            |true=>
             have f:y=.null:=by cases y<;>first|rfl|cases zL
             subst f;clear zL;have iK:(Instr.lookup 218 (.map (some s)) (.string k) false).run Tryz.prog n=.ok (.bool false) n:=by rw[qE eX.o bI.o];unfold fE;rw[I.o];rfl
             go_wp2_with (first|(at_lookup;refine aQ rfl rfl rfl az rfl W ?_;rw[p.o];go_frame))
             refine(aZ ⟨No,w,bC.null⟩ n).mono ?_;rintro e Q ⟨rfl,r⟩;obtain rfl:=r.symm;go_wp2_with fail;refine(aZ ⟨No,w,bC.null⟩ _).mono ?_;rintro e Q ⟨rfl,r⟩;obtain rfl:=r.symm;go_wp2_with fail;have B:=Z (o.o.step c.o (G:=S k) af.o aF.o E.o (Nat.le_succ nd) ai.o M.o ((O.refl No n).mono (λ_ _ q=>q.elim)) (aH.o.X (O.refl No n) id) (λ_ _=>rfl)
              ⟨by rw[p.o,show dM _ (get a k) (get b k)=some .null by rw[J.o,I.o];rfl];rfl,λu z A g=>by rw[p.o] at A;rw[show dM _ (get a k) (get b k)=some .null by rw[J.o,I.o];rfl] at g;cases A;cases g;exact(R.o.X M.o (λy f q=>by have:=c.o.oQ y f;have:=o.o.rs;omega) (λy f q=>by have:=c.o.ta.lt (.inr ⟨k,f⟩);have:=o.o.rs;omega)).X (O.refl No n) nE nE⟩ (λx l=> .inl l) (λh=>by rw[p.o] at h;cases h))
             go_roundw;case rel=>exact⟨_,_,_,_,_,B.o⟩
             case measure=>rw[B.o.fO.left_eq,aj.o];exact E.o
            |false=>
             have iL:fE b k=some (.bool true):=by unfold fE;rw[I.o];cases y<;>first|rfl|cases zL
             have iK:(Instr.lookup 218 (.map (some s)) (.string k) false).run Tryz.prog n=.ok (.bool true) n:=by rw[qE eX.o bI.o,iL];rfl
             have jy:=Z zL;clear iL zL;go_wp2_with (first|(at_lookup;refine aQ rfl rfl rfl az rfl W ?_;rw[p.o];go_frame)|(refine vJ rfl rfl rfl az rfl W ?_;intro w3 aP aG bT));have B:=Z (o.o.step c.o (G:=No) af.o aF.o E.o (Nat.le_succ nd) ai.o M.o (aG.mono (λ_ _ q=> .inl q)) aP (λz g=>by rw[if_neg g])
              ⟨(by rw[if_pos rfl,J.o,I.o];have h:=jy.o;cases y<;>first|rfl|exact absurd h (by decide)),λv z hv g=>(by rw[if_pos rfl] at hv;cases hv)⟩ (λx l=>l.elim) (λ_ x l=>l))
             clear aP aG bT;go_frame;go_roundw;case rel=>exact⟨_,_,_,_,_,B.o⟩
             case measure=>rw[B.o.fO.left_eq,aj.o];exact E.o
         |false=>
          rw[ak] at bJ;have bQ:ig a k=false:=by unfold ig;rw[eF];cases x<;>first|rfl|cases ak
          obtain⟨y,aK⟩:∃y,get b k=some y:=by have h:=dh.o k;rw[bQ,if_neg (by decide),dG.o] at h;obtain⟨y,f, -⟩:=c.o.tb.some h.symm;exact⟨y,f⟩
          have aA:=Z (o.o.src k af.o u y dG.o bQ aK);have dH:=aA.o.vV.one;have eY:=qF aA.o.dL;have jA:=nR aA.o.dL;have J:=Z eF;have I:=Z aK;have bK:=Z ak;clear eF aK bQ ak;cases kP:dA x with
          |true=>
           obtain⟨xt,rfl⟩:=dm kP;obtain⟨bx,_,_,_,rfl, -, -⟩:=R.o.tab;cases bD:dA y with
           |true=>
            obtain⟨yt,rfl⟩:=dm bD;obtain⟨bn,_,_,_,rfl, -, -⟩:=aA.o.tab;have WX:=Z (WA.o.get J.o).2;have WY:=Z (WB.o.get I.o).2;have iM:=Z (show ∀x,S k x→¬Fb k x from λx l dW=>c.o.ap x (.inr ⟨k,l⟩) (.inr ⟨k,dW⟩));have iO:=Z (show ∀x,S k x∨Fb k x→¬okB ok w x from λx l=>c.o.Ba x (l.imp (λq=> .inr ⟨k,q⟩) (λq=> .inr ⟨k,q⟩)));have iP:=Z (R.o.X M.o (λy f q=>by have:=c.o.oQ y f;have:=o.o.rs;omega) (λy f q=>by have:=c.o.ta.lt (.inr ⟨k,f⟩);have:=o.o.rs;omega));have iQ:=Z (aA.o.X M.o (λy f q=>by have:=c.o.oQ y f;have:=o.o.rs;omega) (λy f q=>by have:=c.o.tb.lt (.inr ⟨k,f⟩);have:=o.o.rs;omega));clear dH eY jA kP bD;cases m with
            |true=>
             go_wp2_with (first|(at_lookup;refine aQ rfl rfl rfl az rfl W ?_;rw[p.o];go_frame))
             refine(aZ aA.o.dL _).mono ?_;rintro e Q ⟨rfl,r⟩;obtain rfl:=r.symm;rw[show dA (.table yt)=true from rfl];go_wp2_with fail;refine(aZ R.o.dL _).mono ?_;rintro e Q ⟨rfl,r⟩;obtain rfl:=r.symm;rw[show dA (.table xt)=true from rfl];go_upto_region 27 with fail
             refine aT (FI [.eq l7,.eq (.iface 67 (.map (some bx))),.eq (.map (some bx)),.eq (.iface 67 (.map (some bn))),.eq (.map (some bn)),.eq (.string sx),.eq (.bool true),.eq (.map (some bx))])
              (λau w'=>(au 7=false→O No n w')∧(au 7=true→∃S',bf (okB ok w) w' (.iface 67 (.map (some bx))) (.table (bV true xt yt)) S'∧(∀x,S' x→S k x∨Fb k x)∧O (λx=>S k x∨Fb k x) n w')) (by kernel_rfl) (by kernel_rfl) (⟨λ_=>(O.refl No n).drew,λh=>by cases h⟩) ?_ ?_
             .refine⟨?_,?_,?_,?_,?_,?_,?_,?_,trivial⟩
              .intro au a aB K hd P C H D t L;have e0:a.tmps[0]?.getD undef=l7:=H 0 rfl;clear P C H D;go_simp;exact L _ _ rfl (by refine⟨λh=>t.1 (by simpa[dn] using h),λh=>t.2 (by simpa[dn] using h)⟩) Sy
              .intro au a aB K hd P C H D t L;have jB:a.tmps[19]?.getD undef=.iface 67 (.map (some bx)):=H 19 rfl;clear P C H D;go_simp;exact L _ _ rfl (by refine⟨λh=>t.1 (by simpa[dn] using h),λh=>t.2 (by simpa[dn] using h)⟩) Sy
              .intro au a aB K hd P C H D t L;have jC:=fq (C 1 92 rfl (D 1 rfl));have fA:=kY (.map (some bx));clear P C H D;go_simp;exact L _ _ rfl (by refine⟨λh=>t.1 (by simpa[dn] using h),λh=>t.2 (by simpa[dn] using h)⟩) Sy
              .intro au a aB K hd P C H D t L;have jD:a.tmps[17]?.getD undef=.iface 67 (.map (some bn)):=H 17 rfl;clear P C H D;go_simp;exact L _ _ rfl (by refine⟨λh=>t.1 (by simpa[dn] using h),λh=>t.2 (by simpa[dn] using h)⟩) Sy
              .intro au a aB K hd P C H D t L;have jE:=fq (C 3 94 rfl (D 3 rfl));have fA:=kY (.map (some bn));clear P C H D;go_simp;exact L _ _ rfl (by refine⟨λh=>t.1 (by simpa[dn] using h),λh=>t.2 (by simpa[dn] using h)⟩) Sy
              .intro au a aB K hd P C H D t L;have jF:a.tmps[18]?.getD undef=.string sx:=H 18 rfl;clear P C H D;go_simp;exact L _ _ rfl (by refine⟨λh=>t.1 (by simpa[dn] using h),λh=>t.2 (by simpa[dn] using h)⟩) Sy
              .intro au a aB K hd P C H D t L;have e4:a.tmps[4]?.getD undef=.bool true:=H 4 rfl;clear P C H D;go_simp;exact L _ _ rfl (by refine⟨λh=>t.1 (by simpa[dn] using h),λh=>t.2 (by simpa[dn] using h)⟩) Sy
              .intro au a aB K hd P C H D t L;have fB:=fq (C 0 91 rfl (D 0 rfl));have fD:=fq (C 2 93 rfl (D 2 rfl));have fF:=fq (C 4 95 rfl (D 4 rfl));have fG:=fq (C 5 96 rfl (D 5 rfl));have fH:=fq (C 6 97 rfl (D 6 rfl));have aI:=t.1 hd;refine ax rfl ?_;have fJ:=IH.o (okB ok w) xt yt bx bn (S k) (Fb k) aB sx (iP.o.X aI nE nE) (iQ.o.X aI nE nE) iM.o iO.o WX.o WY.o iI.o;refine zK Tryz.call144 rfl (vE fB) (vE fD) (vE fF) (vE fG) (vE fH) fJ ?_;rintro e w2 ⟨rfl,S',ho,bF,hc⟩;exact⟨_,rfl,L _ _ rfl ⟨λh=>by simp[dn] at h,λ_=>⟨S',ho,bF,(aI.mono (λ_ _ q=>q.elim)).trans hc nE⟩⟩ (λj hj jG v hv=>by match j,hj with|0,_=>exact hv|1,_=>exact hv|2,_=>exact hv|3,_=>exact hv|4,_=>exact hv|5,_=>exact hv|6,_=>exact hv|7,hj=>exact absurd rfl hj|j+8,_=>exact hv)⟩
             .intro vs w2 fM fP t;obtain⟨S',ho,bF,hc⟩:=t.2 (by decide);have fQ:=Z ho;have fU:=Z bF;have dI:=Z hc;clear ho bF hc t fM fP;simp only[aX,Act.put,List.setIfInBounds_toArray,List.set_cons_succ,List.set_cons_zero];go_wp2_with fail;have B:=Z (o.o.step c.o (G:=S') af.o aF.o E.o (Nat.le_succ nd) ai.o M.o (dI.o.mono (S':=λx=>x=ba∨S k x∨Fb k x) (λ_ _ q=>Or.inr q)) (aH.o.X dI.o (λq=>Or.elim q (c.o.ta.kF k) (λq=>c.o.ap ba (.inl rfl) (.inr ⟨k,q⟩)))) (λ_ _=>rfl)
               ⟨by rw[p.o,J.o,I.o];rfl,λu z A g=>by rw[p.o] at A;rw[J.o,I.o] at g;cases A;cases g;exact fQ.o⟩ fU.o (λh=>by rw[p.o] at h;cases h))
              go_roundw;case rel=>exact⟨_,_,_,_,_,B.o⟩
              case measure=>rw[B.o.fO.left_eq,aj.o];exact E.o
            |false=>
             go_wp2_with (first|(at_lookup;refine aQ rfl rfl rfl az rfl W ?_;rw[p.o];go_frame))
             refine(aZ aA.o.dL _).mono ?_;rintro e Q ⟨rfl,r⟩;obtain rfl:=r.symm;rw[show dA (.table yt)=true from rfl];go_wp2_with fail;refine(aZ R.o.dL _).mono ?_;rintro e Q ⟨rfl,r⟩;obtain rfl:=r.symm;rw[show dA (.table xt)=true from rfl];go_upto_region 27 with fail
             refine aT (FI [.eq l7,.eq (.iface 67 (.map (some bx))),.eq (.map (some bx)),.eq (.iface 67 (.map (some bn))),.eq (.map (some bn)),.eq (.string sx),.eq (.bool false),.eq (.map (some bx))])
              (λau w'=>(au 7=false→O No n w')∧(au 7=true→∃S',bf (okB ok w) w' (.iface 67 (.map (some bx))) (.table (bV false xt yt)) S'∧(∀x,S' x→S k x∨Fb k x)∧O (λx=>S k x∨Fb k x) n w')) (by kernel_rfl) (by kernel_rfl) (⟨λ_=>(O.refl No n).drew,λh=>by cases h⟩) ?_ ?_
             .refine⟨?_,?_,?_,?_,?_,?_,?_,?_,trivial⟩
              .intro au a aB K hd P C H D t L;have e0:a.tmps[0]?.getD undef=l7:=H 0 rfl;clear P C H D;go_simp;exact L _ _ rfl (by refine⟨λh=>t.1 (by simpa[dn] using h),λh=>t.2 (by simpa[dn] using h)⟩) Sy
              .intro au a aB K hd P C H D t L;have jB:a.tmps[19]?.getD undef=.iface 67 (.map (some bx)):=H 19 rfl;clear P C H D;go_simp;exact L _ _ rfl (by refine⟨λh=>t.1 (by simpa[dn] using h),λh=>t.2 (by simpa[dn] using h)⟩) Sy
              .intro au a aB K hd P C H D t L;have jC:=fq (C 1 92 rfl (D 1 rfl));have fA:=kY (.map (some bx));clear P C H D;go_simp;exact L _ _ rfl (by refine⟨λh=>t.1 (by simpa[dn] using h),λh=>t.2 (by simpa[dn] using h)⟩) Sy
              .intro au a aB K hd P C H D t L;have jD:a.tmps[17]?.getD undef=.iface 67 (.map (some bn)):=H 17 rfl;clear P C H D;go_simp;exact L _ _ rfl (by refine⟨λh=>t.1 (by simpa[dn] using h),λh=>t.2 (by simpa[dn] using h)⟩) Sy
              .intro au a aB K hd P C H D t L;have jE:=fq (C 3 94 rfl (D 3 rfl));have fA:=kY (.map (some bn));clear P C H D;go_simp;exact L _ _ rfl (by refine⟨λh=>t.1 (by simpa[dn] using h),λh=>t.2 (by simpa[dn] using h)⟩) Sy
              .intro au a aB K hd P C H D t L;have jF:a.tmps[18]?.getD undef=.string sx:=H 18 rfl;clear P C H D;go_simp;exact L _ _ rfl (by refine⟨λh=>t.1 (by simpa[dn] using h),λh=>t.2 (by simpa[dn] using h)⟩) Sy
              .intro au a aB K hd P C H D t L;have e4:a.tmps[4]?.getD undef=.bool false:=H 4 rfl;clear P C H D;go_simp;exact L _ _ rfl (by refine⟨λh=>t.1 (by simpa[dn] using h),λh=>t.2 (by simpa[dn] using h)⟩) Sy
              .intro au a aB K hd P C H D t L;have fB:=fq (C 0 91 rfl (D 0 rfl));have fD:=fq (C 2 93 rfl (D 2 rfl));have fF:=fq (C 4 95 rfl (D 4 rfl));have fG:=fq (C 5 96 rfl (D 5 rfl));have fH:=fq (C 6 97 rfl (D 6 rfl));have aI:=t.1 hd;refine ax rfl ?_;have fJ:=IH.o (okB ok w) xt yt bx bn (S k) (Fb k) aB sx (iP.o.X aI nE nE) (iQ.o.X aI nE nE) iM.o iO.o WX.o WY.o iI.o;refine zK Tryz.call144 rfl (vE fB) (vE fD) (vE fF) (vE fG) (vE fH) fJ ?_;rintro e w2 ⟨rfl,S',ho,bF,hc⟩;exact⟨_,rfl,L _ _ rfl ⟨λh=>by simp[dn] at h,λ_=>⟨S',ho,bF,(aI.mono (λ_ _ q=>q.elim)).trans hc nE⟩⟩ (λj hj jG v hv=>by match j,hj with|0,_=>exact hv|1,_=>exact hv|2,_=>exact hv|3,_=>exact hv|4,_=>exact hv|5,_=>exact hv|6,_=>exact hv|7,hj=>exact absurd rfl hj|j+8,_=>exact hv)⟩
             .intro vs w2 fM fP t;obtain⟨S',ho,bF,hc⟩:=t.2 (by decide);have fQ:=Z ho;have fU:=Z bF;have dI:=Z hc;clear ho bF hc t fM fP;simp only[aX,Act.put,List.setIfInBounds_toArray,List.set_cons_succ,List.set_cons_zero];go_wp2_with fail;have B:=Z (o.o.step c.o (G:=S') af.o aF.o E.o (Nat.le_succ nd) ai.o M.o (dI.o.mono (S':=λx=>x=ba∨S k x∨Fb k x) (λ_ _ q=>Or.inr q)) (aH.o.X dI.o (λq=>Or.elim q (c.o.ta.kF k) (λq=>c.o.ap ba (.inl rfl) (.inr ⟨k,q⟩)))) (λ_ _=>rfl)
               ⟨by rw[p.o,J.o,I.o];rfl,λu z A g=>by rw[p.o] at A;rw[J.o,I.o] at g;cases A;cases g;exact fQ.o⟩ fU.o (λh=>by rw[p.o] at h;cases h))
              go_roundw;case rel=>exact⟨_,_,_,_,_,B.o⟩
              case measure=>rw[B.o.fO.left_eq,aj.o];exact E.o
           |false=>
            have aN:=Z bD;clear bD;cases zL:A8 y with
            |true=>
             rw[zL] at eY;cases m with
             |true=>
              go_wp2_with (first|(at_lookup;refine aQ rfl rfl rfl az rfl W ?_;rw[p.o];go_frame))
              refine(aZ aA.o.dL _).mono ?_;rintro e Q ⟨rfl,r⟩;obtain rfl:=r.symm;rw[aN.o];go_wp2_with fail;refine(aZ R.o.dL _).mono ?_;rintro e Q ⟨rfl,r⟩;obtain rfl:=r.symm;rw[show dA (.table xt)=true from rfl];go_wp2_with fail;have B:=Z (o.o.step c.o (G:=S k) af.o aF.o E.o (Nat.le_succ nd) ai.o M.o ((O.refl No n).mono (λ_ _ q=>q.elim)) (aH.o.X (O.refl No n) id) (λ_ _=>rfl)
               ⟨by rw[p.o,show dM _ (get a k) (get b k)=some (.table xt) by rw[J.o,I.o];have h:=aN.o;cases y<;>first|rfl|cases h];rfl,λu z A g=>by rw[p.o] at A;rw[show dM _ (get a k) (get b k)=some (.table xt) by rw[J.o,I.o];have h:=aN.o;cases y<;>first|rfl|cases h] at g;cases A;cases g;exact(R.o.X M.o (λy f q=>by have:=c.o.oQ y f;have:=o.o.rs;omega) (λy f q=>by have:=c.o.ta.lt (.inr ⟨k,f⟩);have:=o.o.rs;omega)).X (O.refl No n) nE nE⟩ (λx l=> .inl l) (λh=>by rw[p.o] at h;cases h))
              go_roundw;case rel=>exact⟨_,_,_,_,_,B.o⟩
              case measure=>rw[B.o.fO.left_eq,aj.o];exact E.o
             |false=>
              go_wp2_with (first|(at_lookup;refine aQ rfl rfl rfl az rfl W ?_;rw[p.o];go_frame))
              refine(aZ aA.o.dL _).mono ?_;rintro e Q ⟨rfl,r⟩;obtain rfl:=r.symm;rw[aN.o];go_wp2_with fail;refine(aZ R.o.dL _).mono ?_;rintro e Q ⟨rfl,r⟩;obtain rfl:=r.symm;rw[show dA (.table xt)=true from rfl];go_wp2_with fail;have B:=Z (o.o.step c.o (G:=S k) af.o aF.o E.o (Nat.le_succ nd) ai.o M.o ((O.refl No n).mono (λ_ _ q=>q.elim)) (aH.o.X (O.refl No n) id) (λ_ _=>rfl)
               ⟨by rw[p.o,show dM _ (get a k) (get b k)=some (.table xt) by rw[J.o,I.o];have h:=aN.o;cases y<;>first|rfl|cases h];rfl,λu z A g=>by rw[p.o] at A;rw[show dM _ (get a k) (get b k)=some (.table xt) by rw[J.o,I.o];have h:=aN.o;cases y<;>first|rfl|cases h] at g;cases A;cases g;exact(R.o.X M.o (λy f q=>by have:=c.o.oQ y f;have:=o.o.rs;omega) (λy f q=>by have:=c.o.ta.lt (.inr ⟨k,f⟩);have:=o.o.rs;omega)).X (O.refl No n) nE nE⟩ (λx l=> .inl l) (λh=>by rw[p.o] at h;cases h))
              go_roundw;case rel=>exact⟨_,_,_,_,_,B.o⟩
              case measure=>rw[B.o.fO.left_eq,aj.o];exact E.o
            |false=>
             rw[zL] at eY;cases m with
             |true=>
              go_wp2_with (first|(at_lookup;refine aQ rfl rfl rfl az rfl W ?_;rw[p.o];go_frame))
              refine(aZ aA.o.dL _).mono ?_;rintro e Q ⟨rfl,r⟩;obtain rfl:=r.symm;rw[aN.o];go_wp2_with fail;refine(aZ R.o.dL _).mono ?_;rintro e Q ⟨rfl,r⟩;obtain rfl:=r.symm;rw[show dA (.table xt)=true from rfl];go_wp2_with (first|(refine iD rfl rfl rfl rfl rfl dH ?_));refine(iR _ _ _).mono ?_;rintro e wp ⟨rfl,rfl⟩;go_wp2_with fail;have B:=Z (o.o.step c.o (G:=S k) af.o aF.o E.o (Nat.le_succ nd) ai.o M.o (((O.refl No n).alloc (.cells #[.iface 9 (.string sx),u] 20)).mono (λ_ _ q=>q.elim)) (aH.o.X ((O.refl No n).alloc (.cells #[.iface 9 (.string sx),u] 20)) id) (λ_ _=>rfl)
               ⟨by rw[p.o,show dM _ (get a k) (get b k)=some (.table xt) by rw[J.o,I.o];have h:=aN.o;cases y<;>first|rfl|cases h];rfl,λu z A g=>by rw[p.o] at A;rw[show dM _ (get a k) (get b k)=some (.table xt) by rw[J.o,I.o];have h:=aN.o;cases y<;>first|rfl|cases h] at g;cases A;cases g;exact(R.o.X M.o (λy f q=>by have:=c.o.oQ y f;have:=o.o.rs;omega) (λy f q=>by have:=c.o.ta.lt (.inr ⟨k,f⟩);have:=o.o.rs;omega)).X ((O.refl No n).alloc (.cells #[.iface 9 (.string sx),u] 20)) nE nE⟩ (λx l=> .inl l) (λh=>by rw[p.o] at h;cases h))
              go_roundw;case rel=>exact⟨_,_,_,_,_,B.o⟩
              case measure=>rw[B.o.fO.left_eq,aj.o];exact E.o
             |false=>
              go_wp2_with (first|(at_lookup;refine aQ rfl rfl rfl az rfl W ?_;rw[p.o];go_frame))
              refine(aZ aA.o.dL _).mono ?_;rintro e Q ⟨rfl,r⟩;obtain rfl:=r.symm;rw[aN.o];go_wp2_with fail;refine(aZ R.o.dL _).mono ?_;rintro e Q ⟨rfl,r⟩;obtain rfl:=r.symm;rw[show dA (.table xt)=true from rfl];go_wp2_with (first|(refine iD rfl rfl rfl rfl rfl dH ?_));refine(iR _ _ _).mono ?_;rintro e wp ⟨rfl,rfl⟩;go_wp2_with fail;have B:=Z (o.o.step c.o (G:=S k) af.o aF.o E.o (Nat.le_succ nd) ai.o M.o (((O.refl No n).alloc (.cells #[.iface 9 (.string sx),u] 20)).mono (λ_ _ q=>q.elim)) (aH.o.X ((O.refl No n).alloc (.cells #[.iface 9 (.string sx),u] 20)) id) (λ_ _=>rfl)
               ⟨by rw[p.o,show dM _ (get a k) (get b k)=some (.table xt) by rw[J.o,I.o];have h:=aN.o;cases y<;>first|rfl|cases h];rfl,λu z A g=>by rw[p.o] at A;rw[show dM _ (get a k) (get b k)=some (.table xt) by rw[J.o,I.o];have h:=aN.o;cases y<;>first|rfl|cases h] at g;cases A;cases g;exact(R.o.X M.o (λy f q=>by have:=c.o.oQ y f;have:=o.o.rs;omega) (λy f q=>by have:=c.o.ta.lt (.inr ⟨k,f⟩);have:=o.o.rs;omega)).X ((O.refl No n).alloc (.cells #[.iface 9 (.string sx),u] 20)) nE nE⟩ (λx l=> .inl l) (λh=>by rw[p.o] at h;cases h))
              go_roundw;case rel=>exact⟨_,_,_,_,_,B.o⟩
              case measure=>rw[B.o.fO.left_eq,aj.o];exact E.o
          |false=>
           have aO:=Z kP;cases bD:dA y with
           |true=>
            cases m with
            |true=>
             go_wp2_with (first|(at_lookup;refine aQ rfl rfl rfl az rfl W ?_;rw[p.o];go_frame))
             refine(aZ aA.o.dL _).mono ?_;rintro e Q ⟨rfl,r⟩;obtain rfl:=r.symm;rw[bD];go_wp2_with fail;refine(aZ R.o.dL _).mono ?_;rintro e Q ⟨rfl,r⟩;obtain rfl:=r.symm;rw[aO.o];go_wp2_with (first|(refine iD rfl rfl rfl rfl rfl dH ?_));refine(iR _ _ _).mono ?_;rintro e wp ⟨rfl,rfl⟩;go_wp2_with fail;have B:=Z (o.o.step c.o (G:=S k) af.o aF.o E.o (Nat.le_succ nd) ai.o M.o (((O.refl No n).alloc (.cells #[.iface 9 (.string sx),u] 20)).mono (λ_ _ q=>q.elim)) (aH.o.X ((O.refl No n).alloc (.cells #[.iface 9 (.string sx),u] 20)) id) (λ_ _=>rfl)
              ⟨by rw[p.o,show dM _ (get a k) (get b k)=some x by rw[J.o,I.o];have h:=aO.o;have h2:=bK.o;cases x<;>first|rfl|exact absurd h2 (by decide)|(cases h;done)];rfl,λu z A g=>by rw[p.o] at A;rw[show dM _ (get a k) (get b k)=some x by rw[J.o,I.o];have h:=aO.o;have h2:=bK.o;cases x<;>first|rfl|exact absurd h2 (by decide)|(cases h;done)] at g;cases A;cases g;exact(R.o.X M.o (λy f q=>by have:=c.o.oQ y f;have:=o.o.rs;omega) (λy f q=>by have:=c.o.ta.lt (.inr ⟨k,f⟩);have:=o.o.rs;omega)).X ((O.refl No n).alloc (.cells #[.iface 9 (.string sx),u] 20)) nE nE⟩ (λx l=> .inl l) (λh=>by rw[p.o] at h;cases h))
             go_roundw;case rel=>exact⟨_,_,_,_,_,B.o⟩
             case measure=>rw[B.o.fO.left_eq,aj.o];exact E.o
            |false=>
             go_wp2_with (first|(at_lookup;refine aQ rfl rfl rfl az rfl W ?_;rw[p.o];go_frame))
             refine(aZ aA.o.dL _).mono ?_;rintro e Q ⟨rfl,r⟩;obtain rfl:=r.symm;rw[bD];go_wp2_with fail;refine(aZ R.o.dL _).mono ?_;rintro e Q ⟨rfl,r⟩;obtain rfl:=r.symm;rw[aO.o];go_wp2_with (first|(refine iD rfl rfl rfl rfl rfl dH ?_));refine(iR _ _ _).mono ?_;rintro e wp ⟨rfl,rfl⟩;go_wp2_with fail;have B:=Z (o.o.step c.o (G:=S k) af.o aF.o E.o (Nat.le_succ nd) ai.o M.o (((O.refl No n).alloc (.cells #[.iface 9 (.string sx),u] 20)).mono (λ_ _ q=>q.elim)) (aH.o.X ((O.refl No n).alloc (.cells #[.iface 9 (.string sx),u] 20)) id) (λ_ _=>rfl)
              ⟨by rw[p.o,show dM _ (get a k) (get b k)=some x by rw[J.o,I.o];have h:=aO.o;have h2:=bK.o;cases x<;>first|rfl|exact absurd h2 (by decide)|(cases h;done)];rfl,λu z A g=>by rw[p.o] at A;rw[show dM _ (get a k) (get b k)=some x by rw[J.o,I.o];have h:=aO.o;have h2:=bK.o;cases x<;>first|rfl|exact absurd h2 (by decide)|(cases h;done)] at g;cases A;cases g;exact(R.o.X M.o (λy f q=>by have:=c.o.oQ y f;have:=o.o.rs;omega) (λy f q=>by have:=c.o.ta.lt (.inr ⟨k,f⟩);have:=o.o.rs;omega)).X ((O.refl No n).alloc (.cells #[.iface 9 (.string sx),u] 20)) nE nE⟩ (λx l=> .inl l) (λh=>by rw[p.o] at h;cases h))
             go_roundw;case rel=>exact⟨_,_,_,_,_,B.o⟩
             case measure=>rw[B.o.fO.left_eq,aj.o];exact E.o
           |false=>
            cases m with
            |true=>
             go_wp2_with (first|(at_lookup;refine aQ rfl rfl rfl az rfl W ?_;rw[p.o];go_frame))
             refine(aZ aA.o.dL _).mono ?_;rintro e Q ⟨rfl,r⟩;obtain rfl:=r.symm;rw[bD];go_wp2_with fail;refine(aZ R.o.dL _).mono ?_;rintro e Q ⟨rfl,r⟩;obtain rfl:=r.symm;rw[aO.o];go_wp2_with fail;have B:=Z (o.o.step c.o (G:=S k) af.o aF.o E.o (Nat.le_succ nd) ai.o M.o ((O.refl No n).mono (λ_ _ q=>q.elim)) (aH.o.X (O.refl No n) id) (λ_ _=>rfl)
              ⟨by rw[p.o,show dM _ (get a k) (get b k)=some x by rw[J.o,I.o];have h:=aO.o;have h2:=bK.o;cases x<;>first|rfl|exact absurd h2 (by decide)|(cases h;done)];rfl,λu z A g=>by rw[p.o] at A;rw[show dM _ (get a k) (get b k)=some x by rw[J.o,I.o];have h:=aO.o;have h2:=bK.o;cases x<;>first|rfl|exact absurd h2 (by decide)|(cases h;done)] at g;cases A;cases g;exact(R.o.X M.o (λy f q=>by have:=c.o.oQ y f;have:=o.o.rs;omega) (λy f q=>by have:=c.o.ta.lt (.inr ⟨k,f⟩);have:=o.o.rs;omega)).X (O.refl No n) nE nE⟩ (λx l=> .inl l) (λh=>by rw[p.o] at h;cases h))
             go_roundw;case rel=>exact⟨_,_,_,_,_,B.o⟩
             case measure=>rw[B.o.fO.left_eq,aj.o];exact E.o
            |false=>
             go_wp2_with (first|(at_lookup;refine aQ rfl rfl rfl az rfl W ?_;rw[p.o];go_frame))
             refine(aZ aA.o.dL _).mono ?_;rintro e Q ⟨rfl,r⟩;obtain rfl:=r.symm;rw[bD];go_wp2_with fail;refine(aZ R.o.dL _).mono ?_;rintro e Q ⟨rfl,r⟩;obtain rfl:=r.symm;rw[aO.o];go_wp2_with fail;have B:=Z (o.o.step c.o (G:=S k) af.o aF.o E.o (Nat.le_succ nd) ai.o M.o ((O.refl No n).mono (λ_ _ q=>q.elim)) (aH.o.X (O.refl No n) id) (λ_ _=>rfl)
              ⟨by rw[p.o,show dM _ (get a k) (get b k)=some x by rw[J.o,I.o];have h:=aO.o;have h2:=bK.o;cases x<;>first|rfl|exact absurd h2 (by decide)|(cases h;done)];rfl,λu z A g=>by rw[p.o] at A;rw[show dM _ (get a k) (get b k)=some x by rw[J.o,I.o];have h:=aO.o;have h2:=bK.o;cases x<;>first|rfl|exact absurd h2 (by decide)|(cases h;done)] at g;cases A;cases g;exact(R.o.X M.o (λy f q=>by have:=c.o.oQ y f;have:=o.o.rs;omega) (λy f q=>by have:=c.o.ta.lt (.inr ⟨k,f⟩);have:=o.o.rs;omega)).X (O.refl No n) nE nE⟩ (λx l=> .inl l) (λh=>by rw[p.o] at h;cases h))
             go_roundw;case rel=>exact⟨_,_,_,_,_,B.o⟩
             case measure=>rw[B.o.fO.left_eq,aj.o];exact E.o
     .intro k u n aY hk bz bg bH dw aJ dF iC;obtain⟨x,l,bU⟩:=c.o.ta.some bg;have bJ:=uT bU.dL;have iJ:=qG bU.dL;have aj:=Z aC.left_eq;have E:=Z dw;have iT:r2≠V:=λq=>by have:=dS.o;have:=HS.o;have:=dQ.o;omega
      have HX:=Z l;have af:=Z bz;have iU:¬s=r2:=by have:=dS.o;omega
      have iV:=Z (gZ.o.X aJ iU);have dJ:=Z (dE.o.trans aJ (λi hi q=>by have:=dS.o;have:=HS.o;omega));have dK:=Z (aW.X aJ (λq=>iT q.symm));have ai:=Z bH;have bI:=Z hk;have fV:n2<maxLen:=by have:=dU.o;unfold maxLen;omega
      clear bU bz bg bH aJ dF l aW iU hk;cases ak:A8 x with
      |true=>
       rw[ak] at bJ;have aS:ig a k=true:=by unfold ig;rw[HX.o];cases x<;>first|rfl|cases ak
       have bW:=Z aS;have dN:=dK.o;have W:=bI.o;clear aS ak;go_wp2_with (first|(at_mapUpdate;refine bY (u:=.nilIface) rfl rfl rfl dN fV rfl W rfl ?_;intro w3 aP aG bT;go_frame));have aV:=Z (show bM w3 ba r2 na fa (λz=>ay z && !(z==k)) aY∧n2+1+aY<=nb+na∧aU w3 V (n2+1) (λz=>if z=k then some .nilIface else f2 z)∧(∀z,(if z=k then some Value.nilIface else f2 z)=if(!(ay z && !(z==k)) && ig a z) then some .nilIface else fb z)∧O (·=V) w w3∧aU w3 s n1 (fE b) from
        ⟨ai.o.X aG (λq=>c.o.ap ba (.inl rfl) (.inl q)) iT,by have:=E.o;omega,aP,λz=>by
         by_cases g:z=k
         .subst g;rw[if_pos rfl,bW.o];simp
         .have bZ:(z==k)=false:=by rw[lT];exact decide_eq_false g
          rw[if_neg g,dD.o,bZ];simp,dJ.o.trans aG nE,iV.o.X aG (λq=>by have:=HS.o;have:=dQ.o;omega)⟩)
       clear aP aG bT dN W;go_roundw;case rel=>exact⟨_,_,_,_,aV.o⟩
       case measure=>rw[aV.o.1.left_eq,aj.o];exact E.o
      |false=>
       rw[ak] at bJ;have aS:ig a k=false:=by unfold ig;rw[HX.o];cases x<;>first|rfl|cases ak
       have bW:=Z aS;clear aS ak;have aV:=Z (show bM n ba r2 na fa (λz=>ay z && !(z==k)) aY∧n2+aY<=nb+na∧aU n V n2 f2∧(∀z,f2 z=if(!(ay z && !(z==k)) && ig a z) then some .nilIface else fb z)∧O (·=V) w n∧aU n s n1 (fE b) from
        ⟨ai.o,by have:=E.o;omega,dK.o,λz=>by
         by_cases g:z=k
         .subst g;rw[dD.o,bW.o];simp
         .have bZ:(z==k)=false:=by rw[lT];exact decide_eq_false g
          rw[dD.o,bZ];simp,dJ.o,iV.o⟩)
       go_wp2_with fail
       go_roundw;case rel=>exact⟨_,_,_,_,aV.o⟩
       case measure=>rw[aV.o.1.left_eq,aj.o];exact E.o
   .intro k u n aY hk bz bg bH dw aJ dF iC;obtain⟨x,l,bU⟩:=c.o.tb.some bg;have bJ:=qF bU.dL;have iJ:=nR bU.dL;have aj:=Z aC.left_eq;have E:=Z dw;have HX:=Z l;have af:=Z bz;have jM:=Z aC.lt;have dJ:=Z (eu.o.trans aJ (λi hi q=>by have:=HS.o;omega));have dK:=Z (aW.X aJ (by omega));have ai:=Z bH;have bI:=Z hk;have fV:n1<maxLen:=by have:=dU.o;unfold maxLen;omega
    clear bU bz bg bH aJ dF l aW hk;cases ak:A8 x with
    |false=>
     rw[ak] at bJ;have aS:fE b k=some (.bool true):=by unfold fE;rw[HX.o];cases x<;>first|rfl|cases ak
     have bW:=Z aS;have dN:=dK.o;have W:=bI.o;clear aS ak;go_wp2_with (first|(at_mapUpdate;refine qQ (u:=.bool true) rfl rfl rfl dN fV rfl W rfl ?_;intro w3 aP aG bT;go_frame));have aV:=Z (show bM w3 V (s+1) nb fb (λz=>ay z && !(z==k)) aY∧n1+1+aY<=nb∧aU w3 s (n1+1) (λz=>if z=k then some (.bool true) else f1 z)∧(∀z,(if z=k then some (Value.bool true) else f1 z)=if(ay z && !(z==k)) then none else fE b z)∧O No w w3 from
      ⟨ai.o.X aG (λq=>by have:=HS.o;have:=dQ.o;omega) (by omega),by have:=E.o;omega,aP,λz=>by
       by_cases g:z=k
       .subst g;rw[if_pos rfl,bW.o];simp
       .have bZ:(z==k)=false:=by rw[lT];exact decide_eq_false g
        rw[if_neg g,dC.o,bZ];simp,dJ.o.trans aG (λi hi q=>by have:=HS.o;omega)⟩)
     clear aP aG bT dN W;go_roundw;case rel=>exact⟨_,_,_,_,aV.o⟩
     case measure=>rw[aV.o.1.left_eq,aj.o];exact E.o
    |true=>
     rw[ak] at bJ;have aS:fE b k=none:=by unfold fE;rw[HX.o];cases x<;>first|rfl|cases ak
     have bW:=Z aS;clear aS ak;have aV:=Z (show bM n V (s+1) nb fb (λz=>ay z && !(z==k)) aY∧n1+aY<=nb∧aU n s n1 f1∧(∀z,f1 z=if(ay z && !(z==k)) then none else fE b z)∧O No w n from
      ⟨ai.o,by have:=E.o;omega,dK.o,λz=>by
       by_cases g:z=k
       .subst g;rw[dC.o,af.o,bW.o];simp
       .have bZ:(z==k)=false:=by rw[lT];exact decide_eq_false g
        rw[dC.o,bZ];simp,dJ.o⟩)
     go_wp2_with fail
     go_roundw;case rel=>exact⟨_,_,_,_,aV.o⟩
     case measure=>rw[aV.o.1.left_eq,aj.o];exact E.o
def lG(ok:ae)(w:World)(a:Value)(vals:J):Prop:=
 (vals=.null∧a=.map none)∨∃t b,vals=.table t∧a=.map (some b)∧bC ok w (.iface 67 (.map (some b))) (.table t)
abbrev aF(a:List Nat):List (Y):=a.map λq=> [.pointer (some ⟨q,0,none⟩)]
inductive eU (ok:ae) (w:World):Nat→Ch→Prop where
 |mk {p pm:Nat} {mv par dv wv:Value} {name fB:K} {vals:J} {deps:List Ch} {wants:List Want} {ps:List Nat} (hp:ay w p [.pointer (some ⟨pm,0,none⟩),mv,par,dv] 125) (Oa:ok p)
   (hm:ay w pm [.string name,.string fB,wv] 122) (Ob:ok pm) (hv:lG ok w mv vals) (hd:aC ok w dv 1 (aF ps)) (hn:ps.length=deps.length)
   (h:∀(i q:Nat)(d:Ch),ps[i]?=some q→deps[i]?=some d→eU ok w q d):eU ok w p (.mk name fB vals deps wants)
theorem lG.X{ok S:ae}{w a:World}{c:Value}{vals:J}(h:lG ok w c vals)(d:O S w a)(e:∀b,ok b→¬S b):lG ok a c vals:=by
 rcases h with h|⟨t,b,f,g,i⟩
 .exact .inl h
 .exact .inr ⟨t,b,f,g,i.X d e⟩
theorem eU.X{ok S:ae}{w e:World}{p:Nat}{c:Ch}(h:eU ok w p c)(a:O S w e)(d:∀b,ok b→¬S b):eU ok e p c:=by
 induction h with
 |mk i f j g k l m _ n=>exact .mk (i.X a (d _ f)) f (j.X a (d _ g)) g (k.X a d) (l.X a d) m n
theorem eU.mono{ok ok':ae}{w:World}{p:Nat}{c:Ch}(h:eU ok w p c)(a:∀b,b<w.heap.size→ok b→ok' b):eU ok' w p c:=by
 induction h with
 |mk d f e g i j k _ l=>
  refine .mk d (a _ d.lt f) e (a _ e.lt g) ?_ (j.mono a (by decide)) k l;rcases i with h|⟨t,b,m,n,o⟩
  .exact .inl h
  .exact .inr ⟨t,b,m,n,o.mono a⟩
theorem eU.dV{ok:ae}{w:World}{p:Nat}{c:Ch}(h:eU ok w p c):eU (okB ok w) w p c:=h.mono (λb a h=>⟨h,a⟩)
theorem xX(a:Addr)(w:World):(Go.binOp BinOp.eql 120 (.pointer (some a)) (.pointer none)).run Tryz.prog w=.ok (.bool false) w:=by kernel_rfl
theorem oh{ok:ae}{w:World}{p:Nat}{c:Ch}(h:eU ok w p c):Calls Tryz.prog 88 #[.pointer (some ⟨p,0,none⟩)] w λe f=>e=.returned (.string c.name)∧f=w:=by
 cases h with
 |@mk _ a n o q r name s vals t wants u b g d i j k l m=>have v:w.cell? ⟨p,0,none⟩=some (.pointer (some ⟨a,0,none⟩)):=b.cell 0;have x:w.cell? ⟨a,0,none⟩=some (.string name):=d.cell 0;have y:=xX ⟨a,0,none⟩;clear b g d i j k l m;go_enter Tryz.func88,Tryz.ntmps88;go_wp2;go_ret;exact⟨rfl,rfl⟩
theorem kZ{w:World}{p:Nat}{f g h:Value}{a:Option Addr}{b c:Nat}(d:ay w p [f,g,h,.slice a b c] 125):Calls Tryz.prog 90 #[.pointer (some ⟨p,0,none⟩)] w λe i=>e=.returned (.slice a b c)∧i=w:=by have j:w.cell? ⟨p,3,none⟩=some (.slice a b c):=d.cell 3;clear d;go_enter Tryz.func90,Tryz.ntmps90;go_wp2;go_ret;exact⟨rfl,rfl⟩
theorem yG{ok:ae}{w:World}{p:Nat}{c:Ch}(h:eU ok w p c)(a:K)(m:Bool):Calls Tryz.prog 143 #[.pointer (some ⟨p,0,none⟩),.string a,.bool m] w λe J=>e=.returned (.bool (m||bn c.deps a))∧J=w:=by
 cases h with
 |@mk _ X mv af dv wv name z vals b wants g o L M N O f A B=>
  have P:=Z B;have C:=Z f;have D:=f.1;have E:=Z A;obtain⟨-, -,da,dc,rfl, -, -⟩:=f;simp only[aF,List.length_map] at C D o;unfold maxLen at D;have Q:=Z (kZ o);clear o L M N O A B;go_enter Tryz.func143,Tryz.ntmps143;go_wp2_with fail;refine Q.o.mono ?_;rintro e R ⟨rfl,s⟩;obtain rfl:=s.symm;go_wp2_with fail;go_loopw [12] (λt wr=>∃n:Nat,t=.int .i64 n∧n<=g.length∧(∀d∈b.take n,d.name≠a)∧wr=w) (λt _=>g.length - (intOf t).toNat)
  case atStart=>exact⟨0,rfl,zL',by simp,rfl⟩
  case round=>
   obtain⟨n,rfl,ai,F,S⟩:=hrel;subst S;have G:=Z F;clear F;by_cases H:n<g.length
   .obtain⟨q,u⟩:=gX' g n (H);obtain⟨d,f⟩:=gX' b n ((by rw[←E.o];exact H));obtain⟨lb,lo,rfl, -,v⟩:=C.o.at (i:=n) (r:=[.pointer (some ⟨q,0,none⟩)]) (by simp[u]);have v:=v.one;simp only[Nat.mul_one] at v;have T:=Z (P.o n q d u f);have I:=Z f;have U:(n:Int)<(g.length:Int):=(by omega);clear u f;go_wp2_with fail;refine(oh T.o).mono ?_;rintro e R ⟨rfl,s⟩;obtain rfl:=s.symm;by_cases j:d.name=a
    .have V:(d.name.toList==a.toList)=true:=by rw[aS];simpa using j
     have l:(m||bn b a)=true:=by have:bn b a=true:=List.any_eq_true.2 ⟨d,mG' I.o,by simpa using j⟩;rw[this];simp
     have y:=Z l;clear j l;go_wp2;go_ret;refine⟨?_,rfl⟩;show Ending.returned (.bool true)=_;rw[show(Ch.mk name z vals b wants).deps=b from rfl,y.o]
    .have V:(d.name.toList==a.toList)=false:=by rw[aS];simpa using j
     have W:=Z j;clear j;go_wp2_with fail;go_roundw
     case rel=>
      refine⟨n+1,by go_num,by omega,λx k=> ?_,trivial⟩;rw[List.take_add_one,I.o] at k;rcases List.mem_append.1 k with k|k
      .exact G.o x k
      .have:x=d:=(by simpa using k);subst this;exact W.o
     case measure=>simp[intOf];omega
   .have l:bn b a=false:=by
     have h:=G.o;rw[List.take_of_length_le (by rw[←E.o];omega)] at h;exact List.any_eq_false.2 (λd f=>by simpa using h d f)
    have y:=Z l;have U:¬(n:Int)<(g.length:Int):=(by omega);clear l;go_wp2;go_ret;refine⟨?_,rfl⟩;rw[show(Ch.mk name z vals b wants).deps=b from rfl,y.o,Bool.or_false]
    rfl
structure UE (ok:ae) (w:World) (a:T) (ba bb na:Nat) (fa:K→Option Value) (Fa Fb M:K→ae):Prop where
 ta:iC ok w ba na fa a Fa
 ma:∀k x,Fa k x→M k x
 ap:∀k k' x,M k x→M k' x→k=k'
 mb:∀k x,M k x→x≠ba∧x≠bb∧x<w.heap.size∧¬ok x
 fb:∀k k' x,Fb k x→M k' x→k=k'
 JK:∀k x,Fb k x→x<w.heap.size∧x≠ba
 Oc:ba≠bb
 OE:bb<w.heap.size
 Gx:¬ok ba
 oQ:∀x,ok x→x<w.heap.size
structure UT (ok:ae) (w:World) (tgt:K→Option J) (a b:T) (ba bb r lim nf:Nat) (fa fs:K→Option Value) (Fa Fb M:K→ae) (wr:World) (left:K→Bool) (cnt nd:Nat) (fd:K→Option Value) (F:K→ae):Prop where
 fO:bM wr bb r nf fs left cnt
 num:nd+cnt<=lim
 dst:aU wr ba nd fd
 vK:∀k,left k=false→(fs k).isSome=true→(fd k).isSome=(tgt k).isSome∧∀u z,fd k=some u→tgt k=some z→bf ok wr u z (F k)
 kU:∀k,(left k=true∨fs k=none)→fd k=fa k∧∀x,F k x↔Fa k x
 old:∀k,(left k=true∨fs k=none)→∀u x,fa k=some u→get a k=some x→bf ok wr u x (Fa k)
 src:∀k,left k=true→∀u y,fs k=some u→get b k=some y→bf ok wr u y (Fb k)
 sub:∀k x,F k x→M k x∨w.heap.size<=x∧x≠r
 lt:∀k x,F k x→x<wr.heap.size
 apart:∀k k' x,F k x→F k' x→k=k'
 JJ:∀k,fd k=none→∀x,¬F k x
 X:O (λx=>x=ba∨∃k,M k x) w wr
 rs:w.heap.size<=r
theorem UT.step{ok:ae}{w:World}{tgt:K→Option J}{a b:T}{ba s r lim E na:Nat}{H t:K→Option Value}{I L M:K→ae}{wr:World}{i:K→Bool}{aj nd:Nat}{fd:K→Option Value}{F:K→ae}
  (h:UT ok w tgt a b ba s r lim E H t I L M wr i aj nd fd F) (e:UE ok w a ba s na H I L M) {k:K} {w3:World} {N P:Nat} {l:K→Option Value} {G:ae} (hl:i k=true) (hf:(t k).isSome=true) (aA:N<aj) (aB:P<=nd+1)
  {A:World} (au:bM A s r E t (λz=>i z && !(z==k)) N) (Q:O (·=r) wr A) (B:O (λx=>x=ba∨M k x) A w3) (hd:aU w3 ba P l) (R:∀z,z≠k→l z=fd z)
  (U:(l k).isSome=(tgt k).isSome∧∀u z,l k=some u→tgt k=some z→bf ok w3 u z G) (V:∀x,G x→M k x∨A.heap.size<=x) (ak:l k=none→∀x,¬G x):
  UT ok w tgt a b ba s r lim E H t I L M w3 (λz=>i z && !(z==k)) N P l (λz=>if z=k then G else F z):=by
 have ax:=h.rs;have aC:=h.fO.lt;have aF:=Q.size;have aG:=B.size;have aH:=h.X.size;have aI:ba<w.heap.size:=e.ta.map.lt;have C:∀z,z≠k→(i z && !(z==k))=i z:=λz f=>by
  have:(z==k)=false:=by rw[lT];exact decide_eq_false f
  rw[this];simp
 have W:∀z,((i z && !(z==k))=true∨t z=none)→z≠k:=λz f q=>by
  subst q;rcases f with f|f
  .simp at f
  .rw[f] at hf;cases hf
 have af:∀{u:Value}{j:J}{S:ae},bf ok wr u j S→(∀x,S x→x<wr.heap.size∧x≠ba∧x≠r∧¬M k x)→bf ok w3 u j S:=by
  intro u j S ho hS;refine(ho.X Q (λx c q=> ?_) (λx c q=> ?_)).X B (λx c q=> ?_) (λx c q=> ?_)
  .have:=e.oQ x c;omega
  .exact(hS x c).2.2.1 q
  .rcases q with q|q
   .exact e.Gx (q▸c)
   .exact(e.mb k x q).2.2.2 c
  .obtain⟨n,h2,h3,h4⟩:=hS x c;rcases q with q|q
   .exact h2 q
   .exact h4 q
 have ai:∀z,z≠k→∀x,F z x→x<wr.heap.size∧x≠ba∧x≠r∧¬M k x:=by
  intro z f x c;rcases h.sub z x c with q|q
  .have g:=e.mb z x q;exact⟨by omega,g.1,λh6=>by omega,λm=>f (e.ap z k x q m)⟩
  .exact⟨h.lt z x c,λh6=>by omega,q.2,λm=>by have:=(e.mb k x m).2.2.1;omega⟩
 have ay:∀x,G x→x<w3.heap.size:=by
  intro x c;cases MR:l k with
  |none=>exact absurd c (ak MR x)
  |some u=>
   have n:=U.1;rw[MR] at n;cases ht:tgt k with
   |none=>rw[ht] at n;cases n
   |some z=>exact(U.2 u z MR ht).lt x c
 refine⟨au.X B (λq=> ?_) (λq=> ?_),by have:=h.num;omega,hd,λz f az=> ?_,λz f=> ?_,λz f u x v c=> ?_,λz f u y v hy=> ?_,λz x c=> ?_,λz x c=> ?_,λz D x c o=> ?_,λz f x c=> ?_,?_,ax⟩
 .rcases q with q|q
  .exact e.Oc q.symm
  .exact(e.mb k s q).2.1 rfl
 .rcases q with q|q
  .omega
  .have:=(e.mb k r q).2.2.1;omega
 .by_cases d:z=k
  .subst d;rw[if_pos rfl];exact U
  .rw[C z d] at f;rw[if_neg d,R z d];obtain⟨n,h2⟩:=h.vK z f az;exact⟨n,λu x v c=>af (h2 u x v c) (ai z d)⟩
 .have d:=W z f;rw[C z d] at f;rw[if_neg d,R z d];exact h.kU z f
 .have d:=W z f;rw[C z d] at f;exact af (h.old z f u x v c) (λx c=>by have g:=e.mb z x (e.ma z x c);exact⟨by omega,g.1,by omega,λm=>d (e.ap z k x (e.ma z x c) m)⟩)
 .have d:=W z (.inl f);rw[C z d] at f;exact af (h.src z f u y v hy) (λx c=>by have g:=e.JK z x c;exact⟨by omega,g.2,by omega,λm=>d (e.fb z k x c m)⟩)
 .by_cases d:z=k
  .rw[if_pos d] at c;rw[d];rcases V x c with q|q
   .exact .inl q
   .exact .inr ⟨by omega,by omega⟩
  .rw[if_neg d] at c;exact h.sub z x c
 .by_cases d:z=k
  .rw[if_pos d] at c;exact ay x c
  .rw[if_neg d] at c;have:=h.lt z x c;omega
 .by_cases d:z=k
  .by_cases p:D=k
   .rw[d,p]
   .rw[if_pos d] at c;rw[if_neg p] at o;have g:=ai D p x o;rcases V x c with q|q
    .exact absurd q g.2.2.2
    .omega
  .rw[if_neg d] at c;by_cases p:D=k
   .rw[if_pos p] at o;have g:=ai z d x c;rcases V x o with q|q
    .exact absurd q g.2.2.2
    .omega
   .rw[if_neg p] at o;exact h.apart z D x c o
 .by_cases d:z=k
  .rw[if_pos d] at c;rw[d] at f;exact ak f x c
  .rw[if_neg d] at c;rw[R z d] at f;exact h.JJ z f x c
 .refine(h.X.trans Q (λx c q=>by omega)).trans B (λx c q=> ?_);rcases q with q|q
  .exact .inl q
  .exact .inr ⟨k,q⟩
theorem UT.done{ok:ae}{w:World}{tgt:K→Option J}{a b:T}{ba g r lim y A:Nat}{i c:K→Option Value}{j l M:K→ae}{wr:World}{m:K→Bool}{B n:Nat}{o:K→Option Value}{F:K→ae}
  (h:UT ok w tgt a b ba g r lim y i c j l M wr m B n o F) (e:UE ok w a ba g A i j l M) (p:∀k,m k=false) {t:T} (s:∀k,get t k=tgt k) (x:∀k,c k=none→tgt k=get a k):
  iC ok wr ba n o t F:=by
 refine⟨h.dst,λk=> ?_,λk u z f d=> ?_,h.apart,λk C=> ?_,h.JJ⟩
 .rw[s];cases hf:c k with
  |none=>rw[(h.kU k (.inr hf)).1,x k hf,e.ta.dom]
  |some u=>exact(h.vK k (p k) (by rw[hf];rfl)).1
 .rw[s] at d;cases hf:c k with
  |none=>rw[x k hf] at d;obtain⟨D,E⟩:=h.kU k (.inr hf);rw[D] at f;exact(h.old k (.inr hf) u z f d).set E
  |some v=>exact(h.vK k (p k) (by rw[hf];rfl)).2 u z f d
 .rcases h.sub k ba C with q|q
  .exact(e.mb k ba q).1 rfl
  .have:=e.ta.map.lt;omega
theorem UT.start{ok:ae}{w:World}{tgt:K→Option J}{a b:T}{ba g h p i lim:Nat}{j c:K→Option Value}{l m M:K→ae}{n:World}(e:UE ok w a ba g h j l m M)
  (s:bM n g w.heap.size p c (λk=>(c k).isSome) i) (t:h+i<=lim) (d:O No w n) (v:∀k u y,c k=some u→get b k=some y→bf ok w u y (m k)):
  UT ok w tgt a b ba g w.heap.size lim p j c l m M n (λk=>(c k).isSome) i h j l:=by
 have B:=d.size;exact⟨s,t,e.ta.map.X d id,λk r z=>(by rw[z] at r;cases r),λk _=>⟨rfl,λx=>Iff.rfl⟩,
  λk _ u x o f=>(e.ta.val k u x o f).X d nE nE,λk _ u y o A=>(v k u y o A).X d nE nE,
  λk x f=> .inl (e.ma k x f),λk x f=>by have:=e.ta.lt (.inr ⟨k,f⟩);omega,e.ta.apart,e.ta.none,d.mono (λ_ _ q=>q.elim),lR'⟩
def EX(ok b:ae)(w a:World)(v:Value)(j:J):Prop:=
 ∃R S,bf R a v j S∧(∀x,R x→x<a.heap.size∧(okB ok w x∨w.heap.size<=x))∧(∀x,S x→b x∨w.heap.size<=x)∧(∀x,R x→¬S x)∧O b w a
section
variable {ok:ae} {w:World} {tgt:K→Option J} {a b:T} {ba bb r lim nf na:Nat} {fa fs:K→Option Value} {Fa Fb M:K→ae} {wr:World} {left:K→Bool} {cnt nd:Nat} {fd:K→Option Value} {F:K→ae}
theorem UT.zM(h:UT ok w tgt a b ba bb r lim nf fa fs Fa Fb M wr left cnt nd fd F)(e:UE ok w a ba bb na fa Fa Fb M){d:World}(f:O (·=r) wr d){u:Value}{x:J}{S:ae}(g:bf ok wr u x S)(i:∀y,S y→y<w.heap.size):bf ok d u x S:=
 g.X f (λy c q=>by have:=e.oQ y c;have:=h.rs;omega) (λy c q=>by have:=i y c;have:=h.rs;omega)
theorem UE.KX(e:UE ok w a ba bb na fa Fa Fb M){k:K}:∀y,Fa k y→y<w.heap.size:=λy b=>(e.mb k y (e.ma k y b)).2.2.1
theorem UE.KY(e:UE ok w a ba bb na fa Fa Fb M){k:K}:∀y,Fb k y→y<w.heap.size:=λy b=>(e.JK k y b).1
theorem UT.keep(h:UT ok w tgt a b ba bb r lim nf fa fs Fa Fb M wr left cnt nd fd F)(e:UE ok w a ba bb na fa Fa Fb M){k:K}{d w3:World}{f:Nat}{u0:Value}{x:J}(g:left k=true)(p:(fs k).isSome=true)(s:f<cnt)
  (t:bM d bb r nf fs (λz=>left z && !(z==k)) f) (i:O (·=r) wr d) (j:O No d w3) (c:fa k=some u0) (v:get a k=some x) (m:tgt k=some x):
  UT ok w tgt a b ba bb r lim nf fa fs Fa Fb M w3 (λz=>left z && !(z==k)) f nd fd (λz=>if z=k then Fa k else F z):=by
 have l:=(h.kU k (.inl g)).1;have B:=h.rs;have C:ba<w.heap.size:=e.ta.map.lt;refine h.step e g p s (Nat.le_succ nd) t i (j.mono (λ_ _ q=>q.elim)) ((h.dst.X i (by omega)).X j id) (λ_ _=>rfl) ⟨by rw[l,c,m];rfl,λu z n o=> ?_⟩ (λy A=> .inl (e.ma k y A)) (λq=>by rw[l,c] at q;cases q);rw[l,c] at n;rw[m] at o;cases n;cases o;exact(h.zM e i (h.old k (.inl g) u0 x c v) e.KX).X j nE nE
theorem UT.bring(h:UT ok w tgt a b ba bb r lim nf fa fs Fa Fb M wr left cnt nd fd F)(e:UE ok w a ba bb na fa Fa Fb M){k:K}{f w3:World}{g:Nat}{u:Value}{y:J}(i:left k=true)(j:fs k=some u)(p:g<cnt)
  (s:bM f bb r nf fs (λz=>left z && !(z==k)) g) (l:O (·=r) wr f) (m:O (·=ba) f w3) (t:aU w3 ba (nd+1) (λz=>if z=k then some u else fd z)) (A:get b k=some y) (n:tgt k=some y) (B:∀x,Fb k x→M k x):
  UT ok w tgt a b ba bb r lim nf fa fs Fa Fb M w3 (λz=>left z && !(z==k)) g (nd+1) (λz=>if z=k then some u else fd z) (λz=>if z=k then Fb k else F z):=by
 refine h.step e i (by rw[j];rfl) p lR' s l (m.mono (λ_ _ q=> .inl q)) t (λz d=>by rw[if_neg d]) ⟨by rw[if_pos rfl,n];rfl,λv z o d=> ?_⟩ (λx c=> .inl (B x c)) (λq=>by rw[if_pos rfl] at q;cases q);rw[if_pos rfl] at o;rw[n] at d;cases o;cases d;exact(h.zM e l (h.src k i u y j A) e.KY).X m (λx c q=>e.Gx (q▸c)) (λx c q=>(e.JK k x c).2 q)
theorem UT.gone(h:UT ok w tgt a b ba bb r lim nf fa fs Fa Fb M wr left cnt nd fd F)(e:UE ok w a ba bb na fa Fa Fb M){k:K}{c w3:World}{d f:Nat}(j:left k=true)(l:(fs k).isSome=true)(m:d<cnt)(n:f<=nd+1)
  (o:bM c bb r nf fs (λz=>left z && !(z==k)) d) (p:O (·=r) wr c) (s:O (·=ba) c w3) (t:aU w3 ba f (λz=>if z=k then none else fd z)) (u:tgt k=none):
  UT ok w tgt a b ba bb r lim nf fa fs Fa Fb M w3 (λz=>left z && !(z==k)) d f (λz=>if z=k then none else fd z) (λz=>if z=k then No else F z):=by
 refine h.step e j l m n o p (s.mono (λ_ _ q=> .inl q)) t (λz g=>by rw[if_neg g]) ⟨(by rw[if_pos rfl,u];rfl),λv z i g=> ?_⟩ (λx y=>y.elim) (λ_ _ q=>q);rw[if_pos rfl] at i;cases i
theorem UT.inPlace(h:UT ok w tgt a b ba bb r lim nf fa fs Fa Fb M wr left cnt nd fd F)(e:UE ok w a ba bb na fa Fa Fb M){k:K}{c w3:World}{d:Nat}{u0:Value}{z:J}{G:ae}(i:left k=true)(p:(fs k).isSome=true)(s:d<cnt)
  (t:bM c bb r nf fs (λz=>left z && !(z==k)) d) (j:O (·=r) wr c) (l:O (M k) c w3) (f:fa k=some u0) (m:tgt k=some z) (v:bf ok w3 u0 z G) (y:∀x,G x→M k x∨c.heap.size<=x):
  UT ok w tgt a b ba bb r lim nf fa fs Fa Fb M w3 (λz=>left z && !(z==k)) d nd fd (λz=>if z=k then G else F z):=by
 have g:=(h.kU k (.inl i)).1;have A:=h.rs;have B:ba<w.heap.size:=e.ta.map.lt;refine h.step e i p s (Nat.le_succ nd) t j (l.mono (λ_ _ q=> .inr q)) ((h.dst.X j (by omega)).X l (λq=>(e.mb k ba q).1 rfl)) (λ_ _=>rfl) ⟨by rw[g,f,m];rfl,λu z n o=> ?_⟩ y (λq=>by rw[g,f] at q;cases q);rw[g,f] at n;rw[m] at o;cases n;cases o;exact v
end
theorem rZ(w:World):Calls Tryz.prog 116 #[.map none] w λe a=>e=.returned (.map none)∧a=w:=by have h:=rP;go_enter Tryz.func116,Tryz.ntmps116;go_wp2;go_ret;exact⟨rfl,rfl⟩
theorem IQ(m:Bool)(a:K→Bool){v:T}(b:Sorted v):over m a v []=v:=by
 refine rC (qi _ _ _ _) b λk=> ?_
 rw[pF,show get [] k=none from rfl,qx]
def JL(ok a:ae)(w:World)(v:Value)(j:J)(e:Ending)(b:World):Prop:=e=.returned (.tuple #[])∧EX ok a w b v j
theorem uh(U:List K)(N:Nat)(hN:N<1099511627776)(eQ:U.length<=N)(bM:∀k∈U,fK k)(m:Bool)(d:Nat)(ok:ae)(c:Ch)(p:Nat)(v:T)(ba:Nat)(Q:ae)(w:World)(aB:K)(bP:eU ok w p c)
  (ha:bf ok w (.iface 67 (.map (some ba))) (.table v) Q) (bQ:∀x,Q x→¬ok x) (wa:WU U N d (.table v)) (wb:∀t,c.vals=.table t→WU U N d (.table t)) (aN:fK c.name) (eX:aB.size+(d+4)*140737488355329<=900000000000000000):
  Calls Tryz.prog 117 #[l7,.pointer (some ⟨p,0,none⟩),.map (some ba),.string aB,.bool m] w (JL ok Q w (.iface 67 (.map (some ba))) (.table (over m (bn c.deps) v (fM c.vals)))):=by
 have bT:=Z bP.dV;cases bP with
 |@mk _ pm mv gI dv wv name bU vals n wants ps hp eY hm fA hv hd hn hh=>
  simp only[Ch.name,Ch.vals,Ch.deps] at aN wb⊢;obtain⟨d,rfl⟩:∃d',d=d'+1:=by
   cases d with
   |zero=>exact wa.elim
   |succ d=>exact⟨d,rfl⟩
  have k0:w.cell? ⟨p,0,none⟩=some (.pointer (some ⟨pm,0,none⟩)):=hp.cell 0;have k1:w.cell? ⟨p,1,none⟩=some mv:=hp.cell 1;have q0:w.cell? ⟨pm,0,none⟩=some (.string name):=hm.cell 0;have bW:aB.size<=1000000000000000000:=(by omega);have aC:name.size<=1000000000000000000:=by unfold fK at aN;omega
  have bZ:=gV aB name w bW aC;have aX:=Z bZ;have cu:=Z (show aB.size+name.size+1+(d+4)*140737488355329<=900000000000000000 by unfold fK at aN;omega);have aY:=Z bQ;have HA:=Z ha;have WA:=Z wa;have aZ:=Z bM;clear hp eY hm fA hd hn hh bZ bW aC aN eX bQ ha wa bM;rcases hv with⟨rfl,rfl⟩|⟨t,g0,rfl,rfl,cO⟩
  .clear wb;go_enter Tryz.func117,Tryz.ntmps117;go_wp2_with fail;refine aX.o.mono ?_;rintro e wt ⟨⟨sp,rfl,bg⟩,G⟩;obtain rfl:=G.symm;have gJ:=run_range_nilMap (P:=Tryz.prog) w 67 9 20 Tryz.underlying67;have gK:∀ty,(Instr.next (.pointer (some ⟨w.heap.size,0,none⟩)) false ty).run Tryz.prog (w.alloc (.mapIter none 0 #[] 0))=_:=λty=>run_next_nilMap _ ty 0 0 #[]
   clear bg;go_wp2_with fail;refine(rZ w).mono ?_;rintro e wt ⟨rfl,G⟩;obtain rfl:=G.symm;go_wp2_with fail;refine wp_loop_rounds 1 ?_;rw[rounds_succ];go_wp2;refine bodyPost_end (results_none rfl _ _ _) rfl ?_;refine⟨rfl,okB ok w,Q,?_,λx a=>⟨by have:=a.2;simp;omega,.inl a⟩,λx a=> .inl a,λx a hs=>aY.o x hs a.1,((O.refl No w).alloc _).mono (λ_ _ q=>q.elim)⟩;rw[show fM .null=[] from rfl,IQ _ _ WA.o.sorted];exact HA.o.dV.X ((O.refl No w).alloc _) nE nE
  .have aO:=Z (wb t rfl);have cZ:=lZ N (d+1) hN (rY N hN (d+1)) ok t g0 w cO (by
    have h:=aO.o;exact(h.mono (λ_ h=>h) lR' (Nat.le_succ (d+1))).wf aZ.o eQ)
   have df:=Z cZ;clear wb cO cZ;go_enter Tryz.func117,Tryz.ntmps117;go_wp2_with fail;refine aX.o.mono ?_;rintro e wt ⟨⟨sp,rfl,bg⟩,G⟩;obtain rfl:=G.symm;have dh:=Z (show sp.size+(d+4)*140737488355329<=900000000000000000 by have:=cu.o;omega);clear bg cu aX;go_wp2_with fail;refine df.o.mono ?_;rintro e H ⟨bb,rfl,R,Sb,di,hR,bu,B⟩;obtain⟨A,W⟩:∃A:ae,A=λx=>okB ok w x∨okB R H x:=⟨_,rfl⟩
   have aP:=Z W;have dn:bf A H (.iface 67 (.map (some ba))) (.table v) Q:=(HA.o.dV.X B nE nE).mono (λx _ a=>by rw[aP.o];exact .inl a);have dw:bf A H (.iface 67 (.map (some bb))) (.table t) Sb:=di.dV.mono (λx _ a=>by rw[aP.o];exact .inr a);have dB:eU A H p (.mk name bU (.table t) n wants):=(bT.o.X B nE).mono (λx _ a=>by rw[aP.o];exact .inl a);have aS:∀x,Q x→x<w.heap.size:=HA.o.lt;obtain⟨_,gQ,fa,Fa,ea,af,ai⟩:=dn.tab;obtain⟨_,gU,fb,Fb,eb,o,aT⟩:=dw.tab;cases ea;cases eb;replace af:=af.fit;replace o:=o.fit;obtain⟨na,dC⟩:∃na,na=v.length:=⟨_,rfl⟩;obtain⟨nb,dD⟩:∃nb,nb=t.length:=⟨_,rfl⟩;rw[←dC] at af;rw[←dD] at o;have dE:=B.size;have aj:∀k x,Fa k x→x<w.heap.size:=λk x a=>aS x ((ai x).2 (.inr ⟨k,a⟩))
   have C:∀k x,Fb k x→w.heap.size<=x∧x<H.heap.size:=λk x a=>⟨bu x ((aT x).2 (.inr ⟨k,a⟩)),o.lt (.inr ⟨k,a⟩)⟩
   have fB:ba<w.heap.size:=aS ba ((ai ba).2 (.inl rfl));have fD:w.heap.size<=bb:=bu bb ((aT bb).2 (.inl rfl));have f:=Z (show UE A H v ba bb na fa Fa Fb (λk x=>Fa k x∨Fb k x) from
    ⟨af,λk x a=> .inl a,λk k' x a j=>by
     rcases a with a|a<;>rcases j with j|j
     .exact af.apart k k' x a j
     .have:=aj k x a;have:=(C k' x j).1;omega
     .have:=aj k' x j;have:=(C k x a).1;omega
     .exact o.apart k k' x a j,
    λk x a=>by
     rcases a with a|a
     .refine⟨λq=>af.kF k (q▸a),λq=>by have:=aj k x a;omega,by have:=aj k x a;omega,λq=> ?_⟩;rw[W] at q;rcases q with q|q
      .exact aY.o x ((ai x).2 (.inr ⟨k,a⟩)) q.1
      .have:=(hR x q.1).1;have:=aj k x a;omega
     .refine⟨λq=>by have:=(C k x a).1;omega,λq=>o.kF k (q▸a),(C k x a).2,λq=> ?_⟩;rw[W] at q;rcases q with q|q
      .have:=q.2;have:=(C k x a).1;omega
      .exact(hR x q.1).2 ((aT x).2 (.inr ⟨k,a⟩)),
    λk k' x a j=>by
     rcases j with j|j
     .have:=aj k' x j;have:=(C k x a).1;omega
     .exact o.apart k k' x a j,
    λk x a=>⟨(C k x a).2,λq=>by have:=(C k x a).1;omega⟩,by omega,o.map.lt,λq=>by
     rw[W] at q;rcases q with q|q
     .exact aY.o ba ((ai ba).2 (.inl rfl)) q.1
     .have:=(hR ba q.1).1;omega,
    λx a=>by
     rw[W] at a;rcases a with a|a
     .have:=a.2;omega
     .exact a.2⟩)
   have fE:=Z o.val;have fF:=Z (show ∀k,fb k=none→get t k=none from λk I=>o.get_none I);have fG:=Z (show ∀k u,fb k=some u→∃y,get t k=some y from λk u I=>by obtain⟨y,hy, -⟩:=o.some I;exact⟨y,hy⟩);have dF:=Z (show na<1099511627776∧nb<1099511627776 by have h1:=WA.o.len;have h2:=aO.o.len;omega);have fH:=Z dB;have dG:=Z B;have J:=Z (show(∀x,A x→okB ok w x∨w.heap.size<=x)∧(∀k x,Fa k x→Q x)∧(∀k x,Fb k x→w.heap.size<=x)∧Q ba from
    ⟨λx a=>by
     rw[W] at a;rcases a with a|a
     .exact .inl a
     .exact .inr (hR x a.1).1,λk x a=>(ai x).2 (.inr ⟨k,a⟩),λk x a=>(C k x a).1,(ai ba).2 (.inl rfl)⟩)
   have fJ:=Z aS;have dH:=o.map;have dI:∀k,fb k=none→jo m (bn n k) (get v k) (get t k)=get v k:=λk I=>by rw[fF.o k I,qx]
   have fP:=Z dI;clear di hR bu B W dn dw dB aS ai aT af o dC dD aj C fB fD dE dI df aP HA bT;go_wp2_with (first|(at_range;refine dR rfl rfl rfl dH ?_;intro w0 bz dJ fQ bC fU;go_frame));have bD:=Z (UT.start (tgt:=λk=>jo m (bn n k) (get v k) (get t k)) (b:=t) (lim:=na+bz) f.o dJ lR' bC fE.o);obtain⟨r,hr⟩:∃r,r=H.heap.size:=⟨_,rfl⟩;have HR:=Z hr;have fV:=Z (show na+bz<3298534883328 by have:=dF.o;omega);rw[←hr] at bD⊢;clear hr dJ fQ bC fU dH;go_loopw [12] (λ_ wr=>∃(left:K→Bool)(cnt nd:Nat)(fd:K→Option Value)(F:K→ae),UT A H (λk=>jo m (bn n k) (get v k) (get t k)) v t ba bb r (na+bz) nb fa fb Fa Fb (λk x=>Fa k x∨Fb k x) wr left cnt nd fd F) (λ_ wr=>wr.rangeLeft bb r);case atStart=>exact⟨_,_,_,_,_,bD.o⟩
   case round=>
    obtain⟨left,cnt,nd,fd,F,bF⟩:=hrel;have g:=Z bF;have aU:=bF.fO;clear bF bD;go_wp2_with (first|(at_next;refine ed rfl rfl rfl aU ?_ ?_))
    .intro bC dK;have HD:=Z (g.o.done f.o dK (t:=over m (bn n) v t) (pF _ _ _ _) fP.o);clear dK aU;go_wp2;refine bodyPost_end (results_none rfl _ _ _) rfl ?_;have dE:=g.o.X.size;have gW:=dG.o.size;refine⟨rfl,A,fC ba F,HD.o.any,λx a=>⟨by have:=f.o.oQ x a;omega,J.o.1 x a⟩,λx a=> ?_,λx a hs=> ?_,?_⟩
     .rcases a with rfl|⟨k,a⟩
      .exact .inl J.o.2.2.2
      .rcases g.o.sub k x a with(q|q)|q
       .exact .inl (J.o.2.1 k x q)
       .exact .inr (J.o.2.2.1 k x q)
       .exact .inr (by have:=q.1;omega)
     .rcases hs with rfl|⟨k,hs⟩
      .exact f.o.Gx a
      .rcases g.o.sub k x hs with q|q
       .exact(f.o.mb k x q).2.2.2 a
       .have:=f.o.oQ x a;omega
     .refine(dG.o.mono (λ_ _ q=>q.elim)).trans g.o.X (λx a q=> ?_);rcases q with q|⟨k,q|q⟩
      .rw[q];exact J.o.2.2.2
      .exact J.o.2.1 k x q
      .have:=J.o.2.2.1 k x q;omega
    .intro k u w2 gX I bG aV dM dN B fZ gY;have dO:=Z (g.o.kU k (.inl bG)).1;have dQ:=Z aV;have az:=Z (show(fb k).isSome=true by rw[aV];rfl);have L:=Z bG;have l:=Z dN;have ak:=Z dM;have D:=Z B;have au:=Z aU.left_eq;have gZ:=Z (show H.heap.size<=w2.heap.size by have:=g.o.X.size;have:=B.size;omega);have E:=g.o.dst.X B (by have:=g.o.rs;have:=f.o.ta.map.lt;omega);have ig:=Z E;obtain⟨y,bH⟩:=fG.o k u aV;have ax:=Z bH;have dS:=Z (aZ.o k (WU.get aO.o bH).1);have ik:=Z I;have M:=I;have gm:nd<maxLen:=by have:=g.o.num;have:=fV.o;unfold maxLen;omega
     clear bG aV dM dN B fZ aU I bH;cases eF:get v k with
     |none=>
      have ay:fa k=none:=by
       have h:=f.o.ta.dom k;rw[eF] at h;cases hf:fa k with
       |none=>rfl
       |some _=>rw[hf] at h;cases h
      have s:=Z eF;have S:=Z (dO.o.trans ay);clear eF ay;go_wp2_with (first|(at_lookup;refine aQ rfl rfl rfl E rfl M ?_;rw[S.o];go_frame)|(at_mapUpdate;refine bY (u:=u) rfl rfl rfl E gm rfl M rfl ?_;intro w3 aF V bI;go_frame));have i:=Z (g.o.bring f.o L.o dQ.o l.o ak.o D.o V aF ax.o (show jo m (bn n k) (get v k) (get t k)=some y by rw[s.o,ax.o];rfl) (λx a=> .inr a));clear aF V bI;go_roundw;case rel=>exact⟨_,_,_,_,_,i.o⟩
      case measure=>rw[i.o.fO.left_eq,au.o];exact l.o
     |some x=>
      obtain⟨u0,ay⟩:∃u0,fa k=some u0:=by
       have h:=f.o.ta.dom k;rw[eF] at h;cases hf:fa k with
       |none=>rw[hf] at h;cases h
       |some v=>exact⟨v,rfl⟩
      have S:=Z (dO.o.trans ay);have HO:=Z (g.o.old k (.inl L.o) u0 x ay eF);have aG:=Z (g.o.src k L.o u y dQ.o ax.o);have aH:=Z ay;have s:=Z eF;have dU:=uT HO.o.dL;have iq:=qG HO.o.dL;have aI:∀z,(Instr.typeAssert u0 20 67 true).run Tryz.prog z=.ok (.tuple #[mapOf u0,.bool (dA x)]) z:=λz=>dP HO.o.dL
      clear ay eF;cases aA:A8 x with
      |true=>
       have a:x=.null:=by cases x<;>first|rfl|cases aA
       subst a;have gp:u0=.nilIface:=by have h:=HO.o.vV;cases h;rfl
       subst gp;have gq:∀z,(Instr.typeAssert .nilIface 20 67 true).run Tryz.prog z=.ok (.tuple #[.map none,.bool false]) z:=aI;rw[aA] at dU;clear aA aI;cases m with
       |true=>
        go_wp2_with (first|(at_lookup;refine aQ rfl rfl rfl E rfl M ?_;rw[S.o];go_frame))
        have i:=Z (g.o.keep f.o (x:=.null) L.o az.o l.o ak.o D.o (O.refl No _) aH.o s.o (show jo true _ (get v k) (get t k)=some .null by rw[s.o];rfl));go_roundw;case rel=>exact⟨_,_,_,_,_,i.o⟩
        case measure=>rw[i.o.fO.left_eq,au.o];exact l.o
       |false=>
        go_wp2_with (first|(at_lookup;refine aQ rfl rfl rfl E rfl M ?_;rw[S.o];go_frame)|(refine vJ rfl rfl rfl E rfl M ?_;intro w3 aF V bI))
        have i:=Z (g.o.gone f.o L.o az.o l.o (Nat.le_succ nd) ak.o D.o V aF (show jo false (bn n k) (get v k) (get t k)=none by rw[s.o,ax.o];rfl));clear aF V bI;go_frame;go_roundw;case rel=>exact⟨_,_,_,_,_,i.o⟩
        case measure=>rw[i.o.fO.left_eq,au.o];exact l.o
      |false=>
       rw[aA] at dU;have gu:=Z aA;clear aA;cases kP:dA x with
       |false=>
        rw[kP] at aI;have aJ:jo m (bn n k) (get v k) (get t k)=some x:=by rw[s.o];have h:=gu.o;cases x<;>first|rfl|exact absurd h (by decide)|(cases kP;done)
        have aW:=Z aJ;clear aJ kP;go_wp2_with (first|(at_lookup;refine aQ rfl rfl rfl E rfl M ?_;rw[S.o];go_frame));have i:=Z (g.o.keep f.o (x:=x) L.o az.o l.o ak.o D.o (O.refl No _) aH.o s.o (aW.o));go_roundw;case rel=>exact⟨_,_,_,_,_,i.o⟩
        case measure=>rw[i.o.fO.left_eq,au.o];exact l.o
       |true=>
        obtain⟨xt,rfl⟩:=dm kP;obtain⟨bx,_,_,_,rfl, -, -⟩:=HO.o.tab;have gq:∀z,(Instr.typeAssert (.iface 67 (.map (some bx))) 20 67 true).run Tryz.prog z=.ok (.tuple #[.map (some bx),.bool true]) z:=aI;have bJ:∀z,(Instr.typeAssert u 20 67 true).run Tryz.prog z=.ok (.tuple #[mapOf u,.bool (dA y)]) z:=λz=>dP aG.o.dL
        clear aI kP;cases aK:dA y with
        |false=>
         rw[aK] at bJ;have aJ:jo m (bn n k) (get v k) (get t k)=some (.table xt):=by rw[s.o,ax.o];cases y<;>first|rfl|(cases aK;done)
         have aW:=Z aJ;have dW:=qF aG.o.dL;have iw:=nR aG.o.dL;clear aJ aK;cases zL:A8 y with
         |true=>
          rw[zL] at dW;go_wp2_with (first|(at_lookup;refine aQ rfl rfl rfl E rfl M ?_;rw[S.o];go_frame));have i:=Z (g.o.keep f.o (x:=.table xt) L.o az.o l.o ak.o D.o (O.refl No _) aH.o s.o (aW.o));go_roundw;case rel=>exact⟨_,_,_,_,_,i.o⟩
          case measure=>rw[i.o.fO.left_eq,au.o];exact l.o
         |false=>
          rw[zL] at dW;go_wp2_with (first|(at_lookup;refine aQ rfl rfl rfl E rfl M ?_;rw[S.o];go_frame)|(refine iD rfl rfl rfl rfl rfl rfl ?_));refine(iR _ _ _).mono ?_;rintro e wp ⟨rfl,rfl⟩;go_wp2_with fail;have i:=Z (g.o.keep f.o (x:=.table xt) L.o az.o l.o ak.o D.o ((O.refl No w2).alloc (.cells #[.iface 9 (.string sp),.iface 9 (.string k)] 20)) aH.o s.o aW.o);go_roundw;case rel=>exact⟨_,_,_,_,_,i.o⟩
          case measure=>rw[i.o.fO.left_eq,au.o];exact l.o
        |true=>
         obtain⟨yt,rfl⟩:=dm aK;obtain⟨bK,_,_,_,rfl, -, -⟩:=aG.o.tab;have iy:∀z,(Instr.typeAssert (.iface 67 (.map (some bK))) 20 67 true).run Tryz.prog z=.ok (.tuple #[.map (some bK),.bool true]) z:=bJ;have dX:eU A w2 p (.mk name bU (.table t) n wants):=((fH.o.X g.o.X (λx a q=>Or.elim q (λq=>f.o.Gx (q▸a)) (λ⟨k,q⟩=>(f.o.mb k x q).2.2.2 a))).X D.o (λx a q=>by have:=f.o.oQ x a;have:=g.o.rs;omega));have gy:=Z (yG dX k m);have dY:sp.size<=1000000000000000000:=by have:=dh.o;omega
         have aC:k.size<=1000000000000000000:=by have h:=dS.o;unfold fK at h;omega
         have gz:=Z (gV sp k w2 dY aC);clear bJ aK dX dY aC;go_wp2_with (first|(at_lookup;refine aQ rfl rfl rfl E rfl M ?_;rw[S.o];go_frame));refine gy.o.mono ?_;rintro e wt ⟨rfl,G⟩;obtain rfl:=G.symm;go_wp2_with fail;refine gz.o.mono ?_;rintro e wt ⟨⟨sx,rfl,gB⟩,G⟩;obtain rfl:=G.symm;have dZ:=g.o.zM f.o D.o HO.o f.o.KX;have eu:=g.o.zM f.o D.o aG.o f.o.KY;have eG:=jY U N (by have:=dF.o;omega) aZ.o (m||bn n k) d A xt yt bx bK (Fa k) (Fb k) w2 sx dZ eu (λx a j=>by have h1:=J.o.2.2.1 k x j;have h2:=fJ.o x (J.o.2.1 k x a);omega) (λx a=>(f.o.mb k x a).2.2.2) (WU.get WA.o s.o).2 (WU.get aO.o ax.o).2 (by have h1:=dh.o;have h2:=dS.o;unfold fK at h2;omega);have gG:=Z eG;clear dZ eu eG gB;go_wp2_with fail;refine gG.o.mono ?_;rintro e w3 ⟨rfl,S',eH,eP,V⟩;have i:=Z (g.o.inPlace f.o L.o az.o l.o ak.o D.o V aH.o (show jo m (bn n k) (get v k) (get t k)=some (.table (bV (m||bn n k) xt yt)) by rw[s.o,ax.o];rfl) eH (λx a=> .inl (eP x a)));clear eH eP V;go_wp2_with fail;go_roundw;case rel=>exact⟨_,_,_,_,_,i.o⟩
         case measure=>rw[i.o.fO.left_eq,au.o];exact l.o
section
variable {ok:ae} {w:World}
theorem bf.flat{v:Value}{j:J}{S:ae}(h:bf ok w v j S)(a:dA j=false):bf ok w v j No:=by
 cases h with
 |plain h a c=>exact .plain h a (λx b=>b)
 |table=>cases a
theorem su{ok':ae}{b n r:Nat}{f:K→Option Value}{kvs:T}{F:K→ae}(h:iC ok w b n f kvs F)(H:Sorted kvs){k:K}{u:Value}{j:J}{G:ae}{s w2:World}{S:ae}
  (A:O S w s) (t:∀y,S y→F k y∨w.heap.size<=y) (m:∀y,ok y→y<w.heap.size∧¬F k y∧y≠b) (B:∀y,ok y→ok' y) (C:O (·=b) s w2) (D:aU w2 b r (λz=>if z=k then some u else f z))
  (E:bf ok' w2 u j G) (o:∀y,G y→F k y∨w.heap.size<=y):iC ok' w2 b r (λz=>if z=k then some u else f z) (ins kvs k j) (λz=>if z=k then G else F z):=by
 have I:=h.map.lt;have p:∀z y,F z y→y<w.heap.size:=λz y a=>h.lt (.inr ⟨z,a⟩)
 refine⟨D,λz=> ?_,λz v x l g=> ?_,λz i y a d=> ?_,λz c=> ?_,λz c y a=> ?_⟩
 .rw[jy];by_cases e:z=k
  .subst e;simp
  .rw[if_neg e,if_neg (λq=>e q.symm),h.dom]
 .rw[jy] at g;by_cases e:z=k
  .subst e;rw[if_pos rfl] at l g⊢;cases l;cases g;exact E
  .rw[if_neg e] at l⊢;rw[if_neg (λq=>e q.symm)] at g;refine(((h.val z v x l g).X A (λy a q=> ?_) (λy a q=> ?_)).X C (λy a q=>(m y a).2.2 q) (λy a q=>h.kF z (q▸a))).mono (λy _ a=>B y a)
   .rcases t y q with q|q
    .exact(m y a).2.1 q
    .have:=(m y a).1;omega
   .rcases t y q with q|q
    .exact e (h.apart z k y a q)
    .have:=p z y a;omega
 .by_cases e:z=k
  .by_cases e':i=k
   .rw[e,e']
   .rw[if_pos e] at a;rw[if_neg e'] at d;rcases o y a with q|q
    .exact absurd (h.apart i k y d q) e'
    .have:=p i y d;omega
  .rw[if_neg e] at a;by_cases e':i=k
   .rw[if_pos e'] at d;rcases o y d with q|q
    .exact absurd (h.apart z k y a q) e
    .have:=p z y a;omega
   .rw[if_neg e'] at d;exact h.apart z i y a d
 .by_cases e:z=k
  .rw[if_pos e] at c;rcases o b c with q|q
   .exact h.kF k q
   .omega
  .rw[if_neg e] at c;exact h.kF z c
 .by_cases e:z=k
  .rw[if_pos e] at c;cases c
  .rw[if_neg e] at c a;exact h.none z c y a
end
theorem DD(ok:ae)(kvs:T)(b:Nat)(G:ae)(w:World)(r:kvs.length<1099511627776)(H:bf ok w (.iface 67 (.map (some b))) (.table kvs) G)(I:zy (.table kvs)):
  Calls Tryz.prog 162 #[.map (some b)] w λe J=>∃g,e=.returned (.map (some g))∧w.heap.size<=g∧bf (okB ok w) J (.iface 67 (.map (some g))) (.table kvs) (·=g)∧O No w J:=by
 obtain⟨b',n,f,F,e,a, -⟩:=H.dV.tab;cases e;replace a:=a.fit;obtain⟨n,L⟩:∃n,n=kvs.length:=⟨_,rfl⟩;rw[←L] at a r;have ay:=Z r;have M:=Z a;have az:=Z I;have m:=a.map;have aA:=m.lt;clear H I L a r;go_enter Tryz.func162,Tryz.ntmps162;obtain⟨g,j⟩:∃g,g=w.heap.size:=⟨_,rfl⟩;obtain⟨lc, -,aB⟩:=m.len;have aC:=oD;go_wp2_with (first|(at_range;refine dR rfl rfl rfl (m.alloc _) ?_;intro w0 aX s aF o N;go_frame));have P:(w.alloc (.map #[] 0)).heap.size=g+1:=(by simp[j]);rw[P] at s N⊢;rw[←j] at aA⊢;have t:=Z j;have aG:=Z (((O.refl No w).alloc (.map #[] 0)).trans' o);have Q:aU w0 g 0 (λ_=>none):=by have h:=aU.made w;rw[←j] at h;exact h.X o id
 clear j N P o aB m aC;go_loopw [4] (λ_ wr=>∃(l:K→Bool)(v c:Nat)(d:K→Option Value),bM wr b (g+1) n f l v∧c+v<=n∧aU wr g c d∧(∀k,d k=if l k then none else f k)∧O No w wr) (λ_ wr=>wr.rangeLeft b (g+1));case atStart=>exact⟨_,_,0,_,s,by omega,Q,λk=>by cases h:f k<;>rfl,aG.o⟩
 case round=>
  obtain⟨l,v,c,d,y,aY,p,R,S⟩:=hrel;have A:=Z R;have B:=Z S;clear R S s Q aF;go_wp2_with (first|(at_next;refine ed rfl rfl rfl y ?_ ?_))
  .intro o U;have aH:d=f:=funext λk=>by rw[A.o,U];rfl
   subst aH;have HO:=Z p;clear U A y p;go_wp2;go_ret;refine⟨g,rfl,by have:=t.o;omega,bf.set (iC.any (F:=λ_ _=>False) ⟨HO.o,M.o.dom,λk u x hu V=> ?_,λk k' x h=>h.elim,λk h=>h,λk _ x h=>h⟩) (λx=>⟨λh=> .inl h,λh=>h.elim id (λh=>h.elim λ_ h=>h.elim)⟩),B.o⟩;exact((M.o.val k u x hu V).flat (az.o kvs rfl k x V)).X B.o nE nE
  .intro k u w1 W hk aI af ai aJ C aK aZ;have aN:=Z y.left_eq;have aj:=Z aJ;have aO:=Z af;have aP:=Z (B.o.trans C (λi hi q=>by have:=t.o;omega));have ak:=p.X C (by omega);have aQ:=Z ai;have aS:=hk;have aT:c<maxLen:=by have:=ay.o;unfold maxLen;omega
   clear aI af ai C aK p hk;go_wp2_with (first|(at_mapUpdate;refine bY (u:=u) rfl rfl rfl ak aT rfl aS rfl ?_;intro w3 au D aV;go_frame));have ax:=Z (show bM w3 b (g+1) n f (λz=>l z && !(z==k)) W∧c+1+W<=n∧aU w3 g (c+1) (λz=>if z=k then some u else d z)∧(∀z,(if z=k then some u else d z)=if(l z && !(z==k)) then none else f z)∧O No w w3 from
    ⟨aQ.o.X D (λq=>by omega) (λq=>by omega),by have:=aj.o;omega,au,λz=>by
     by_cases E:z=k
     .subst E;rw[if_pos rfl,aO.o];simp
     .have aW:(z==k)=false:=by rw[lT];exact decide_eq_false E
      rw[if_neg E,A.o,aW];simp,aP.o.trans D (λi hi q=>by have:=t.o;omega)⟩)
   clear au D aV ak;go_roundw;case rel=>exact⟨_,_,_,_,ax.o⟩
   case measure=>rw[ax.o.1.left_eq,aN.o];exact aj.o
theorem mM(u:Value)(a:u.oneCell'=true)(w:World):(Instr.buildSlice 151 1 #[(0,u)]).run Tryz.prog w=.ok (.slice (some ⟨w.heap.size,0,none⟩) 1 1) (w.alloc (.cells #[u] 20)):=by cases u<;>first|(simp[Value.oneCell'] at a;done)|kernel_rfl
theorem jr{b:Array Oper}{rest:List Oper}{o:Oper}{a:Act}{w:World}{Q:ah}(c:o.guard=none){x:Operand}(d:o.op=.buildSlice 151 1 #[(0,x)]){u:Value}(e:a.eval x=u)(f:u.oneCell'=true)
  (h:wpList Tryz.prog b Q rest (a.put o.dst (.slice (some ⟨w.heap.size,0,none⟩) 1 1)) (w.alloc (.cells #[u] 20))):wpList Tryz.prog b Q (o::rest) a w:=by
 refine wpList_plain c λj g=> ?_
 have i:=mM u f w;unfold Oper.wp;simp only[execOp,d,List.map_toArray,List.map_cons,List.map_nil,e,Sem.run_bind,i,Result.andThen_ok];exact g _ _ h
theorem xw(w:World):(Instr.makeMap 67 none).run Tryz.prog w=.ok (.map (some w.heap.size)) (w.alloc (.map #[] 0)):=rfl
theorem JM:gK.size<=maxLen:=by rw[tN];decide
theorem JO{ok:ae}{w:World}{a:T}{c f na:Nat}{fa:K→Option Value}{Fa Fb:K→ae}(d:iC ok w c na fa a Fa)(i:∀x,ok x→x<w.heap.size)(j:f<w.heap.size)(l:∀k x,Fb k x→x<w.heap.size)
  (g:∀x,fC c Fa x→¬ok x) (e:∀x,fC c Fa x→x≠f∧∀k,¬Fb k x):UE ok w a c f na fa Fa Fb Fa:=
 ⟨d,λ_ _ h=>h,d.apart,λk x b=>⟨λq=>d.kF k (q▸b),(e x (.inr ⟨k,b⟩)).1,d.lt (.inr ⟨k,b⟩),g x (.inr ⟨k,b⟩)⟩,
  λk m x b n=>absurd b ((e x (.inr ⟨m,n⟩)).2 k),λk x b=>⟨l k x b,λq=>(e c (.inl rfl)).2 k (q▸b)⟩,(e c (.inl rfl)).1,j,g c (.inl rfl),i⟩
theorem iC.made{ok:ae}{w:World}{b:Nat}(h:aU w b 0 (λ_=>Option.none)):iC ok w b 0 (λ_=>Option.none) [] (λ_=>No):=
 ⟨h,λk=>rfl,λk u x h=>(by cases h),λk a x h=>h.elim,λk h=>h,λk _ x h=>h⟩
def IU(ok a:ae)(w:World)(v:Value)(j:J)(e:Ending)(b:World):Prop:=
 e=.returned (.tuple #[])∧∃S',bf (okB ok w) b v j S'∧(∀x,S' x→a x∨w.heap.size<=x)∧O a w b
section
variable {ok:ae} {w:World} {tgt:K→Option J} {a b:T} {ba bb r lim nf na:Nat} {fa fs:K→Option Value} {Fa Fb M:K→ae} {wr:World} {left:K→Bool} {cnt nd:Nat} {fd:K→Option Value} {F:K→ae}
theorem UT.zN(h:UT ok w tgt a b ba bb r lim nf fa fs Fa Fb M wr left cnt nd fd F)(e:UE ok w a ba bb na fa Fa Fb M){k:K}{f w3:World}{g:Nat}{u:Value}{y:J}(i:left k=true)(j:fs k=some u)(p:g<cnt)
  (s:bM f bb r nf fs (λz=>left z && !(z==k)) g) (l:O (·=r) wr f) (m:O (·=ba) f w3) (t:aU w3 ba (nd+1) (λz=>if z=k then some u else fd z)) (A:get b k=some y) (B:dA y=false) (n:tgt k=some y):
  UT ok w tgt a b ba bb r lim nf fa fs Fa Fb M w3 (λz=>left z && !(z==k)) g (nd+1) (λz=>if z=k then some u else fd z) (λz=>if z=k then No else F z):=by
 refine h.step e i (by rw[j];rfl) p lR' s l (m.mono (λ_ _ q=> .inl q)) t (λz d=>by rw[if_neg d]) ⟨by rw[if_pos rfl,n];rfl,λv z o d=> ?_⟩ (λx c=>c.elim) (λ_ _ q=>q);rw[if_pos rfl] at o;rw[n] at d;cases o;cases d;exact((h.zM e l (h.src k i u y j A) e.KY).flat B).X m (λx c q=>e.Gx (q▸c)) (λx c q=>c)
theorem UT.Hw(h:UT ok w tgt a b ba bb r lim nf fa fs Fa Fb M wr left cnt nd fd F)(e:UE ok w a ba bb na fa Fa Fb M){k:K}{c w2 w3:World}{f:Nat}{u:Value}{y:J}{G S:ae}(j:left k=true)(l:(fs k).isSome=true)(m:f<cnt)
  (n:bM c bb r nf fs (λz=>left z && !(z==k)) f) (o:O (·=r) wr c) (p:O S c w2) (s:∀x,S x→M k x∨c.heap.size<=x) (t:O (·=ba) w2 w3) (A:aU w3 ba (nd+1) (λz=>if z=k then some u else fd z)) (g:tgt k=some y)
  (B:bf ok w3 u y G) (C:∀x,G x→M k x∨c.heap.size<=x):
  UT ok w tgt a b ba bb r lim nf fa fs Fa Fb M w3 (λz=>left z && !(z==k)) f (nd+1) (λz=>if z=k then some u else fd z) (λz=>if z=k then G else F z):=by
 refine h.step e j l m lR' n o ?_ A (λz d=>by rw[if_neg d]) ⟨by rw[if_pos rfl,g];rfl,λv z i d=> ?_⟩ C (λq=>by rw[if_pos rfl] at q;cases q)
 .refine O.trans (S:=λx=>x=ba∨M k x) (S':=(·=ba)) ?_ t (λ_ _ q=> .inl q);exact p.mono (λx D q=>(s x q).elim .inr (λq=>absurd q (Nat.not_le.2 D)))
 .rw[if_pos rfl] at i;rw[g] at d;cases i;cases d;exact B
end
structure DG (U:List K) (N d:Nat) (ok:ae) (w:World) (x:T) (Fx:K→ae) (wc:World) (bg na:Nat) (a:T) (fa:K→Option Value) (Fa:K→ae):Prop where
 X:O No w wc
 tab:iC (okB ok w) wc bg na fa a Fa
 at_:bH x gK=some a
 JP:∀y,fC bg Fa y→Fx gK y∨w.heap.size<=y
 wu:WU U N (d+1) (.table a)
 Ba:∀y,fC bg Fa y→¬okB ok w y
 len:na<1099511627776
structure SG (U:List K) (N d:Nat) (ok:ae) (w:World) (out:T) (wc:World) (bg:Nat) (Fa:K→ae) (bs nf:Nat) (b:T) (fs:K→Option Value) (Fb:K→ae):Prop where
 map:aU wc bs nf fs
 at_:bH out gK=some b
 src:∀k u y,fs k=some u→get b k=some y→bf (okB ok w) wc u y (Fb k)
 non:∀k,fs k=Option.none→get b k=Option.none
 Oe:∀k u,fs k=some u→∃y,get b k=some y
 wu:WU U N (d+1) (.table b)
 len:nf<1099511627776
 JK:∀k y,Fb k y→y<w.heap.size
 ap:∀y,fC bg Fa y→y≠bs∧∀k,¬Fb k y
theorem DG.step{U:List K}{N d:Nat}{ok:ae}{w:World}{x:T}{c:K→ae}{wc e:World}{f na:Nat}{a:T}{fa:K→Option Value}{Fa:K→ae}(h:DG U N d ok w x c wc f na a fa Fa)(b:O No wc e):DG U N d ok w x c e f na a fa Fa:=
 ⟨h.X.trans' b,⟨h.tab.map.X b id,h.tab.dom,λk u z g i=>(h.tab.val k u z g i).X b nE nE,h.tab.apart,h.tab.kF,h.tab.none⟩,h.at_,h.JP,h.wu,h.Ba,h.len⟩
theorem sD(U:List K)(N:Nat)(hN:U.length<1099511627776)(dJ:∀k∈U,fK k)(m:Bool)(d:Nat)(ok:ae)(x B:T)(bd dK ns:Nat)(E:K→Option Value)(Sd G:ae)(w:World)(aY:K)
  (hx:bf ok w (.iface 67 (.map (some bd))) (.table x) Sd) (hs:aU w dK ns E) (P:(E gK).isSome=(get B gK).isSome) (dM:∀u t,E gK=some u→get B gK=some t→bf ok w u t G) (hG:∀y,G y→¬Sd y) (dN:∀y,Sd y→¬ok y)
  (wx:WU U N (d+2) (.table x)) (wo:∀b,bH B gK=some b→WU U N (d+1) (.table b)) (dO:∀a,bH x gK=some a→jQ (.table a)) (dQ:∀a,bH B gK=some a→jQ (.table a)) (dS:aY.size+(d+3)*140737488355329<=900000000000000000):
  Calls Tryz.prog 146 #[l7,.map (some bd),.map (some dK),.string aY,.bool m] w (IU ok Sd w (.iface 67 (.map (some bd))) (.table (globals x B))):=by
 obtain⟨_,jc,fx,Fx,ex,tx,dU⟩:=hx.dV.tab;cases ex;replace tx:=tx.fit;obtain⟨nx,dW⟩:∃nx,nx=x.length:=⟨_,rfl⟩;rw[←dW] at tx;have gy:=Z (show nx<1099511627776 by have l:=wx.len;omega);have dX:=Z hx;have H:=Z tx;have I:=Z dU;have bn:=Z dN;have WX:=Z wx;have WO:=Z wo;have jd:=Z dO;have gz:=Z dQ;have dY:=Z dS;have dZ:=Z dJ;have gB:=Z hG;have gG:=Z (show ∀u t,E gK=some u→get B gK=some t→bf (okB ok w) w u t G from λu t l h2=>(dM u t l h2).dV);have je:=tx.map;have bu:=JM;have Q:=tN;rw[Q] at bu;have HL:=Z Q;have jf:=Z hs;clear hx tx dU dN wx wo dO dQ dS dJ dM dW Q hG;have gI:=xw;go_enter Tryz.func146,Tryz.ntmps146
 go_upto_if 32 with(first|(at_lookup;refine aQ rfl rfl rfl (H.o.map) rfl bu ?_;go_frame))
 go_cut [10] from 12 to 133 (λgJ wc=>∃n na a fa Fa,gJ=.map (some n)∧DG U N d ok w x Fx wc n na a fa Fa)
 case first=>
  cases Gy:get x gK with
  |none=>
   have aF:fx gK=none:=by
    have h:=H.o.dom gK;rw[Gy] at h;cases hf:fx gK with
    |none=>rfl
    |some _=>rw[hf] at h;cases h
   have aN:=Z Gy;have bW:=Z (show fx ⟨#[103,108,111,98,97,108]⟩=none by rw[←HL.o];exact aF);clear Gy aF;rw[bW.o]
   dsimp only[Option.getD_none,Option.isSome_none,Bool.not_false]
   go_wp2_with fail
   go_meet
   refine⟨w.heap.size,0,[],λ_=>none,λ_=>No,rfl,(O.refl No w).alloc _,iC.made (aU.made w),by unfold bH;rw[aN.o],λy c=> ?_,WU.nil,λy c h=> ?_,by decide⟩
   .rcases c with q|⟨k,q⟩
    .exact .inr (Nat.le_of_eq q.symm)
    .exact q.elim
   .rcases c with q|⟨k,q⟩
    .have:=h.2;omega
    .exact q.elim
  |some xg=>
   obtain⟨ug,aF⟩:∃u0,fx gK=some u0:=by
    have h:=H.o.dom gK;rw[Gy] at h;cases hf:fx gK with
    |none=>rw[hf] at h;cases h
    |some v=>exact⟨v,rfl⟩
   have bZ:=Z (H.o.val gK ug xg aF Gy);have aN:=Z Gy;have bW:=Z (show fx ⟨#[103,108,111,98,97,108]⟩=some ug by rw[←HL.o];exact aF);have az:∀z,(Instr.typeAssert ug 20 67 true).run Tryz.prog z=.ok (.tuple #[mapOf ug,.bool (dA xg)]) z:=λz=>dP bZ.o.dL
   clear Gy aF;rw[bW.o]
   dsimp only[Option.getD_some,Option.isSome_some,Bool.not_true]
   cases kP:dA xg with
   |false=>
    rw[kP] at az;have Q:globals x B=x:=by unfold globals bH;rw[aN.o];cases xg<;>first|rfl|(cases kP;done)
    have cu:=Z Q;clear kP Q;go_wp2_with (first|(refine jr rfl rfl rfl rfl ?_));refine(iR _ _ _).mono ?_;rintro e wp ⟨rfl,rfl⟩;go_wp2_with fail;refine bodyPost_end (results_none rfl _ _ _) rfl ?_;rw[cu.o];exact⟨rfl,Sd,dX.o.dV.X ((O.refl No w).alloc _) nE nE,λy c=> .inl c,((O.refl No w).alloc _).mono (λ_ _ q=>q.elim)⟩
   |true=>
    obtain⟨a,rfl⟩:=dm kP;obtain⟨n,_,_,_,rfl, -, -⟩:=bZ.o.tab;have gQ:∀z,(Instr.typeAssert (.iface 67 (.map (some n))) 20 67 true).run Tryz.prog z=.ok (.tuple #[.map (some n),.bool true]) z:=az;clear az kP;go_wp2_with fail
    go_meet
    obtain⟨_,jg,fa,Fa,ea,cO,eu⟩:=bZ.o.tab;cases ea;replace cO:=cO.fit;have eG:=(WU.get WX.o aN.o).2;exact⟨n,a.length,a,fa,Fa,rfl,O.refl No w,cO,by unfold bH;rw[aN.o],λy c=> .inl ((eu y).2 c),eG,λy c h=>bn.o y ((I.o y).2 (.inr ⟨gK,(eu y).2 c⟩)) h.1,by have:=eG.len;omega⟩
 case rest=>
 obtain⟨n,na,a,fa,Fa,rfl,s⟩:=hcut;have J:=Z s;have eH:=hs.X s.X id;clear s hs
 go_upto_if 51 with(first|(at_lookup;refine aQ rfl rfl rfl eH rfl bu ?_;go_frame))
 go_cut [11] from 12 to 133 (λgU eP=>∃R nf b fs Fb,gU=.map (some R)∧DG U N d ok w x Fx eP n na a fa Fa∧SG U N d ok w B eP n Fa R nf b fs Fb)
 case first=>
  cases L:get B gK with
  |none=>
   have aG:E gK=none:=by
    rw[L] at P;cases hf:E gK with
    |none=>rfl
    |some _=>rw[hf] at P;cases P
   have aj:=Z L;have cZ:=Z (show E ⟨#[103,108,111,98,97,108]⟩=none by rw[←HL.o];exact aG);clear L aG P;rw[cZ.o]
   dsimp only[Option.getD_none,Option.isSome_none,Bool.not_false]
   go_wp2_with fail
   go_meet
   have gW:=J.o.X.size;refine⟨wc.heap.size,0,[],λ_=>none,λ_=>No,rfl,J.o.step ((O.refl No wc).alloc _),aU.made wc,by unfold bH;rw[aj.o],λk u y h=>(by cases h),λk h=>rfl,λk u h=>(by cases h),WU.nil,by decide,λk y q=>q.elim,λy c=>⟨λq=>by have:=J.o.tab.lt c;omega,λk q=>q⟩⟩
  |some og=>
   obtain⟨us,aG⟩:∃u0,E gK=some u0:=by
    rw[L] at P;cases hf:E gK with
    |none=>rw[hf] at P;cases P
    |some v=>exact⟨v,rfl⟩
   have bz:=Z (gG.o us og aG L);have aj:=Z L;have cZ:=Z (show E ⟨#[103,108,111,98,97,108]⟩=some us by rw[←HL.o];exact aG);have df:∀z,(Instr.typeAssert us 20 67 true).run Tryz.prog z=.ok (.tuple #[mapOf us,.bool (dA og)]) z:=λz=>dP bz.o.dL
   clear L aG P;rw[cZ.o]
   dsimp only[Option.getD_some,Option.isSome_some,Bool.not_true]
   cases JQ:dA og with
   |false=>
    rw[JQ] at df;have Q:globals x B=x:=by unfold globals;rw[show bH B gK=none by unfold bH;rw[aj.o];cases og<;>first|rfl|(cases JQ;done)];cases bH x gK<;>rfl
    have cu:=Z Q;clear JQ Q;go_wp2_with (first|(refine jr rfl rfl rfl rfl ?_));refine(iR _ _ _).mono ?_;rintro e wp ⟨rfl,rfl⟩;go_wp2_with fail;refine bodyPost_end (results_none rfl _ _ _) rfl ?_;rw[cu.o];exact⟨rfl,Sd,dX.o.dV.X (J.o.X.alloc _) nE nE,λy c=> .inl c,(J.o.X.alloc _).mono (λ_ _ q=>q.elim)⟩
   |true=>
    obtain⟨b,rfl⟩:=dm JQ;obtain⟨R,_,_,_,rfl, -, -⟩:=bz.o.tab;have jh:∀z,(Instr.typeAssert (.iface 67 (.map (some R))) 20 67 true).run Tryz.prog z=.ok (.tuple #[.map (some R),.bool true]) z:=df;clear df JQ;go_wp2_with fail
    go_meet
    obtain⟨_,ji,fs,Fb,eb,aA,eQ⟩:=bz.o.tab;cases eb;replace aA:=aA.fit;have eU:WU U N (d+1) (.table b):=WO.o b (by unfold bH;rw[aj.o]);have bC:∀y,G y→y<w.heap.size:=bz.o.lt;refine⟨R,b.length,b,fs,Fb,rfl,J.o,aA.map.X J.o.X id,by unfold bH;rw[aj.o],λk u y l h2=>(aA.val k u y l h2).X J.o.X nE nE,λk V=>aA.get_none V,λk u V=>by obtain⟨y,c, -⟩:=aA.some V;exact⟨y,c⟩,eU,by have:=eU.len;omega,λk y q=>aA.lt (.inr ⟨k,q⟩),λy c=> ?_⟩;have eX:¬G y:=λq=>by
     rcases J.o.JP y c with h|h
     .exact gB.o y q ((I.o y).2 (.inr ⟨gK,h⟩))
     .have:=bC y q;omega
    exact⟨λq=>eX ((eQ y).2 (.inl q)),λk q=>eX ((eQ y).2 (.inr ⟨k,q⟩))⟩
 case rest=>
 obtain⟨R,nf,b,fs,Fb,rfl,s,D⟩:=hcut;have dh:=Z s.X;have gX:=Z s.at_;have gY:=Z D.at_;have aO:=Z s.JP;have WA:=Z s.wu;have WB:=Z D.wu;have gZ:=Z D.src;have ig:=Z D.non;have ik:=Z D.Oe;have di:=D.map;have eY:=s.X.size;have f:=Z (JO s.tab (λy c=>by have:=c.2;omega) di.lt (λk y q=>by have:=D.JK k y q;omega) s.Ba D.ap);have iq:=Z (show na<1099511627776∧nf<1099511627776 from⟨s.len,D.len⟩);have iw:=Z (gz.o b D.at_);have jk:=Z eY;clear s D J eY P eH gI;go_wp2_with (first|(at_range;refine dR rfl rfl rfl di ?_;intro w0 dn fA iy dw iD;go_frame));have dB:=Z (UT.start (tgt:=λk=>lh (get a k) (get b k)) (b:=b) (lim:=na+dn) f.o fA lR' dw gZ.o);obtain⟨r,hr⟩:∃r,r=wc.heap.size:=⟨_,rfl⟩;have HR:=Z hr;have iE:=Z (show na+dn<3298534883328 by have:=iq.o;omega);rw[←hr] at dB;rw[←hr];clear hr fA iy dw iD di;go_loopw [16] (λ_ wr=>∃(left:K→Bool)(cnt nd:Nat)(fd:K→Option Value)(F:K→ae),UT (okB ok w) wc (λk=>lh (get a k) (get b k)) a b n R r (na+dn) nf fa fs Fa Fb Fa wr left cnt nd fd F) (λ_ wr=>wr.rangeLeft R r);case atStart=>exact⟨_,_,_,_,_,dB.o⟩
 case round=>
  obtain⟨left,cnt,nd,fd,F,dC⟩:=hrel;have j:=Z dC;have bD:=dC.fO;clear dC dB;go_wp2_with (first|(at_next;refine ed rfl rfl rfl bD ?_ ?_))
  .intro dw fB;have HD:=Z (j.o.done f.o fB (t:=jH a b) (lU _ _) (λk V=>by rw[ig.o k V,qy]));have gW:=j.o.X.size;have jl:=dh.o.size;have jm:=Z (dh.o.trans' (S:=No) (O.refl No _));have aH:O (fC n Fa) w wr:=(dh.o.mono (λ_ _ q=>q.elim)).trans j.o.X (λy c q=>q.elim .inl (λq=> .inr q));have fD:¬fC n Fa bd:=λq=>by
    rcases aO.o bd q with q|q
    .exact H.o.kF gK q
    .have:=H.o.map.lt;omega
   have iF:=H.o.map.X aH fD;have iG:nx<maxLen:=by have:=gy.o;unfold maxLen;omega
   have bF:=Z aH;clear fB bD aH fD;go_wp2_with (first|(at_mapUpdate;refine bY (u:=.iface 67 (.map (some n))) rfl rfl rfl iF iG rfl bu rfl ?_;intro w3 ak W bG;go_frame));refine bodyPost_end (results_none rfl _ _ _) rfl ?_;rw[←HL.o] at ak;have jo:=H.o.map.lt;have dD:∀y,fC n F y→Fx gK y∨w.heap.size<=y:=λy c=>by
    rcases c with rfl|⟨k,c⟩
    .exact aO.o _ (.inl rfl)
    .rcases j.o.sub k y c with q|q
     .exact aO.o y (.inr ⟨k,q⟩)
     .exact .inr (by have:=q.1;omega)
   have iH:∀y,fC n F y→y≠bd:=λy c q=>by
    subst q;rcases dD y c with q|q
    .exact H.o.kF gK q
    .omega
   have iI:=HD.o.any.X W (λy c q=>by have l:y=bd:=q;subst l;exact bn.o y ((I.o y).2 (.inl rfl)) c.1) (λy c q=>iH y c q);have iJ:=su (k:=gK) H.o WX.o.sorted bF.o aO.o (λy c=>⟨c.2,λq=>bn.o y ((I.o y).2 (.inr ⟨gK,q⟩)) c.1,λq=>bn.o y ((I.o y).2 (.inl q)) c.1⟩) (λy c=>c) W ak iI dD;have iK:globals x B=ins x gK (.table (jH a b)):=by unfold globals;rw[gX.o,gY.o]
   rw[iK];refine⟨rfl,_,iJ.any,λy c=> ?_,?_⟩
   .rcases c with rfl|⟨k,c⟩
    .exact .inl ((I.o _).2 (.inl rfl))
    .by_cases e:k=gK
     .rw[if_pos e] at c;exact(dD y c).imp (λq=>(I.o y).2 (.inr ⟨gK,q⟩)) id
     .rw[if_neg e] at c;exact .inl ((I.o y).2 (.inr ⟨k,c⟩))
   .refine((bF.o.mono (S':=Sd) (λy c q=> ?_)).trans W (λy c q=> ?_))
    .rcases aO.o y q with q|q
     .exact(I.o y).2 (.inr ⟨gK,q⟩)
     .omega
    .exact(I.o y).2 (.inl q)
  .intro k u w2 jq V bI aP fE bC aS iL jv;have bJ:=Z (j.o.kU k (.inl bI)).1;have fF:=Z aP;have bK:=Z (show(fs k).isSome=true by rw[aP];rfl);have au:=Z bI;have C:=Z bC;have aI:=Z fE;have aB:=Z aS;have aJ:=Z bD.left_eq;have dE:=Z (show wc.heap.size<=w2.heap.size by have:=j.o.X.size;have:=aS.size;omega);have aK:=j.o.dst.X aS (by have:=j.o.rs;have:=f.o.ta.map.lt;omega);have iM:=Z aK;obtain⟨y,bM⟩:=ik.o k u aP;have M:=Z bM;have fG:=Z (dZ.o k (WU.get WB.o bM).1);have jw:=Z V;have af:=V;have bP:nd<maxLen:=by have:=j.o.num;have:=iE.o;unfold maxLen;omega
   have bQ:=Z (j.o.zM f.o aS (j.o.src k bI u y aP bM) f.o.KY);have iO:=bQ.o.vV.one;clear bI aP fE bC aS iL bD V bM;go_wp2_with fail;refine(aZ bQ.o.dL w2).mono ?_;rintro e wt ⟨rfl,aT⟩;obtain rfl:=aT.symm;cases bT:dA y with
   |false=>
    have aV:=Z bT;clear bT;cases eF:get a k with
    |none=>
     have o:fa k=none:=by
      have h:=f.o.ta.dom k;rw[eF] at h;cases hf:fa k with
      |none=>rfl
      |some _=>rw[hf] at h;cases h
     have ax:=Z (bJ.o.trans o);have p:lh (get a k) (get b k)=some y:=by rw[eF,M.o];have h:=aV.o;cases y<;>first|rfl|(cases h;done)
     have ai:=Z p;clear eF o p;go_wp2_with (first|(at_lookup;refine aQ rfl rfl rfl aK rfl af ?_;rw[ax.o];go_frame)|(at_mapUpdate;refine bY (u:=u) rfl rfl rfl aK bP rfl af rfl ?_;intro w3 ak W bG;go_frame));have i:=Z (j.o.zN f.o au.o fF.o C.o aI.o aB.o W ak M.o aV.o ai.o);clear ak W bG;refine⟨?_,?_⟩
     .first|exact⟨_,_,_,_,_,i.o⟩|((repeat apply Exists.intro);exact⟨⟨_,_,_,_,_,i.o⟩,rfl⟩)
     .rw[i.o.fO.left_eq,aJ.o];exact C.o
    |some A=>
     obtain⟨u0,o⟩:∃u0,fa k=some u0:=by
      have h:=f.o.ta.dom k;rw[eF] at h;cases hf:fa k with
      |none=>rw[hf] at h;cases h
      |some v=>exact⟨v,rfl⟩
     have ax:=Z (bJ.o.trans o);have HO:=Z (j.o.old k (.inl au.o) u0 A o eF);have dF:=Z o;have ay:=Z eF;clear o eF;go_wp2_with (first|(at_lookup;refine aQ rfl rfl rfl aK rfl af ?_;rw[ax.o];go_frame));refine(aZ HO.o.dL w2).mono ?_;rintro e wt ⟨rfl,aT⟩;obtain rfl:=aT.symm;cases kP:dA A with
     |false=>
      have p:lh (get a k) (get b k)=some y:=by rw[ay.o,M.o];have h:=aV.o;cases y<;>first|(cases h;done)|(cases A<;>first|rfl|(cases kP;done))
      have ai:=Z p;clear kP p;go_wp2_with (first|(at_mapUpdate;refine bY (u:=u) rfl rfl rfl aK bP rfl af rfl ?_;intro w3 ak W bG;go_frame));have i:=Z (j.o.zN f.o au.o fF.o C.o aI.o aB.o W ak M.o aV.o ai.o);clear ak W bG;refine⟨?_,?_⟩
      .first|exact⟨_,_,_,_,_,i.o⟩|((repeat apply Exists.intro);exact⟨⟨_,_,_,_,_,i.o⟩,rfl⟩)
      .rw[i.o.fO.left_eq,aJ.o];exact C.o
     |true=>
      have p:lh (get a k) (get b k)=some A:=by rw[ay.o,M.o];have h:=aV.o;cases y<;>first|(cases h;done)|(cases A<;>first|rfl|(cases kP;done))
      have ai:=Z p;clear kP p;go_wp2_with (first|(refine jr rfl rfl rfl rfl ?_));refine(iR _ _ _).mono ?_;rintro e wp ⟨rfl,rfl⟩;go_wp2_with fail;have i:=Z (j.o.keep f.o (x:=A) au.o bK.o C.o aI.o aB.o ((O.refl No w2).alloc (.cells #[.iface 9 (.string k)] 20)) dF.o ay.o ai.o);refine⟨?_,?_⟩
      .first|exact⟨_,_,_,_,_,i.o⟩|((repeat apply Exists.intro);exact⟨⟨_,_,_,_,_,i.o⟩,rfl⟩)
      .rw[i.o.fO.left_eq,aJ.o];exact C.o
   |true=>
    obtain⟨yt,rfl⟩:=dm bT;obtain⟨fH,_,_,_,rfl, -, -⟩:=bQ.o.tab;have jy:=kY (.map (some fH));have fJ:=Z (WU.get WB.o M.o).2;have iP:=Z (iw.o b rfl k (.table yt) M.o);have fM:=DD (okB ok w) yt fH (Fb k) w2 (by have l:=fJ.o.len;omega) bQ.o iP.o;have iQ:=Z fM;clear bT fM;go_wp2_with fail;refine iQ.o.mono ?_;rintro e w3 ⟨g,rfl,fP,L,dG⟩;have aW:=Z fP;have aj:=Z (show bf (okB ok w) w3 (.iface 67 (.map (some g))) (.table yt) (·=g) from L.mono (λ_ _ h=>h.1));have bU:=Z dG;have aX:=iM.o.X dG id;have fQ:g≠n:=by have:=f.o.ta.map.lt;have:=dE.o;omega
    have dH:=Z fQ;clear fP L dG aK iO fQ;cases eF:get a k with
    |none=>
     have o:fa k=none:=by
      have h:=f.o.ta.dom k;rw[eF] at h;cases hf:fa k with
      |none=>rfl
      |some _=>rw[hf] at h;cases h
     have ax:=Z (bJ.o.trans o);have p:lh (get a k) (get b k)=some (.table yt):=by rw[eF,M.o];rfl
     have ai:=Z p;clear eF o p;go_wp2_with (first|(at_lookup;refine aQ rfl rfl rfl aX rfl af ?_;rw[ax.o];go_frame)|(at_mapUpdate;refine bY (u:=.iface 67 (.map (some g))) rfl rfl rfl aX bP rfl af rfl ?_;intro w4 fU aC iT;go_frame));have i:=Z (j.o.Hw f.o (y:=.table yt) (G:=(·=g)) au.o bK.o C.o aI.o aB.o bU.o (λ_ q=>q.elim) aC fU ai.o (aj.o.X aC (λy c q=>f.o.Gx (q▸c)) (λy c q=>dH.o (c.symm.trans q))) (λy c=> .inr (by have l:y=g:=c;have:=aW.o;omega)));clear fU aC iT;refine⟨?_,?_⟩
     .first|exact⟨_,_,_,_,_,i.o⟩|((repeat apply Exists.intro);exact⟨⟨_,_,_,_,_,i.o⟩,rfl⟩)
     .rw[i.o.fO.left_eq,aJ.o];exact C.o
    |some A=>
     obtain⟨u0,o⟩:∃u0,fa k=some u0:=by
      have h:=f.o.ta.dom k;rw[eF] at h;cases hf:fa k with
      |none=>rw[hf] at h;cases h
      |some v=>exact⟨v,rfl⟩
     have ax:=Z (bJ.o.trans o);have HO:=Z ((j.o.zM f.o aB.o (j.o.old k (.inl au.o) u0 A o eF) f.o.KX).X bU.o nE nE);have dF:=Z o;have ay:=Z eF;have az:∀z,(Instr.typeAssert u0 20 67 true).run Tryz.prog z=.ok (.tuple #[mapOf u0,.bool (dA A)]) z:=λz=>dP HO.o.dL
     clear o eF;cases kP:dA A with
     |false=>
      rw[kP] at az;have p:lh (get a k) (get b k)=some A:=by rw[ay.o,M.o];cases A<;>first|rfl|(cases kP;done)
      have ai:=Z p;clear kP p;go_wp2_with (first|(at_lookup;refine aQ rfl rfl rfl aX rfl af ?_;rw[ax.o];go_frame)|(refine jr rfl rfl rfl rfl ?_));refine(iR _ _ _).mono ?_;rintro e wp ⟨rfl,rfl⟩;go_wp2_with fail;have i:=Z (j.o.keep f.o (x:=A) au.o bK.o C.o aI.o aB.o (bU.o.alloc (.cells #[.iface 9 (.string k)] 20)) dF.o ay.o ai.o);refine⟨?_,?_⟩
      .first|exact⟨_,_,_,_,_,i.o⟩|((repeat apply Exists.intro);exact⟨⟨_,_,_,_,_,i.o⟩,rfl⟩)
      .rw[i.o.fO.left_eq,aJ.o];exact C.o
     |true=>
      obtain⟨xt,rfl⟩:=dm kP;obtain⟨bx,_,_,_,rfl, -, -⟩:=HO.o.tab;have gQ:∀z,(Instr.typeAssert (.iface 67 (.map (some bx))) 20 67 true).run Tryz.prog z=.ok (.tuple #[.map (some bx),.bool true]) z:=az;have fV:aY.size<=1000000000000000000:=by have:=dY.o;omega
      have fZ:k.size<=1000000000000000000:=by have h:=fG.o;unfold fK at h;omega
      have iU:=Z (gV aY k w3 fV fZ);clear az kP fV fZ;go_wp2_with (first|(at_lookup;refine aQ rfl rfl rfl aX rfl af ?_;rw[ax.o];go_frame));refine iU.o.mono ?_;rintro e wt ⟨⟨sx,rfl,iV⟩,aT⟩;obtain rfl:=aT.symm;have aH:=jY U N hN dZ.o true d (okB ok w) yt xt g bx (·=g) (Fa k) w3 sx aj.o HO.o (λy c iW=>by have l:y=g:=c;have h2:=f.o.KX y iW;have:=dE.o;have:=aW.o;omega) (λy c q=>c.elim (λl=>by have l:y=g:=l;have:=f.o.oQ y q;have:=dE.o;have:=aW.o;omega) (λl=>(f.o.mb k y l).2.2.2 q)) fJ.o (WU.get WA.o ay.o).2 (by have l:=dY.o;have h2:=fG.o;unfold fK at h2;omega);have bF:=Z aH;clear aH iV;go_wp2_with fail;refine bF.o.mono ?_;rintro e w4 ⟨rfl,S',gm,gp,aC⟩;have iY:=aX.X aC (λq=>q.elim (λq=>dH.o q.symm) (λq=>(f.o.mb k n q).1 rfl));have iZ:=Z gm;have gq:=Z gp;have ja:=Z aC;clear gm gp aC;go_wp2_with (first|(at_mapUpdate;refine bY (u:=.iface 67 (.map (some g))) rfl rfl rfl iY bP rfl af rfl ?_;intro w5 gu dI jb;go_frame));have i:=Z (j.o.Hw f.o (y:=.table (bV true yt xt)) (S:=λy=>Fa k y∨w2.heap.size<=y) (G:=S') au.o bK.o C.o aI.o aB.o ((bU.o.mono (λ_ _ q=>q.elim)).trans ja.o (λy c q=>q.elim (λq=> .inr (by have l:y=g:=q;have:=aW.o;omega)) .inl)) (λy q=>q) dI gu (by rw[ay.o,M.o];rfl) (iZ.o.X dI (λy c q=>f.o.Gx (q▸c)) (λy c q=>by have l:y=n:=q;subst l;exact(gq.o y c).elim (λq=>dH.o q.symm) (λq=>(f.o.mb k y q).1 rfl))) (λy c=>(gq.o y c).elim (λq=> .inr (by have l:y=g:=q;have:=aW.o;omega)) .inl));clear gu dI jb;refine⟨?_,?_⟩
      .first|exact⟨_,_,_,_,_,i.o⟩|((repeat apply Exists.intro);exact⟨⟨_,_,_,_,_,i.o⟩,rfl⟩)
      .rw[i.o.fO.left_eq,aJ.o];exact C.o
def iW(U:List K)(N D:Nat):Nat→Ch→Prop
 |0,_=>False
 |h+1,c=>fK c.name∧c.name∈U∧c.name≠gK∧(∀t,c.vals=.table t→WU U N D (.table t)∧dC (.table t))∧(c.deps.map Ch.name).Nodup∧∀d∈c.deps,iW U N D h d
def pO(U:List K)(N:Nat)(ok c:ae)(w:World)(ba:Nat):Option T→Ending→World→Prop
 |none,e,a=>(∃d b,e=.returned (.tuple #[d,.iface 175 (.pointer (some ⟨b,0,none⟩))]))∧O c w a
 |some t,e,a=>e=.returned (.tuple #[.map (some ba),.nilIface])∧EX ok c w a (.iface 67 (.map (some ba))) (.table t)∧∃E,WU U N E (.table t)
theorem EX.full{ok b:ae}{w c:World}{v:Value}{j:J}(h:EX ok b w c v j)(g:∀x,b x→¬ok x):
  ∃R S,bf R c v j S∧(∀x,R x→x<c.heap.size∧(okB ok w x∨w.heap.size<=x))∧(∀x,okB ok w x→R x)∧(∀x,S x→b x∨w.heap.size<=x)∧(∀x,R x→¬S x)∧O b w c:=by
 obtain⟨R,S,i,k,d,l,e⟩:=h;have m:=e.size;refine⟨λx=>R x∨okB ok w x,S,i.mono (λx _ a=> .inl a),λx a=> ?_,λx a=> .inr a,d,λx a f=> ?_,e⟩
 .rcases a with a|a
  .exact k x a
  .exact⟨by have:=a.2;omega,.inl a⟩
 .rcases a with a|a
  .exact l x a f
  .rcases d x f with q|q
   .exact g x q a.1
   .have:=a.2;omega
theorem pO.trans{U:List K}{N:Nat}{ok a R S:ae}{w b:World}{ba:Nat}(k:∀x,R x→x<b.heap.size∧(okB ok w x∨w.heap.size<=x))(d:∀x,S x→a x∨w.heap.size<=x)(f:O a w b){r:Option T}{e:Ending}{w2:World}
  (h:pO U N R S b ba r e w2):pO U N ok a w ba r e w2:=by
 have z:=f.size;have g:∀{w2:World},O S b w2→O a w w2:=λh=>f.trans h (λi l q=>(d i q).elim id (λq=>absurd q (Nat.not_le.2 l)))
 cases r with
 |none=>exact⟨h.1,g h.2⟩
 |some t=>
  obtain⟨m,⟨n,o,p,j,s,u,v⟩,y⟩:=h;refine⟨m,⟨n,o,p,λx c=>⟨(j x c).1,?_⟩,λx c=> ?_,u,g v⟩,y⟩
  .rcases(j x c).2 with q|q
   .exact(k x q.1).2
   .exact .inr (by omega)
  .rcases s x c with q|q
   .exact d x q
   .exact .inr (by omega)
structure CD (U:List K) (N:Nat) (m:Bool) (ok Sa:ae) (w:World) (ba:Nat) (deps:List Ch) (v:T) (n:Nat) (out:T) (R S:ae) (wr:World):Prop where
 le:n<=deps.length
 own:bf R wr (.iface 67 (.map (some ba))) (.table out) S
 rb:∀x,R x→x<wr.heap.size∧(okB ok w x∨w.heap.size<=x)
 NI:∀x,okB ok w x→R x
 sb:∀x,S x→Sa x∨w.heap.size<=x
 rs:∀x,R x→¬S x
 X:O Sa w wr
 all:ja m (deps.drop n) out=ja m deps v
 same:∀k,k∉(deps.take n).map Ch.name→get out k=get v k
 wu:∃E,WU U N E (.table out)
structure CJ (R S:ae) (wr:World) (out:T) (nm:K) (ba:Nat) (wc:World) (n1:Nat) (f1:K→Option Value) (F1:K→ae) (bd:Nat) (x1 Hy:T):Prop where
 tab:iC R wc ba n1 f1 Hy F1
 at_:f1 nm=some (.iface 67 (.map (some bd)))
 NJ:get Hy nm=some (.table x1)
 DF:bH out nm=some x1
 MS:∀k,k≠nm→get Hy k=get out k
 NK:Sorted Hy
 len:n1<2199023255552
 sub:∀x,fC ba F1 x→S x∨wr.heap.size<=x
 X:O S wr wc
theorem CD.step{U:List K}{N:Nat}{m:Bool}{ok p:ae}{w:World}{ba:Nat}{l:List Ch}{v:T}{n:Nat}{f:T}{R S:ae}{wr:World}(h:CD U N m ok p w ba l v n f R S wr){b:Ch}(H:l[n]?=some b)
  {wc:World} {n1:Nat} {I:K→Option Value} {c:K→ae} {s:Nat} {x1 J:T} (j:CJ R S wr f b.name ba wc n1 I c s x1 J) {w2 w3 t:World} {S':ae} (L:∀x,S' x→c b.name x∨wc.heap.size<=x) (M:O (c b.name) wc w2) {y:T}
  (ho:EX R S' w2 w3 (.iface 67 (.map (some s))) (.table y)) {n4:Nat} (hm:aU t ba n4 (λz=>if z=b.name then some (.iface 67 (.map (some s))) else I z)) (u:O (·=ba) w3 t)
  (ai:ja m (l.drop n) f=ja m (l.drop (n+1)) (ins f b.name (.table y))) (aj:∃E,WU U N E (.table y)) (ak:b.name∈U):∃R4 S4,CD U N m ok p w ba l v (n+1) (ins f b.name (.table y)) R4 S4 t:=by
 obtain⟨A,D,h1,P,h3,h4,Q⟩:=ho;have aF:=h.X.size;have aG:=j.X.size;have aH:=M.size;have aI:=Q.size;have aJ:=u.size;have au:∀k x,c k x→x<wc.heap.size:=λk x a=>j.tab.lt (.inr ⟨k,a⟩)
 have aK:ba<wc.heap.size:=j.tab.lt (.inl rfl);have g:∀x,R x→¬fC ba c x:=λx a o=>by
  rcases j.sub x o with q|q
  .exact h.rs x a q
  .have:=(h.rb x a).1;omega
 have B:∀x,D x→c b.name x∨wc.heap.size<=x:=λx a=>by
  rcases h3 x a with q|q
  .exact L x q
  .exact .inr (by omega)
 have V:O (λx=>c b.name x∨wc.heap.size<=x) wc w3:=(M.mono (λ_ _ q=> .inl q)).trans Q (λi hi q=>L i q);have F:∀x,A x→R x∨w2.heap.size<=x:=λx a=>(P x a).2.imp (λq=>q.1) id
 have ax:∀k x,A x→¬c k x:=λk x a o=>by
  rcases F x a with q|q
  .exact g x q (.inr ⟨k,o⟩)
  .have:=au k x o;omega
 have W:∀x,A x→x≠ba:=λx a e=>by
  rcases F x a with q|q
  .exact g x q (.inl e)
  .omega
 have ay:bf (λx=>R x∨A x) t (.iface 67 (.map (some s))) (.table y) D:=(h1.X u (λx a q=>W x a q) (λx a q=>by
  have q1:x=ba:=q;rcases B x a with d|d
  .exact j.tab.kF _ (q1▸d)
  .omega)).mono (λx _ a=> .inr a)
 have hT:=su (k:=b.name) j.tab j.NK V (λ_ q=>q) (λx a=>⟨by have:=(h.rb x a).1;omega,λq=>g x a (.inr ⟨_,q⟩),λq=>g x a (.inl q)⟩) (λx a=> .inl a) u hm ay B;have az:ins J b.name (.table y)=ins f b.name (.table y):=by
  obtain⟨E,G⟩:=h.wu;refine rC (kR _ _ j.NK) (kR _ _ G.sorted) λk=> ?_
  rw[jy,jy];by_cases e:b.name=k
  .rw[if_pos e,if_pos e]
  .rw[if_neg e,if_neg e,j.MS k (λq=>e q.symm)]
 rw[az] at hT;have aA:n<l.length:=(gS'.1 H).1;have aB:∀x,fC ba (λz=>if z=b.name then D else c z) x→p x∨w.heap.size<=x:=λx a=>by
  have r:∀x,S x∨wr.heap.size<=x→p x∨w.heap.size<=x:=λx a=>a.elim (h.sb x) (λq=> .inr (by omega))
  rcases a with q|⟨k,q⟩
  .exact r x (j.sub x (.inl q))
  .by_cases e:k=b.name
   .rw[if_pos e] at q;rcases B x q with d|d
    .exact r x (j.sub x (.inr ⟨_,d⟩))
    .exact .inr (by omega)
   .rw[if_neg e] at q;exact r x (j.sub x (.inr ⟨k,q⟩))
 refine⟨_,_,aA,hT.any,λx a=> ?_,λx a=> .inl (h.NI x a),aB,λx a r=> ?_,?_,ai.symm.trans h.all,λk C=> ?_,?_⟩
 .rcases a with a|a
  .exact⟨by have:=(h.rb x a).1;omega,(h.rb x a).2⟩
  .refine⟨by have:=(P x a).1;omega,?_⟩;rcases F x a with q|q
   .exact(h.rb x q).2
   .exact .inr (by omega)
 .rcases r with q|⟨k,q⟩
  .rcases a with a|a
   .exact g x a (.inl q)
   .exact W x a q
  .by_cases e:k=b.name
   .rw[if_pos e] at q;rcases a with a|a
    .rcases B x q with d|d
     .exact g x a (.inr ⟨_,d⟩)
     .have:=(h.rb x a).1;omega
    .exact h4 x a q
   .rw[if_neg e] at q;rcases a with a|a
    .exact g x a (.inr ⟨k,q⟩)
    .exact ax k x a q
 .have af:∀x,x<w.heap.size→fC ba c x→p x:=λx a o=>by
   rcases j.sub x o with q|q
   .rcases h.sb x q with q|q
    .exact q
    .omega
   .omega
  refine(((h.X.trans j.X (λx a q=>(h.sb x q).elim id (λq=>by omega))).trans V (λx a q=> ?_)).trans u (λx a q=>af x a (.inl q)));rcases q with q|q
  .exact af x a (.inr ⟨_,q⟩)
  .omega
 .rw[List.take_add_one,H] at C;simp only[Option.toList_some,List.map_append,List.map_cons,List.map_nil,List.mem_append,List.mem_singleton,not_or] at C;rw[jy,if_neg (λq=>C.2 q.symm)];exact h.same k C.1
 .obtain⟨E,G⟩:=h.wu;obtain⟨E2,aC⟩:=aj;have h6:WU U N (E+E2+1) (.table f):=G.mono (λ_ h=>h) lR' (by omega);exact⟨E+E2+1,h6.ins ak (aC.mono (λ_ h=>h) lR' (by omega))⟩
end Go.Proofs.YtljaoopfomcaoaaGreatDoor
