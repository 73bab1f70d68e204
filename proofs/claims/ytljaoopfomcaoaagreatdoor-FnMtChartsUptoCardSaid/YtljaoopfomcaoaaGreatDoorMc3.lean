/- A part of the proof. -/
import Derived.Test.YtljaoopfomcaoaaGreatDoorMc2
set_option linter.unusedVariables false
set_option linter.unusedSimpArgs false
set_option maxRecDepth 100000
set_option maxHeartbeats 4000000
namespace Go.Proofs.YtljaoopfomcaoaaGreatDoor
open Go.RowKit
theorem II{kvs:T}{a:K}{n:Nat}{p:K × J}(b:kvs[n]?=some p)(c:p.1=a):del (kvs.take (n+1)) a=del (kvs.take n) a:=by rw[List.take_add_one,b];simp[del,c]
theorem IJ{kvs:T}{a:K}{n:Nat}{p:K × J}(b:kvs[n]?=some p)(c:p.1≠a):del (kvs.take (n+1)) a=del (kvs.take n) a++[p]:=by rw[List.take_add_one,b];simp[del,c]
theorem JC(kvs:T)(a:K)(n:Nat):(del (kvs.take n) a).length<=n:=
 Nat.le_trans (List.length_filter_le _ _) (List.length_take_le _ _)
theorem vO(ok:ae)(kvs:T)(I:K)(b:Bool)(i:Int)(f:Nat)(t:K)(G H:Value)(w:World)
  (h:aG ok w (ai 7 b i f t G H) (.table kvs)) (hn:kvs.length<1099511627776):
  Calls Tryz.prog 52 #[.agg (ai 7 b i f t G H).toArray,.string I] w λe J=>∃cs,e=.returned (.agg cs.toArray)∧aG (λb=>ok b∨w.heap.size<=b) J cs (.table (del kvs I))∧O No w J:=by
 cases h with
 |@table _ _ _ _ _ _ L _ v E bG hr=>
 have HK:=Z v;have HL:=Z E;obtain⟨-, -,ka,kc,rfl, -, -⟩:=v;obtain⟨-, -,la,lc,rfl, -, -⟩:=E;simp only[List.length_map] at HK⊢;have HR:=Z hr;have HN:=Z bG;clear hr bG;have dG:=kN 7;go_enter Tryz.func52,Tryz.ntmps52;unfold ai;go_wp2_with fail;obtain⟨g1,aJ⟩:∃g1,g1=w.heap.size+1:=⟨_,rfl⟩;obtain⟨A,aH⟩:∃A,A=w.heap.size+1+1:=⟨_,rfl⟩;rw[←aH,←aJ];obtain⟨ak,aQ⟩:∃ak,ak=[(w.heap.size,ai 7 b i f t (Value.slice ka (List.length kvs) kc) (Value.slice la L.length lc)),(g1,bu)]:=⟨_,rfl⟩;go_loopw [12] (λc wr=>∃(n:Nat) (az:List (Y)) (G H:Value),n<=kvs.length∧c=.int .i64 n∧
   nI ok w wr ak A (A+1) (del (kvs.take n) I) az G H) (λc _=>kvs.length - (intOf c).toNat)
 case atStart=>
  refine⟨0,[],.slice none 0 0,.slice none 0 0,zL',rfl,⟨(((O.refl _ _).alloc _).alloc _).alloc _,by omega,by omega,by simp[aH],?_,?_,aB.nil _ _ _ _,aB.nil _ _ _ _,rfl,by simp⟩⟩
  .subst aQ;intro p M;simp only[List.mem_cons,List.mem_nil_iff,or_false] at M;rcases M with rfl|rfl
   .exact⟨((ay.new _ _ _).alloc _).alloc _,by simp;omega,by simp;omega⟩
   .exact⟨(ay.newAt (by simp[aJ]) _ _).alloc _,by simp;omega,by simp;omega⟩
  .exact ay.newAt (by simp[aH]) _ _
 case round=>
  obtain⟨n,az,G,H,dH,rfl,hi⟩:=hrel;obtain⟨aC,aK⟩:∃aC,aC=del (kvs.take n) I:=⟨_,rfl⟩;rw[←aK] at hi;have aU:=Z aK;have F:=Z hi;have bH:=Z aJ;have bM:=Z aH;have HB:=Z aQ;have bI:aC.length<=n:=by rw[aK];exact JC _ _ _
  clear hi aJ aH aQ aK;have m0:(w.heap.size,ai 7 b i f t (Value.slice ka (List.length kvs) kc) (Value.slice la L.length lc))∈ak:=by rw[HB.o];exact .head _
  have m1:(g1,bu)∈ak:=by rw[HB.o];exact .tail _ (.head _)
  have M0:=Z m0;have M1:=Z m1;clear m0 m1;by_cases aN:n<kvs.length
  .obtain⟨p,M⟩:=gX' kvs n (aN);have bP:n<L.length:=by rw[HN.o];exact aN
   obtain⟨r,aW⟩:=gX' L n (bP);obtain⟨kb,ko,rfl,dI,aY⟩:=HK.o.at (i:=n) (r:=[.string p.1]) (by simp[M]);obtain⟨lb,lo,rfl,dJ,bK⟩:=HL.o.at (i:=n) (r:=r) aW;have aY:=(aY.X F.o.X id).one;simp only[Nat.mul_one] at aY;have bQ:=bK;have aZ:=Z (HR.o n r p aW M);obtain⟨N,P,Q,R,S,U,W,rfl⟩:=aZ.o.seven;have bT:(ai N P Q R S U W).length=7:=rfl;have HP:=Z M;have dK:(n:Int)<9223372036854775808:=(by omega);have dL:(n:Int)<(L.length:Int):=(by omega);clear M aW bK;by_cases aF:p.1=I
   .have bV:(p.1.toList==I.toList)=true:=by rw[aS];simpa using aF
    have bf:=Z aF;clear aF;go_wp2_with fail;go_roundw;case rel=>exact⟨n+1,az,G,H,by omega,by go_num,by rw[II HP.o bf.o,←aU.o];exact F.o⟩
    case measure=>simp[intOf];omega
   .have bV:(p.1.toList==I.toList)=false:=by rw[aS];simpa using aF
    have bf:=Z aF;clear aF;go_wp2_with fail;refine aT (FI [.eq (.pointer (some ⟨A,5,none⟩)),.eq G,.eq (.string p.1),.ng wr.heap.size [.string p.1] 9,.own (A+1) 9 1 (gp aC++[[.string p.1]]),.eq (.pointer (some ⟨A,6,none⟩)),.eq H,.eq (.pointer (some ⟨w.heap.size,6,none⟩)),.eq (.slice (some ⟨lb,lo,none⟩) L.length lc),.eq (.int .i64 n),.eq (.pointer (some ⟨lb,lo+n*7,none⟩)),.eq (.agg (ai N P Q R S U W).toArray),.ng wr.heap.size (ai N P Q R S U W) 26,.own (A+1) 26 7 (az++[(ai N P Q R S U W)]),.eq (.pointer (some ⟨A,5,none⟩)),.any,.eq (.pointer (some ⟨A,6,none⟩)),.any])
     (λs J=>eP ok w J wr.heap.size ak A (A+1) aC az G H p.1 (ai N P Q R S U W) (s 15) (s 17))
     (by kernel_rfl) (by kernel_rfl) (F.o.mid _ _) ?_ ?_
    .refine⟨?_,?_,?_,?_,?_,?_,?_,?_,?_,?_,?_,?_,?_,?_,?_,?_,?_,?_,trivial⟩
     .intro s a y K x o g m l d q;have e5:a.tmps[5]?.getD undef=.pointer (some ⟨A,0,none⟩):=m 5 rfl;clear o g m l;go_simp;exact q _ _ rfl (by simpa[dn] using d) Sy
     .intro s a y K x o g m l d q;have dM:=fq (g 0 20 rfl (l 0 rfl));have af:s 15=false:=by
       cases h:s 15 with
       |false=>rfl
       |true=>have:=o 15 1 rfl h;rw[x] at this;cases this
      obtain⟨k',l',D,h1, -⟩:=d.b;rw[af] at h1;obtain rfl:k'=G:=h1;have c5:y.cell? ⟨A,5,none⟩=some k':=D.cell 5;clear o g m l;go_simp;exact q _ _ rfl (by simpa[dn] using d) Sy
     .intro s a y K x o g m l d q;have e7:a.tmps[7]?.getD undef=.string p.1:=m 7 rfl;clear o g m l;go_simp;exact q _ _ rfl (by simpa[dn] using d) Sy
     .intro s a y K x o g m l d q;have dN:=fq (g 2 22 rfl (l 2 rfl));clear o g m l;go_simp;refine q _ _ ⟨_,rfl,d.lu,ay.new _ [.string p.1] _⟩ (by simpa[dn] using d.df ((O.refl _ _).alloc _)) (λ_ _ _ _ h=>h.aP ((O.refl _ _).alloc _))
     .intro s a y K x o g m l d q;have bW:=fq (g 1 21 rfl (l 1 rfl));obtain⟨t,bY,aN,bg⟩:=g 3 23 rfl (l 3 rfl);have af:s 15=false:=by
       cases h:s 15 with
       |false=>rfl
       |true=>have:=o 15 4 rfl h;rw[x] at this;cases this
      have aj:s 17=false:=by
       cases h:s 17 with
       |false=>rfl
       |true=>have:=o 17 4 rfl h;rw[x] at this;cases this
      rw[af,aj] at d;refine ax rfl ?_;refine bJ iK rfl (vE bW) d.ck (vE bY) (bg.kT rfl) (by simp[Value.oneCell']) (by simp only[gp,List.length_map,List.length_singleton];have:=bI;omega) (by decide) (Nat.le_trans d.bb d.lu) λv' J C B hB bn=> ?_
      have bz:=d.cl.X B (λk v bC=>d.ck.apart d.cl (by decide) bC v);refine q v' J C (by simpa[dn,af,aj] using d.app B (λk v=>(d.ck.elem v).1) bn bz) ?_;refine λj z _ u hu=>hu.keep B (aV (i:=4) (λj E z=> ?_) j z)
      match j,z with
      |0,_|1,_|2,_=>exact trivial
      |3,_=>exact λk v=>d.tZ k v
      |4,z=>exact absurd rfl z
      |5,_|6,_|7,_|8,_|9,_|10,_|11,_=>exact trivial
      |12,_=>exact λk v=>d.tZ k v
      |13,_=>exact λk v _=>d.ck.iL (by decide) v
      |14,_|15,_|16,_|17,_=>exact trivial
      |j+18,_=>exact absurd E (by simp)
     .intro s a y K x o g m l d q;have e5:a.tmps[5]?.getD undef=.pointer (some ⟨A,0,none⟩):=m 5 rfl;clear o g m l;go_simp;exact q _ _ rfl (by simpa[dn] using d) Sy
     .intro s a y K x o g m l d q;have dO:=fq (g 5 25 rfl (l 5 rfl));have aj:s 17=false:=by
       cases h:s 17 with
       |false=>rfl
       |true=>have:=o 17 6 rfl h;rw[x] at this;cases this
      obtain⟨k',l',D, -,h2⟩:=d.b;rw[aj] at h2;obtain rfl:l'=H:=h2;have c6:y.cell? ⟨A,6,none⟩=some l':=D.cell 6;clear o g m l;go_simp;exact q _ _ rfl (by simpa[dn] using d) Sy
     .intro s a y K x o g m l d q;have e2:a.tmps[2]?.getD undef=.pointer (some ⟨w.heap.size,0,none⟩):=m 2 rfl;clear o g m l;go_simp;exact q _ _ rfl (by simpa[dn] using d) Sy
     .intro s a y K x o g m l d q;have dP:=fq (g 7 27 rfl (l 7 rfl));have c6:y.cell? ⟨w.heap.size,6,none⟩=some (.slice (some ⟨lb,lo,none⟩) L.length lc):=(d.bs _ M0.o).1.cell 6;clear o g m l;go_simp;exact q _ _ rfl (by simpa[dn] using d) Sy
     .intro s a y K x o g m l d q;have e6:a.tmps[6]?.getD undef=.int .i64 n:=m 6 rfl;clear o g m l;go_simp;exact q _ _ rfl (by simpa[dn] using d) Sy
     .intro s a y K x o g m l d q;have dQ:=fq (g 8 28 rfl (l 8 rfl));have dR:=fq (g 9 29 rfl (l 9 rfl));clear o g m l;go_simp;exact q _ _ rfl (by simpa[dn] using d) Sy
     .intro s a y K x o g m l d q;have bZ:=fq (g 10 30 rfl (l 10 rfl));refine ax rfl ?_;refine aO au rfl (vE bZ) (bQ.X d.X id) bT ?_;exact q _ _ rfl (by simpa[dn] using d) Sy
     .intro s a y K x o g m l d q;have cu:=fq (g 11 31 rfl (l 11 rfl));clear o g m l;unfold ai at cu;go_simp;refine q _ _ ⟨_,rfl,d.lu,ay.new _ (ai N P Q R S U W) _⟩ (by simpa[dn] using d.df ((O.refl _ _).alloc _)) (λ_ _ _ _ h=>h.aP ((O.refl _ _).alloc _))
     .intro s a y K x o g m l d q;have cO:=fq (g 6 26 rfl (l 6 rfl));obtain⟨t,cZ,aN,bg⟩:=g 12 32 rfl (l 12 rfl);have af:s 15=false:=by
       cases h:s 15 with
       |false=>rfl
       |true=>have:=o 15 13 rfl h;rw[x] at this;cases this
      have aj:s 17=false:=by
       cases h:s 17 with
       |false=>rfl
       |true=>have:=o 17 13 rfl h;rw[x] at this;cases this
      rw[af,aj] at d;refine ax rfl ?_;refine bJ nC rfl (vE cO) d.cl (vE cZ) (bg.kT rfl) (by intro r hr;obtain rfl:=List.mem_singleton.1 hr;exact aZ.o.one) (by simp only[List.length_singleton];have:=bI;have:=F.o.rv.1;omega) (by decide) (Nat.le_trans d.bb d.lu) λv' J C B hB bn=> ?_
      have bz:=d.ck.X B (λk v bC=>d.cl.apart d.ck (by decide) bC v);refine q v' J C (by simpa[dn,af,aj] using d.app B (λk v=>(d.cl.elem v).1) bz bn) ?_;refine λj z _ u hu=>hu.keep B (aV (i:=13) (λj E z=> ?_) j z)
      match j,z with
      |0,_|1,_|2,_=>exact trivial
      |3,_=>exact λk v=>d.uf k v
      |4,_=>exact λk v _=>d.cl.iL (by decide) v
      |5,_|6,_|7,_|8,_|9,_|10,_|11,_=>exact trivial
      |12,_=>exact λk v=>d.uf k v
      |13,z=>exact absurd rfl z
      |14,_|15,_|16,_|17,_=>exact trivial
      |j+18,_=>exact absurd E (by simp)
     .intro s a y K x o g m l d q;have e5:a.tmps[5]?.getD undef=.pointer (some ⟨A,0,none⟩):=m 5 rfl;clear o g m l;go_simp;exact q _ _ rfl (by simpa[dn] using d) Sy
     .intro s a y K x o g m l d q;have dS:=fq (g 14 34 rfl (l 14 rfl));have C:=g 4 24 rfl (l 4 rfl);obtain⟨sa,sn,sc,hv⟩:=aB.slice C;rw[x] at d;obtain⟨k',l',D, -, -⟩:=d.b;have c5:y.cell? ⟨A,5,none⟩=some k':=D.cell 5;have f5:y.frozen? ⟨A,5,none⟩=false:=D.frozen 5;change aB _ _ _ _ _ _ at C;rw[hv] at C;have dU:=hv;obtain⟨aI,B⟩:=d.tH C;have bD:=Z aI;have bF:=Z B;have dh:=d.gb;have di:=Nat.lt_of_lt_of_le d.gb d.bb;clear o g m l;clear hv d C aI B;go_simp;refine q undef _ trivial (by simpa[dn] using bD.o) ?_;have B:=bF.o;refine λj z _ u hu=>hu.keep B (aV (i:=15) (λj E z=> ?_) j z)
      match j,z with
      |0,_|1,_|2,_=>exact trivial
      |3,_=>exact λk v=>by omega
      |4,_=>exact λk v D=>by omega
      |5,_|6,_|7,_|8,_|9,_|10,_|11,_=>exact trivial
      |12,_=>exact λk v=>by omega
      |13,_=>exact λk v D=>by omega
      |14,_=>exact trivial
      |15,z=>exact absurd rfl z
      |16,_|17,_=>exact trivial
      |j+18,_=>exact absurd E (by simp)
     .intro s a y K x o g m l d q;have e5:a.tmps[5]?.getD undef=.pointer (some ⟨A,0,none⟩):=m 5 rfl;clear o g m l;go_simp;exact q _ _ rfl (by simpa[dn] using d) Sy
     .intro s a y K x o g m l d q;have dV:=fq (g 16 35 rfl (l 16 rfl));have C:=g 13 33 rfl (l 13 rfl);obtain⟨sa,sn,sc,hv⟩:=aB.slice C;rw[x] at d;obtain⟨k',l',D, -, -⟩:=d.b;have c5:y.cell? ⟨A,6,none⟩=some l':=D.cell 6;have f5:y.frozen? ⟨A,6,none⟩=false:=D.frozen 6;change aB _ _ _ _ _ _ at C;rw[hv] at C;have dW:=hv;obtain⟨aI,B⟩:=d.tJ C;have bD:=Z aI;have bF:=Z B;have dh:=d.gb;have di:=Nat.lt_of_lt_of_le d.gb d.bb;clear o g m l;clear hv d C aI B;go_simp;refine q undef _ trivial (by simpa[dn] using bD.o) ?_;have B:=bF.o;refine λj z _ u hu=>hu.keep B (aV (i:=17) (λj E z=> ?_) j z)
      match j,z with
      |0,_|1,_|2,_=>exact trivial
      |3,_=>exact λk v=>by omega
      |4,_=>exact λk v D=>by omega
      |5,_|6,_|7,_|8,_|9,_|10,_|11,_=>exact trivial
      |12,_=>exact λk v=>by omega
      |13,_=>exact λk v D=>by omega
      |14,_|15,_|16,_=>exact trivial
      |17,z=>exact absurd rfl z
      |j+18,_=>exact absurd E (by simp)
    .intro vs w2 dm _ d;obtain⟨k9,l9,h9⟩:=eP.o d F.o.rv aZ.o;have H9:=Z h9;clear h9 d dm;simp only[aX,Act.put,List.setIfInBounds_toArray,List.set_cons_succ,List.set_cons_zero];go_wp2_with fail;go_roundw;case rel=>exact⟨n+1,az++[(ai N P Q R S U W)],k9,l9,by omega,by go_num,by rw[IJ HP.o bf.o,←aU.o];exact H9.o⟩
     case measure=>simp[intOf];omega
  .obtain rfl:n=kvs.length:=(by omega);have dw:=F.o.b;have dA:=(F.o.bs _ M1.o).1;have dB:=gU (k:=7) (b:=false) (i:=0) (f:=0) (t:=ByteArray.empty) F.o.ck.rowAt.one F.o.cl.rowAt.one;go_wp2_with (first|(refine V rfl au rfl rfl dw.cells rfl ?_)|(refine aA rfl au rfl rfl rfl dA rfl rfl dB ?_;intro w4 dC dD dX));obtain⟨dE,dF⟩:=F.o.done dD (by rw[bH.o];omega) (by rw[bH.o,bM.o];omega);refine bodyPost_ret (bU rfl au rfl dC rfl) rfl ⟨_,rfl,?_,dF⟩;rw[show del kvs I=aC by rw[aU.o,List.take_length]];exact dE
theorem gB{P:Program}{f:FuncId}(j:∀(args:Array Value)(w:World),(callFunc f args).run P w=.ok (.enter f args) w){o:Oper}{a:Act}{w:World}{K:ag}{Q:ah}{x y z:Operand}{ts:Array TypeId}(k:o.op=.call {callee:=.value (.func f),args:=#[x,y,z],argTypes:=ts})
  {u d v:Value} (c:a.eval x=u) (g:a.eval y=d) (i:a.eval z=v) {R:Ending→World→Prop} (l:Calls P f #[u,d,v] w R) (h:∀e b,R e b→∃v,e=.returned v∧K (a.put o.dst v) b):o.wp P a w K Q:=by
 unfold Oper.wp;have m:(execOp a.eval o).run P w=.ok (.enter f #[u,d,v]) w:=by simp only[execOp,k,List.map_toArray,List.map_cons,List.map_nil,c,g,i];simp[resolve,Act.eval,go_sem,j];exact⟨by rw[←c];cases x<;>simp[Act.eval],by rw[←g];cases y<;>simp[Act.eval],by rw[←i];cases z<;>simp[Act.eval]⟩
 rw[m,Oper.upon_enter];refine l.mono λe b n=> ?_
 obtain⟨v,rfl,p⟩:=h e b n;exact p
theorem aG.oH{ok:ae}{w:World}{k b i f t kv lv}{j:J}(h:aG ok w (ai k b i f t kv lv) j):(k=0→j=.null)∧(k=7→dA j=true)∧(j=.null→k=0)∧(dA j=true→k=7):=by cases h<;>simp[dA]
theorem rV{b:T}{n:Nat}{p:K × J}(c:Sorted b)(d:b[n]?=some p):get (b.take n) p.1=none:=by
 have f:b.take (n+1)=b.take n++[p]:=by rw[List.take_add_one,d];rfl
 have a:=nD c (n+1);rw[f] at a;refine vz (λq g e=> ?_);exact ny ((List.pairwise_append.1 a).2.2 q g p (by simp)) e
theorem oI{b:T}{n:Nat}{p:K × J}(c:Sorted b)(d:b[n]?=some p)(k:K):get (b.take (n+1)) k=if p.1=k then some p.2 else get (b.take n) k:=by
 have e:b.take (n+1)=b.take n++[p]:=by rw[List.take_add_one,d];rfl
 have a:=nD c (n+1);rw[e] at a⊢;exact wZ a k
structure Told (F:T→T) (at_:K→Option J→Option J):Prop where
 sorted:∀b,Sorted (F b)
 get:∀b k,Go.Proofs.YtljaoopfomcaoaaGreatDoor.get (F b) k=at_ k (Go.Proofs.YtljaoopfomcaoaaGreatDoor.get b k)
section
variable {F:T→T} {at_:K→Option J→Option J} {b:T} {n:Nat} {p:K × J}
theorem Told.same(h:Told F at_)(a:Sorted b)(c:b[n]?=some p)(d:at_ p.1 (some p.2)=at_ p.1 none):F (b.take (n+1))=F (b.take n):=by
 refine rC (h.sorted _) (h.sorted _) λk=> ?_
 rw[h.get,h.get,oI a c];by_cases e:p.1=k
 .subst e;rw[if_pos rfl,rV a c,d]
 .rw[if_neg e]
theorem Told.ins(h:Told F at_)(a:Sorted b)(c:b[n]?=some p){z:J}(d:at_ p.1 (some p.2)=some z):F (b.take (n+1))=ins (F (b.take n)) p.1 z:=by
 refine rC (h.sorted _) (kR _ _ (h.sorted _)) λk=> ?_
 rw[h.get,jy,h.get,oI a c];by_cases e:p.1=k
 .subst e;rw[if_pos rfl,if_pos rfl,d]
 .rw[if_neg e,if_neg e]
theorem Told.del(h:Told F at_)(a:Sorted b)(c:b[n]?=some p)(d:at_ p.1 (some p.2)=none):F (b.take (n+1))=del (F (b.take n)) p.1:=by
 refine rC (h.sorted _) (sorted_del _ (h.sorted _)) λk=> ?_
 rw[h.get,Jn,h.get,oI a c];by_cases e:p.1=k
 .subst e;rw[if_pos rfl,if_pos rfl,d]
 .rw[if_neg e,if_neg e]
theorem Told.start(h:Told F at_){a:T}(c:Sorted a)(d:∀k,at_ k none=Go.Proofs.YtljaoopfomcaoaaGreatDoor.get a k):F (b.take 0)=a:=by
 refine rC (h.sorted _) c λk=> ?_
 rw[h.get];exact d k
end
theorem Gj(m:Bool)(a:T):Told (bV m a) (λk y=>dM m (get a k) y):=⟨vF m a,kS m a⟩
theorem Gl(m:Bool)(a:K→Bool)(v:T):Told (over m a v) (λk y=>jo m (a k) (get v k) y):=⟨qi m a v,pF m a v⟩
theorem EL(a:T):Told (jH a) (λk y=>lh (get a k) y):=⟨um a,lU a⟩
theorem vP(m:Bool)(x:Option J):dM m x none=x:=by
 cases x with
 |none=>rfl
 |some x=>cases x<;>rfl
theorem qx(m a:Bool)(x:Option J):jo m a x none=x:=by
 cases x with
 |none=>rfl
 |some x=>cases x<;>(try cases m)<;>rfl
theorem qy(x:Option J):lh x none=x:=rfl
theorem WU.take{U:List K}{N d n:Nat}{b:T}(h:WU U N d (.table b)):WU U N d (.table (b.take n)):=by
 cases d with
 |zero=>exact h.elim
 |succ d=>exact⟨nD h.1 n,λp a=>h.2 p (List.mem_of_mem_take a)⟩
theorem WU.len{U:List K}{N d:Nat}{b:T}(h:WU U N d (.table b)):b.length<=U.length:=by
 cases d with
 |zero=>exact h.elim
 |succ d=>exact xU h.1 (λp a=>(h.2 p a).1)
theorem WU.sorted{U:List K}{N d:Nat}{b:T}(h:WU U N d (.table b)):Sorted b:=by
 cases d with
 |zero=>exact h.elim
 |succ d=>exact h.1
structure CO (ok:ae) (w:World) (g:Nat) (ca cb:Y) (o:T) (wr:World) (oc:Y):Prop where
 b0:ay wr g ca 26
 b1:ay wr (g+1) cb 26
 b2:ay wr (g+2) bu 26
 b3:ay wr (g+3) oc 26
 val:aG (jI ok w (g+3)) wr oc (.table o)
 X:O No w wr
theorem CO.step{ok:ae}{w:World}{g:Nat}{b c:Y}{o:T}{wr d:World}{e:Y}(h:CO ok w g b c o wr e)(a:O No wr d):CO ok w g b c o d e:=
 ⟨h.b0.X a id,h.b1.X a id,h.b2.X a id,h.b3.X a id,h.val.X a nE,h.X.trans' a⟩
theorem CO.fill{ok:ae}{w:World}{g:Nat}{d f:Y}{o j:T}{wr a:World}{k c:Y}(h:CO ok w g d f o wr k)(n:w.heap.size<=g)(b:O (·=g+3) wr a)(l:ay a (g+3) c 26)(m:aG (jI ok w (g+3)) a c (.table j)):CO ok w g d f j a c:=
 ⟨h.b0.X b (by omega),h.b1.X b (by omega),h.b2.X b (by omega),l,m,h.X.trans b (λi p e=>by omega)⟩
theorem vS{ok:ae}{w:World}{g:Nat}(a:w.heap.size<=g):¬jI ok w g g:=λh=>by rcases h with h|h<;>omega
theorem jP(U:List K)(N:Nat)(hU:U.length<1099511627776)(m:Bool)(d:Nat):∀(ok:ae)(a b:T)(ca cb:Y)(w:World),aG ok w ca (.table a)→aG ok w cb (.table b)→WU U N d (.table a)→WU U N d (.table b)→
  Calls Tryz.prog 53 #[.agg ca.toArray,.agg cb.toArray,.bool m] w λe w'=>∃cs,e=.returned (.agg cs.toArray)∧aG (λb=>ok b∨w.heap.size<=b) w' cs (.table (bV m a b))∧O No w w':=by
 induction d with
 |zero=>intro ok a b ca cb w _ _ h;exact h.elim
 |succ d ih=>
  intro ok a b ca cb w ha q wa wb;have IH:=Z ih;have HA:=Z ha.dV;have HB:=Z q.dV;have WA:=Z wa;have WB:=Z wb;have bg:=Z wb.sorted;have eY:=hU;have aQ:=Z (Gj m a);obtain⟨ab,az,af,at_,aB,aC,rfl⟩:=ha.fV;cases q with
  |@table bb bi bf bt iC iD L _ hk hl hn hr=>
  have HK:=Z (hk.mono (ok':=okB ok w) (λb q h=>⟨h,q⟩) (by decide));have HL:=Z (hl.mono (ok':=okB ok w) (λb q h=>⟨h,q⟩) (by decide));have HR:=Z hr;have HN:=Z hn;have dW:=hk.1;obtain⟨-, -,ka,kc,rfl, -, -⟩:=hk;obtain⟨-, -,la,R,rfl, -, -⟩:=hl;simp only[List.length_map] at HK dW HB⊢;unfold maxLen at dW;have dX:∀W,(((w.alloc (.cells (ai 7 ab az af at_ aB aC).toArray 26)).alloc (.cells (ai 7 bb bi bf bt (.slice ka b.length kc) (.slice la L.length R)).toArray 26)).alloc (.cells bu.toArray 26))=W→
    ay W w.heap.size (ai 7 ab az af at_ aB aC) 26∧ay W (w.heap.size+1) (ai 7 bb bi bf bt (.slice ka b.length kc) (.slice la L.length R)) 26∧ay W (w.heap.size+2) bu 26∧O No w W∧W.heap.size=w.heap.size+3:=by
   rintro W rfl;exact⟨((ay.new _ _ _).alloc _).alloc _,(ay.newAt (by simp) _ _).alloc _,ay.newAt (by simp) _ _,(((O.refl No w).alloc _).alloc _).alloc _,by simp⟩
  have HF:=Z dX;clear dX ha wa wb ih hr hn;go_enter Tryz.func53,Tryz.ntmps53;unfold ai;go_upto_region 1 with fail
  generalize dY:World.alloc _ _=W;obtain⟨aS,bC,bF,c1,cO⟩:=HF.o W dY;clear dY HF;obtain⟨g,hg⟩:∃g,g=w.heap.size:=⟨_,rfl⟩;rw[←hg] at aS bC bF cO⊢;have HG:=Z hg;clear hg;rw[show g+1+1=g+2 from rfl];have k0:W.cell? ⟨g,0,none⟩=some (.int .i64 7):=aS.cell 0;have q0:W.cell? ⟨g+1,0,none⟩=some (.int .i64 7):=bC.cell 0;have dZ:(ai 7 ab az af at_ aB aC).all (·.oneCell')=true:=HA.o.one;have fA:=Z (show CO ok w g (ai 7 ab az af at_ aB aC) (ai 7 bb bi bf bt (.slice ka b.length kc) (.slice la L.length R)) (bV m a (b.take 0)) (W.alloc (.cells (ai 7 ab az af at_ aB aC).toArray 26)) (ai 7 ab az af at_ aB aC) from
   ⟨aS.alloc _,bC.alloc _,bF.alloc _,ay.newAt cO.symm _ _,(by rw[aQ.o.start WA.o.sorted (λk=>vP m _)];exact(HA.o.X (c1.alloc _) nE).mono (λb _ h=> .inl h)),c1.alloc _⟩)
  have ed:=aS.cells;have fB:=Z bC;have fC:=Z cO;clear cO;have q5:(W.alloc (.cells (ai 7 ab az af at_ aB aC).toArray 26)).cell? ⟨g+1,5,none⟩=some (.slice ka b.length kc):=(bC.alloc _).cell 5;clear aS bC bF c1;go_wp2_with (first|(with_reducible refine V rfl au rfl rfl ed rfl ?_)|(with_reducible refine ak rfl au rfl rfl rfl rfl rfl dZ ?_));rw[fC.o];clear k0 q0 q5 ed dZ fB;go_loopw [24] (λct wr=>∃(n:Nat)(oc:Y),ct=.int .i64 n∧n<=b.length∧CO ok w g (ai 7 ab az af at_ aB aC) (ai 7 bb bi bf bt (.slice ka b.length kc) (.slice la L.length R)) (bV m a (b.take n)) wr oc) (λct _=>b.length - (intOf ct).toNat);case atStart=>exact⟨0,_,rfl,zL',fA.o⟩
  case round=>
   obtain⟨n,oc,rfl,fD,eu⟩:=hrel;have f:=Z eu;clear eu;by_cases dG:n<b.length
   .obtain⟨p,hp⟩:=gX' b n (dG);obtain⟨r,bn⟩:=gX' L n ((by rw[HN.o];exact dG));obtain⟨kb,ko,rfl,fE,cZ⟩:=HK.o.at (i:=n) (r:=[.string p.1]) (by simp[hp]);obtain⟨S,lo,rfl,eF,bG⟩:=HL.o.at (i:=n) (r:=r) bn;have cZ:=(cZ.X f.o.X id).one;simp only[Nat.mul_one] at cZ;have dh:=Z ((HR.o n r p bn hp).dV);obtain⟨rk,rb,ri,rf,rt,bH,bI,rfl⟩:=dh.o.seven;have HP:=Z hp;have eG:=Z (show S<g by have:=eF.2;have:=HG.o;omega);have eH:=Z bG;have fF:(n:Int)<(b.length:Int):=(by omega);have iE:(n:Int)<(L.length:Int):=by rw[HN.o];exact fF
    have aS:=f.o.b0.cells;clear hp bn bG fE eF;go_wp2_with (first|(with_reducible refine V rfl au rfl rfl aS rfl ?_));refine(jW (okB ok w) a p.1 ab az af at_ aB aC wr (HA.o.X f.o.X nE)).mono ?_;rintro e z ⟨eP,bJ⟩;simp only[yz] at bJ;obtain⟨aj,hO⟩:∃aj,aj=bV m a (b.take n):=⟨_,rfl⟩;have bz:=Z hO;have dI:WU U N (d+1) (.table aj):=by rw[hO];exact WU.bV m WA.o WB.o.take
    have eQ:=Z dI.sorted;have dJ:=Z (Nat.lt_of_le_of_lt dI.len eY);have bK:=Z (f.o.step eP);have P:=Z (vS (ok:=ok) (w:=w) (g:=g+3) (by have:=HG.o;omega));rw[←hO] at bK;clear eP aS cZ dI hO f;cases jb:get a p.1 with
    |none=>
     rw[jb] at bJ;obtain rfl:=bJ;have aF:=Z jb;have fG:bu.all (·.oneCell')=true:=rfl;clear jb;go_upto_region 11 with(first|(with_reducible refine ak rfl au rfl rfl rfl rfl rfl fG ?_))
     have f:=Z (bK.o.step ((O.refl No z).alloc (.cells bu.toArray 26)));have M:=Z ((dh.o.X f.o.X nE).mono (ok':=jI ok w (g+3)) (λb _ h=> .inl h));have F:=Z (eH.o.X f.o.X id);obtain⟨ob,oi,of,ot,aH,aI,rfl⟩:=f.o.val.fV;obtain⟨G,aK⟩:∃G,G=z.alloc (.cells bu.toArray 26):=⟨_,rfl⟩;rw[←aK] at f M F⊢;clear aK;refine aT (FI [.eq (.agg (ai 7 ob oi of ot aH aI).toArray),.eq (.string p.1),.eq (.pointer (some ⟨g+1,6,none⟩)),.eq (.slice (some ⟨S,lo,none⟩) L.length R),.eq (.int .i64 n),.eq (.pointer (some ⟨S,lo+n*7,none⟩)),.eq (.agg (ai rk rb ri rf rt bH bI).toArray),.val (jI ok w (g+3)) (.table (ins aj p.1 p.2)),.any])
      (λA w'=>PG (g+3) (ai 7 ob oi of ot aH aI) (jI ok w (g+3)) (.table (ins aj p.1 p.2)) G w' (A 8)) (by kernel_rfl) (by kernel_rfl) (PG.start f.o.b3) ?_ ?_
     .refine⟨?_,?_,?_,?_,?_,?_,?_,?_,?_,trivial⟩
      .intro A a z K B v l s o c t;have e7:a.tmps[7]?.getD undef=.pointer (some ⟨(g+3),0,none⟩):=s 7 rfl;have n8:=ny1 v 8 7 rfl (ny1 v 7 0 rfl B);have bM:=c;rw[n8] at bM;obtain⟨c',q,H, -⟩:=bM.box;obtain rfl:=H rfl;refine ax rfl ?_;refine aO au rfl (vE e7) q.cells rfl ?_;exact t _ _ rfl (by simpa[dn] using c) Sy
      .intro A a z K B v l s o c t;have e9:a.tmps[9]?.getD undef=.string p.1:=s 9 rfl;clear v l s o;go_simp;exact t _ _ rfl (by simpa[dn] using c) Sy
      .intro A a z K B v l s o c t;have e4:a.tmps[4]?.getD undef=.pointer (some ⟨g+1,0,none⟩):=s 4 rfl;clear v l s o;go_simp;exact t _ _ rfl (by simpa[dn] using c) Sy
      .intro A a z K B v l s o c t;have iF:=fq (l 2 40 rfl (o 2 rfl));have c6:z.cell? ⟨g+1,6,none⟩=some (.slice (some ⟨S,lo,none⟩) L.length R):=(f.o.b1.X c.X (by omega)).cell 6;clear v l s o;go_simp;exact t _ _ rfl (by simpa[dn] using c) Sy
      .intro A a z K B v l s o c t;have e8:a.tmps[8]?.getD undef=.int .i64 n:=s 8 rfl;clear v l s o;go_simp;exact t _ _ rfl (by simpa[dn] using c) Sy
      .intro A a z K B v l s o c t;have iG:=fq (l 3 41 rfl (o 3 rfl));have iH:=fq (l 4 42 rfl (o 4 rfl));clear v l s o;go_simp;exact t _ _ rfl (by simpa[dn] using c) Sy
      .intro A a z K B v l s o c t;have fH:=fq (l 5 43 rfl (o 5 rfl));refine ax rfl ?_;refine aO au rfl (vE fH) (F.o.X c.X (λe=>by have:=eG.o;omega)) rfl ?_;exact t _ _ rfl (by simpa[dn] using c) Sy
      .intro A a z K B v l s o c t;have fJ:=fq (l 0 38 rfl (o 0 rfl));have fK:=fq (l 1 39 rfl (o 1 rfl));have fM:=fq (l 6 44 rfl (o 6 rfl));refine ax rfl ?_;have bP:=jD (jI ok w (g+3)) aj p.1 p.2 ob oi of ot aH aI (ai rk rb ri rf rt bH bI) z (f.o.val.X c.X (λb q e=>P.o (e▸q))) (M.o.X c.X (λb q e=>P.o (e▸q))) eQ.o dJ.o;refine gB Tryz.call51 rfl (vE fJ) (vE fK) (vE fM) bP ?_;rintro e w2 ⟨cs,rfl,D,hc⟩;exact⟨_,rfl,t _ _ ⟨cs,rfl,D.mono (λb _ q=>q.elim id (λh=> .inr (by have H:=c.size;have h2:=f.o.b3.lt;omega)))⟩ (by simpa[dn] using c.df hc) (λ_ _ _ _ h=>h.aP hc)⟩
      .intro A a z K B v l s o c t;have e7:a.tmps[7]?.getD undef=.pointer (some ⟨(g+3),0,none⟩):=s 7 rfl;obtain⟨c2,fO,C⟩:=l 7 45 rfl (o 7 rfl);rw[B] at c;obtain⟨c',q,H, -⟩:=c.box;obtain rfl:=H rfl;refine ax rfl ?_;refine dH au rfl (vE e7) (vE fO) q rfl C.length C.one ?_;intro w2 aN hC fP;refine t undef _ trivial (by simpa[dn] using c.fill aN hC C P.o) ?_;refine λj D _ u hu=>hu.keep hC (aV (i:=8) (λj hl D=> ?_) j D)
       match j,D with
       |0,_|1,_|2,_|3,_|4,_|5,_|6,_=>exact trivial
       |7,_=>exact λb q e=>P.o (e▸q)
       |8,D=>exact absurd rfl D
       |j+9,_=>exact absurd hl (by simp)
     .intro vs w2 dK dL c;obtain⟨c2,aN, -,C⟩:=c.box;have I:=Z (f.o.fill (Nat.le_of_eq HG.o.symm) c.X aN (C rfl));clear aN C c dK dL;simp only[aX,Act.put,List.setIfInBounds_toArray,List.set_cons_succ,List.set_cons_zero];go_wp2_with fail;go_roundw;case rel=>exact⟨n+1,c2,by go_num,by omega,(by rw[aQ.o.ins bg.o HP.o (by rw[aF.o];rfl),←bz.o];exact I.o)⟩
      case measure=>simp[intOf];omega
    |some x=>
     rw[jb] at bJ;obtain⟨xc,rfl,bD⟩:=bJ;have fQ:=bD.one;have fU:=bD.length;obtain⟨xk,xb,xi,xf,xt,aU,aW,rfl⟩:=bD.seven;obtain⟨h,hh⟩:∃h,h=z.heap.size:=⟨_,rfl⟩;have aF:=Z jb;have di:=Z bD.oH;have dw:=Z dh.o.oH;have dM:=Z (show ay (z.alloc (.cells (ai xk xb xi xf xt aU aW).toArray 26)) h (ai xk xb xi xf xt aU aW) 26 from ay.newAt hh _ _);have fZ:=Z (show g+3<h by have:=bK.o.b3.lt;omega);have gm:=Z bD;have dN:=Z (bK.o.step ((O.refl No z).alloc (.cells (ai xk xb xi xf xt aU aW).toArray 26)));clear bD jb;go_upto_region 12 with(first|(with_reducible refine ak rfl au rfl rfl rfl rfl fU fQ ?_))
     rw[←hh];obtain⟨G,aK⟩:∃G,G=z.alloc (.cells (ai xk xb xi xf xt aU aW).toArray 26):=⟨_,rfl⟩;rw[←aK] at dN dM⊢;have gp:=Z (show O No z G by rw[aK];exact(O.refl No z).alloc _);clear aK hh bK;have f:=Z dN.o;have Q:=Z dM.o;clear dN dM;have aZ:=Z ((gm.o.X gp.o nE).mono (ok':=jI ok w (g+3)) (λb _ h=> .inl h));have M:=Z ((dh.o.X f.o.X nE).mono (ok':=jI ok w (g+3)) (λb _ h=> .inl h));have F:=Z (eH.o.X f.o.X id);have kx:G.cell? ⟨h,0,none⟩=some (.int .i64 xk):=Q.o.cell 0;have q6:G.cell? ⟨g+1,6,none⟩=some (.slice (some ⟨S,lo,none⟩) L.length R):=f.o.b1.cell 6;have kr:G.cell? ⟨S,lo+n*7,none⟩=some (.int .i64 rk):=F.o 0 _ rfl;by_cases dO:xk=0
     .subst dO;have dB:x=.null:=di.o.1 rfl;subst dB;by_cases bn:rk=0
      .subst bn;have bQ:p.2=.null:=dw.o.1 rfl;have dP:=Z bQ;clear bQ;go_wp2_with fail;go_roundw;case rel=>exact⟨n+1,_,by go_num,by omega,(by rw[aQ.o.same bg.o HP.o (by rw[aF.o,dP.o];rfl)]<;>rw[←bz.o]<;>exact f.o)⟩
       case measure=>simp[intOf];omega
      .have iI:(rk==0)=false:=(by simpa using bn);have bQ:p.2≠ .null:=λe=>bn (dw.o.2.2.1 e)
       have dP:=Z bQ;clear bQ;cases m with
       |false=>
        obtain⟨ob,oi,of,ot,aH,aI,rfl⟩:=f.o.val.fV;have dC:=f.o.b3.cells;go_wp2_with (first|(with_reducible refine V rfl au rfl rfl dC rfl ?_));refine(vO (jI ok w (g+3)) aj p.1 ob oi of ot aH aI G f.o.val dJ.o).mono ?_;rintro e w2 ⟨c2,rfl,C,E⟩;have iJ:=Z E;have eU:=f.o.b3.X E id;have gq:=C.length;have gu:=C.one;have gy:=Z (C.mono (ok':=jI ok w (g+3)) (λb _ q=>q.elim id (λh=> .inr (by have h2:=f.o.b3.lt;omega))));have I:=Z (f.o.step E);clear C E dC kx q6 kr;go_wp2_with (first|(with_reducible refine aA rfl au rfl rfl rfl eU rfl gq gu ?_;intro w3 dD J eX));have gz:=Z (I.o.fill (Nat.le_of_eq HG.o.symm) J dD (gy.o.X J (λb q e=>P.o (e▸q))));clear dD J eX eU;go_roundw;case rel=>exact⟨n+1,c2,by go_num,by omega,(by rw[aQ.o.del bg.o HP.o (by rw[aF.o];cases ug:p.2<;>first|rfl|exact absurd ug dP.o),←bz.o];exact gz.o)⟩
        case measure=>simp[intOf];omega
       |true=>
        have bT:=Q.o.cells;go_wp2_with (first|(with_reducible refine V rfl au rfl rfl bT rfl ?_));refine(aY 0 xi xb xf xt aU aW G).mono ?_;rintro e w2 ⟨rfl,E⟩;have I:=Z (f.o.step E);clear E bT kx q6 kr f;have f:=Z I.o;go_wp2_with fail;go_roundw;case rel=>exact⟨n+1,_,by go_num,by omega,(by rw[aQ.o.same bg.o HP.o (by rw[aF.o];cases ug:p.2<;>rfl)]<;>rw[←bz.o]<;>exact f.o)⟩
        case measure=>simp[intOf];omega
     .have iK:(xk==0)=false:=(by simpa using dO);have bT:=Q.o.cells;go_wp2_with (first|(with_reducible refine V rfl au rfl rfl bT rfl ?_));refine(aY xk xi xb xf xt aU aW G).mono ?_;rintro e w2 ⟨rfl,E⟩;have I:=Z (f.o.step E);have bW:=Z (Q.o.X E id);have bY:=Z (aZ.o.X E nE);have bZ:=Z (M.o.X E nE);have cu:=Z (F.o.X E id);clear E bT kx q6 kr f Q aZ M F;have f:=Z I.o;have Q:=Z bW.o;have aZ:=Z bY.o;have M:=Z bZ.o;have F:=Z cu.o;clear I bW bY bZ cu;by_cases dQ:xk=7
      .subst dQ;obtain⟨x,rfl⟩:=dm (di.o.2.1 rfl);have q6:w2.cell? ⟨g+1,6,none⟩=some (.slice (some ⟨S,lo,none⟩) L.length R):=f.o.b1.cell 6;have bG:=F.o;go_wp2_with (first|(with_reducible refine aJ rfl au rfl rfl bG rfl ?_));refine(aY rk ri rb rf rt bH bI w2).mono ?_;rintro e w3 ⟨rfl,J⟩;have I:=Z (f.o.step J);have bW:=Z (Q.o.X J id);have bY:=Z (aZ.o.X J nE);have bZ:=Z (M.o.X J nE);have cu:=Z (F.o.X J id);clear J q6 bG f Q aZ M F;have f:=Z I.o;have Q:=Z bW.o;have aZ:=Z bY.o;have M:=Z bZ.o;have F:=Z cu.o;clear I bW bY bZ cu;by_cases dR:rk=7
       .subst dR;obtain⟨y,hy⟩:=dm (dw.o.2.1 rfl);have HY:=Z hy;rw[hy] at M;have WX:=Z (WA.o.get aF.o).2;have WY:=Z (show WU U N d (.table y) by rw[←hy];exact(WB.o.2 p (mG' HP.o)).2);obtain⟨ob,oi,of,ot,aH,aI,rfl⟩:=f.o.val.fV;clear hy;go_upto_region 16 with fail
        obtain⟨dS,aK⟩:∃dS,dS=w3:=⟨_,rfl⟩;rw[←aK] at f M F aZ Q⊢;clear aK;refine aT (FI [.eq (.agg (ai 7 ob oi of ot aH aI).toArray),.eq (.string p.1),.eq (.agg (ai 7 xb xi xf xt aU aW).toArray),.eq (.pointer (some ⟨g+1,6,none⟩)),.eq (.slice (some ⟨S,lo,none⟩) L.length R),.eq (.int .i64 n),.eq (.pointer (some ⟨S,lo+n*7,none⟩)),.eq (.agg (ai 7 rb ri rf rt bH bI).toArray),.eq (.bool m),.val (jI ok w (g+3)) (.table (bV m x y)),.val (jI ok w (g+3)) (.table (ins aj p.1 (.table (bV m x y)))),.any])
         (λA w'=>PG (g+3) (ai 7 ob oi of ot aH aI) (jI ok w (g+3)) (.table (ins aj p.1 (.table (bV m x y)))) dS w' (A 11)) (by kernel_rfl) (by kernel_rfl) (PG.start f.o.b3) ?_ ?_
        .refine⟨?_,?_,?_,?_,?_,?_,?_,?_,?_,?_,?_,?_,trivial⟩
         .intro A a z K B v l s o c t;have e7:a.tmps[7]?.getD undef=.pointer (some ⟨(g+3),0,none⟩):=s 7 rfl;have gG:=ny1 v 11 10 rfl (ny1 v 10 0 rfl B);have bM:=c;rw[gG] at bM;obtain⟨c',q,H, -⟩:=bM.box;obtain rfl:=H rfl;refine ax rfl ?_;refine aO au rfl (vE e7) q.cells rfl ?_;exact t _ _ rfl (by simpa[dn] using c) Sy
         .intro A a z K B v l s o c t;have e9:a.tmps[9]?.getD undef=.string p.1:=s 9 rfl;clear v l s o;go_simp;exact t _ _ rfl (by simpa[dn] using c) Sy
         .intro A a z K B v l s o c t;have gI:a.tmps[10]?.getD undef=.pointer (some ⟨h,0,none⟩):=s 10 rfl;refine ax rfl ?_;refine aO au rfl (vE gI) (Q.o.X c.X (by have:=fZ.o;omega)).cells rfl ?_;exact t _ _ rfl (by simpa[dn] using c) Sy
         .intro A a z K B v l s o c t;have e4:a.tmps[4]?.getD undef=.pointer (some ⟨g+1,0,none⟩):=s 4 rfl;clear v l s o;go_simp;exact t _ _ rfl (by simpa[dn] using c) Sy
         .intro A a z K B v l s o c t;have iL:=fq (l 3 84 rfl (o 3 rfl));have c6:z.cell? ⟨g+1,6,none⟩=some (.slice (some ⟨S,lo,none⟩) L.length R):=(f.o.b1.X c.X (by omega)).cell 6;clear v l s o;go_simp;exact t _ _ rfl (by simpa[dn] using c) Sy
         .intro A a z K B v l s o c t;have e8:a.tmps[8]?.getD undef=.int .i64 n:=s 8 rfl;clear v l s o;go_simp;exact t _ _ rfl (by simpa[dn] using c) Sy
         .intro A a z K B v l s o c t;have iM:=fq (l 4 85 rfl (o 4 rfl));have iO:=fq (l 5 86 rfl (o 5 rfl));clear v l s o;go_simp;exact t _ _ rfl (by simpa[dn] using c) Sy
         .intro A a z K B v l s o c t;have gJ:=fq (l 6 87 rfl (o 6 rfl));refine ax rfl ?_;refine aO au rfl (vE gJ) (F.o.X c.X (λe=>by have:=eG.o;omega)) rfl ?_;exact t _ _ rfl (by simpa[dn] using c) Sy
         .intro A a z K B v l s o c t;have e2:a.tmps[2]?.getD undef=.bool m:=s 2 rfl;clear v l s o;go_simp;exact t _ _ rfl (by simpa[dn] using c) Sy
         .intro A a z K B v l s o c t;have gK:=fq (l 2 83 rfl (o 2 rfl));have gQ:=fq (l 7 88 rfl (o 7 rfl));have gU:=fq (l 8 89 rfl (o 8 rfl));refine ax rfl ?_;have bP:=IH.o (jI ok w (g+3)) x y (ai 7 xb xi xf xt aU aW) (ai 7 rb ri rf rt bH bI) z (aZ.o.X c.X (λb q e=>P.o (e▸q))) (M.o.X c.X (λb q e=>P.o (e▸q))) WX.o WY.o;refine gB Tryz.call53 rfl (vE gK) (vE gQ) (vE gU) bP ?_;rintro e w2 ⟨cs,rfl,D,hc⟩;exact⟨_,rfl,t _ _ ⟨cs,rfl,D.mono (λb _ q=>q.elim id (λh=> .inr (by have H:=c.size;have h2:=f.o.b3.lt;omega)))⟩ (by simpa[dn] using c.df hc) (λ_ _ _ _ h=>h.aP hc)⟩
         .intro A a z K B v l s o c t;have gV:=fq (l 0 81 rfl (o 0 rfl));have gW:=fq (l 1 82 rfl (o 1 rfl));obtain⟨c9,gX,gY⟩:=l 9 90 rfl (o 9 rfl);refine ax rfl ?_;have bP:=jD (jI ok w (g+3)) aj p.1 (.table (bV m x y)) ob oi of ot aH aI c9 z (f.o.val.X c.X (λb q e=>P.o (e▸q))) gY eQ.o dJ.o;refine gB Tryz.call51 rfl (vE gV) (vE gW) (vE gX) bP ?_;rintro e w2 ⟨cs,rfl,D,hc⟩;exact⟨_,rfl,t _ _ ⟨cs,rfl,D.mono (λb _ q=>q.elim id (λh=> .inr (by have H:=c.size;have h2:=f.o.b3.lt;omega)))⟩ (by simpa[dn] using c.df hc) (λ_ _ _ _ h=>h.aP hc)⟩
         .intro A a z K B v l s o c t;have e7:a.tmps[7]?.getD undef=.pointer (some ⟨(g+3),0,none⟩):=s 7 rfl;obtain⟨c2,gZ,C⟩:=l 10 91 rfl (o 10 rfl);rw[B] at c;obtain⟨c',q,H, -⟩:=c.box;obtain rfl:=H rfl;refine ax rfl ?_;refine dH au rfl (vE e7) (vE gZ) q rfl C.length C.one ?_;intro w2 aN hC fP;refine t undef _ trivial (by simpa[dn] using c.fill aN hC C P.o) ?_;refine λj D _ u hu=>hu.keep hC (aV (i:=11) (λj hl D=> ?_) j D)
          match j,D with
          |0,_|1,_|2,_|3,_|4,_|5,_|6,_|7,_|8,_=>exact trivial
          |9,_=>exact λb q e=>P.o (e▸q)
          |10,_=>exact λb q e=>P.o (e▸q)
          |11,D=>exact absurd rfl D
          |j+12,_=>exact absurd hl (by simp)
        .intro vs w2 dK dL c;obtain⟨c2,aN, -,C⟩:=c.box;have I:=Z (f.o.fill (Nat.le_of_eq HG.o.symm) c.X aN (C rfl));clear aN C c dK dL;simp only[aX,Act.put,List.setIfInBounds_toArray,List.set_cons_succ,List.set_cons_zero];go_wp2_with fail;go_roundw;case rel=>exact⟨n+1,c2,by go_num,by omega,(by rw[aQ.o.ins bg.o HP.o (by rw[aF.o,HY.o];rfl),←bz.o];exact I.o)⟩
         case measure=>simp[intOf];omega
       .have iP:(rk==7)=false:=(by simpa using dR);have dE:dA p.2=false:=by cases dE:dA p.2<;>first|rfl|exact absurd (dw.o.2.2.2 dE) dR
        have ig:=Z dE;clear dE;go_wp2_with fail;go_roundw;case rel=>exact⟨n+1,_,by go_num,by omega,(by rw[aQ.o.same bg.o HP.o (by rw[aF.o];have h:=ig.o;cases ug:p.2<;>first|rfl|(rw[ug] at h;cases h))]<;>rw[←bz.o]<;>exact f.o)⟩
        case measure=>simp[intOf];omega
      .have iQ:(xk==7)=false:=(by simpa using dQ);have dF:dA x=false:=by cases dF:dA x<;>first|rfl|exact absurd (di.o.2.2.2 dF) dQ
       have dB:x≠ .null:=λe=>dO (di.o.2.2.1 e)
       have ik:=Z dF;have iq:=Z dB;clear dF dB;go_wp2_with fail;go_roundw;case rel=>exact⟨n+1,_,by go_num,by omega,(by rw[aQ.o.same bg.o HP.o (by rw[aF.o];have h:=ik.o;have h2:=iq.o;cases x<;>first|rfl|exact absurd rfl h2|cases h)]<;>rw[←bz.o]<;>exact f.o)⟩
       case measure=>simp[intOf];omega
   .have iw:n=b.length:=Nat.le_antisymm fD (Nat.not_lt.1 dG);subst iw;have iR:¬((b.length:Nat):Int)<(b.length:Int):=(by omega);have dC:=f.o.b3.cells;have bF:=f.o.b2;have dU:=f.o.val.length;have iy:=f.o.val.one;go_wp2_with (first|(with_reducible refine V rfl au rfl rfl dC dU ?_)|(with_reducible refine aA rfl au rfl rfl rfl bF rfl dU iy ?_;intro w3 dD J eX));refine bodyPost_ret (bU rfl au rfl dD dU) rfl ⟨oc,rfl,?_,f.o.X.trans J (λi hi e=>by have:=HG.o;omega)⟩;have H:=f.o.val;rw[List.take_length] at H;exact(H.X J (λb q e=>by rcases q with q|q<;>(have:=HG.o;omega))).mono (λb _ q=>q.imp (λh=>h.1) (λh=>by have:=HG.o;omega))
end Go.Proofs.YtljaoopfomcaoaaGreatDoor
namespace Go.Proofs.YtljaoopfomcaoaaGreatDoor
theorem tN:gK=⟨#[103,108,111,98,97,108]⟩:=by decide
def zy(j:J):Prop:=∀t,j=.table t→∀k x,get t k=some x→dA x=false
def jQ(j:J):Prop:=∀t,j=.table t→∀k x,get t k=some x→zy x
def oJ:Nat→J→Prop
 |0,_=>True
 |d+1,j=>∀t,j=.table t→∀k x,get t k=some x→oJ d x∧(k=gK→jQ x)
theorem xW{m:Bool}{a b:T}(f:zy (.table a))(g:zy (.table b)):zy (.table (bV m a b)):=by
 intro t e k z c;cases e;rw[kS] at c;cases eF:get a k with
 |none=>rw[eF] at c;exact g b rfl k z c
 |some x=>
  have d:=f a rfl k x eF;rw[eF] at c;cases jV:get b k with
  |none=>rw[jV] at c;cases x<;>(cases c;exact d)
  |some y=>
   rw[jV] at c;cases x with
   |table x=>cases d
   |null=>cases y<;>simp only[dM] at c<;>first|(cases c;exact d)|(split at c<;>cases c;exact d)
   | _=>cases c;exact d
theorem rW{m:Bool}{a b:T}(g:jQ (.table a))(f:jQ (.table b)):jQ (.table (bV m a b)):=by
 intro t e k z c;cases e;rw[kS] at c;cases eF:get a k with
 |none=>rw[eF] at c;exact f b rfl k z c
 |some x=>
  have d:=g a rfl k x eF;rw[eF] at c;cases jV:get b k with
  |none=>rw[jV] at c;cases x<;>(cases c;exact d)
  |some y=>
   have h:=f b rfl k y jV;rw[jV] at c;cases x with
   |table x=>
    cases y with
    |table y=>cases c;exact xW d h
    | _=>cases c;exact d
   |null=>cases y<;>simp only[dM] at c<;>first|(cases c;exact d)|(split at c<;>cases c;exact d)
   | _=>cases c;exact d
theorem zA{m:Bool}(d:Nat):∀{a b:T},oJ d (.table a)→oJ d (.table b)→oJ d (.table (bV m a b)):=by
 induction d with
 |zero=>intro a b _ _;trivial
 |succ d i=>
  intro a b j g t e k z c;cases e;rw[kS] at c;cases eF:get a k with
  |none=>rw[eF] at c;exact g b rfl k z c
  |some x=>
   have f:=j a rfl k x eF;rw[eF] at c;cases jV:get b k with
   |none=>rw[jV] at c;cases x<;>(cases c;exact f)
   |some y=>
    have h:=g b rfl k y jV;rw[jV] at c;cases x with
    |table x=>
     cases y with
     |table y=>cases c;exact⟨i f.1 h.1,λe=>rW (f.2 e) (h.2 e)⟩
     | _=>cases c;exact f
    |null=>cases y<;>simp only[dM] at c<;>first|(cases c;exact f)|(split at c<;>cases c;exact f)
    | _=>cases c;exact f
theorem Gm{m:Bool}{i:K→Bool}{d:Nat}{a b:T}(j:oJ d (.table a))(g:oJ d (.table b)):oJ d (.table (over m i a b)):=by
 cases d with
 |zero=>trivial
 |succ d=>
  intro t e k z c;cases e;rw[pF] at c;cases eF:get a k with
  |none=>rw[eF] at c;exact g b rfl k z c
  |some x=>
   have f:=j a rfl k x eF;rw[eF] at c;cases x with
   |table x=>
    cases jV:get b k with
    |none=>rw[jV] at c;cases c;exact f
    |some y=>
     have h:=g b rfl k y jV;rw[jV] at c;cases y with
     |table y=>cases c;exact⟨zA d f.1 h.1,λe=>rW (f.2 e) (h.2 e)⟩
     | _=>cases c;exact f
   |null=>
    simp only[jo] at c
    split at c
    .cases c;exact f
    .split at c<;>cases c;exact f
   | _=>cases c;exact f
theorem Dn{a b:T}(f:jQ (.table a))(h:jQ (.table b)):jQ (.table (jH a b)):=by
 intro t e k z c;cases e;rw[lU] at c;cases jV:get b k with
 |none=>rw[jV] at c;exact f a rfl k z c
 |some y=>
  have d:=h b rfl k y jV;rw[jV] at c;cases eF:get a k with
  |none=>rw[eF] at c;cases y<;>(cases c;exact d)
  |some x=>have g:=f a rfl k x eF;rw[eF] at c;cases y<;>cases x<;>cases c<;>first|exact d|exact g|exact xW d g
theorem EM{d:Nat}{a b:T}(h:oJ d (.table a))(i:oJ d (.table b))(j:jQ (.table a))(l:jQ (.table b)):oJ d (.table (jH a b)):=by
 cases d with
 |zero=>trivial
 |succ d=>
  intro t e k z c;cases e;rw[lU] at c;cases jV:get b k with
  |none=>rw[jV] at c;exact h a rfl k z c
  |some y=>
   have f:=i b rfl k y jV;rw[jV] at c;cases eF:get a k with
   |none=>rw[eF] at c;cases y<;>(cases c;exact f)
   |some x=>have g:=h a rfl k x eF;rw[eF] at c;cases y<;>cases x<;>cases c<;>first|exact f|exact g|exact⟨zA d f.1 g.1,λe=>rW (f.2 e) (g.2 e)⟩
theorem BV{d:Nat}{t:T}{k:K}{x:J}(b:oJ (d+1) (.table t))(c:oJ d x)(f:k=gK→jQ x):oJ (d+1) (.table (ins t k x)):=by
 intro h e g z a;cases e;rw[jy] at a
 split at a
 .rename_i e;subst e;cases a;exact⟨c,f⟩
 .exact b t rfl g z a
theorem Gn:jQ (.table []):=λt e k x h=>by cases e;cases h
theorem kV(d:Nat):oJ d (.table []):=by
 cases d with
 |zero=>trivial
 |succ d=>intro t e k x h;cases e;cases h
def dC(j:J):Prop:=∀d,oJ d j
theorem dC.get{t:T}{k:K}{x:J}(h:dC (.table t))(a:get t k=some x):dC x:=λd=>(h (d+1) t rfl k x a).1
theorem dC.flat{t:T}{x:J}(h:dC (.table t))(a:Go.Proofs.YtljaoopfomcaoaaGreatDoor.get t gK=some x):jQ x:=(h 1 t rfl gK x a).2 rfl
theorem dC.over{m:Bool}{c:K→Bool}{a b:T}(e:dC (.table a))(f:dC (.table b)):dC (.table (over m c a b)):=λd=>Gm (e d) (f d)
theorem dC.bH{t x:T}{k:K}(h:dC (.table t))(a:bH t k=some x):dC (.table x)∧(k=gK→jQ (.table x)):=by
 unfold Go.Proofs.YtljaoopfomcaoaaGreatDoor.bH at a
 split at a
 .cases a;exact⟨λd=>kV d,λ_=>Gn⟩
 .rename_i y hy;cases a;exact⟨h.get hy,λe=>h.flat (e▸hy)⟩
 .cases a
theorem dC.globals{a b:T}(c:dC (.table a))(g:dC (.table b)):dC (.table (globals a b)):=by
 unfold Go.Proofs.YtljaoopfomcaoaaGreatDoor.globals
 split
 .rename_i x y hx hy
  obtain⟨h,e⟩:=c.bH hx;obtain⟨i,f⟩:=g.bH hy;intro d;cases d with
  |zero=>trivial
  |succ d=>exact BV (c (d+1)) (EM (h d) (i d) (e rfl) (f rfl)) (λ_=>Dn (e rfl) (f rfl))
 .exact c
end Go.Proofs.YtljaoopfomcaoaaGreatDoor
namespace Go.Proofs.YtljaoopfomcaoaaGreatDoor
open Go.RowKit
def aI(x:Want)(a b:Value):Y:=[.string x.name,.string x.version,.string x.condition,.string x.bF,a,.bool x.enabled,b]
abbrev dS(l:List iy):List (Y):=l.map λi=> [.string i.plain,.string i.child,.string i.parent,.bool i.isMap]
def dF(ok:ae)(w:World)(cs:Y)(x:Want):Prop:=∃a b,cs=aI x a b∧aC ok w a 1 (aH x.tags)∧aC ok w b 4 (dS x.imports)
def az(name a:K)(k:Int)(b:Bool)(i:Int)(f:Nat)(t:K)(c d e g:Value):Y:=
 [.string name,.string a,.int .i64 k,.bool b,.int .i64 i,.float .f64 f,.string t,c,d,e,g]
inductive dU (ok:ae) (w:World):Y→Ch→Prop where
 |mk {name fB:K} {k:Int} {b:Bool} {i:Int} {f:Nat} {t:K} {kv lv dv wv:Value} {vals:J} {xm xn:List (Y)} {deps:List Ch} {wants:List Want}
   (hv:aG ok w (ai k b i f t kv lv) vals) (hd:aC ok w dv 11 xm) (hn:xm.length=deps.length) (h:∀(n:Nat)(r:Y)(d:Ch),xm[n]?=some r→deps[n]?=some d→dU ok w r d)
   (hw:aC ok w wv 7 xn) (hm:xn.length=wants.length) (hx:∀(n:Nat)(r:Y)(x:Want),xn[n]?=some r→wants[n]?=some x→dF ok w r x):dU ok w (az name fB k b i f t kv lv dv wv) (.mk name fB vals deps wants)
theorem dF.X{ok S:ae}{w a:World}{cs:Y}{x:Want}(h:dF ok w cs x)(c:O S w a)(d:∀b,ok b→¬S b):dF ok a cs x:=by obtain⟨e,f,g,i,j⟩:=h;exact⟨e,f,g,i.X c d,j.X c d⟩
theorem dF.mono{ok ok':ae}{w:World}{cs:Y}{x:Want}(h:dF ok w cs x)(a:∀b,b<w.heap.size→ok b→ok' b):dF ok' w cs x:=by obtain⟨c,d,e,f,g⟩:=h;exact⟨c,d,e,f.mono a (by decide),g.mono a (by decide)⟩
theorem dU.X{ok S:ae}{w e:World}{cs:Y}{c:Ch}(h:dU ok w cs c)(a:O S w e)(d:∀b,ok b→¬S b):dU ok e cs c:=by
 induction h with
 |mk f g i _ j k l m=>exact .mk (f.X a d) (g.X a d) i m (j.X a d) k (λn r x o p=>(l n r x o p).X a d)
theorem dU.mono{ok ok':ae}{w:World}{cs:Y}{c:Ch}(h:dU ok w cs c)(a:∀b,b<w.heap.size→ok b→ok' b):dU ok' w cs c:=by
 induction h with
 |mk d e f _ g i j k=>exact .mk (d.mono a) (e.mono a (by decide)) f k (g.mono a (by decide)) i (λn r x l m=>(j n r x l m).mono a)
theorem dU.dV{ok:ae}{w:World}{cs:Y}{c:Ch}(h:dU ok w cs c):dU (okB ok w) w cs c:=h.mono (λb a h=>⟨h,a⟩)
theorem dU.one{ok:ae}{w:World}{cs:Y}{c:Ch}(h:dU ok w cs c):cs.length=11∧cs.all (·.oneCell')=true:=by
 cases h with
 |mk a b f _ d g i=>
  have e:=a.one;have j:=b.one;have k:=d.one;refine⟨rfl,?_⟩;simp only[ai,List.all_cons,List.all_nil,Bool.and_true,Bool.and_eq_true] at e;simp only[az,List.all_cons,List.all_nil,Bool.and_true,Bool.and_eq_true]
  simp_all [Value.oneCell']
theorem EN{ok:ae}{w:World}{cs:Y}{c:Ch}(h:dU ok w cs c)(g:K):Calls Tryz.prog 54 #[.agg cs.toArray,.string g] w λe w'=>e=.returned (.bool (bn c.deps g))∧O No w w':=by
 cases h with
 |@mk name s k b i f t R S dv T vals a aP j wants hv p U hh hw hm l=>
  have HD:=Z (aC.mono (ok':=okB ok w) p (λb hb h=>⟨h,hb⟩) (by decide));have HH:=Z hh;have HN:=Z U;have aG:=p.1;obtain⟨-, -,v,y,rfl, -, -⟩:=p;unfold maxLen at aG;have af:∀W,(w.alloc (.cells (az name s k b i f t R S (.slice v a.length y) T).toArray 30))=W→
    ay W w.heap.size (az name s k b i f t R S (.slice v a.length y) T) 30∧O No w W:=by
   rintro W rfl;exact⟨ay.new _ _ _,(O.refl No w).alloc _⟩
  have HF:=Z af;clear hv U hh hw hm l af;go_enter Tryz.func54,Tryz.ntmps54;unfold az;go_upto_region 1 with fail
  generalize ai:World.alloc _ _=W;obtain⟨b0,c1⟩:=HF.o W ai;clear ai HF;have k9:W.cell? ⟨w.heap.size,9,none⟩=some (.slice v a.length y):=b0.cell 9;have aH:=Z c1;clear b0 c1;go_wp2_with fail;clear k9;go_loopw [10] (λz wr=>∃n:Nat,z=.int .i64 n∧n<=a.length∧(∀d∈j.take n,d.name≠g)∧O No w wr) (λz _=>a.length - (intOf z).toNat);case atStart=>exact⟨0,rfl,zL',by simp,aH.o⟩
  case round=>
   obtain⟨n,rfl,aQ,aj,hc⟩:=hrel;have u:=Z hc;have au:=Z aj;clear hc aj;by_cases ax:n<a.length
   .obtain⟨r,A⟩:=gX' a n (ax);obtain⟨d,B⟩:=gX' j n ((by rw[←HN.o];exact ax));obtain⟨lb,lo,rfl,aI,C⟩:=HD.o.at (i:=n) (r:=r) A;have C:=C.X u.o id;have D:=HH.o n r d A B;have ho:=D.one;obtain⟨m,E,F,G,H,I,J,L,M,N,P,rfl,aA⟩:∃m E F G H I J L M N P,r=az m E F G H I J L M N P∧d.name=m:=by
     cases D;exact⟨_,_,_,_,_,_,_,_,_,_,_,rfl,rfl⟩
    have aJ:=ho.2;have aB:=Z B;have aF:=Z aA;have aN:(n:Int)<(a.length:Int):=(by omega);clear A B aI D ho aA;go_upto_region 4 with(first|(with_reducible refine V rfl aK rfl rfl C rfl ?_)|(with_reducible refine ak rfl aK rfl rfl rfl rfl rfl aJ ?_))
    have kn:(wr.alloc (.cells (az m E F G H I J L M N P).toArray 30)).cell? ⟨wr.heap.size,0,none⟩=some (.string m):=(ay.new wr _ 30).cell 0;by_cases o:m=g
    .have aO:(m.toList==g.toList)=true:=by rw[aS];simpa using o
     have q:bn j g=true:=List.any_eq_true.2 ⟨d,mG' aB.o,by simpa[aF.o] using o⟩;have Q:=Z q;clear o q;go_wp2;go_ret;refine⟨?_,u.o.alloc _⟩;show Ending.returned (.bool true)=_;rw[show(Ch.mk name s vals j wants).deps=j from rfl,Q.o]
    .have aO:(m.toList==g.toList)=false:=by rw[aS];simpa using o
     have HK:=Z o;clear o;go_wp2_with fail;go_roundw
     case rel=>
      refine⟨n+1,by go_num,by omega,λx l=> ?_,u.o.alloc _⟩;rw[List.take_add_one,aB.o] at l;rcases List.mem_append.1 l with l|l
      .exact au.o x l
      .have:x=d:=(by simpa using l);subst this;rw[aF.o];exact HK.o
     case measure=>simp[intOf];omega
   .have q:bn j g=false:=by
     have h:=au.o;rw[List.take_of_length_le (by rw[←HN.o];omega)] at h;exact List.any_eq_false.2 (λd p=>by simpa using h d p)
    have Q:=Z q;have aN:¬(n:Int)<(a.length:Int):=(by omega);clear q;go_wp2;go_ret;refine⟨?_,u.o⟩;rw[show(Ch.mk name s vals j wants).deps=j from rfl,Q.o]
    rfl
end Go.Proofs.YtljaoopfomcaoaaGreatDoor
namespace Go.Proofs.YtljaoopfomcaoaaGreatDoor
def gq(k:K):Prop:=k.size<=1048576
theorem gq.ok{k:K}(h:gq k):fK k:=by unfold gq at h;unfold fK;omega
def tK:K:=⟨#[116,97,103,115]⟩
structure lC (s:K):Prop where
 pos:s≠ByteArray.empty
 le:s.size<=12
 ND:s≠gK
 Oy:s≠tK
 low:∀(i:Nat)(h:i<s.size),97<=s[i].toNat∧s[i].toNat<=122
structure oW (x:K):Prop where
 NT:∀(i:Nat)(h:i<x.size),48<=x[i].toNat∧x[i].toNat<=57
 pos:0<x.size
 le:x.size<=9
 lead:∀(h:1<x.size),x[0].toNat≠48
def yD(s:K):Prop:=(parts s 46).length=3∧∀x∈parts s 46,oW x
def named(x:Want):K:=if x.bF≠ByteArray.empty then x.bF else x.name
def kL(a b:Want):Prop:=a.name≠b.name∧named a≠named b∧a.name≠named b∧named a≠b.name
structure xq (x:Want):Prop where
 name:gq x.name
 fB:gq x.version
 cond:gq x.condition
 yE:gq x.bF
 tags:x.tags.length<=1048576∧∀t∈x.tags,gq t
 kD:x.imports.length<=1048576∧∀i∈x.imports,gq i.plain∧gq i.child∧gq i.parent
structure mF (x:Want):Prop where
 sm:xq x
 kD:x.imports.length<=20
 name:lC x.name
 fB:yD x.version
 yE:x.bF=ByteArray.empty∨lC x.bF
def nM:Nat→Ch→Prop
 |0,_=>False
 |L+1,c=>(Wf 400 50 c.vals∧sz c.vals<=400∧(c.vals=.null∨dA c.vals=true))∧lC c.name∧(yD c.version∧gq c.version)∧c.deps.length<=20∧(c.deps.map Ch.name).Nodup∧(∀d∈c.deps,nM L d)∧
   c.wants.length<=40∧(∀x∈c.wants,mF x)∧c.wants.Pairwise kL∧∀x∈c.wants,∀d∈c.deps,x.bF≠d.name
mutual
def cnt:Ch→Nat
 | .mk _ _ _ a wants=>1+jR a+wants.length
def jR:List Ch→Nat
 |[]=>0
 |d::r=>cnt d+jR r
end
theorem Dp(a b:List Ch):jR (a++b)=jR a+jR b:=by
 induction a with
 |nil=>simp[jR]
 |cons x r c=>simp[jR,c];omega
theorem lD(s:K)(c:Nat):∀(m i b:Nat),i+m=s.size→∃e,i<=e∧e<=s.size∧cutAt s c e=true∧(∀j,i<=j→j<e→cutAt s c j=false)∧
  dE s c (s.size+1 - i) i b=s.extract b e::dE s c (s.size - e) (e+1) (e+1)
 |0,i,b,h=>by
  have g:i=s.size:=(by omega);subst g;have a:cutAt s c s.size=true:=by unfold cutAt;rw[dif_neg (Nat.lt_irrefl _)]
  refine⟨s.size,lR',lR',a,λj f d=>by omega,?_⟩;rw[show s.size+1 - s.size=0+1 by omega,dE,if_pos a,Nat.sub_self]
 |m+1,i,b,h=>by
  cases a:cutAt s c i with
  |true=>refine⟨i,lR',by omega,a,λj f d=>by omega,?_⟩;rw[show s.size+1 - i=(s.size - i)+1 by omega,dE,if_pos a]
  |false=>
   obtain⟨e,f,d,k,l,n⟩:=lD s c m (i+1) b (by omega);refine⟨e,by omega,d,k,λj q o=> ?_,?_⟩
   .by_cases p:j=i
    .subst p;exact a
    .exact l j (by omega) o
   .rw[show s.size+1 - i=(s.size - i)+1 by omega,dE,if_neg (by rw[a];decide),show s.size - i=s.size+1 - (i+1) by omega];exact n
theorem extract_size(s:K){b e:Nat}(a:e<=s.size):(s.extract b e).size=e - b:=by rw[ByteArray.size_extract];omega
theorem qA(s:K){b e i:Nat}(a:e<=s.size)(h:i<(s.extract b e).size)(c:b+i<s.size):(s.extract b e)[i]=s[b+i]:=by rw[ByteArray.getElem_extract]
structure PV (s:K) (i n b:Nat):Prop where
 le:i<=s.size
 bi:b<=i
 acc:∃acc:List K,acc.length=n∧acc++dE s 46 (s.size+1 - i) i b=parts s 46
 non:∀j (h:j<s.size),b<=j→j<i→s[j].toNat≠46
theorem PV.start(s:K):PV s 0 0 0:=⟨zL',lR',⟨[],rfl,rfl⟩,λj h a b=>by omega⟩
theorem PV.part{s:K}{i n b:Nat}(h:PV s i n b)(d:yD s):∃e,i<=e∧e<=s.size∧cutAt s 46 e=true∧(∀j,i<=j→j<e→cutAt s 46 j=false)∧oW (s.extract b e)∧
  (∃a:List K,a.length=n∧(a++[s.extract b e])++dE s 46 (s.size - e) (e+1) (e+1)=parts s 46):=by
 obtain⟨e,f,g,k,l,m⟩:=lD s 46 (s.size - i) i b (by have:=h.le;omega);obtain⟨a,o,c⟩:=h.acc;rw[m] at c;refine⟨e,f,g,k,l,d.2 _ (by rw[←c];simp),a,o,?_⟩;rw[←c];simp
theorem nY{s:K}{c i:Nat}(h:i<s.size):cutAt s c i=decide (s[i].toNat=c):=by unfold cutAt;rw[dif_pos h];rfl
theorem PV.digit{s:K}{i n b:Nat}(h:PV s i n b)(l:yD s)(c:i<s.size)(d:s[i].toNat≠46):(48<=s[i].toNat∧s[i].toNat<=57)∧i - b<=8∧(b<i→∀(m:b<s.size),s[b].toNat≠48)∧PV s (i+1) n b:=by
 obtain⟨e,w,f,k,x,g, -⟩:=h.part l;have y:i≠e:=by intro o;subst o;rw[nY c] at k;exact d (of_decide_eq_true k)
 have z:=h.bi;have A:(s.extract b e).size=e - b:=extract_size s f;refine⟨?_,?_,?_,?_⟩
 .have a:=g.NT (i - b) (by omega);rw[qA s f (by omega) (by omega)] at a;simp only[show b+(i - b)=i by omega] at a;exact a
 .have:=g.le;omega
 .intro B m;have a:=g.lead (by omega);rw[qA s f (by omega) (by omega)] at a;exact a
 .obtain⟨p,q,r⟩:=h.acc;refine⟨c,by omega,⟨p,q,?_⟩,λj t u C=> ?_⟩
  .rw[←r,rU (by omega) (by rw[nY c];exact decide_eq_false d)]
  .by_cases v:j=i
   .subst v;exact d
   .exact h.non j t u (by omega)
theorem PV.point{s:K}{i n b:Nat}(h:PV s i n b)(d:yD s)(a:i<s.size)(f:s[i].toNat=46):b<i∧PV s (i+1) (n+1) (i+1):=by
 obtain⟨e,g,c,u,k,l,m,o,p⟩:=h.part d;have q:cutAt s 46 i=true:=by rw[nY a];exact decide_eq_true f
 have r:i=e:=by
  by_cases t:i=e
  .exact t
  .have:=k i lR' (by omega);rw[q] at this;cases this
 subst r;have v:=extract_size s (b:=b) c;have:=l.pos;refine⟨by omega,a,lR',⟨m++[s.extract b i],by simp[o],?_⟩,λj _ g c=>by omega⟩;rw[←p,show s.size+1 - (i+1)=s.size - i by omega]
theorem PV.done{s:K}{n b:Nat}(h:PV s s.size n b)(a:yD s):n=2∧b<s.size:=by obtain⟨e,j,d,k,l,f,m,o,g⟩:=h.part a;have i:e=s.size:=(by omega);subst i;have p:=extract_size s (b:=b) d;have:=f.pos;have c:=a.1;rw[←g,Nat.sub_self,dE] at c;simp at c;exact⟨by omega,by omega⟩
end Go.Proofs.YtljaoopfomcaoaaGreatDoor
namespace Go.Proofs.YtljaoopfomcaoaaGreatDoor
open Go.RowKit
theorem IK(N:Nat)(hN:N<1099511627776)(d:Nat):∀(ok:ae)(j:J)(ca cb:Y)(w:World),aG ok w ca j→aG ok w cb j→Wf N d j→
  Calls Tryz.prog 19 #[.agg ca.toArray,.agg cb.toArray] w λe w'=>e=.returned (.bool true)∧O No w w':=by
 induction d with
 |zero=>intro ok j ca cb w _ _ h;exact h.elim
 |succ d ih=>
  intro ok j ca cb w ha hb wf;have WF:=Z wf;have IH:=Z ih;have HA:=Z ha;have HB:=Z hb;clear wf ih;have aj:∀(k:Int)(b:Bool)(i:Int)(f:Nat)(t:K)(Q lv:Value)(R:Bool)(S:Int)(T:Nat)(U:K)(kv' aB:Value)(W:World),((w.alloc (.cells (ai k b i f t Q lv).toArray 26)).alloc (.cells (ai k R S T U kv' aB).toArray 26))=W→
    ay W w.heap.size (ai k b i f t Q lv) 26∧ay W (w.heap.size+1) (ai k R S T U kv' aB) 26∧O No w W:=by
   rintro k b i f t Q lv R S T U kv' aB W rfl;exact⟨(ay.new _ _ _).alloc _,ay.newAt (by simp) _ _,((O.refl No w).alloc _).alloc _⟩
  cases ha with
  |@null b i f t Q lv V L=>
   cases hb with
   |@null R S T U kv' aB ak af=>
    obtain⟨-, -,D,y,rfl, -, -⟩:=L;obtain⟨-, -,E,z,rfl, -, -⟩:=af;have F:=Z (aj (0) (b) i f t Q (.slice D 0 y) (R) S T U kv' (.slice E 0 z));simp only[List.length_nil];clear V ak aj;go_enter Tryz.func19,Tryz.ntmps19;unfold ai;go_upto_region 1 with fail
    generalize G:World.alloc _ _=W;obtain⟨u,q,H⟩:=F.o W G;clear G F;have az:=Z u;have aC:=Z q;have A:=Z H;have M:W.cell? ⟨w.heap.size,0,none⟩=some (.int .i64 0):=u.cell 0;have k6:W.cell? ⟨w.heap.size,6,none⟩=some (.slice D 0 y):=u.cell 6;have q0:W.cell? ⟨w.heap.size+1,0,none⟩=some (.int .i64 0):=q.cell 0;have q6:W.cell? ⟨w.heap.size+1,6,none⟩=some (.slice E 0 z):=q.cell 6;clear u q H;go_wp2;refine wp_loop_rounds 1 ?_;rw[rounds_succ];go_wp2;go_ret;exact⟨rfl,A.o⟩
  |@bool q i f t Q lv V L=>
   cases hb with
   |@bool _ S T U kv' aB ak af=>
    obtain⟨-, -,D,y,rfl, -, -⟩:=L;obtain⟨-, -,E,z,rfl, -, -⟩:=af;have F:=Z (aj (1) (q) i f t Q (.slice D 0 y) (q) S T U kv' (.slice E 0 z));simp only[List.length_nil];clear V ak aj;go_enter Tryz.func19,Tryz.ntmps19;unfold ai;go_upto_region 1 with fail
    generalize G:World.alloc _ _=W;obtain⟨u,q,H⟩:=F.o W G;clear G F;have az:=Z u;have aC:=Z q;have A:=Z H;have M:W.cell? ⟨w.heap.size,0,none⟩=some (.int .i64 1):=u.cell 0;have k6:W.cell? ⟨w.heap.size,6,none⟩=some (.slice D 0 y):=u.cell 6;have q0:W.cell? ⟨w.heap.size+1,0,none⟩=some (.int .i64 1):=q.cell 0;have q6:W.cell? ⟨w.heap.size+1,6,none⟩=some (.slice E 0 z):=q.cell 6;have k1:=u.cell 1;have q1:=q.cell 1;simp only[ai,List.getElem?_cons_succ,List.getElem?_cons_zero] at k1 q1;clear u q H;go_wp2;go_ret;exact⟨rfl,A.o⟩
  |@int b i1 f t Q lv V L=>
   cases hb with
   |@int R _ T U kv' aB ak af=>
    obtain⟨-, -,D,y,rfl, -, -⟩:=L;obtain⟨-, -,E,z,rfl, -, -⟩:=af;have F:=Z (aj (2) (b) i1 f t Q (.slice D 0 y) (R) i1 T U kv' (.slice E 0 z));simp only[List.length_nil];clear V ak aj;go_enter Tryz.func19,Tryz.ntmps19;unfold ai;go_upto_region 1 with fail
    generalize G:World.alloc _ _=W;obtain⟨u,q,H⟩:=F.o W G;clear G F;have az:=Z u;have aC:=Z q;have A:=Z H;have M:W.cell? ⟨w.heap.size,0,none⟩=some (.int .i64 2):=u.cell 0;have k6:W.cell? ⟨w.heap.size,6,none⟩=some (.slice D 0 y):=u.cell 6;have q0:W.cell? ⟨w.heap.size+1,0,none⟩=some (.int .i64 2):=q.cell 0;have q6:W.cell? ⟨w.heap.size+1,6,none⟩=some (.slice E 0 z):=q.cell 6;have k2:=u.cell 2;have q2:=q.cell 2;simp only[ai,List.getElem?_cons_succ,List.getElem?_cons_zero] at k2 q2;clear u q H;go_wp2;go_ret;exact⟨rfl,A.o⟩
  |@float b i f1 t Q lv V L=>
   cases hb with
   |@float R S _ U kv' aB ak af=>
    obtain⟨-, -,D,y,rfl, -, -⟩:=L;obtain⟨-, -,E,z,rfl, -, -⟩:=af;have F:=Z (aj (4) (b) i f1 t Q (.slice D 0 y) (R) S f1 U kv' (.slice E 0 z));simp only[List.length_nil];clear V ak aj;go_enter Tryz.func19,Tryz.ntmps19;unfold ai;go_upto_region 1 with fail
    generalize G:World.alloc _ _=W;obtain⟨u,q,H⟩:=F.o W G;clear G F;have az:=Z u;have aC:=Z q;have A:=Z H;have M:W.cell? ⟨w.heap.size,0,none⟩=some (.int .i64 4):=u.cell 0;have k6:W.cell? ⟨w.heap.size,6,none⟩=some (.slice D 0 y):=u.cell 6;have q0:W.cell? ⟨w.heap.size+1,0,none⟩=some (.int .i64 4):=q.cell 0;have q6:W.cell? ⟨w.heap.size+1,6,none⟩=some (.slice E 0 z):=q.cell 6;have k3:=u.cell 3;have q3:=q.cell 3;simp only[ai,List.getElem?_cons_succ,List.getElem?_cons_zero] at k3 q3;have dA:(FloatKind.f64.format.order f1 f1==some .eq)=true:=WF.o;clear u q H;go_wp2;go_ret;exact⟨rfl,A.o⟩
  |@text b i f t1 Q lv V L=>
   cases hb with
   |@text R S T _ kv' aB ak af=>
    obtain⟨-, -,D,y,rfl, -, -⟩:=L;obtain⟨-, -,E,z,rfl, -, -⟩:=af;have F:=Z (aj (5) (b) i f t1 Q (.slice D 0 y) (R) S T t1 kv' (.slice E 0 z));simp only[List.length_nil];clear V ak aj;go_enter Tryz.func19,Tryz.ntmps19;unfold ai;go_upto_region 1 with fail
    generalize G:World.alloc _ _=W;obtain⟨u,q,H⟩:=F.o W G;clear G F;have az:=Z u;have aC:=Z q;have A:=Z H;have M:W.cell? ⟨w.heap.size,0,none⟩=some (.int .i64 5):=u.cell 0;have k6:W.cell? ⟨w.heap.size,6,none⟩=some (.slice D 0 y):=u.cell 6;have q0:W.cell? ⟨w.heap.size+1,0,none⟩=some (.int .i64 5):=q.cell 0;have q6:W.cell? ⟨w.heap.size+1,6,none⟩=some (.slice E 0 z):=q.cell 6;have k4:=u.cell 4;have q4:=q.cell 4;simp only[ai,List.getElem?_cons_succ,List.getElem?_cons_zero] at k4 q4;clear u q H;go_wp2;go_ret;exact⟨rfl,A.o⟩
  |@list b i f t Q lv bn xs V L hn hr=>
   cases hb with
   |@list R S T U kv' aB bu _ ak af aF aK=>
    have aN:=Z L;have aQ:=Z af;have aS:=L.1;obtain⟨-, -,D,y,rfl, -, -⟩:=L;obtain⟨-, -,E,z,rfl, -, -⟩:=af;rw[hn] at aN aS;rw[aF] at aQ;rw[hn,aF];unfold maxLen at aS;have F:=Z (aj 6 b i f t Q (.slice D xs.length y) R S T U kv' (.slice E xs.length z));have bC:=Z hn;have bD:=Z aF;have bF:=Z hr;have bG:=Z aK;have WX:=Z WF.o.2;clear V ak aj hn aF hr aK;go_enter Tryz.func19,Tryz.ntmps19;unfold ai;go_upto_region 1 with fail
    generalize G:World.alloc _ _=W;obtain⟨u,q,H⟩:=F.o W G;clear G F;have az:=Z u;have aC:=Z q;have A:=Z H;have M:W.cell? ⟨w.heap.size,0,none⟩=some (.int .i64 6):=u.cell 0;have k6:W.cell? ⟨w.heap.size,6,none⟩=some (.slice D xs.length y):=u.cell 6;have q0:W.cell? ⟨w.heap.size+1,0,none⟩=some (.int .i64 6):=q.cell 0;have q6:W.cell? ⟨w.heap.size+1,6,none⟩=some (.slice E xs.length z):=q.cell 6;clear u q H;go_wp2_with fail;clear M k6 q0 q6;go_loopw [7] (λct wr=>∃n:Nat,n<=xs.length∧ct=.int .i64 n∧O No W wr) (λct _=>xs.length - (intOf ct).toNat);case atStart=>exact⟨0,zL',rfl,O.refl _ _⟩
    case round=>
     obtain⟨n,hn,rfl,P⟩:=hrel;have I:=Z P;have M:=(az.o.X P id).cell 0;have k6:=(az.o.X P id).cell 6;simp only[ai,List.getElem?_cons_succ,List.getElem?_cons_zero] at M k6;clear P;by_cases aA:n<xs.length
     .obtain⟨x,hx⟩:=gX' xs n (aA);obtain⟨ra,aH⟩:∃r,bn[n]?=some r:=⟨_,List.getElem?_eq_getElem (by rw[bC.o];exact aA)⟩;obtain⟨rb,aI⟩:∃r,bu[n]?=some r:=⟨_,List.getElem?_eq_getElem (by rw[bD.o];exact aA)⟩;obtain⟨lb,lo,rfl, -,aU⟩:=aN.o.at (i:=n) (r:=ra) aH;obtain⟨mb,mo,rfl, -,aV⟩:=aQ.o.at (i:=n) (r:=rb) aI;have bH:=Z aU;have bI:=Z aV;have aW:=Z (bF.o n ra x aH hx);have aY:=Z (bG.o n rb x aI hx);have HX:=Z hx;have aZ:(n:Int)<(xs.length:Int):=(by omega);clear aU aV aH aI hx;go_upto_region 24 with fail
      clear M k6;refine aT (FI [.eq (.pointer (some ⟨w.heap.size,6,none⟩)),.eq (.slice (some ⟨lb,lo,none⟩) xs.length y),.eq (.int .i64 n),.eq (.pointer (some ⟨lb,lo+n*7,none⟩)),.eq (.agg ra.toArray),.eq (.pointer (some ⟨w.heap.size+1,6,none⟩)),.eq (.slice (some ⟨mb,mo,none⟩) xs.length z),.eq (.int .i64 n),.eq (.pointer (some ⟨mb,mo+n*7,none⟩)),.eq (.agg rb.toArray),.eq (.bool true),.eq (.bool false)])
       (λ_ w'=>O No wr w') (by kernel_rfl) (by kernel_rfl) ((O.refl No wr).drew) ?_ ?_
      .refine⟨?_,?_,?_,?_,?_,?_,?_,?_,?_,?_,?_,?_,trivial⟩
       .intro B a v K C s g m l c o;have e2:a.tmps[2]?.getD undef=.pointer (some ⟨w.heap.size,0,none⟩):=m 2 rfl;clear s g m l;go_simp;exact o _ _ rfl c Sy
       .intro B a v K C s g m l c o;have cZ:=fq (g 0 94 rfl (l 0 rfl));have c6:v.cell? ⟨w.heap.size,6,none⟩=some (.slice (some ⟨lb,lo,none⟩) xs.length y):=((az.o.X I.o id).X c id).cell 6;clear s g m l;go_simp;exact o _ _ rfl c Sy
       .intro B a v K C s g m l c o;have e7:a.tmps[7]?.getD undef=.int .i64 (n:Int):=m 7 rfl;clear s g m l;go_simp;exact o _ _ rfl c Sy
       .intro B a v K C s g m l c o;have df:=fq (g 1 95 rfl (l 1 rfl));have dh:=fq (g 2 96 rfl (l 2 rfl));clear s g m l;go_simp;exact o _ _ rfl c Sy
       .intro B a v K C s g m l c o;have bJ:=fq (g 3 97 rfl (l 3 rfl));refine ax rfl ?_;refine aO au rfl (vE bJ) (((bH.o.X A.o id).X I.o id).X c id) aW.o.length ?_;exact o _ _ rfl c Sy
       .intro B a v K C s g m l c o;have e3:a.tmps[3]?.getD undef=.pointer (some ⟨w.heap.size+1,0,none⟩):=m 3 rfl;clear s g m l;go_simp;exact o _ _ rfl c Sy
       .intro B a v K C s g m l c o;have di:=fq (g 5 99 rfl (l 5 rfl));have c6:v.cell? ⟨w.heap.size+1,6,none⟩=some (.slice (some ⟨mb,mo,none⟩) xs.length z):=((aC.o.X I.o id).X c id).cell 6;clear s g m l;go_simp;exact o _ _ rfl c Sy
       .intro B a v K C s g m l c o;have e7:a.tmps[7]?.getD undef=.int .i64 (n:Int):=m 7 rfl;clear s g m l;go_simp;exact o _ _ rfl c Sy
       .intro B a v K C s g m l c o;have dm:=fq (g 6 100 rfl (l 6 rfl));have dn:=fq (g 7 101 rfl (l 7 rfl));clear s g m l;go_simp;exact o _ _ rfl c Sy
       .intro B a v K C s g m l c o;have bK:=fq (g 8 102 rfl (l 8 rfl));refine ax rfl ?_;refine aO au rfl (vE bK) (((bI.o.X A.o id).X I.o id).X c id) aY.o.length ?_;exact o _ _ rfl c Sy
       .intro B a v K C s g m l c o;have bM:=fq (g 4 98 rfl (l 4 rfl));have bP:=fq (g 9 103 rfl (l 9 rfl));refine ax rfl ?_;have bQ:=IH.o (okB ok w) x ra rb v (aW.o.dV.X ((A.o.trans' I.o).trans' c) nE) (aY.o.dV.X ((A.o.trans' I.o).trans' c) nE) (WX.o x (mG' HX.o));refine jE Tryz.call19 rfl (vE bM) (vE bP) bQ ?_;rintro e w2 ⟨rfl,bf⟩;exact⟨_,rfl,o _ _ rfl (c.trans' bf) (λ_ _ _ _ h=>h.aP bf)⟩
       .intro B a v K C s g m l c o;have dw:=fq (g 10 104 rfl (l 10 rfl));clear s g m l;go_simp;exact o _ _ rfl c Sy
      .intro vs w2 bg _ c;have bT:vs 11=.bool false:=bg 11 _ rfl (by decide);have bU:=Z (I.o.trans' c);clear c bg;simp only[aX,Act.put,List.setIfInBounds_toArray,List.set_cons_succ,List.set_cons_zero,bT];go_wp2_with fail;go_roundw;case rel=>exact⟨n+1,by omega,by go_num,bU.o⟩
       case measure=>simp[intOf];omega
     .have aZ:¬(n:Int)<(xs.length:Int):=(by omega);go_wp2;go_ret;exact⟨rfl,A.o.trans' I.o⟩
  |@table b i f t Q lv bn kvs V L hn hr=>
   cases hb with
   |@table R S T U kv' aB bu _ ak af aF aK=>
    have aN:=Z L;have aQ:=Z af;have bZ:=Z V;have cu:=Z ak;have aS:=L.1;have cO:=V.1;obtain⟨-, -,D,y,rfl, -, -⟩:=L;obtain⟨-, -,E,z,rfl, -, -⟩:=af;obtain⟨-, -,ka,kc,rfl, -, -⟩:=V;obtain⟨-, -,ja,jc,rfl, -, -⟩:=ak;obtain⟨xs,bz⟩:∃xs:List J,xs=kvs.map (·.2):=⟨_,rfl⟩;have aJ:kvs.length=xs.length:=(by simp[bz]);rw[hn,aJ] at aN aS;rw[aF,aJ] at aQ;rw[hn,aF,aJ];simp only[List.length_map] at bZ cu cO⊢;unfold maxLen at aS cO;have F:=Z (aj 7 b i f t (.slice ka kvs.length kc) (.slice D xs.length y) R S T U (.slice ja kvs.length jc) (.slice E xs.length z));have bV:∀(n:Nat)(x:J),xs[n]?=some x→∃p,kvs[n]?=some p∧p.2=x:=λn x h=>by
     rw[bz,List.getElem?_map] at h;cases hp:kvs[n]? with
     |none=>rw[hp] at h;cases h
     |some p=>rw[hp] at h;exact⟨p,rfl,Option.some.inj h⟩
    have bC:=Z (hn.trans aJ);have bD:=Z (aF.trans aJ);have bF:=Z (show ∀(n:Nat)(r:Y)(x:J),bn[n]?=some r→xs[n]?=some x→aG ok w r x from λn r x h1 h2=>by obtain⟨p,hp,rfl⟩:=bV n x h2;exact hr n r p h1 hp);have bG:=Z (show ∀(n:Nat)(r:Y)(x:J),bu[n]?=some r→xs[n]?=some x→aG ok w r x from λn r x h1 h2=>by obtain⟨p,hp,rfl⟩:=bV n x h2;exact aK n r p h1 hp);have WX:=Z (show ∀x∈xs,Wf N d x from λx hx=>by rw[bz] at hx;obtain⟨p,hp,rfl⟩:=List.mem_map.1 hx;exact(WF.o.2.2 p hp).2);clear aj hn aF hr aK bV bz aJ;go_enter Tryz.func19,Tryz.ntmps19;unfold ai;go_upto_region 1 with fail
    generalize G:World.alloc _ _=W;obtain⟨u,q,H⟩:=F.o W G;clear G F;have az:=Z u;have aC:=Z q;have A:=Z H;have M:W.cell? ⟨w.heap.size,0,none⟩=some (.int .i64 7):=u.cell 0;have k6:W.cell? ⟨w.heap.size,6,none⟩=some (.slice D xs.length y):=u.cell 6;have q0:W.cell? ⟨w.heap.size+1,0,none⟩=some (.int .i64 7):=q.cell 0;have q6:W.cell? ⟨w.heap.size+1,6,none⟩=some (.slice E xs.length z):=q.cell 6;have k5:=u.cell 5;have q5:=q.cell 5;simp only[ai,List.getElem?_cons_succ,List.getElem?_cons_zero] at k5 q5;clear u q H;go_wp2_with fail;clear M k6 q0 q6 k5 q5;go_loopw [69] (λct wr=>∃n:Nat,n<=kvs.length∧ct=.int .i64 n∧O No W wr) (λct _=>kvs.length - (intOf ct).toNat);case atStart=>exact⟨0,zL',rfl,O.refl _ _⟩
    case round=>
     obtain⟨n,hn,rfl,P⟩:=hrel;have I:=Z P;have q5:=(aC.o.X P id).cell 5;simp only[ai,List.getElem?_cons_succ,List.getElem?_cons_zero] at q5;by_cases aA:n<kvs.length
     .obtain⟨p,hp⟩:=gX' kvs n (aA);obtain⟨kb,ko,rfl, -,bW⟩:=bZ.o.at (i:=n) (r:=[.string p.1]) (by simp[hp]);obtain⟨jb,jo,rfl, -,bY⟩:=cu.o.at (i:=n) (r:=[.string p.1]) (by simp[hp]);have bW:=((bW.X A.o id).X P id).one;have bY:=((bY.X A.o id).X P id).one;simp only[Nat.mul_one] at bW bY;have aZ:(n:Int)<(kvs.length:Int):=Int.ofNat_lt.2 aA;clear hp P;go_wp2_with fail;go_roundw;case rel=>exact⟨n+1,by omega,by go_num,I.o⟩
      case measure=>simp[intOf];omega
     .have aZ:¬(n:Int)<(kvs.length:Int):=λh=>aA (Int.ofNat_lt.1 h)
      have M:=(az.o.X P id).cell 0;simp only[ai,List.getElem?_cons_succ,List.getElem?_cons_zero] at M;clear P;go_wp2_with fail;clear M q5;go_loopw [7] (λct wr=>∃n:Nat,n<=xs.length∧ct=.int .i64 n∧O No W wr) (λct _=>xs.length - (intOf ct).toNat);case atStart=>exact⟨0,zL',rfl,I.o⟩
      case round=>
       obtain⟨n,hn,rfl,P⟩:=hrel;have I:=Z P;have M:=(az.o.X P id).cell 0;have k6:=(az.o.X P id).cell 6;simp only[ai,List.getElem?_cons_succ,List.getElem?_cons_zero] at M k6;clear P;by_cases aA:n<xs.length
       .obtain⟨x,hx⟩:=gX' xs n (aA);obtain⟨ra,aH⟩:∃r,bn[n]?=some r:=⟨_,List.getElem?_eq_getElem (by rw[bC.o];exact aA)⟩;obtain⟨rb,aI⟩:∃r,bu[n]?=some r:=⟨_,List.getElem?_eq_getElem (by rw[bD.o];exact aA)⟩;obtain⟨lb,lo,rfl, -,aU⟩:=aN.o.at (i:=n) (r:=ra) aH;obtain⟨mb,mo,rfl, -,aV⟩:=aQ.o.at (i:=n) (r:=rb) aI;have bH:=Z aU;have bI:=Z aV;have aW:=Z (bF.o n ra x aH hx);have aY:=Z (bG.o n rb x aI hx);have HX:=Z hx;have aZ:(n:Int)<(xs.length:Int):=(by omega);clear aU aV aH aI hx;go_upto_region 24 with fail
        clear M k6;refine aT (FI [.eq (.pointer (some ⟨w.heap.size,6,none⟩)),.eq (.slice (some ⟨lb,lo,none⟩) xs.length y),.eq (.int .i64 n),.eq (.pointer (some ⟨lb,lo+n*7,none⟩)),.eq (.agg ra.toArray),.eq (.pointer (some ⟨w.heap.size+1,6,none⟩)),.eq (.slice (some ⟨mb,mo,none⟩) xs.length z),.eq (.int .i64 n),.eq (.pointer (some ⟨mb,mo+n*7,none⟩)),.eq (.agg rb.toArray),.eq (.bool true),.eq (.bool false)])
         (λ_ w'=>O No wr w') (by kernel_rfl) (by kernel_rfl) ((O.refl No wr).drew) ?_ ?_
        .refine⟨?_,?_,?_,?_,?_,?_,?_,?_,?_,?_,?_,?_,trivial⟩
         .intro B a v K C s g m l c o;have e2:a.tmps[2]?.getD undef=.pointer (some ⟨w.heap.size,0,none⟩):=m 2 rfl;clear s g m l;go_simp;exact o _ _ rfl c Sy
         .intro B a v K C s g m l c o;have cZ:=fq (g 0 94 rfl (l 0 rfl));have c6:v.cell? ⟨w.heap.size,6,none⟩=some (.slice (some ⟨lb,lo,none⟩) xs.length y):=((az.o.X I.o id).X c id).cell 6;clear s g m l;go_simp;exact o _ _ rfl c Sy
         .intro B a v K C s g m l c o;have e7:a.tmps[7]?.getD undef=.int .i64 (n:Int):=m 7 rfl;clear s g m l;go_simp;exact o _ _ rfl c Sy
         .intro B a v K C s g m l c o;have df:=fq (g 1 95 rfl (l 1 rfl));have dh:=fq (g 2 96 rfl (l 2 rfl));clear s g m l;go_simp;exact o _ _ rfl c Sy
         .intro B a v K C s g m l c o;have bJ:=fq (g 3 97 rfl (l 3 rfl));refine ax rfl ?_;refine aO au rfl (vE bJ) (((bH.o.X A.o id).X I.o id).X c id) aW.o.length ?_;exact o _ _ rfl c Sy
         .intro B a v K C s g m l c o;have e3:a.tmps[3]?.getD undef=.pointer (some ⟨w.heap.size+1,0,none⟩):=m 3 rfl;clear s g m l;go_simp;exact o _ _ rfl c Sy
         .intro B a v K C s g m l c o;have di:=fq (g 5 99 rfl (l 5 rfl));have c6:v.cell? ⟨w.heap.size+1,6,none⟩=some (.slice (some ⟨mb,mo,none⟩) xs.length z):=((aC.o.X I.o id).X c id).cell 6;clear s g m l;go_simp;exact o _ _ rfl c Sy
         .intro B a v K C s g m l c o;have e7:a.tmps[7]?.getD undef=.int .i64 (n:Int):=m 7 rfl;clear s g m l;go_simp;exact o _ _ rfl c Sy
         .intro B a v K C s g m l c o;have dm:=fq (g 6 100 rfl (l 6 rfl));have dn:=fq (g 7 101 rfl (l 7 rfl));clear s g m l;go_simp;exact o _ _ rfl c Sy
         .intro B a v K C s g m l c o;have bK:=fq (g 8 102 rfl (l 8 rfl));refine ax rfl ?_;refine aO au rfl (vE bK) (((bI.o.X A.o id).X I.o id).X c id) aY.o.length ?_;exact o _ _ rfl c Sy
         .intro B a v K C s g m l c o;have bM:=fq (g 4 98 rfl (l 4 rfl));have bP:=fq (g 9 103 rfl (l 9 rfl));refine ax rfl ?_;have bQ:=IH.o (okB ok w) x ra rb v (aW.o.dV.X ((A.o.trans' I.o).trans' c) nE) (aY.o.dV.X ((A.o.trans' I.o).trans' c) nE) (WX.o x (mG' HX.o));refine jE Tryz.call19 rfl (vE bM) (vE bP) bQ ?_;rintro e w2 ⟨rfl,bf⟩;exact⟨_,rfl,o _ _ rfl (c.trans' bf) (λ_ _ _ _ h=>h.aP bf)⟩
         .intro B a v K C s g m l c o;have dw:=fq (g 10 104 rfl (l 10 rfl));clear s g m l;go_simp;exact o _ _ rfl c Sy
        .intro vs w2 bg _ c;have bT:vs 11=.bool false:=bg 11 _ rfl (by decide);have bU:=Z (I.o.trans' c);clear c bg;simp only[aX,Act.put,List.setIfInBounds_toArray,List.set_cons_succ,List.set_cons_zero,bT];go_wp2_with fail;go_roundw;case rel=>exact⟨n+1,by omega,by go_num,bU.o⟩
         case measure=>simp[intOf];omega
       .have aZ:¬(n:Int)<(xs.length:Int):=(by omega);go_wp2;go_ret;exact⟨rfl,A.o.trans' I.o⟩
structure VC (w:World) (xs:List J) (wr:World) (n:Nat) (v:Value) (rows:List (Y)):Prop where
 le:n<=xs.length
 own:aB wr w.heap.size 26 7 v rows
 len:rows.length=n
 val:∀(i:Nat)(r:Y)(x:J),rows[i]?=some r→xs[i]?=some x→aG (okF w.heap.size v) wr r x
 X:O No w wr
theorem VC.step{w:World}{xs:List J}{wr:World}{n:Nat}{v:Value}{d:List (Y)}(h:VC w xs wr n v d){x:J}(q:xs[n]?=some x){w3 c w6:World}{cs:Y}{v':Value}
  (s:O No wr w3) (t:O No w3 c) (D:aG (λy=>w3.heap.size<=y) c cs x) (u:O (λb=>v.ownBlock=some b) (c.alloc (.cells cs.toArray 26)) w6) (E:aB w6 w.heap.size 26 7 v' (d++[cs]))
  (f:v'.ownBlock=v.ownBlock∨∀k,v'.ownBlock=some k→(c.alloc (.cells cs.toArray 26)).heap.size<=k):VC w xs w6 (n+1) v' (d++[cs]):=by
 have F:n<xs.length:=(gS'.1 q).1;have j:∀k,v.ownBlock=some k→w.heap.size<=k∧k<wr.heap.size:=λk z=>⟨(h.own.elem z).1,(h.own.elem z).2.1⟩
 have A:O (λb=>v.ownBlock=some b) wr w6:=(((s.trans' t).mono (λi _ e=>e.elim)).alloc _).trans u (λi _ e=>e);have K:=s.size;have L:=t.size;refine⟨F,E,by simp[h.len],λi r y g l=> ?_,h.X.trans A (λi B e=>absurd (j i e).1 (by omega))⟩;have C:∀b,b<c.heap.size→v.ownBlock≠some b→v'.ownBlock≠some b:=λb a G e=>by
  rcases f with f|f
  .exact G (f▸e)
  .have:=f b e;simp at this;omega
 by_cases B:i<d.length
 .rw[List.getElem?_append_left B] at g;have m:=(h.val i r y g l).mono (ok':=λb=>okF w.heap.size v b∧b<wr.heap.size) (λb a o=>⟨o,a⟩);have p:=m.X A (λb a e=>a.1.2 e);exact p.mono (λb _ a=>⟨a.1.1,C b (by have:=a.2;omega) a.1.2⟩)
 .have H:i=d.length:=by
   have:=(gS'.1 g).1;simp at this;omega
  subst H;rw[List.getElem?_append_right lR',Nat.sub_self] at g;cases g;rw[h.len,q] at l;cases l;have m:=D.mono (ok':=λb=>w3.heap.size<=b∧b<c.heap.size) (λb a o=>⟨o,a⟩);have p:=m.X ((O.refl No c).alloc (.cells cs.toArray 26)) (λb a e=>e);have I:=p.X u (λb a e=>by have:=(j b e).2;have:=a.1;omega);refine I.mono (λb _ a=>⟨by have:=h.X.size;have:=a.1;omega,C b a.2 (λe=> ?_)⟩);have:=(j b e).2;have:=a.1;omega
def BX(w:World)(j:J)(e:Ending)(a:World):Prop:=
 ∃cs:Y,e=.returned (.agg cs.toArray)∧aG (λx=>w.heap.size<=x) a cs j∧O No w a
theorem Dq(N d:Nat)(hN:N<1099511627776)(E:∀(ok:ae)(j:J)(cs:Y)(w:World),aG ok w cs j→Wf N d j→Calls Tryz.prog 15 #[.agg cs.toArray] w (BX w j))
  (ok:ae) (xs:List J) (F:Value) (p:List (Y)) (w:World) (y:aC ok w F 7 p) (z:p.length=xs.length) (q:∀(n:Nat)(r:Y)(x:J),p[n]?=some r→xs[n]?=some x→aG ok w r x)
  (G:∀x∈xs,Wf N d x) (b:xs.length<=N):Calls Tryz.prog 25 #[F] w λe w'=>∃v' af,e=.returned v'∧VC w xs w' xs.length v' af:=by
 have H:=Z y;have HN:=Z z;have HR:=Z q;have WX:=Z G;have IH:=Z E;have aj:=Z b;have I:=y.1;obtain⟨-, -,la,lc,rfl, -, -⟩:=y;unfold maxLen at I;rw[z] at I H⊢;clear z q G E b;go_enter Tryz.func25,Tryz.ntmps25;go_wp2_with fail;go_loopw [3,8] (λv A wr=>∃(n:Nat) (s:List (Y)),A=.int .i64 n∧VC w xs wr n v s) (λ_ A _=>xs.length - (intOf A).toNat)
 case atStart=>exact⟨0,[],rfl,zL',aB.nil _ _ _ _,rfl,λi r x h=>by simp at h,O.refl _ _⟩
 case round=>
  obtain⟨n,s,rfl,K⟩:=hrel;have a:=Z K;clear K;by_cases B:n<xs.length
  .obtain⟨x,b⟩:=gX' xs n (B);obtain⟨r,C⟩:=gX' p n ((by rw[HN.o];exact B));obtain⟨lb,lo,rfl, -,L⟩:=H.o.at (i:=n) (r:=r) C;have M:=L.X a.o.X id;have D:=Z (HR.o n r x C b);obtain⟨c,f,g,k,l,m,o,rfl⟩:=D.o.seven;have aO:(n:Int)<(xs.length:Int):=(by omega);have ax:(ai c f g k l m o).all (·.oneCell')=true:=D.o.one;have P:=Z b;clear C L b;go_wp2_with (first|(with_reducible refine V rfl au rfl rfl M rfl ?_)|(with_reducible refine ak rfl au rfl rfl rfl rfl rfl ax ?_)|(with_reducible refine V rfl au rfl rfl (ay.new wr (ai c f g k l m o) 26).cells rfl ?_));refine(IH.o (okB ok w) x (ai c f g k l m o) (wr.alloc (.cells (ai c f g k l m o).toArray 26)) (D.o.dV.X (a.o.X.alloc _) nE) (WX.o x (mG' P.o))).mono ?_;rintro e Q ⟨cs,rfl,t,u⟩;have az:=Z (λw6 v'=>a.o.step (w6:=w6) (v':=v') P.o ((O.refl No wr).alloc _) u t);have R:=(a.o.own.alloc (.cells (ai c f g k l m o).toArray 26)).X u nE;have S:=t.length;have aA:=t.one;have aF:s.length+1<=1099511627776:=by rw[a.o.len];have:=aj.o;omega
   have aH:w.heap.size<=Q.heap.size+1:=by have h1:=a.o.X.size;have h2:=u.size;simp at h2;omega
   clear t u M;go_wp2_with (first|(refine yA rfl rfl rfl S ?_)|(at_builtin;refine aN rfl nC rfl rfl (R.alloc _) rfl (aC.gX Q cs 26 7 S) (by intro r q;obtain rfl:=List.mem_singleton.1 q;exact aA) aF (by decide) (by simpa using aH) ?_;intro v' w6 T U W aI;go_frame));have aJ:=Z (az.o w6 v' U T W);clear T U W aI R;go_roundw;case rel=>exact⟨n+1,_,by go_num,aJ.o⟩
   case measure=>simp[intOf];omega
  .have aK:n=xs.length:=Nat.le_antisymm a.o.le (Nat.not_lt.1 B);subst aK;have aP:¬((xs.length:Nat):Int)<(xs.length:Int):=by omega
   go_wp2_with fail
   go_ret;exact⟨_,rfl,s,a.o⟩
def kE:J→List K
 | .table kvs=>kvs.map (·.1)
 | _=> []
def gZ:J→List J
 | .table kvs=>kvs.map (·.2)
 | .list xs=>xs
 | _=> []
theorem aG.parts{ok:ae}{w:World}{k b i f t kv lv}{j:J}(h:aG ok w (ai k b i f t kv lv) j):aC ok w kv 1 (aH (kE j))∧∃d,aC ok w lv 7 d∧d.length=(gZ j).length∧∀(n:Nat)(r:Y)(x:J),d[n]?=some r→(gZ j)[n]?=some x→aG ok w r x:=by
 cases h with
 |null a c=>exact⟨a,[],c,rfl,λn r x h=>by simp at h⟩
 |bool a c=>exact⟨a,[],c,rfl,λn r x h=>by simp at h⟩
 |int a c=>exact⟨a,[],c,rfl,λn r x h=>by simp at h⟩
 |float a c=>exact⟨a,[],c,rfl,λn r x h=>by simp at h⟩
 |text a c=>exact⟨a,[],c,rfl,λn r x h=>by simp at h⟩
 |list a c g l=>exact⟨a,_,c,g,l⟩
 |@table _ _ _ _ _ _ d kvs a c g l=>
  refine⟨by simpa[aH,kE,List.map_map,Function.comp_def] using a,d,c,by simpa[gZ] using g,λn r x m e=> ?_⟩;simp only[gZ,List.getElem?_map] at e;cases hp:kvs[n]? with
  |none=>rw[hp] at e;cases e
  |some p=>rw[hp] at e;cases e;exact l n r p m hp
theorem aG.build{ok ok':ae}{w m:World}{k b i f t kv lv kv' s}{j:J}{o:List (Y)}(h:aG ok w (ai k b i f t kv lv) j)(c:aC ok' m kv' 1 (aH (kE j)))(a:aC ok' m s 7 o)
  (q:o.length=(gZ j).length) (u:∀(n:Nat)(r:Y)(x:J),o[n]?=some r→(gZ j)[n]?=some x→aG ok' m r x):aG ok' m (ai k b i f t kv' s) j:=by
 have l:gZ j=[]→o=[]:=λe=>by rw[e] at q;exact List.eq_nil_of_length_eq_zero q
 cases h with
 |null d g=>rw[l rfl] at a;exact .null c a
 |bool d g=>rw[l rfl] at a;exact .bool c a
 |int d g=>rw[l rfl] at a;exact .int c a
 |float d g=>rw[l rfl] at a;exact .float c a
 |text d g=>rw[l rfl] at a;exact .text c a
 |list d g v y=>exact .list c a q u
 |@table _ _ _ _ _ _ B kvs d g v y=>refine .table (by simpa[aH,kE,List.map_map,Function.comp_def] using c) a (by simpa[gZ] using q) (λn r p z A=>u n r p.2 z (by simp[gZ,A]))
theorem Wf.kE{N d:Nat}{j:J}(h:Wf N (d+1) j):(kE j).length<=N:=by
 cases j with
 |table kvs=>have:=h.2.1;simpa[Go.Proofs.YtljaoopfomcaoaaGreatDoor.kE] using this
 | _=>simp[Go.Proofs.YtljaoopfomcaoaaGreatDoor.kE]
theorem Wf.gZ{N d:Nat}{j:J}(h:Wf N (d+1) j):(gZ j).length<=N∧∀x∈gZ j,Wf N d x:=by
 cases j with
 |table kvs=>refine⟨by have:=h.2.1;simpa[Go.Proofs.YtljaoopfomcaoaaGreatDoor.gZ] using this,λx a=> ?_⟩;obtain⟨p,b,rfl⟩:=List.mem_map.1 a;exact(h.2.2 p b).2
 |list xs=>exact h
 | _=>exact⟨zL',λx a=>by simp[Go.Proofs.YtljaoopfomcaoaaGreatDoor.gZ] at a⟩
theorem aB.lower{w:World}{b c e size:Nat}{v:Value}{d:List (Y)}(h:aB w b e size v d)(f:c<=b):aB w c e size v d:=by
 obtain⟨i,j,a⟩:=h;refine⟨i,j,?_⟩;rcases a with a|⟨g,cap,k,l,m,r⟩
 .exact .inl a
 .exact .inr ⟨g,cap,k,l,Nat.le_trans f m,r⟩
def uQ(B:Nat)(xs:List J)(v:Value)(w:World):Prop:=
 ∃a,aB w B 26 7 v a∧a.length=xs.length∧∀(i:Nat)(r:Y)(x:J),a[i]?=some r→xs[i]?=some x→aG (λb=>B<=b) w r x
theorem uQ.X{B:Nat}{xs:List J}{v:Value}{S:ae}{w c:World}(h:uQ B xs v w)(d:O S w c)(f:∀k,S k→k<B):uQ B xs v c:=by obtain⟨l,g,m,n⟩:=h;exact⟨l,g.X d (λk j e=>by have:=(g.elem j).1;have:=f k e;omega),m,λi r x a b=>(n i r x a b).X d (λk j e=>by have:=f k e;omega)⟩
def Fact.MQ(B:Nat)(xs:List J):Fact:=
 ⟨λv w=>uQ B xs v w,λS _=>∀k,S k→k<B,λS v w c h a b=>h.X a b,λ_ _ e=>e.elim⟩
structure MC (g:Nat) (mk:Value→Value→Y) (kv lv:Value) (B:Nat) (ks:List K) (xs:List J) (wr w:World) (dk dl:Bool):Prop where
 X:O (·=g) wr w
 hB:g<B
 size:B<=w.heap.size
 box:∃k' l',ay w g (mk k' l') 26∧(dk=false→k'=kv)∧(dk=true→aB w B 9 1 k' (aH ks))∧(dl=false→l'=lv)∧(dl=true→uQ B xs l' w)
theorem MC.df{g:Nat}{mk:Value→Value→Y}{b c:Value}{B:Nat}{ks:List K}{xs:List J}{wr w d:World}{f i:Bool}(h:MC g mk b c B ks xs wr w f i)(a:O No w d):MC g mk b c B ks xs wr d f i:=by obtain⟨j,k,l,m,n,o,p⟩:=h.box;exact⟨h.X.trans' a,h.hB,Nat.le_trans h.size a.size,j,k,l.X a id,m,λe=>(n e).X a nE,o,λe=>(p e).X a (λ_ e=>e.elim)⟩
theorem MC.KT{g:Nat}{k:Int}{b:Bool}{i:Int}{f:Nat}{t:K}{j l:Value}{B:Nat}{ks:List K}{xs:List J}{wr w:World}{m:Bool}(h:MC g (λc a=>ai k b i f t c a) j l B ks xs wr w false m){v:Value}(n:aB w B 9 1 v (aH ks)):
  MC g (λc a=>ai k b i f t c a) j l B ks xs wr (w.setCell ⟨g,5,none⟩ v) true m∧O (·=g) w (w.setCell ⟨g,5,none⟩ v):=by
 obtain⟨c,a,o,z,A,p,r⟩:=h.box;obtain⟨s,d,u⟩:=o.setCell 5 v;have x:=h.hB;exact⟨⟨h.X.trans d nE,x,by rw[u];exact h.size,v,a,s,(λe=>by cases e),λ_=>n.X d (λq y e=>by have:=(n.elem y).1;omega),p,λe=>(r e).X d (λq e=>by omega)⟩,d⟩
theorem MC.KU{g:Nat}{k:Int}{b:Bool}{i:Int}{f:Nat}{t:K}{j l:Value}{B:Nat}{ks:List K}{xs:List J}{wr w:World}{m:Bool}(h:MC g (λa c=>ai k b i f t a c) j l B ks xs wr w m false){v:Value}(o:uQ B xs v w):
  MC g (λa c=>ai k b i f t a c) j l B ks xs wr (w.setCell ⟨g,6,none⟩ v) m true∧O (·=g) w (w.setCell ⟨g,6,none⟩ v):=by
 obtain⟨a,c,p,r,n,z,A⟩:=h.box;obtain⟨s,d,u⟩:=p.setCell 6 v;have x:=h.hB;exact⟨⟨h.X.trans d nE,x,by rw[u];exact h.size,a,v,s,r,λe=>(n e).X d (λq y C=>by have:=((n e).elem y).1;omega),(λe=>by cases e),λ_=>o.X d (λq e=>by omega)⟩,d⟩
theorem dW{P:Program}{f:FuncId}(d:∀(args:Array Value)(w:World),(callFunc f args).run P w=.ok (.enter f args) w){o:Oper}{a:Act}{w:World}{K:ag}{Q:ah}{x:Operand}{ts:Array TypeId}(g:o.op=.call {callee:=.value (.func f),args:=#[x],argTypes:=ts})
  {u:Value} (c:a.eval x=u) {R:Ending→World→Prop} (i:Calls P f #[u] w R) (h:∀e b,R e b→∃v,e=.returned v∧K (a.put o.dst v) b):o.wp P a w K Q:=by
 unfold Oper.wp;have j:(execOp a.eval o).run P w=.ok (.enter f #[u]) w:=by
  simp only[execOp,g,List.map_toArray,List.map_cons,List.map_nil,c];simp[resolve,Act.eval,go_sem,d]
  (rw[←c];cases x<;>simp[Act.eval])
 rw[j,Oper.upon_enter];refine i.mono λe b k=> ?_
 obtain⟨v,rfl,l⟩:=h e b k;exact l
theorem mg(N:Nat)(hN:N<1099511627776)(d:Nat):∀(ok:ae)(j:J)(cs:Y)(w:World),aG ok w cs j→Wf N d j→Calls Tryz.prog 15 #[.agg cs.toArray] w (BX w j):=by
 induction d with
 |zero=>intro ok j cs w _ h;exact h.elim
 |succ d ih=>
  intro ok j cs w C wf;obtain⟨k,b,i,f,t,kv,lv,rfl⟩:=C.seven;have HV:=Z C;have IH:=Z ih;obtain⟨U,bH,af,aC,aU⟩:=C.parts;have dm:=wf.kE;have WX:=Z wf.gZ;have aW:=U.1;have aY:=af.1;replace U:=U.mono (ok':=okB ok w) (λx v h=>⟨h,v⟩) (by decide);replace af:=af.mono (ok':=okB ok w) (λx v h=>⟨h,v⟩) (by decide);have aZ:=Z U;have bf:=Z af;obtain⟨-, -,R,S,rfl, -, -⟩:=U;obtain⟨-, -,P,Q,rfl, -, -⟩:=af;simp only[aH,List.length_map] at aZ HV aW⊢;rw[aC] at bf HV aY⊢;unfold maxLen at aW aY;have bI:=Z (show([]:List (Y)).length+(aH (kE j)).length<=1099511627776 by simp[aH];omega);have bK:=Z aC;have bM:=Z aU;have bg:∀W,((w.alloc (.cells (ai k b i f t (.slice R (kE j).length S) (.slice P (gZ j).length Q)).toArray 26)).alloc (.cells bu.toArray 26))=W→
    ay W w.heap.size (ai k b i f t (.slice R (kE j).length S) (.slice P (gZ j).length Q)) 26∧ay W (w.heap.size+1) bu 26∧O No w W∧W.heap.size=w.heap.size+2:=by
   rintro W rfl;exact⟨(ay.new _ _ _).alloc _,ay.newAt (by simp) _ _,((O.refl No w).alloc _).alloc _,by simp⟩
  have HF:=Z bg;clear bg C wf ih aC aU;go_enter Tryz.func15,Tryz.ntmps15;unfold ai;go_upto_region 1 with fail
  generalize aF:World.alloc _ _=W;obtain⟨b0,b1,c2,bP⟩:=HF.o W aF;clear aF HF;obtain⟨g,hg⟩:∃g,g=w.heap.size:=⟨_,rfl⟩;obtain⟨B,aI⟩:∃B,B=w.heap.size+2:=⟨_,rfl⟩;have aj:=Z (show g=w.heap.size from hg);have aJ:=Z (show g<B∧B<=W.heap.size by omega);have bQ:=Z aI;rw[←hg] at b0 b1⊢;have bT:=Z b0;have bV:=Z b1;have az:=Z c2;clear b0 b1 c2 bP hg aI;refine aT (FI [.eq (.pointer (some ⟨g,5,none⟩)),.eq (.slice R (kE j).length S),.own B 9 1 (aH (kE j)),.eq (.pointer (some ⟨g,6,none⟩)),.eq (.slice P (gZ j).length Q),.MQ B (gZ j),.eq (.pointer (some ⟨g,5,none⟩)),.any,.eq (.pointer (some ⟨g,6,none⟩)),.any])
   (λD w'=>MC g (λF G=>ai k b i f t F G) (.slice R (kE j).length S) (.slice P (gZ j).length Q) B (kE j) (gZ j) W w' (D 7) (D 9)) (by kernel_rfl) (by kernel_rfl)
   ⟨(O.refl _ W).drew,aJ.o.1,aJ.o.2,_,_,bT.o.drew,λ_=>rfl,(λe=>by cases e),λ_=>rfl,(λe=>by cases e)⟩ ?_ ?_
  .refine⟨?_,?_,?_,?_,?_,?_,?_,?_,?_,?_,trivial⟩
   .intro D a u K z o l p m c s;have e1:a.tmps[1]?.getD undef=.pointer (some ⟨g,0,none⟩):=p 1 rfl;clear o l p m;go_simp;exact s _ _ rfl (by simpa[dn] using c) Sy
   .intro D a u K z o l p m c s;have e3:=fq (l 0 3 rfl (m 0 rfl));have n7:=ny1 o 7 2 rfl (ny1 o 2 1 rfl z);obtain⟨F,G,y,H, -⟩:=c.box;obtain rfl:F=.slice R (kE j).length S:=H n7;have c6:u.cell? ⟨g,5,none⟩=some (.slice R (kE j).length S):=y.cell 5;clear o l p m;clear y H;go_simp;exact s _ _ rfl (by simpa[dn] using c) Sy
   .intro D a u K z o l p m c s;have e4:=fq (l 1 4 rfl (m 1 rfl));have aK:=c.hB;refine ax rfl ?_;refine bJ iK rfl rfl (aB.nil u B 9 1) (vE e4) ((aZ.o.X az.o nE).X c.X (λx v e=>by have:=v.2;have:=aj.o;omega)) (by intro r hr;obtain⟨q, -,rfl⟩:=List.mem_map.1 hr;rfl) bI.o (by decide) c.size λv' w' A hC aI dw=> ?_
    have bn:O No u w':=hC.mono (λi _ e=>by cases e);exact s v' w' (by simpa[FI,Fact.own] using A) (by simpa[dn] using c.df bn) (λ_ _ _ _ h=>h.aP bn)
   .intro D a u K z o l p m c s;have e1:a.tmps[1]?.getD undef=.pointer (some ⟨g,0,none⟩):=p 1 rfl;clear o l p m;go_simp;exact s _ _ rfl (by simpa[dn] using c) Sy
   .intro D a u K z o l p m c s;have e6:=fq (l 3 6 rfl (m 3 rfl));have n9:=ny1 o 9 5 rfl (ny1 o 5 4 rfl z);obtain⟨F,G,y, -, -,H, -⟩:=c.box;obtain rfl:G=.slice P (gZ j).length Q:=H n9;have c6:u.cell? ⟨g,6,none⟩=some (.slice P (gZ j).length Q):=y.cell 6;clear o l p m;clear y H;go_simp;exact s _ _ rfl (by simpa[dn] using c) Sy
   .intro D a u K z o l p m c s;have e7:=fq (l 4 7 rfl (m 4 rfl));have aK:=c.hB;have bz:=c.size;refine ax rfl ?_;have bW:=Dq N d hN IH.o (okB ok w) (gZ j) (.slice P (gZ j).length Q) bH u ((bf.o.X az.o nE).X c.X (λx v e=>by have:=v.2;have:=aj.o;omega)) bK.o (λn r x H I=>((bM.o n r x H I).dV.X az.o nE).X c.X (λx v e=>by have:=v.2;have:=aj.o;omega)) WX.o.2 WX.o.1;refine dW Tryz.call25 rfl (vE e7) bW ?_;rintro e w2 ⟨v',bC,rfl,ak⟩;exact⟨_,rfl,s v' w2 ⟨bC,ak.own.lower bz,ak.len,λi r x H I=>(ak.val i r x H I).mono (λb _ y=>Nat.le_trans bz y.1)⟩ (by simpa[dn] using c.df ak.X) (λ_ _ _ _ h=>h.aP ak.X)⟩
   .intro D a u K z o l p m c s;have e1:a.tmps[1]?.getD undef=.pointer (some ⟨g,0,none⟩):=p 1 rfl;clear o l p m;go_simp;exact s _ _ rfl (by simpa[dn] using c) Sy
   .intro D a u K z o l p m c s;have e9:=fq (l 6 9 rfl (m 6 rfl));have A:=l 2 5 rfl (m 2 rfl);change aB _ _ _ _ _ _ at A;obtain⟨sa,sn,sc,C⟩:=A.slice;rw[C] at A;have e5:=C;have aK:=c.hB;have L:=c;rw[z] at L;obtain⟨F,G,y, -⟩:=L.box;have c6:u.cell? ⟨g,5,none⟩=some F:=y.cell 5;have f6:u.frozen? ⟨g,5,none⟩=false:=y.frozen 5;obtain⟨I,h3⟩:=L.KT A;have aN:=Z I;have aO:=Z h3;clear o l p m;clear C c L A y I h3;go_simp;refine s undef _ trivial (by have h':=aN.o;simpa[dn] using h') ?_;have hC:=aO.o;refine λM E _ u' hu=>hu.keep hC (aV (i:=7) (λM T E=> ?_) M E)
    match M,E with
    |0,_|1,_=>exact trivial
    |2,_=>exact λq hq y=>by omega
    |3,_|4,_=>exact trivial
    |5,_=>exact λq hq=>by omega
    |6,_=>exact trivial
    |7,E=>exact absurd rfl E
    |8,_|9,_=>exact trivial
    |M+10,_=>exact absurd T (by simp)
   .intro D a u K z o l p m c s;have e1:a.tmps[1]?.getD undef=.pointer (some ⟨g,0,none⟩):=p 1 rfl;clear o l p m;go_simp;exact s _ _ rfl (by simpa[dn] using c) Sy
   .intro D a u K z o l p m c s;have dA:=fq (l 8 10 rfl (m 8 rfl));have A:=l 5 8 rfl (m 5 rfl);change uQ _ _ _ _ at A;obtain⟨sa,sn,sc,C⟩:=A.choose_spec.1.slice;rw[C] at A;have e8:=C;have aK:=c.hB;have L:=c;rw[z] at L;obtain⟨F,G,y, -⟩:=L.box;have c6:u.cell? ⟨g,6,none⟩=some G:=y.cell 6;have f6:u.frozen? ⟨g,6,none⟩=false:=y.frozen 6;obtain⟨I,h3⟩:=L.KU A;have aN:=Z I;have aO:=Z h3;clear o l p m;clear C c L A y I h3;go_simp;refine s undef _ trivial (by have h':=aN.o;simpa[dn] using h') ?_;have hC:=aO.o;refine λM E _ u' hu=>hu.keep hC (aV (i:=9) (λM T E=> ?_) M E)
    match M,E with
    |0,_|1,_=>exact trivial
    |2,_=>exact λq hq y=>by omega
    |3,_|4,_=>exact trivial
    |5,_=>exact λq hq=>by omega
    |6,_|7,_|8,_=>exact trivial
    |9,E=>exact absurd rfl E
    |M+10,_=>exact absurd T (by simp)
  .intro vs w2 bY _ c;obtain⟨F,G,bZ, -,hk, -,T⟩:=c.box;have hk:=hk rfl;obtain⟨bC,aQ,bD,bF⟩:=T rfl;have cu:=bV.o.X c.X (by have:=aj.o;omega);have aS:aG (λx=>B<=x) w2 (ai k b i f t F G) j:=HV.o.build (hk.rowAt.mono (λx _ v=>(hk.elem v).1) (by decide)) (aQ.rowAt.mono (λx _ v=>(aQ.elem v).1) (by decide)) bD bF;have cO:=aS.one;have cZ:=Z aS;have dh:=Z c.X;have dB:=Z c.size;clear c bY hk T aQ bD bF aS;simp only[aX,Act.put,List.setIfInBounds_toArray,List.set_cons_succ,List.set_cons_zero];go_wp2_with (first|(with_reducible refine V rfl au rfl rfl bZ.cells rfl ?_)|(with_reducible refine aA rfl au rfl rfl rfl cu rfl rfl cO ?_;intro w6 di bG dC));have aF:=aj.o;have dD:=aJ.o;have dE:=bQ.o;refine bodyPost_ret (bU rfl au rfl di rfl) rfl ⟨_,rfl,(cZ.o.X bG (λx v e=>by omega)).mono (λx _ v=>by omega),((az.o.trans dh.o (λx v e=>absurd e (by omega)))).trans bG (λx v e=>absurd e (by omega))⟩
def y7(ok:ae)(w:World)(m:Value)(x:J):Prop:=(x=.null∧m=.map none)∨∃t b,x=.table t∧m=.map (some b)∧bC ok w (.iface 67 m) (.table t)
theorem uS{ok:ae}{w:World}{x:J}{cs:Y}{N d:Nat}(g:N<1099511627776)(h:aG ok w cs x)(i:Wf N d x)(c:x=.null∨dA x=true)(j:sz x<=2000)(k:d<=61):
  Calls Tryz.prog 45 #[.agg cs.toArray] w λe a=>∃m,e=.returned (.tuple #[m,.bool true])∧y7 (λy=>w.heap.size<=y) a m x∧O No w a:=by
 rcases c with rfl|c
 .refine(EG g h i j k).mono ?_;rintro e a ⟨rfl,f⟩;exact⟨_,rfl,.inl ⟨rfl,rfl⟩,f⟩
 .obtain⟨t,rfl⟩:=dm c;refine(qo g h i j k).mono ?_;rintro e a ⟨b,rfl,l,f⟩;exact⟨_,rfl,.inr ⟨t,b,rfl,rfl,l⟩,f⟩
theorem y7.slice{ok:ae}{w:World}{m:Value}{x:J}(h:y7 ok w m x):∃p,m=.map p:=by
 rcases h with⟨-,h⟩|⟨t,b, -,h, -⟩
 .exact⟨_,h⟩
 .exact⟨_,h⟩
theorem Gp(t:Nat):FloatKind.f64.format.order ((t % 2)*2 ^ 63+0x7ff0000000000000+1+(t / 2) % (2 ^ 52 - 1)) 0=none:=by
 have b:(t / 2) % (2 ^ 52 - 1)<2 ^ 52 - 1:=Nat.mod_lt _ (by decide);generalize (t / 2) % (2 ^ 52 - 1)=x at b;have i:t % 2=0∨t % 2=1:=(by omega);have c:∃s a,FloatKind.f64.format.read ((t % 2)*2 ^ 63+0x7ff0000000000000+1+x)=.nan s a:=by unfold Ieee.Format.read;have d:FloatKind.f64.format.signWeight=2 ^ 63:=(by decide);have e:FloatKind.f64.format.infRung=0x7ff0000000000000:=(by decide);have f:FloatKind.f64.format.binade=2 ^ 52:=(by decide);rw[d,e,f];have g:((t % 2)*2 ^ 63+0x7ff0000000000000+1+x) % 2 ^ 63=0x7ff0000000000000+1+x:=(by omega);simp only[g];rw[if_neg (by omega),if_neg (by omega),if_neg (by omega)];exact⟨_,_,rfl⟩
 obtain⟨s,a,h⟩:=c;unfold Ieee.Format.order;rw[h]
 rfl
theorem JD{f r:Nat}(h:FloatKind.f64.format.sub f f=some r):rD f:=by
 unfold rD Ieee.Format.order;unfold Ieee.Format.sub at h;cases hd:FloatKind.f64.format.read f with
 |number s m p=>simp[Ieee.Datum.order]
 |infinity s=>simp[Ieee.Datum.order]
 |nan s m=>rw[hd] at h;simp[Ieee.Datum.sum,Ieee.Datum.opposite] at h
theorem EO(f:Nat)(w:World):∃r a,(Go.binOp BinOp.sub 22 (.float .f64 f) (.float .f64 f)).run Tryz.prog w=.ok (.float .f64 r) a∧(a=w∨a=w.drew)∧((FloatKind.f64.format.order r 0==some .eq)=true→rD f):=by
 have b:(Go.binOp BinOp.sub 22 (.float .f64 f) (.float .f64 f)).run Tryz.prog w=(Go.Op.floatArith .sub .f64 f f).run Tryz.prog w:=(by kernel_rfl);rw[b];unfold Go.Op.floatArith;cases hs:FloatKind.f64.format.sub f f with
 |some r=>exact⟨r,w,by simp[Sem.run_bind,Result.andThen,hs],.inl rfl,λ_=>JD hs⟩
 |none=>
  refine⟨(Question.nanBits .f64 f f).cut (w.tape w.drawn (Question.nanBits .f64 f f)),w.drew,?_,.inr rfl,λh=> ?_⟩
  .simp[Sem.run_bind,Result.andThen,hs,Question.forced]
  .exfalso
   generalize w.tape w.drawn (Question.nanBits .f64 f f)=t at h;have c:FloatKind.f64.format.order ((Question.nanBits .f64 f f).cut t) 0=none:=Gp t;rw[c] at h;cases h
inductive jK (ok:ae) (w:World):Y→Prop where
 |mk {k:Int} {b:Bool} {i:Int} {f:Nat} {t:K} {kv lv:Value} {ks:List K} {rows:List (Y)} (hk:aC ok w kv 1 (aH ks)) (OB:∀x∈ks,fK x) (hl:aC ok w lv 7 rows) (hr:∀r∈rows,jK ok w r):jK ok w (ai k b i f t kv lv)
theorem jK.X{ok S:ae}{w a:World}{cs:Y}(h:jK ok w cs)(c:O S w a)(d:∀b,ok b→¬S b):jK ok a cs:=by
 induction h with
 |mk e f g _ i=>exact .mk (e.X c d) f (g.X c d) i
theorem jK.mono{ok ok':ae}{w:World}{cs:Y}(h:jK ok w cs)(a:∀b,b<w.heap.size→ok b→ok' b):jK ok' w cs:=by
 induction h with
 |mk c d e _ f=>exact .mk (c.mono a (by decide)) d (e.mono a (by decide)) f
theorem jK.seven{ok:ae}{w:World}{cs:Y}(h:jK ok w cs):cs.length=7∧cs.all (·.oneCell')=true:=by
 cases h with
 |mk a c b _=>exact⟨rfl,gU a.one b.one⟩
def Gq(ok:ae)(cs:Y)(w:World)(p c L:Nat)(e:Ending)(a:World):Prop:=
 ∃r:Bool,e=.returned (.bool r)∧O (·=p) w a∧(r=true→∃j,aG ok a cs j∧Wf (sz j) L j∧sz j<=c∧ay a p [.int .i64 ((c - sz j:Nat):Int)] 3)
structure RL (ok:ae) (w:World) (p c L:Nat) (rows:List (Y)) (W wr:World) (n:Nat) (js:List J):Prop where
 le:n<=rows.length
 len:js.length=n
 val:∀(i:Nat)(r:Y)(x:J),rows[i]?=some r→js[i]?=some x→aG (okB ok w) wr r x
 wf:∀x∈js,Wf (sz x) L x
 sz:1+iO js<=c
 X:O (·=p) W wr
 cnt:ay wr p [.int .i64 ((c - (1+iO js):Nat):Int)] 3
theorem EP(a b:List J):iO (a++b)=iO a+iO b:=by
 induction a with
 |nil=>simp[iO]
 |cons x r c=>simp[iO,c];omega
theorem ER{xs:List J}{x:J}(h:x∈xs):Go.Proofs.YtljaoopfomcaoaaGreatDoor.sz x<=iO xs:=by
 induction xs with
 |nil=>cases h
 |cons y r a=>
  rcases List.mem_cons.1 h with rfl|h
  .simp[iO]
  .have:=a h;simp[iO];omega
theorem JE(ks:List K)(a:List J)(h:ks.length=a.length):pJ (ks.zip a)=iO a:=by
 induction ks generalizing a with
 |nil=>cases a with|nil=>rfl|cons _ _=>cases h
 |cons k r b=>cases a with
  |nil=>cases h
  |cons x s=>simp[pJ,MI,iO];exact b s (by simpa using h)
theorem zB{S:ae}{a w:World}(h:O S a w)(n:Nat):O S a (w.drewN n):=⟨h.os,h.tape,h.output,h.size,h.block⟩
theorem JF{ks:List K}{m:Nat}{x y:K}(h:(ks.take (m+1)).Pairwise jg)(f:ks[m]?=some x)(g:ks[m+1]?=some y)(e:jg x y):(ks.take (m+1+1)).Pairwise jg:=by
 rw[List.take_add_one,g];refine List.pairwise_append.2 ⟨h,by simp,λa c b d=> ?_⟩;have d:b=y:=(by simpa using d);subst d;rw[List.take_add_one,f] at h c;rcases List.mem_append.1 c with c|c
 .exact uO ((List.pairwise_append.1 h).2.2 a c x (by simp)) e
 .have c:a=x:=(by simpa using c);subst c;exact e
theorem RL.step{ok:ae}{w:World}{p c L:Nat}{f:List (Y)}{W wr:World}{n:Nat}{d:List J}(h:RL ok w p c L f W wr n d){r:Y}(m:f[n]?=some r){j:J}(s:¬ok p){g:World}(t:aG (okB ok w) g r j)(u:Wf (Go.Proofs.YtljaoopfomcaoaaGreatDoor.sz j) L j)
  (A:Go.Proofs.YtljaoopfomcaoaaGreatDoor.sz j<=c - (1+iO d)) (o:O (·=p) wr g) (k:ay g p [.int .i64 ((c - (1+iO d) - Go.Proofs.YtljaoopfomcaoaaGreatDoor.sz j:Nat):Int)] 3):RL ok w p c L f W g (n+1) (d++[j]):=by
 have v:n<f.length:=(gS'.1 m).1;have B:=h.sz;have q:iO (d++[j])=iO d+Go.Proofs.YtljaoopfomcaoaaGreatDoor.sz j:=by rw[EP];simp[iO]
 refine⟨v,by simp[h.len],λi y x l a=> ?_,λx a=> ?_,by rw[q];omega,h.X.trans o (λi _ e=>e),by rw[q,show c - (1+(iO d+Go.Proofs.YtljaoopfomcaoaaGreatDoor.sz j))=c - (1+iO d) - Go.Proofs.YtljaoopfomcaoaaGreatDoor.sz j by omega];exact k⟩
 .by_cases z:i<d.length
  .rw[List.getElem?_append_left z] at a;exact(h.val i y x l a).X o (λb k e=>s (e▸k.1))
  .have:i=d.length:=by
    have:=(gS'.1 a).1;simp at this;omega
   subst this;rw[List.getElem?_append_right lR',Nat.sub_self] at a;cases a;rw[h.len,m] at l;cases l;exact t
 .rcases List.mem_append.1 a with a|a
  .exact h.wf x a
  .rw[List.mem_singleton.1 a];exact u
theorem Dt(L:Nat):∀(ok:ae)(cs:Y)(w:World)(p c:Nat),jK ok w cs→ay w p [.int .i64 (c:Int)] 3→¬ok p→c<=1099511627776→L<=4000→
  Calls Tryz.prog 56 #[.agg cs.toArray,.int .i64 (L:Int),.pointer (some ⟨p,0,none⟩)] w (Gq ok cs w p c L):=by
 induction L with
 |zero=>
  intro ok cs w p c h C bu hc hL;have aA:=Z h;cases h with
  |@mk k b i f t kv lv ks a A bz hl hr=>
   have P:=Z A;have aB:=A.1;have bC:=hl.1;have dC:(c:Int)<=1099511627776:=(by omega);clear hr;obtain⟨-, -,D,E,rfl, -, -⟩:=A;obtain⟨-, -,F,G,rfl, -, -⟩:=hl;simp only[aH,List.length_map] at P aB aA;unfold maxLen at aB bC;have bD:w.cell? ⟨p,0,none⟩=some (.int .i64 (c:Int)):=C.cell 0;have bF:=C.frozen 0;have dD:=C.lt;have HP:=Z C;have aF:∀W,((w.setCell ⟨p,0,none⟩ (.int .i64 ((c:Int) - 1))).alloc (.cells (ai k b i f t (.slice D ks.length E) (.slice F a.length G)).toArray 26))=W→
     ay W p [.int .i64 ((c:Int) - 1)] 3∧O (·=p) w W∧ay W w.heap.size (ai k b i f t (.slice D ks.length E) (.slice F a.length G)) 26:=by
    rintro W rfl;obtain⟨u,T,h3⟩:=HP.o.setCell 0 (.int .i64 ((c:Int) - 1));refine⟨u.alloc _,T.alloc _,?_⟩;have h4:=ay.new (w.setCell ⟨p,0,none⟩ (.int .i64 ((c:Int) - 1))) (ai k b i f t (.slice D ks.length E) (.slice F a.length G)) 26
    rwa[h3] at h4
   have HF:=Z aF;clear aF C;go_enter Tryz.func56,Tryz.ntmps56;unfold ai;go_upto_region 2 with fail
   generalize aG:World.alloc _ _=W;obtain⟨U,c1,B⟩:=HF.o W aG;clear aG HF;have cu:=Z U;have l:=Z c1;have aI:=Z B;have q0:W.cell? ⟨p,0,none⟩=some (.int .i64 ((c:Int) - 1)):=U.cell 0;have k0:W.cell? ⟨w.heap.size,0,none⟩=some (.int .i64 k):=B.cell 0;have k3:W.cell? ⟨w.heap.size,3,none⟩=some (.float .f64 f):=B.cell 3;have k5:W.cell? ⟨w.heap.size,5,none⟩=some (.slice D ks.length E):=B.cell 5;have k6:W.cell? ⟨w.heap.size,6,none⟩=some (.slice F a.length G):=B.cell 6;clear U c1 B bD bF;by_cases h0:(c:Int) - 1<0
   .go_wp2;go_ret;exact⟨false,rfl,l.o,λh=>by cases h⟩
   .go_wp2;go_ret;exact⟨false,rfl,l.o,λh=>by cases h⟩
 |succ L ih=>
  intro ok cs w p c h C bu hc hL;have aA:=Z h;have IH:=Z ih;cases h with
  |@mk k b i f t kv lv ks a A bz hl hr=>
   have P:=Z A;have aJ:=Z hl;have cO:=Z hr;have dE:=Z bz;have o:=Z bu;have HC:=Z hc;have HL:=Z hL;have aB:=A.1;have bC:=hl.1;have dC:(c:Int)<=1099511627776:=(by omega);have dM:¬(((L+1:Nat):Int))<1:=(by omega);clear hr bz bu ih hL hc;obtain⟨-, -,D,E,rfl, -, -⟩:=A;obtain⟨-, -,F,G,rfl, -, -⟩:=hl;simp only[aH,List.length_map] at P aB aA;unfold maxLen at aB bC;have bD:w.cell? ⟨p,0,none⟩=some (.int .i64 (c:Int)):=C.cell 0;have bF:=C.frozen 0;have dD:=C.lt;have HP:=Z C;have aF:∀W,((w.setCell ⟨p,0,none⟩ (.int .i64 ((c:Int) - 1))).alloc (.cells (ai k b i f t (.slice D ks.length E) (.slice F a.length G)).toArray 26))=W→
     ay W p [.int .i64 ((c:Int) - 1)] 3∧O (·=p) w W∧ay W w.heap.size (ai k b i f t (.slice D ks.length E) (.slice F a.length G)) 26:=by
    rintro W rfl;obtain⟨u,T,h3⟩:=HP.o.setCell 0 (.int .i64 ((c:Int) - 1));refine⟨u.alloc _,T.alloc _,?_⟩;have h4:=ay.new (w.setCell ⟨p,0,none⟩ (.int .i64 ((c:Int) - 1))) (ai k b i f t (.slice D ks.length E) (.slice F a.length G)) 26
    rwa[h3] at h4
   have HF:=Z aF;clear aF C;go_enter Tryz.func56,Tryz.ntmps56;unfold ai;go_upto_region 2 with fail
   generalize aG:World.alloc _ _=W;obtain⟨U,c1,B⟩:=HF.o W aG;clear aG HF;have cu:=Z U;have l:=Z c1;have aI:=Z B;have q0:W.cell? ⟨p,0,none⟩=some (.int .i64 ((c:Int) - 1)):=U.cell 0;have k0:W.cell? ⟨w.heap.size,0,none⟩=some (.int .i64 k):=B.cell 0;have k3:W.cell? ⟨w.heap.size,3,none⟩=some (.float .f64 f):=B.cell 3;have k5:W.cell? ⟨w.heap.size,5,none⟩=some (.slice D ks.length E):=B.cell 5;have k6:W.cell? ⟨w.heap.size,6,none⟩=some (.slice F a.length G):=B.cell 6;clear U c1 B bD bF;by_cases h0:(c:Int) - 1<0
   .go_wp2;go_ret;exact⟨false,rfl,l.o,λh=>by cases h⟩
   have K:=Z (show 1<=c by omega);have Q:=Z (show ay W p [.int .i64 ((c - 1:Nat):Int)] 3 by rw[Int.natCast_sub K.o];exact cu.o);by_cases k7:k=7
   .subst k7;have s7:(6:Int)<7:=by decide
    go_wp2_with fail
    clear q0 k0 k3 k5 k6 s7;go_loopw [7] (λH wr=>∃m:Nat,H=.int .i64 ((m+1:Nat):Int)∧(m+1<=ks.length∨m=0)∧O No W wr∧(ks.take (m+1)).Pairwise jg) (λH _=>ks.length - (intOf H).toNat);case atStart=>exact⟨0,rfl,.inr rfl,O.refl _ _,by cases ks<;>simp⟩
    case round=>
     obtain⟨m,rfl,hm,bG,cZ⟩:=hrel;have R:=Z bG;have bH:=Z cZ;have q5:wr.cell? ⟨w.heap.size,5,none⟩=some (.slice D ks.length E):=(aI.o.X bG id).cell 5;clear bG cZ;by_cases af:m+1<ks.length
     .obtain⟨x,hx⟩:=gX' ks m ((by omega));obtain⟨y,hy⟩:∃y,ks[m+1]?=some y:=⟨_,List.getElem?_eq_getElem af⟩;obtain⟨kb,ko,rfl,df,bI⟩:=P.o.at (i:=m) (r:=[.string x]) (by simp[aH,hx]);obtain⟨dN,dO,he, -,bJ⟩:=P.o.at (i:=m+1) (r:=[.string y]) (by simp[aH,hy]);cases he;have bI:=((bI.X l.o (λe=>o.o (e▸df))).X R.o id).one;have bJ:=((bJ.X l.o (λe=>o.o (e▸df))).X R.o id).one;simp only[Nat.mul_one] at bI bJ;have aZ:(m:Int)+1<(ks.length:Int):=(by omega);have dh:=Z (And.intro hx hy);clear hx hy hm;by_cases A:jg x y
      .have dF:Op.bytesLess x.toList y.toList=true:=by rw[jM];simpa using A
       have HK:=Z A;clear A;go_upto_region 17 with fail
       go_quiet (fail)
       go_wp2_with fail
       go_roundw;case rel=>exact⟨m+1,by go_num,.inl (by omega),zB R.o _,JF bH.o dh.o.1 dh.o.2 HK.o⟩
       case measure=>simp[intOf];omega
      .have dF:Op.bytesLess x.toList y.toList=false:=by rw[jM];simpa using A
       clear A;go_upto_region 17 with fail
       go_quiet (fail)
       go_wp2;go_ret;exact⟨false,rfl,zB (l.o.trans' R.o) _,λh=>by cases h⟩
     .have aZ:¬(m:Int)+1<(ks.length:Int):=(by omega);have q6:wr.cell? ⟨w.heap.size,6,none⟩=some (.slice F a.length G):=(aI.o.X R.o id).cell 6;have dG:=Z (show ks.Pairwise jg by have h:=bH.o;rwa[List.take_of_length_le (by omega)] at h);have v:=Z (l.o.trans' R.o);have bf:=Z (show ay wr p [.int .i64 ((c - (1+iO []):Nat):Int)] 3 from Q.o.X R.o id);by_cases bg:ks.length=a.length
      .have bK:=Z bg;rw[bg] at q5;obtain⟨M,S⟩:∃M,M=wr:=⟨_,rfl⟩;rw[bg] at aZ;clear bg hm;go_wp2_with fail;rw[←S] at v bf;clear q5 q6 bH R;rw[←S];clear S;go_loopw [93] (λH wr=>∃(n:Nat)(s:List J),H=.int .i64 n∧RL ok w p c L a M wr n s) (λH _=>a.length - (intOf H).toNat);case atStart=>exact⟨0,[],rfl,zL',rfl,λi r x _ h=>(by simp at h),λx h=>(by cases h),K.o,O.refl _ _,bf.o⟩
       case round=>
        obtain⟨n,s,rfl,g⟩:=hrel;have z:=Z g;clear g;by_cases af:n<a.length
        .obtain⟨r,I⟩:=gX' a n (af);obtain⟨lb,lo,rfl,aK,aN⟩:=aJ.o.at (i:=n) (r:=r) I;have aO:=(aN.X v.o (λe=>o.o (e▸aK))).X z.o.X (λe=>o.o (e▸aK));have aj:=cO.o r (mG' I);obtain⟨N,aP⟩:=aj.seven;have bM:=Z (((aj.mono (ok':=okB ok w) (λb d h=>⟨h,d⟩)).X v.o (λb d e=>o.o (e▸d.1))).X z.o.X (λb d e=>o.o (e▸d.1)));have aZ:(n:Int)<(a.length:Int):=(by omega);have dH:(L:Int)<=4000:=by have:=HL.o;omega
         have bP:=Z I;clear aN aj I;go_wp2_with (first|(with_reducible refine V rfl au rfl rfl aO N ?_)|(with_reducible refine ak rfl au rfl rfl rfl rfl N aP ?_)|(with_reducible refine V rfl au rfl rfl (ay.new wr r 26).cells N ?_));refine(IH.o (okB ok w) r (wr.alloc (.cells r.toArray 26)) p (c - (1+iO s)) (bM.o.X ((O.refl No wr).alloc _) nE) (z.o.cnt.alloc _) (λh=>o.o h.1) (by have:=HC.o;omega) (by have:=HL.o;omega)).mono ?_;rintro e w4 ⟨rr,rfl,aQ,aS⟩;have aT:=Z (((O.refl (·=p) wr).alloc (.cells r.toArray 26)).trans aQ nE);have bQ:=Z aS;clear aQ aS aO N aP;cases rr with
         |false=>go_wp2;go_ret;exact⟨false,rfl,(v.o.trans z.o.X nE).trans aT.o nE,λh=>by cases h⟩
         |true=>
          obtain⟨j,aU,aV,aW,aX⟩:=bQ.o rfl;have bT:=Z (z.o.step bP.o o.o aU aV aW aT.o aX);clear aU aV aW aX;go_wp2_with fail;go_roundw;case rel=>exact⟨n+1,_,by go_num,bT.o⟩
          case measure=>simp[intOf];omega
        .have bU:n=a.length:=Nat.le_antisymm z.o.le (Nat.not_lt.1 af);subst bU;have dI:¬((a.length:Nat):Int)<(a.length:Int):=(by omega);go_wp2;go_ret;have g:=z.o;have bV:=(aJ.o.X v.o (λb d e=>o.o (e▸d))).X g.X (λb d e=>o.o (e▸d));have bW:=(P.o.X v.o (λb d e=>o.o (e▸d))).X g.X (λb d e=>o.o (e▸d));have bY:(ks.zip s).length=a.length:=by rw[List.length_zip,bK.o,g.len];exact Nat.min_self _
         have dJ:ks.length=s.length:=(by rw[bK.o,g.len]);have bZ:(ks.zip s).map (·.1)=ks:=List.map_fst_zip (by omega);have bn:Go.Proofs.YtljaoopfomcaoaaGreatDoor.sz (.table (ks.zip s))=1+iO s:=by simp only[Go.Proofs.YtljaoopfomcaoaaGreatDoor.sz];rw[JE ks s dJ]
         refine⟨true,rfl,v.o.trans g.X nE,λ_=>⟨.table (ks.zip s),.table ?_ bV bY.symm (λn r q u T=> ?_),⟨?_,?_,λq hq=>⟨?_,?_⟩⟩,?_,?_⟩⟩
         .have u:=bW;rw[←bZ] at u;simpa[aH,List.map_map,Function.comp_def,bY,bK.o] using u
         .obtain⟨q1,q2⟩:=q;have h3:=(List.getElem?_zip_eq_some.1 T).2;exact(g.val n r q2 u h3).mono (λb _ d=>d.1)
         .have u:=dG.o;rw[←bZ] at u;exact List.pairwise_map.1 u
         .rw[bY,bn,←g.len];have:=rM s;omega
         .exact dE.o q.1 (by rw[←bZ];exact List.mem_map_of_mem hq)
         .have di:q.2∈s:=by
           have u:=List.mem_map_of_mem (f:=(·.2)) hq
           rwa[List.map_snd_zip (by omega)] at u
          exact(g.wf q.2 di).mono (by have:=ER di;rw[bn];omega) lR'
         .rw[bn];exact g.sz
         .rw[bn];exact g.cnt
      .have dP:¬(ks.length:Int)=(a.length:Int):=(by omega);go_wp2;go_ret;exact⟨false,rfl,v.o.mono nE,λh=>by cases h⟩
   .have dQ:(k !=7)=true:=by simpa using k7
    by_cases s0:ks.length=0
    .have dK:ks=[]:=List.eq_nil_of_length_eq_zero s0;subst dK;have ax:=Z ((show aC ok w (.slice D 0 E) 1 [] from P.o).X l.o (λb d e=>o.o (e▸d)));simp only[List.length_nil] at k5 aI aA;by_cases e6:k=6
     .subst e6;obtain⟨M,S⟩:∃M,M=W:=⟨_,rfl⟩;have v:=Z (show O (·=p) w M by rw[S];exact l.o);have bf:=Z (show ay M p [.int .i64 ((c - (1+iO []):Nat):Int)] 3 by rw[S];exact Q.o);clear s0;go_wp2_with fail;clear q0 k0 k3 k5 k6;rw[←S];clear S;go_loopw [93] (λH wr=>∃(n:Nat)(s:List J),H=.int .i64 n∧RL ok w p c L a M wr n s) (λH _=>a.length - (intOf H).toNat);case atStart=>exact⟨0,[],rfl,zL',rfl,λi r x _ h=>(by simp at h),λx h=>(by cases h),K.o,O.refl _ _,bf.o⟩
      case round=>
       obtain⟨n,s,rfl,g⟩:=hrel;have z:=Z g;clear g;by_cases af:n<a.length
       .obtain⟨r,I⟩:=gX' a n (af);obtain⟨lb,lo,rfl,aK,aN⟩:=aJ.o.at (i:=n) (r:=r) I;have aO:=(aN.X v.o (λe=>o.o (e▸aK))).X z.o.X (λe=>o.o (e▸aK));have aj:=cO.o r (mG' I);obtain⟨N,aP⟩:=aj.seven;have bM:=Z (((aj.mono (ok':=okB ok w) (λb d h=>⟨h,d⟩)).X v.o (λb d e=>o.o (e▸d.1))).X z.o.X (λb d e=>o.o (e▸d.1)));have aZ:(n:Int)<(a.length:Int):=(by omega);have dH:(L:Int)<=4000:=by have:=HL.o;omega
        have bP:=Z I;clear aN aj I;go_wp2_with (first|(with_reducible refine V rfl au rfl rfl aO N ?_)|(with_reducible refine ak rfl au rfl rfl rfl rfl N aP ?_)|(with_reducible refine V rfl au rfl rfl (ay.new wr r 26).cells N ?_));refine(IH.o (okB ok w) r (wr.alloc (.cells r.toArray 26)) p (c - (1+iO s)) (bM.o.X ((O.refl No wr).alloc _) nE) (z.o.cnt.alloc _) (λh=>o.o h.1) (by have:=HC.o;omega) (by have:=HL.o;omega)).mono ?_;rintro e w4 ⟨rr,rfl,aQ,aS⟩;have aT:=Z (((O.refl (·=p) wr).alloc (.cells r.toArray 26)).trans aQ nE);have bQ:=Z aS;clear aQ aS aO N aP;cases rr with
        |false=>go_wp2;go_ret;exact⟨false,rfl,(v.o.trans z.o.X nE).trans aT.o nE,λh=>by cases h⟩
        |true=>
         obtain⟨j,aU,aV,aW,aX⟩:=bQ.o rfl;have bT:=Z (z.o.step bP.o o.o aU aV aW aT.o aX);clear aU aV aW aX;go_wp2_with fail;go_roundw;case rel=>exact⟨n+1,_,by go_num,bT.o⟩
         case measure=>simp[intOf];omega
       .have bU:n=a.length:=Nat.le_antisymm z.o.le (Nat.not_lt.1 af);subst bU;have dI:¬((a.length:Nat):Int)<(a.length:Int):=(by omega);go_wp2;go_ret;have g:=z.o;have bV:=(aJ.o.X v.o (λb d e=>o.o (e▸d))).X g.X (λb d e=>o.o (e▸d));have bW:=(P.o.X v.o (λb d e=>o.o (e▸d))).X g.X (λb d e=>o.o (e▸d));exact⟨true,rfl,v.o.trans g.X nE,λ_=>⟨.list s,.list bW bV g.len.symm (λn r x u T=>(g.val n r x u T).mono (λb _ d=>d.1)),⟨by have:=rM s;simp only[Go.Proofs.YtljaoopfomcaoaaGreatDoor.sz];omega,λx hx=>(g.wf x hx).mono (by have:=ER hx;simp only[Go.Proofs.YtljaoopfomcaoaaGreatDoor.sz];omega) lR'⟩,g.sz,g.cnt⟩⟩
     have dR:(k==6)=false:=by simpa using e6
     by_cases r0:a.length=0
     .have I:a=[]:=List.eq_nil_of_length_eq_zero r0;subst I;have az:=Z ((show aC ok w (.slice F 0 G) 7 [] from aJ.o).X l.o (λb d e=>o.o (e▸d)));simp only[List.length_nil] at k6 aI aA;clear r0 s0;by_cases dm:k<6
      .by_cases e0:k=0
       .subst e0;go_wp2;go_ret;exact⟨true,rfl,l.o,λ_=>⟨.null,.null ax.o az.o,trivial,K.o,Q.o⟩⟩
       have dS:(k==0)=false:=by simpa using e0
       by_cases e1:k=1
       .subst e1;go_wp2;go_ret;exact⟨true,rfl,l.o,λ_=>⟨.bool b,.bool ax.o az.o,trivial,K.o,Q.o⟩⟩
       have dU:(k==1)=false:=by simpa using e1
       by_cases e2:k=2
       .subst e2;go_wp2;go_ret;exact⟨true,rfl,l.o,λ_=>⟨.int i,.int ax.o az.o,trivial,K.o,Q.o⟩⟩
       have dV:(k==2)=false:=by simpa using e2
       by_cases e5:k=5
       .subst e5;go_wp2;go_ret;exact⟨true,rfl,l.o,λ_=>⟨.text t,.text ax.o az.o,trivial,K.o,Q.o⟩⟩
       have dW:(k==5)=false:=by simpa using e5
       by_cases e4:k=4
       .subst e4;obtain⟨r,w1,dX,dL,dn⟩:=EO f W;have dw:=Z dn;clear dn;rcases dL with rfl|rfl
        .go_wp2;go_ret;exact⟨_,rfl,l.o,λh=>⟨.float f,.float ax.o az.o,dw.o h,K.o,Q.o⟩⟩
        .go_wp2;go_ret;exact⟨_,rfl,l.o.drew,λh=>⟨.float f,.float (ax.o.X ((O.refl No W).drew) nE) (az.o.X ((O.refl No W).drew) nE),dw.o h,K.o,Q.o.drew⟩⟩
       have dY:(k==4)=false:=(by simpa using e4);have dZ:(k==7)=false:=(by simpa using k7);go_wp2;go_ret;exact⟨false,rfl,l.o,λh=>by cases h⟩
      .go_wp2;go_ret;exact⟨false,rfl,l.o,λh=>by cases h⟩
     .have r1:(0:Int)<(a.length:Int):=(by omega);have aY:0<a.length:=(by omega);have dA:¬a=[]:=λe=>by rw[e] at aY;exact absurd aY (by decide)
      clear r0 s0;by_cases dm:k<6
      .go_wp2;go_ret;exact⟨false,rfl,l.o,λh=>by cases h⟩
      .go_wp2;go_ret;exact⟨false,rfl,l.o,λh=>by cases h⟩
    .have s1:(0:Int)<(ks.length:Int):=(by omega);have dB:0<ks.length:=(by omega);have ed:¬ks=[]:=λe=>by rw[e] at dB;exact absurd dB (by decide)
     clear s0;by_cases dm:k<6
     .by_cases r0:a.length=0
      .have dA:a=[]:=List.eq_nil_of_length_eq_zero r0;clear r0;go_wp2;go_ret;exact⟨false,rfl,l.o,λh=>by cases h⟩
      .have r1:(0:Int)<(a.length:Int):=(by omega);have aY:0<a.length:=(by omega);have dA:¬a=[]:=λe=>by rw[e] at aY;exact absurd aY (by decide)
       clear r0;go_wp2;go_ret;exact⟨false,rfl,l.o,λh=>by cases h⟩
     .go_wp2;go_ret;exact⟨false,rfl,l.o,λh=>by cases h⟩
theorem jK.cells{ok:ae}{w:World}{cs:Y}(h:jK ok w cs):∃k b i f t a c,cs=ai k b i f t a c:=by cases h;exact⟨_,_,_,_,_,_,_,rfl⟩
theorem aG.zC{ok:ae}{w:World}{k b i f t kv lv}{j:J}(h:aG ok w (ai k b i f t kv lv) j):(k=0→j=.null)∧(k=7→dA j=true)∧(j=.null→k=0)∧(dA j=true→k=7):=by cases h<;>simp[dA]
def fA(w:World)(R:Bool→World→Prop)(e:Ending)(a:World):Prop:=∃r:Bool,e=.returned (.bool r)∧O No w a∧R r a
theorem qB{ok:ae}{cs:Y}{w:World}(h:jK ok w cs)(n:Nat)(g:n<=1099511627776):
  Calls Tryz.prog 17 #[.agg cs.toArray,.int .i64 (n:Int)] w (fA w λr y=>r=true→∃j,aG ok y cs j∧Wf (sz j) 50 j∧sz j<=n):=by
 have H:=Z h;have z:=Z g;obtain⟨k,b,i,f,t,a,c,rfl⟩:=h.cells;have l:∀W,(w.alloc (.cells (ai k b i f t a c).toArray 26)).alloc (.cells [.int .i64 (n:Int)].toArray 3)=W→
   ay W w.heap.size (ai k b i f t a c) 26∧ay W (w.heap.size+1) [.int .i64 (n:Int)] 3∧O No w W:=by
  rintro W rfl;exact⟨(ay.new _ _ _).alloc _,ay.newAt (by simp) _ _,((O.refl No w).alloc _).alloc _⟩
 have m:=Z l;clear h g l;go_enter Tryz.func17,Tryz.ntmps17;unfold ai;go_upto_region 2 with fail
 generalize o:World.alloc _ _=W;obtain⟨A,p,q⟩:=m.o W o;clear o m;have B:=Z p;have s:=Z q;clear p q;go_wp2_with (first|(with_reducible refine V rfl au rfl rfl A.cells rfl ?_));have u:=Dt 50 (okB ok w) (ai k b i f t a c) W (w.heap.size+1) n ((H.o.mono (ok':=okB ok w) (λb d h=>⟨h,d⟩)).X s.o nE) B.o (λh=>by have:=h.2;omega) z.o (by decide);refine Calls.mono u ?_;rintro e I ⟨r,rfl,v,x⟩;have C:=Z v;have D:=Z x;clear u v x;go_wp2_with fail;go_ret;refine⟨r,rfl,s.o.trans C.o (λi J e=>by omega),λh=> ?_⟩;obtain⟨j,E,F,G, -⟩:=D.o h;exact⟨j,E.mono (λb _ d=>d.1),F,G⟩
theorem Du{ok:ae}{ks:List K}{v:Value}{w:World}(h:aC ok w v 1 (aH ks)):Calls Tryz.prog 33 #[v] w (fA w λ_ _=>True):=by
 have H:=Z h;have g:=h.1;obtain⟨-, -,a,c,rfl, -, -⟩:=h;simp only[aH,List.length_map] at H g;unfold maxLen at g;by_cases m:(2147483647:Int)<(ks.length:Int)
 .go_enter Tryz.func33,Tryz.ntmps33;simp only[aH,List.length_map];go_wp2;go_ret;exact⟨false,rfl,O.refl _ _,trivial⟩
 .go_enter Tryz.func33,Tryz.ntmps33;simp only[aH,List.length_map];go_wp2_with fail;go_loopw [10] (λb wr=>∃n:Nat,b=.int .i64 n∧n<=ks.length∧O No w wr) (λb _=>ks.length - (intOf b).toNat)
  case atStart=>exact⟨0,rfl,zL',O.refl _ _⟩
  case round=>
   obtain⟨n,rfl,o,d⟩:=hrel;have e:=Z d;by_cases k:n<ks.length
   .obtain⟨x,j⟩:=gX' ks n (k);obtain⟨p,q,rfl, -,f⟩:=H.o.at (i:=n) (r:=[.string x]) (by simp[j]);have f:=(f.X d id).one;simp only[Nat.mul_one] at f;have l:(n:Int)<(ks.length:Int):=(by omega);clear j d;by_cases s:(2147483647:Int)<(x.size:Int)
    .go_wp2;go_ret;exact⟨false,rfl,e.o,trivial⟩
    .go_wp2_with fail
     go_roundw;case rel=>exact⟨n+1,by go_num,by omega,e.o⟩
     case measure=>simp[intOf];omega
   .have l:¬(n:Int)<(ks.length:Int):=(by omega);go_wp2;go_ret;exact⟨true,rfl,e.o,trivial⟩
theorem Dv{ok:ae}{cs:Y}{w:World}(h:jK ok w cs):Calls Tryz.prog 7 #[.agg cs.toArray] w (fA w λ_ _=>True):=by
 cases h with
 |@mk k b i f t g G ks c o y p q=>
  have z:=Z o;have A:=p.1;obtain⟨-, -,j,l,rfl, -, -⟩:=p;unfold maxLen at A;clear o y q;have s:∀W,(w.alloc (.cells (ai k b i f t g (.slice j c.length l)).toArray 26))=W→
    ay W w.heap.size (ai k b i f t g (.slice j c.length l)) 26∧O No w W:=by
   rintro W rfl;exact⟨ay.new _ _ _,(O.refl No w).alloc _⟩
  have u:=Z s;clear s;go_enter Tryz.func7,Tryz.ntmps7;unfold ai;go_upto_region 1 with fail
  generalize v:World.alloc _ _=W;obtain⟨d,x⟩:=u.o W v;clear v u;have B:=Z d;have a:=Z x;have C:W.cell? ⟨w.heap.size,4,none⟩=some (.string t):=d.cell 4;have D:W.cell? ⟨w.heap.size,5,none⟩=some g:=d.cell 5;clear d x;by_cases H:(2147483647:Int)<(t.size:Int)
  .go_wp2;go_ret;exact⟨false,rfl,a.o,trivial⟩
  .go_wp2_with fail
   refine(Du ((z.o.mono (ok':=okB ok w) (λb E h=>⟨h,E⟩) (by decide)).X a.o nE)).mono ?_;rintro e F ⟨r,rfl,m, -⟩;have n:=Z m;have I:F.cell? ⟨w.heap.size,6,none⟩=some (.slice j c.length l):=(B.o.X m id).cell 6;clear m C D;cases r with
   |false=>go_wp2;go_ret;exact⟨false,rfl,a.o.trans' n.o,trivial⟩
   |true=>
    by_cases q:(2147483647:Int)<(c.length:Int)
    .go_wp2;go_ret;exact⟨false,rfl,a.o.trans' n.o,trivial⟩
    .go_wp2;go_ret;exact⟨true,rfl,a.o.trans' n.o,trivial⟩
theorem mi(a:K)(l:List UInt8):(a.toList==l)=decide (a=⟨l.toArray⟩):=by have h:(⟨l.toArray⟩:K).toList=l:=(by rw[ByteArray.toList_eq]);rw[←h,aS,h]
theorem kW(a:K):(a.toList==[])=decide (a=ByteArray.empty):=mi a []
def IL(w:World)(R:Bool→Prop)(e:Ending)(a:World):Prop:=∃r:Bool,e=.returned (.bool r)∧a=w∧R r
theorem nN(s:K)(l:fK s)(w:World):Calls Tryz.prog 108 #[.string s] w (IL w λr=>r=true→lC s):=by
 have B:(s.size:Int)<140737488355329:=by unfold fK at l;omega
 clear l;go_enter Tryz.func108,Tryz.ntmps108;go_wp2_with fail;go_loopw [6] (λj wr=>∃n:Nat,j=.int .i64 n∧n<=s.size∧(∀(i:Nat)(h:i<s.size),i<n→97<=s[i].toNat∧s[i].toNat<=122)∧wr=w) (λj _=>s.size - (intOf j).toNat)
 case atStart=>exact⟨0,rfl,zL',λi h m=>absurd m (Nat.not_lt_zero _),rfl⟩
 case round=>
  obtain⟨n,rfl,C,o,rfl⟩:=hrel;have k:=Z o;clear o;by_cases D:n<s.size
  .have p:(n:Int)<(s.size:Int):=by omega
   by_cases E:(s[n].toNat:Int)<97
   .go_wp2;go_ret;exact⟨false,rfl,rfl,λh=>by cases h⟩
   .by_cases m:(122:Int)<(s[n].toNat:Int)
    .go_wp2;go_ret;exact⟨false,rfl,rfl,λh=>by cases h⟩
    .have q:=Z (show 97<=s[n].toNat∧s[n].toNat<=122 by omega);go_wp2_with fail;go_roundw
     case rel=>
      refine⟨n+1,by go_num,by omega,λi h F=> ?_,trivial⟩;by_cases e:i=n
      .subst e;exact q.o
      .exact k.o i h (by omega)
     case measure=>simp[intOf];omega
  .have p:¬(n:Int)<(s.size:Int):=(by omega);have t:=Z (show ∀(i:Nat)(h:i<s.size),97<=s[i].toNat∧s[i].toNat<=122 from λi h=>k.o i h (by omega));clear k;have g:(s.toList==[])=decide (s=ByteArray.empty):=mi s [];have b:(s.toList==[103,108,111,98,97,108])=decide (s=gK):=by rw[tN];exact mi s _
   have a:(s.toList==[116,97,103,115])=decide (s=tK):=mi s _;by_cases c:s=ByteArray.empty
   .have u:(s.toList==[])=true:=by rw[g];simpa using c
    clear g b a c;go_wp2;go_ret;exact⟨false,rfl,rfl,λh=>by cases h⟩
   have u:(s.toList==[])=false:=by rw[g];simpa using c
   have v:=Z c;clear c g;by_cases G:(s.size:Int)<=12
   .by_cases d:s=gK
    .have x:(s.toList==[103,108,111,98,97,108])=true:=by rw[b];simpa using d
     clear b a d;go_wp2;go_ret;exact⟨false,rfl,rfl,λh=>by cases h⟩
    have x:(s.toList==[103,108,111,98,97,108])=false:=by rw[b];simpa using d
    have y:=Z d;clear d b;by_cases f:s=tK
    .have z:(s.toList==[116,97,103,115])=true:=by rw[a];simpa using f
     clear a f;go_wp2;go_ret;exact⟨false,rfl,rfl,λh=>by cases h⟩
    .have z:(s.toList==[116,97,103,115])=false:=by rw[a];simpa using f
     have A:=Z f;clear f a;go_wp2;go_ret;exact⟨true,rfl,rfl,λ_=>⟨v.o,by omega,y.o,A.o,t.o⟩⟩
   .clear b a;go_wp2;go_ret;exact⟨false,rfl,rfl,λh=>by cases h⟩
theorem pz{s:K}{c:Nat}:∀{k i b:Nat}{x:K},x∈dE s c k i b→x.size<=s.size
 |0,_,_,x,h=>by unfold dE at h;cases h
 |k+1,i,b,x,h=>by
  unfold dE at h
  split at h
  .rcases List.mem_cons.1 h with rfl|h
   .rw[ByteArray.size_extract];omega
   .exact pz h
  .exact pz h
theorem iQ{s:K}{c:Nat}{x:K}(h:x∈parts s c):x.size<=s.size:=pz h
theorem nO(s:K)(z:s.size<1099511627776)(w:World):Calls Tryz.prog 73 #[.string s] w (fA w λr _=>r=true→yD s):=by
 have A:=Z z;go_enter Tryz.func73,Tryz.ntmps73;go_wp2_with fail;refine(lV s A.o w).mono ?_;rintro e B ⟨v,rfl,j,C⟩;have k:=j.rowAt;obtain⟨X,vc,rfl⟩:=j.dY;simp only[aH,List.length_map] at k⊢;have L:(parts s 46).length<1099511627777:=by have:=ik s 46;omega
 have af:((parts s 46).length:Int)<1099511627777:=(by omega);have M:=Z k;have b:=Z C;clear j k C L z;go_wp2_with fail;go_loopw [11] (λc wr=>∃n:Nat,c=.int .i64 n∧n<=(parts s 46).length∧(∀x∈(parts s 46).take n,oW x)∧wr=B) (λc _=>(parts s 46).length - (intOf c).toNat)
 case atStart=>exact⟨0,rfl,zL',by simp,rfl⟩
 case round=>
  obtain⟨n,rfl,hn,D,l⟩:=hrel;obtain rfl:=l.symm;have o:=Z D;clear D;by_cases N:n<(parts s 46).length
  .obtain⟨x,f⟩:=gX' (parts s 46) n (N);obtain⟨lb,lo,rfl, -,p⟩:=M.o.at (i:=n) (r:=[.string x]) (by simp[f]);have p:=p.one;simp only[Nat.mul_one] at p;have O:x.size<=s.size:=iQ (mG' f);have ai:(x.size:Int)<1099511627776:=by have:=A.o;omega
   have P:(n:Int)<((parts s 46).length:Int):=(by omega);have Q:=Z f;clear f O;go_wp2_with fail;go_loopw [17] (λc wr=>∃m:Nat,c=.int .i64 m∧m<=x.size∧(∀(i:Nat)(h:i<x.size),i<m→48<=x[i].toNat∧x[i].toNat<=57)∧wr=B) (λc _=>x.size - (intOf c).toNat)
   case atStart=>exact⟨0,rfl,zL',λi h E=>absurd E (Nat.not_lt_zero _),rfl⟩
   case round=>
    obtain⟨m,rfl,hm,F,l⟩:=hrel;obtain rfl:=l.symm;have q:=Z F;clear F;by_cases aj:m<x.size
    .have R:(m:Int)<(x.size:Int):=by omega
     by_cases h1:(x[m].toNat:Int)<48
     .go_wp2;go_ret;exact⟨false,rfl,b.o,λh=>by cases h⟩
     .by_cases E:(57:Int)<(x[m].toNat:Int)
      .go_wp2;go_ret;exact⟨false,rfl,b.o,λh=>by cases h⟩
      .have S:=Z (show 48<=x[m].toNat∧x[m].toNat<=57 by omega);go_wp2_with fail;go_roundw
       case rel=>
        refine⟨m+1,by go_num,by omega,λi h hi=> ?_,trivial⟩;by_cases e:i=m
        .subst e;exact S.o
        .exact q.o i h (by omega)
       case measure=>simp[intOf];omega
    .have R:¬(m:Int)<(x.size:Int):=(by omega);have G:=Z (show ∀(i:Nat)(h:i<x.size),48<=x[i].toNat∧x[i].toNat<=57 from λi h=>q.o i h (by omega));clear q;by_cases a:x=ByteArray.empty
     .have T:(x.toList==[])=true:=by rw[kW];simpa using a
      clear a;go_wp2;go_ret;exact⟨false,rfl,b.o,λh=>by cases h⟩
     have T:(x.toList==[])=false:=by rw[kW];simpa using a
     have t:0<x.size:=Nat.pos_of_ne_zero (λe=>a (ByteArray.size_eq_zero_iff.1 e));clear a;by_cases H:(9:Int)<(x.size:Int)
     .go_wp2;go_ret;exact⟨false,rfl,b.o,λh=>by cases h⟩
     have I:oW x→∀y∈(parts s 46).take (n+1),oW y:=λh y d=>by
      rw[List.take_add_one,Q.o] at d;rcases List.mem_append.1 d with d|d
      .exact o.o y d
      .obtain rfl:y=x:=(by simpa using d);exact h
     have J:=Z I;clear I;by_cases k3:(1:Int)<(x.size:Int)
     .have h0:0<x.size:=t;by_cases g:(x[0].toNat:Int)=48
      .have U:((x[0].toNat:Int)==48)=true:=(by simpa using g);clear g;go_wp2;go_ret;exact⟨false,rfl,b.o,λh=>by cases h⟩
      .have U:((x[0].toNat:Int)==48)=false:=(by simpa using g);have u:=Z (show oW x from⟨G.o,t,by omega,λ_=>by omega⟩);clear g;go_wp2_with fail;go_roundw;case rel=>exact⟨n+1,by go_num,by omega,J.o u.o,trivial⟩
       case measure=>simp[intOf];omega
     .have u:=Z (show oW x from⟨G.o,t,by omega,λh=>absurd h (by omega)⟩);go_wp2_with fail;go_roundw;case rel=>exact⟨n+1,by go_num,by omega,J.o u.o,trivial⟩
      case measure=>simp[intOf];omega
  .have P:¬(n:Int)<((parts s 46).length:Int):=(by omega);have V:=Z (show ∀x∈parts s 46,oW x by have h:=o.o;rwa[List.take_of_length_le (by omega)] at h);clear o;by_cases a:((parts s 46).length:Int)=3
   .have H:(((parts s 46).length:Int)==3)=true:=(by simpa using a);have W:=Z a;clear a;go_wp2;go_ret;exact⟨true,rfl,b.o,λ_=>⟨by have:=W.o;omega,V.o⟩⟩
   .have H:(((parts s 46).length:Int)==3)=false:=(by simpa using a);clear a;go_wp2;go_ret;exact⟨false,rfl,b.o,λh=>by cases h⟩
theorem zD(s:K)(v:fK s)(x:yD s)(w:World):Calls Tryz.prog 84 #[.string s] w λe E=>e=.returned (.bool true)∧E=w:=by
 have R:(s.size:Int)<140737488355329:=by unfold fK at v;omega
 have g:=Z x;clear v x;go_enter Tryz.func84,Tryz.ntmps84;go_wp2_with fail;go_loopw [3,4,5] (λF G o wr=>∃n b d i:Nat,F=.int .i64 n∧G=.int .i64 d∧o=.int .i64 i∧b+d=i∧PV s i n b∧wr=w) (λ_ _ o _=>s.size - (intOf o).toNat)
 case atStart=>exact⟨0,0,0,0,rfl,rfl,rfl,rfl,PV.start s,rfl⟩
 case round=>
  obtain⟨n,b,d,i,rfl,rfl,rfl,y,h,z⟩:=hrel;obtain rfl:=z.symm;clear z;have p:=Z h;have H:=Z h.le;have a:=Z y;have A:(i:Int) - (d:Int)=(b:Int):=(by omega);have S:n<=3:=by obtain⟨T,U,I⟩:=h.acc;have:=g.o.1;rw[←I] at this;simp at this;omega
  clear h y;by_cases B:i<s.size
  .have j:(i:Int)<(s.size:Int):=(by omega);have J:b<s.size:=by have:=a.o;omega
   go_upto_region 7 with fail
   obtain⟨c,k⟩:∃c,c=s[i].toNat:=⟨_,rfl⟩;rw[←k];by_cases l:s[i].toNat=46
   .obtain⟨C,f⟩:=p.o.point g.o B l;have m:=Z f;have L:¬(48:Int)<=(c:Int):=(by omega);have q:((c:Int)==46)=true:=by simp;omega
    have r:0<d:=by have:=a.o;omega
    clear l f C A k j;go_wp2_with fail;go_roundw;case rel=>exact⟨n+1,i+1,0,i+1,by go_num,rfl,by go_num,rfl,m.o,trivial⟩
    case measure=>simp[intOf];omega
   .obtain⟨M,N,t,f⟩:=p.o.digit g.o B l;have m:=Z f;have L:(48:Int)<=(c:Int):=(by omega);have q:(c:Int)<=57:=(by omega);have r:¬(8:Int)<(d:Int):=by have:=a.o;omega
    clear l f M N;by_cases C:0<d
    .have O:=t (by have:=a.o;omega) J;have V:((s[b].toNat:Int)==48)=false:=by simp;omega
     clear t O k j;go_wp2_with fail;go_roundw;case rel=>exact⟨n,b,d+1,i+1,by go_num,by go_num,by go_num,by have:=a.o;omega,m.o,trivial⟩
     case measure=>simp[intOf];omega
    .clear t k j;go_wp2_with fail;go_roundw;case rel=>exact⟨n,b,d+1,i+1,by go_num,by go_num,by go_num,by have:=a.o;omega,m.o,trivial⟩
     case measure=>simp[intOf];omega
  .have j:¬(i:Int)<(s.size:Int):=(by omega);have D:i=s.size:=by have:=H.o;omega
   have u:=p.o;rw[D] at u;obtain⟨q,r⟩:=u.done g.o;subst q;have P:(0:Int)<(d:Int):=by have:=a.o;omega
   have W:decide ((0:Int)<(d:Int))=true:=(by simpa using P);clear u r D A;go_wp2;go_ret;have Q:0<d:=(by omega);exact⟨by simp[Q],rfl⟩
end Go.Proofs.YtljaoopfomcaoaaGreatDoor
