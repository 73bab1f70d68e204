/- A part of the proof. -/
import Derived.Test.YtljaoopfomcaoaaGreatDoorMc3
import Derived.Deep.CutRange
import Derived.Laws.MakeOwn
set_option linter.unusedVariables false
set_option linter.unusedSimpArgs false
set_option maxRecDepth 100000
set_option maxHeartbeats 4000000
namespace Go.Proofs.YtljaoopfomcaoaaGreatDoor
open Go.RowKit
def JG:Nat→J→Prop
 |0,_=>True
 |d+1,j=>j≠ .null∧∀x∈gZ j,JG d x
theorem ES(N d:Nat):∀(ok:ae)(j:J)(cs:Y)(w:World),aG ok w cs j→Wf N d j→Calls Tryz.prog 38 #[.agg cs.toArray] w (fA w λr _=>r=false→∀e,JG e j):=by
 induction d with
 |zero=>intro ok j cs w _ h;exact h.elim
 |succ d G=>
  intro ok j cs w p H;obtain⟨k,b,i,f,t,I,lv,rfl⟩:=p.seven;have az:=Z p.zC;obtain⟨-,a,u,K,L⟩:=p.dV.parts;have HL:=Z u;have HR:=Z L;have M:=Z K;have WX:=Z H.gZ.2;have IH:=Z G;have aA:=u.1;obtain⟨-, -,v,z,rfl, -, -⟩:=u;unfold maxLen at aA;have P:∀W,(w.alloc (.cells (ai k b i f t I (.slice v a.length z)).toArray 26))=W→ay W w.heap.size (ai k b i f t I (.slice v a.length z)) 26∧O No w W:=by rintro W rfl;exact⟨ay.new _ _ _,(O.refl No w).alloc _⟩
  have Q:=Z P;clear P p H K L G;go_enter Tryz.func38,Tryz.ntmps38;unfold ai;go_upto_region 1 with fail
  generalize R:World.alloc _ _=W;obtain⟨A,S⟩:=Q.o W R;clear R Q;have k6:W.cell? ⟨w.heap.size,6,none⟩=some (.slice v a.length z):=A.cell 6;have aB:=Z A;have l:=Z S;clear A S;go_wp2_with fail;clear k6;go_loopw [8] (λB wr=>∃n:Nat,B=.int .i64 n∧n<=a.length∧(∀x∈(gZ j).take n,∀e,JG e x)∧O No W wr) (λB _=>a.length - (intOf B).toNat);case atStart=>exact⟨0,rfl,zL',by simp,O.refl _ _⟩
  case round=>
   obtain⟨n,rfl,aN,m,T⟩:=hrel;have C:=Z m;have c:=Z T;clear m T;by_cases U:n<a.length
   .obtain⟨r,D⟩:=gX' a n (U);obtain⟨x,o⟩:=gX' (gZ j) n ((by rw[←M.o];exact U));obtain⟨lb,lo,rfl, -,E⟩:=HL.o.at (i:=n) (r:=r) D;have E:=(E.X l.o id).X c.o id;have q:=(((HR.o n r x D o).X l.o nE).X c.o nE);have F:=q.length;have aC:=q.one;have aF:=Z (q.X ((O.refl No wr).alloc (.cells r.toArray 26)) nE);have HX:=Z o;have aH:(n:Int)<(a.length:Int):=(by omega);clear q o D;go_wp2_with (first|(with_reducible refine V rfl au rfl rfl E F ?_)|(with_reducible refine ak rfl au rfl rfl rfl rfl F aC ?_)|(with_reducible refine V rfl au rfl rfl (ay.new wr r 26).cells F ?_));refine(IH.o (okB ok w) x r (wr.alloc (.cells r.toArray 26)) aF.o (WX.o x (mG' HX.o))).mono ?_;rintro e w3 ⟨rr,rfl,af,aj⟩;have ax:=Z (c.o.trans' (((O.refl No wr).alloc (.cells r.toArray 26)).trans' af));have aI:=Z aj;clear af aj;cases rr with
    |true=>go_wp2;go_ret;exact⟨true,rfl,l.o.trans' ax.o,λh=>by cases h⟩
    |false=>
     go_wp2_with fail
     go_roundw
     case rel=>
      refine⟨n+1,by go_num,by omega,λy g=> ?_,ax.o⟩;rw[List.take_add_one,HX.o] at g;rcases List.mem_append.1 g with g|g
      .exact C.o y g
      .obtain rfl:y=x:=(by simpa using g);exact aI.o trivial
     case measure=>simp[intOf];omega
   .have aH:¬(n:Int)<(a.length:Int):=(by omega);have m:∀x∈gZ j,∀e,JG e x:=by
     have h:=C.o
     rwa[List.take_of_length_le (by rw[←M.o];omega)] at h
    have aJ:=Z m;have k0:wr.cell? ⟨w.heap.size,0,none⟩=some (.int .i64 k):=(aB.o.X c.o id).cell 0;clear m C;by_cases s:k=0
    .subst s;go_wp2;go_ret;exact⟨true,rfl,l.o.trans' c.o,λh=>by cases h⟩
    .have aO:(k==0)=false:=(by simpa using s);have aK:=Z s;clear s;go_wp2;go_ret;refine⟨false,rfl,l.o.trans' c.o,λ_ e=> ?_⟩;cases e with
     |zero=>trivial
     |succ e=>exact⟨λh=>aK.o (az.o.2.2.1 h),λx o=>aJ.o x o e⟩
def KW(j:J)(i:Nat):Prop:=∀x,(gZ j)[i]?=some x→dC x∧(dA j=true→(kE j)[i]?=some gK→∀y∈gZ x,∀z∈gZ y,dA z=false)
theorem IP{j:J}(h:∀i,KW j i):dC j:=by
 intro d;cases d with
 |zero=>trivial
 |succ d=>
  intro t e k x b;subst e;obtain⟨i,a⟩:=List.getElem?_of_mem (get_mem b);obtain⟨c,f⟩:=h i x (by simp[gZ,a]);refine⟨c d,λg s l p y m=> ?_⟩;subst l;intro u n q z o;subst n;refine f rfl (by simp[kE,a,g]) (.table u) ?_ z ?_
  .exact List.mem_map.2 ⟨_,get_mem m,rfl⟩
  .exact List.mem_map.2 ⟨_,get_mem o,rfl⟩
theorem rX(N d:Nat):∀(ok:ae)(j:J)(cs:Y)(w:World),aG ok w cs j→Wf N d j→Calls Tryz.prog 35 #[.agg cs.toArray] w (fA w λr _=>r=true→dC j):=by
 induction d with
 |zero=>intro ok j cs w _ h;exact h.elim
 |succ d ih=>
  intro ok j cs w K wf;obtain⟨k,b,i,f,t,kv,lv,rfl⟩:=K.seven;have bz:=Z K.zC;obtain⟨hk,c,hl,hn,hr⟩:=K.dV.parts;have bC:dA j=true→(kE j).length=c.length:=λh=>by
   rw[hn];cases j with
   |table kvs=>simp[kE,gZ]
   | _=>cases h
  have dI:=Z bC;have HK:=Z hk;have HL:=Z hl;have HR:=Z hr;have HN:=Z hn;have WX:=Z wf.gZ.2;have IH:=Z ih;have dJ:=hl.1;have bD:=hk.1;obtain⟨-, -,la,L,rfl, -, -⟩:=hl;obtain⟨-, -,ka,M,rfl, -, -⟩:=hk;unfold maxLen at dJ bD;simp only[aH,List.length_map] at bD HK⊢;have bF:∀W,(w.alloc (.cells (ai k b i f t (.slice ka (kE j).length M) (.slice la c.length L)).toArray 26))=W→ay W w.heap.size (ai k b i f t (.slice ka (kE j).length M) (.slice la c.length L)) 26∧O No w W:=by rintro W rfl;exact⟨ay.new _ _ _,(O.refl No w).alloc _⟩
  have HF:=Z bF;clear bF K wf hn hr ih bC;go_enter Tryz.func35,Tryz.ntmps35;unfold ai;go_upto_region 1 with fail
  generalize bG:World.alloc _ _=W;obtain⟨b0,c1⟩:=HF.o W bG;clear bG HF;have k6:W.cell? ⟨w.heap.size,6,none⟩=some (.slice la c.length L):=b0.cell 6;have bH:=Z b0;have B:=Z c1;clear b0 c1;go_wp2_with fail;clear k6;go_loopw [12] (λl wr=>∃n:Nat,l=.int .i64 n∧n<=c.length∧(∀i,i<n→KW j i)∧O No W wr) (λl _=>c.length - (intOf l).toNat);case atStart=>exact⟨0,rfl,zL',λi h=>absurd h (Nat.not_lt_zero _),O.refl _ _⟩
  case round=>
   obtain⟨n,rfl,eH,D,hc⟩:=hrel;have aF:=Z D;have P:=Z hc;clear D hc;by_cases aI:n<c.length
   .obtain⟨r,aK⟩:=gX' c n (aI);obtain⟨x,E⟩:=gX' (gZ j) n ((by rw[←HN.o];exact aI));obtain⟨lb,lo,rfl, -,Q⟩:=HL.o.at (i:=n) (r:=r) aK;have Q:=(Q.X B.o id).X P.o id;have R:=(((HR.o n r x aK E).X B.o nE).X P.o nE);have S:=R.length;have bI:=R.one;have v:=Z (R.X ((O.refl No wr).alloc (.cells r.toArray 26)) nE);have HX:=Z E;have dK:(n:Int)<(c.length:Int):=(by omega);clear R E aK;go_wp2_with (first|(with_reducible refine V rfl au rfl rfl Q S ?_)|(with_reducible refine ak rfl au rfl rfl rfl rfl S bI ?_)|(with_reducible refine V rfl au rfl rfl (ay.new wr r 26).cells S ?_));refine(IH.o (okB ok w) x r (wr.alloc (.cells r.toArray 26)) v.o (WX.o x (mG' HX.o))).mono ?_;rintro e w3 ⟨rr,rfl,T,bJ⟩;obtain⟨g,o⟩:∃g,g=wr.heap.size:=⟨_,rfl⟩;have bK:=(ay.newAt o r 26).X T id;rw[←o];have aN:=Z bK;have v:=Z (v.o.X T nE);have aO:=Z (P.o.trans' (((O.refl No wr).alloc (.cells r.toArray 26)).trans' T));have dL:=Z bJ;clear T bJ bK o Q S bI;cases rr with
    |false=>go_wp2;go_ret;exact⟨false,rfl,B.o.trans' aO.o,λh=>by cases h⟩
    |true=>
     have b3:=(bH.o.X aO.o id).cells;go_wp2_with (first|(with_reducible refine V rfl au rfl rfl b3 rfl ?_)|(with_reducible refine aJ rfl au rfl rfl b3 rfl ?_));refine(aY k i b f t (.slice ka (kE j).length M) (.slice (some ⟨lb,lo,none⟩) c.length L) w3).mono ?_;rintro e U ⟨rfl,af⟩;have C:=Z (aO.o.trans' af);have aN:=Z (aN.o.X af id);have v:=Z (v.o.X af nE);clear af b3;have bM:(dA j=true→(kE j)[n]?=some gK→∀y∈gZ x,∀z∈gZ y,dA z=false)→∀i,i<n+1→KW j i:=λh i hi=>by
      by_cases e:i=n
      .subst e;intro x' bP;rw[HX.o] at bP;cases bP;exact⟨dL.o trivial,h⟩
      .exact aF.o i (by omega)
     have aP:=Z bM;clear bM;by_cases p:k=7
     .subst p;have aQ:=bz.o.2.1 rfl;have bQ:=dI.o aQ;obtain⟨F,aS⟩:=gX' (kE j) n ((by rw[bQ];exact aI));obtain⟨kb,ko,rfl, -,aj⟩:=HK.o.at (i:=n) (r:=[.string F]) (by simp[aS]);have aj:=((aj.X B.o id).X C.o id).one;simp only[Nat.mul_one] at aj;have k5:U.cell? ⟨w.heap.size,5,none⟩=some (.slice (some ⟨kb,ko,none⟩) (kE j).length M):=(bH.o.X C.o id).cell 5;have eP:(n:Int)<((kE j).length:Int):=(by omega);have dM:=Z aS;have eQ:=Z aQ;clear aQ bQ aS;by_cases o:F=gK
      .have bT:(F.toList==[103,108,111,98,97,108])=true:=by rw[mi,←tN];simpa using o
       have eU:(F.toList !=[103,108,111,98,97,108])=false:=by rw[bne,bT];rfl
       clear o;obtain⟨xk,xb,xi,xf,xt,eX,eY,rfl⟩:=v.o.seven;obtain⟨-,A,xl,xn,xr⟩:=v.o.dV.parts;have dN:=Z xl;have dO:=Z xr;have bU:=Z xn;have dP:=xl.1;obtain⟨-, -,dQ,dR,rfl, -, -⟩:=xl;unfold maxLen at dP;have q6:U.cell? ⟨g,6,none⟩=some (.slice dQ A.length dR):=aN.o.cell 6;clear xn xr;go_wp2_with fail;clear k5 aj q6;go_loopw [34] (λl wr=>∃m:Nat,l=.int .i64 m∧m<=A.length∧(∀y∈(gZ x).take m,∀z∈gZ y,dA z=false)∧O No U wr) (λl _=>A.length - (intOf l).toNat);case atStart=>exact⟨0,rfl,zL',by simp,O.refl _ _⟩
       case round=>
        obtain⟨m,rfl,hm,bV,bW⟩:=hrel;have aT:=Z bV;have ax:=Z bW;clear bV bW;by_cases bY:m<A.length
        .obtain⟨r2,aU⟩:∃r,A[m]?=some r:=⟨_,List.getElem?_eq_getElem bY⟩;obtain⟨y,hy⟩:∃x',(gZ x)[m]?=some x':=⟨_,List.getElem?_eq_getElem (by rw[←bU.o];exact bY)⟩;obtain⟨fB,fC,rfl, -,az⟩:=dN.o.at (i:=m) (r:=r2) aU;have az:=az.X ax.o id;have G:=((dO.o m r2 y aU hy).X ax.o nE).X ((O.refl No _).alloc (.cells r2.toArray 26)) nE;have aV:=G.length;have bZ:=G.one;have HY:=Z hy;have dS:(m:Int)<(A.length:Int):=(by omega);clear hy aU;obtain⟨yk,yb,yi,yf,yt,cu,fD,rfl⟩:=G.seven;obtain⟨-,s,yl,yn,yr⟩:=G.dV.parts;have cO:=Z yl;have cZ:=Z yr;have df:=Z yn;have dU:=yl.1;obtain⟨-, -,aW,aX,rfl, -, -⟩:=yl;unfold maxLen at dU;clear yn yr G;obtain⟨g2,aZ⟩:∃g,g=wr.heap.size:=⟨_,rfl⟩;go_upto_region 10 with(first|(with_reducible refine V rfl au rfl rfl az aV ?_)|(with_reducible refine ak rfl au rfl rfl rfl rfl aV bZ ?_))
         have bf:=ay.newAt aZ (ai yk yb yi yf yt cu (.slice aW s.length aX)) 26;rw[←aZ];obtain⟨H,bg⟩:∃H,H=wr.alloc (.cells (ai yk yb yi yf yt cu (.slice aW s.length aX)).toArray 26):=⟨_,rfl⟩;rw[←bg] at bf cO cZ⊢;have dh:=Z (show O No U H by rw[bg];exact ax.o.alloc _);have y6:H.cell? ⟨g2,6,none⟩=some (.slice aW s.length aX):=bf.cell 6;clear bf bg aZ aV bZ az;go_wp2_with fail;clear y6;go_loopw [41] (λl wr=>∃q:Nat,l=.int .i64 q∧q<=s.length∧(∀z∈(gZ y).take q,dA z=false)∧O No H wr) (λl _=>s.length - (intOf l).toNat);case atStart=>exact⟨0,rfl,zL',by simp,O.refl _ _⟩
         case round=>
          obtain⟨q,rfl,hq,di,dm⟩:=hrel;have bn:=Z di;have aA:=Z dm;clear di dm;by_cases dn:q<s.length
          .obtain⟨r3,bu⟩:∃r,s[q]?=some r:=⟨_,List.getElem?_eq_getElem dn⟩;obtain⟨z,hz⟩:∃x',(gZ y)[q]?=some x':=⟨_,List.getElem?_eq_getElem (by rw[←df.o];exact dn)⟩;obtain⟨fE,fF,rfl, -,aB⟩:=cO.o.at (i:=q) (r:=r3) bu;have aB:=aB.X aA.o id;have I:=(cZ.o q r3 z bu hz).X aA.o nE;have aC:=I.length;have dw:=I.one;have HZ:=Z hz;have dW:(q:Int)<(s.length:Int):=(by omega);clear hz bu;obtain⟨zk,zb,zi,zf,zt,dB,dD,rfl⟩:=I.seven;have dX:=Z I.zC;clear I;have dE:=(ay.new wr (ai zk zb zi zf zt dB dD) 26).cells;go_wp2_with (first|(with_reducible refine V rfl au rfl rfl aB aC ?_)|(with_reducible refine ak rfl au rfl rfl rfl rfl aC dw ?_)|(with_reducible refine V rfl au rfl rfl dE aC ?_));refine(aY zk zi zb zf zt dB dD _).mono ?_;rintro e w7 ⟨rfl,dF⟩;have dG:=Z (aA.o.trans' (((O.refl No wr).alloc _).trans' dF));clear dF dE aB aC dw;by_cases p:zk=7
           .subst p;go_wp2;go_ret;exact⟨false,rfl,B.o.trans' (C.o.trans' (dh.o.trans' dG.o)),λh=>by cases h⟩
           .have dY:(zk==7)=false:=(by simpa using p);have dZ:=Z (show dA z=false by
             cases ed:dA z with
             |false=>rfl
             |true=>exact absurd (dX.o.2.2.2 ed) p)
            clear p;go_wp2_with fail;go_roundw
            case rel=>
             refine⟨q+1,by go_num,by omega,λu a=> ?_,dG.o⟩;rw[List.take_add_one,HZ.o] at a;rcases List.mem_append.1 a with a|a
             .exact bn.o u a
             .obtain rfl:u=z:=(by simpa using a);exact dZ.o
            case measure=>simp[intOf];omega
          .have dW:¬(q:Int)<(s.length:Int):=(by omega);have eu:=Z (show ∀z∈gZ y,dA z=false by
            have h:=bn.o
            rwa[List.take_of_length_le (by rw[←df.o];omega)] at h)
           clear bn;go_wp2_with fail;go_roundw
           case rel=>
            refine⟨m+1,by go_num,by omega,λu a=> ?_,dh.o.trans' aA.o⟩;rw[List.take_add_one,HY.o] at a;rcases List.mem_append.1 a with a|a
            .exact aT.o u a
            .obtain rfl:u=y:=(by simpa using a);exact eu.o
           case measure=>simp[intOf];omega
        .have dS:¬(m:Int)<(A.length:Int):=(by omega);have dH:∀y∈gZ x,∀z∈gZ y,dA z=false:=by
          have h:=aT.o
          rwa[List.take_of_length_le (by rw[←bU.o];omega)] at h
         have eF:=Z dH;clear dH aT;go_wp2_with fail;go_roundw;case rel=>exact⟨n+1,by go_num,by omega,aP.o (λ_ _=>eF.o),C.o.trans' ax.o⟩
         case measure=>simp[intOf];omega
      .have bT:(F.toList==[103,108,111,98,97,108])=false:=by rw[mi,←tN];simpa using o
       have HG:=Z o;clear o;go_wp2_with fail;go_roundw;case rel=>exact⟨n+1,by go_num,by omega,aP.o (λ_ h=>absurd (Option.some.inj (dM.o.symm.trans h)) HG.o),C.o⟩
       case measure=>simp[intOf];omega
     .have dY:(k==7)=false:=(by simpa using p);have H7:=Z p;clear p;go_wp2_with fail;go_roundw;case rel=>exact⟨n+1,by go_num,by omega,aP.o (λh=>absurd (bz.o.2.2.2 h) H7.o),C.o⟩
      case measure=>simp[intOf];omega
   .have dK:¬(n:Int)<(c.length:Int):=(by omega);have D:∀i,KW j i:=λi=>by
     by_cases hi:i<n
     .exact aF.o i hi
     .intro x E;have:=(gS'.1 E).1;rw[←HN.o] at this;omega
    have eG:=Z D;clear D aF;go_wp2;go_ret;exact⟨true,rfl,B.o.trans' P.o,λ_=>IP eG.o⟩
def Dw:Nat→Ch→Prop
 |0,_=>True
 |L+1,c=>dC c.vals∧∀d∈c.deps,Dw L d
def Hu:Nat→Ch→Prop
 |0,_=>True
 |L+1,c=>(∀x∈c.wants,x.condition=ByteArray.empty∧x.tags=[])∧∀d∈c.deps,Hu L d
theorem ay.tV{w:World}{g:Nat}{name n:K}{k:Int}{b:Bool}{i:Int}{f:Nat}{t:K}{a c d e:Value}{o:TypeId}(h:ay w g (az name n k b i f t a c d e) o):je w g 2 (ai k b i f t a c):=by intro j u l;have m:=h.cells (2+j) u;rw[Nat.zero_add] at m;refine m ?_;rw[Nat.add_comm];show(ai k b i f t a c++[d,e])[j]?=some u;rw[List.getElem?_append_left (gS'.1 l).1];exact l
theorem dU.cells{ok:ae}{w:World}{cs:Y}{c:Ch}(h:dU ok w cs c):∃name e k b i f t g j l m,cs=az name e k b i f t g j l m∧c.name=name∧c.version=e∧aG ok w (ai k b i f t g j) c.vals∧
  (∃a,aC ok w l 11 a∧a.length=c.deps.length∧∀(n:Nat)(r:Y)(d:Ch),a[n]?=some r→c.deps[n]?=some d→dU ok w r d)∧
  (∃a,aC ok w m 7 a∧a.length=c.wants.length∧∀(n:Nat)(r:Y)(x:Want),a[n]?=some r→c.wants[n]?=some x→dF ok w r x):=by
 cases h with
 |mk o p q h s u v=>exact⟨_,_,_,_,_,_,_,_,_,_,_,rfl,rfl,rfl,o,⟨_,p,q,h⟩,⟨_,s,u,v⟩⟩
theorem dF.len{ok:ae}{w:World}{cs:Y}{x:Want}(h:dF ok w cs x):cs.length=7∧cs.all (·.oneCell')=true:=by
 obtain⟨c,d,rfl,a,b⟩:=h;have e:=a.one;have f:=b.one;refine⟨rfl,?_⟩;simp only[aI,List.all_cons,List.all_nil,Bool.and_true,Bool.and_eq_true]
 simp_all [Value.oneCell']
theorem bP{α:Type}{l:List α}{n:Nat}{x:α}(b:l[n]?=some x){P:α→Prop}(h:∀y∈l.take n,P y)(c:P x):∀y∈l.take (n+1),P y:=by
 intro y a;rw[List.take_add_one,b] at a;rcases List.mem_append.1 a with a|a
 .exact h y a
 .obtain rfl:y=x:=(by simpa using a);exact c
theorem eG{α:Type}{l:List α}{n:Nat}(a:l.length<=n){P:α→Prop}(h:∀y∈l.take n,P y):∀y∈l,P y:=by rwa[List.take_of_length_le a] at h
theorem AY(L:Nat):∀(ok:ae)(c:Ch)(cs:Y)(w:World),dU ok w cs c→nM L c→Calls Tryz.prog 36 #[.agg cs.toArray] w (fA w λr _=>r=true→∀e,Dw e c):=by
 induction L with
 |zero=>intro ok c cs w _ h;exact h.elim
 |succ L J=>
  intro ok c cs w j K;obtain⟨name,M,k,b,i,f,t,u,v,dv,N,rfl, -, -,P,⟨a,l,Q,R⟩, -⟩:=j.dV.cells;have HV:=Z P;have HD:=Z l;have S:=Z Q;have aA:=Z R;have IH:=Z J;have T:=Z K;have aB:=l.1;obtain⟨-, -,y,z,rfl, -, -⟩:=l;unfold maxLen at aB;have U:∀W,(w.alloc (.cells (az name M k b i f t u v (.slice y a.length z) N).toArray 30))=W→ay W w.heap.size (az name M k b i f t u v (.slice y a.length z) N) 30∧O No w W:=by rintro W rfl;exact⟨ay.new _ _ _,(O.refl No w).alloc _⟩
  have HF:=Z U;clear U P Q R J K j;go_enter Tryz.func36,Tryz.ntmps36;unfold az;go_upto_region 1 with fail
  generalize af:World.alloc _ _=W;obtain⟨A,c1⟩:=HF.o W af;clear af HF;have k9:W.cell? ⟨w.heap.size,9,none⟩=some (.slice y a.length z):=A.cell 9;have aC:=Z A;have m:=Z c1;clear A c1;go_wp2_with fail;clear k9;go_loopw [8] (λB wr=>∃n:Nat,B=.int .i64 n∧n<=a.length∧(∀d∈c.deps.take n,∀e,Dw e d)∧O No W wr) (λB _=>a.length - (intOf B).toNat);case atStart=>exact⟨0,rfl,zL',by simp,O.refl _ _⟩
  case round=>
   obtain⟨n,rfl,aJ,aj,j⟩:=hrel;have C:=Z aj;have g:=Z j;clear aj j;by_cases ax:n<a.length
   .obtain⟨r,D⟩:=gX' a n (ax);obtain⟨x,E⟩:=gX' c.deps n ((by rw[←S.o];exact ax));obtain⟨lb,lo,rfl, -,F⟩:=HD.o.at (i:=n) (r:=r) D;have F:=(F.X m.o id).X g.o id;have q:=(((aA.o n r x D E).X m.o nE).X g.o nE);have G:=q.one.1;have aF:=q.one.2;have aG:=Z (q.X ((O.refl No wr).alloc (.cells r.toArray 30)) nE);have HX:=Z E;have aH:(n:Int)<(a.length:Int):=(by omega);clear q E D;go_wp2_with (first|(with_reducible refine V rfl aK rfl rfl F G ?_)|(with_reducible refine ak rfl aK rfl rfl rfl rfl G aF ?_)|(with_reducible refine V rfl aK rfl rfl (ay.new wr r 30).cells G ?_));refine(IH.o (okB ok w) x r (wr.alloc (.cells r.toArray 30)) aG.o (T.o.2.2.2.2.2.1 x (mG' HX.o))).mono ?_;rintro e w3 ⟨H,rfl,o,p⟩;have s:=Z (g.o.trans' (((O.refl No wr).alloc (.cells r.toArray 30)).trans' o));have I:=Z p;clear o p;cases H with
    |false=>go_wp2;go_ret;exact⟨false,rfl,m.o.trans' s.o,λh=>by cases h⟩
    |true=>
     go_wp2_with fail
     go_roundw;case rel=>exact⟨n+1,by go_num,by omega,bP HX.o C.o (I.o trivial),s.o⟩
     case measure=>simp[intOf];omega
   .have aH:¬(n:Int)<(a.length:Int):=(by omega);have aI:=Z (eG (by rw[←S.o];omega) C.o);have b2:=(aC.o.X g.o id).tV;clear C;go_wp2_with (first|(with_reducible refine V rfl au rfl rfl b2 rfl ?_));refine(rX 400 50 (okB ok w) c.vals (ai k b i f t u v) wr ((HV.o.X m.o nE).X g.o nE) T.o.1.1).mono ?_;rintro e w3 ⟨H,rfl,o,p⟩;have s:=Z o;have I:=Z p;clear o p b2;go_wp2;go_ret;refine⟨H,rfl,m.o.trans' (g.o.trans' s.o),λh e=> ?_⟩;cases e with
    |zero=>trivial
    |succ e=>exact⟨I.o h,λd l=>aI.o d l e⟩
theorem Gs(L:Nat):∀(ok:ae)(c:Ch)(cs:Y)(w:World),dU ok w cs c→nM L c→Calls Tryz.prog 37 #[.agg cs.toArray] w (fA w λr _=>r=false→∀e,Hu e c):=by
 induction L with
 |zero=>intro ok c cs w _ h;exact h.elim
 |succ L S=>
  intro ok c cs w p T;obtain⟨name,U,k,b,i,f,t,kv,lv,dv,wv,rfl, -, -, -,⟨m,A,hn,af⟩,⟨o,H,hm,ai⟩⟩:=p.dV.cells;have HD:=Z A;have HN:=Z hn;have aG:=Z af;have HW:=Z H;have HM:=Z hm;have aJ:=Z ai;have IH:=Z S;have HR:=Z T;have aN:=A.1;have aO:=H.1;obtain⟨-, -,I,J,rfl, -, -⟩:=A;obtain⟨-, -,K,wc,rfl, -, -⟩:=H;unfold maxLen at aN aO;have aj:∀W,(w.alloc (.cells (az name U k b i f t kv lv (.slice I m.length J) (.slice K o.length wc)).toArray 30))=W→ay W w.heap.size (az name U k b i f t kv lv (.slice I m.length J) (.slice K o.length wc)) 30∧O No w W:=by rintro W rfl;exact⟨ay.new _ _ _,(O.refl No w).alloc _⟩
  have HF:=Z aj;clear aj hn af S T p hm ai;go_enter Tryz.func37,Tryz.ntmps37;unfold az;go_upto_region 1 with fail
  generalize au:World.alloc _ _=W;obtain⟨M,c1⟩:=HF.o W au;clear au HF;have aP:W.cell? ⟨w.heap.size,10,none⟩=some (.slice K o.length wc):=M.cell 10;have aQ:=Z M;have j:=Z c1;clear M c1;go_wp2_with fail;clear aP;go_loopw [10] (λs wr=>∃n:Nat,s=.int .i64 n∧n<=o.length∧(∀x∈c.wants.take n,x.condition=ByteArray.empty∧x.tags=[])∧O No W wr) (λs _=>o.length - (intOf s).toNat);case atStart=>exact⟨0,rfl,zL',by simp,O.refl _ _⟩
  case round=>
   obtain⟨n,rfl,aS,B,p⟩:=hrel;have y:=Z B;have a:=Z p;clear B p;by_cases C:n<o.length
   .obtain⟨r,u⟩:=gX' o n (C);obtain⟨x,v⟩:=gX' c.wants n ((by rw[←HM.o];exact C));obtain⟨lb,lo,rfl, -,l⟩:=HW.o.at (i:=n) (r:=r) u;have l:=(l.X j.o id).X a.o id;have q:=aJ.o n r x u v;have g:=q.len.1;have z:=q.len.2;have E:=Z v;have N:(n:Int)<(o.length:Int):=(by omega);clear v u;obtain⟨tv,P,rfl,ht,hi⟩:=q;have ax:=ht.1;obtain⟨-, -,F,G,rfl, -, -⟩:=ht;simp only[aH,List.length_map] at ax l g z;unfold maxLen at ax;have Q:=ay.new wr (aI x (.slice F x.tags.length G) P) 79;have q2:(wr.alloc (.cells (aI x (.slice F x.tags.length G) P).toArray 79)).cell? ⟨wr.heap.size,2,none⟩=some (.string x.condition):=Q.cell 2;have q4:(wr.alloc (.cells (aI x (.slice F x.tags.length G) P).toArray 79)).cell? ⟨wr.heap.size,4,none⟩=some (.slice F x.tags.length G):=Q.cell 4;clear hi Q;by_cases D:x.condition=ByteArray.empty
    .have aT:(x.condition.toList==[])=true:=by rw[kW];simpa using D
     have aU:=Z D;clear D;by_cases aZ:0<x.tags.length
     .go_wp2_with (first|(with_reducible refine V rfl dD rfl rfl l g ?_)|(with_reducible refine ak rfl dD rfl rfl rfl rfl g z ?_))
      go_ret;exact⟨true,rfl,j.o.trans' (a.o.alloc _),λh=>by cases h⟩
     .have HT:=Z (show x.tags=[] from List.eq_nil_of_length_eq_zero (by omega));go_wp2_with (first|(with_reducible refine V rfl dD rfl rfl l g ?_)|(with_reducible refine ak rfl dD rfl rfl rfl rfl g z ?_));go_roundw;case rel=>exact⟨n+1,by go_num,by omega,bP E.o y.o ⟨aU.o,HT.o⟩,a.o.alloc _⟩
      case measure=>simp[intOf];omega
    .have aT:(x.condition.toList==[])=false:=by rw[kW];simpa using D
     clear D;go_wp2_with (first|(with_reducible refine V rfl dD rfl rfl l g ?_)|(with_reducible refine ak rfl dD rfl rfl rfl rfl g z ?_));go_ret;exact⟨true,rfl,j.o.trans' (a.o.alloc _),λh=>by cases h⟩
   .have N:¬(n:Int)<(o.length:Int):=(by omega);have aV:=Z (eG (by rw[←HM.o];omega) y.o);have k9:wr.cell? ⟨w.heap.size,9,none⟩=some (.slice I m.length J):=(aQ.o.X a.o id).cell 9;have j:=Z (j.o.trans' a.o);obtain⟨R,aA⟩:∃R,R=wr:=⟨_,rfl⟩;rw[←aA] at k9 j⊢;clear y a aA;go_wp2_with fail;clear k9;go_loopw [27] (λs wr=>∃n:Nat,s=.int .i64 n∧n<=m.length∧(∀d∈c.deps.take n,∀e,Hu e d)∧O No R wr) (λs _=>m.length - (intOf s).toNat);case atStart=>exact⟨0,rfl,zL',by simp,O.refl _ _⟩
    case round=>
     obtain⟨n,rfl,aS,B,p⟩:=hrel;have y:=Z B;have a:=Z p;clear B p;by_cases C:n<m.length
     .obtain⟨r,u⟩:=gX' m n (C);obtain⟨x,v⟩:=gX' c.deps n ((by rw[←HN.o];exact C));obtain⟨lb,lo,rfl, -,l⟩:=HD.o.at (i:=n) (r:=r) u;have l:=(l.X j.o id).X a.o id;have q:=(((aG.o n r x u v).X j.o nE).X a.o nE);have g:=q.one.1;have z:=q.one.2;have aW:=Z (q.X ((O.refl No wr).alloc (.cells r.toArray 30)) nE);have E:=Z v;have N:(n:Int)<(m.length:Int):=(by omega);clear q v u;go_wp2_with (first|(with_reducible refine V rfl aK rfl rfl l g ?_)|(with_reducible refine ak rfl aK rfl rfl rfl rfl g z ?_)|(with_reducible refine V rfl aK rfl rfl (ay.new wr r 30).cells g ?_));refine(IH.o (okB ok w) x r (wr.alloc (.cells r.toArray 30)) aW.o (HR.o.2.2.2.2.2.1 x (mG' E.o))).mono ?_;rintro e w3 ⟨rr,rfl,aB,aC⟩;have aF:=Z (a.o.trans' (((O.refl No wr).alloc (.cells r.toArray 30)).trans' aB));have aX:=Z aC;clear aB aC;cases rr with
      |true=>go_wp2;go_ret;exact⟨true,rfl,j.o.trans' aF.o,λh=>by cases h⟩
      |false=>
       go_wp2_with fail
       go_roundw;case rel=>exact⟨n+1,by go_num,by omega,bP E.o y.o (aX.o trivial),aF.o⟩
       case measure=>simp[intOf];omega
     .have N:¬(n:Int)<(m.length:Int):=(by omega);have aY:=Z (eG (by rw[←HN.o];omega) y.o);go_wp2;go_ret;refine⟨false,rfl,j.o.trans' a.o,λ_ e=> ?_⟩;cases e with
      |zero=>trivial
      |succ e=>exact⟨aV.o,λd A=>aY.o d A e⟩
def qC(s:K):Prop:=s.size<=200∧∀k∈parts s 46,k≠ByteArray.empty
def zF(x:iy):Prop:=
 (x.isMap=true→x.plain=ByteArray.empty∧qC x.child∧(qC x.parent∨x.parent=dB)∧gK∉parts x.parent 46)∧
 (x.isMap=false→x.child=ByteArray.empty∧x.parent=ByteArray.empty∧qC x.plain)
structure JH (x:Want):Prop where
 cond:x.condition.size<=100
 tags:x.tags.length<=10
 name:x.name.size<=100
 yE:x.bF.size<=100
 chars:∀(i:Nat)(h:i<x.condition.size),32<x.condition[i].toNat∧x.condition[i].toNat<127
 paths:∀s∈parts x.condition 44,s≠ByteArray.empty→qC s
 kD:∀i∈x.imports,zF i
def JI(l:List Want):Prop:=l.length<=20∧(l.map λx=>x.imports.length).sum<=1∧∀x∈l,JH x
def lF:Nat→Ch→Prop
 |0,_=>True
 |L+1,c=>JI c.wants∧∀d∈c.deps,lF L d
theorem vT(s:K)(F:s.size<1099511627776)(w:World):
  Calls Tryz.prog 74 #[.string s,.int .u8 44] w λe t=>∃v,e=.returned v∧aB t w.heap.size 9 1 v (aH (parts s 44))∧O No w t:=by
 have G:=Z F;go_enter Tryz.func74,Tryz.ntmps74;go_wp2_with fail;go_loopw [5,6,7] (λv H o wr=>∃(a:List K)(b n:Nat),H=.int .i64 b∧o=.int .i64 n∧b<=n∧n<=s.size+1∧aB wr w.heap.size 9 1 v (aH a)∧a.length<=n∧a++dE s 44 (s.size+1 - n) n b=parts s 44∧O No w wr)
  (λ_ _ o _=>s.size+1 - (intOf o).toNat)
 case atStart=>exact⟨[],0,0,rfl,rfl,lR',zL',aB.nil _ _ _ _,lR',rfl,O.refl _ _⟩
 case round=>
  obtain⟨a,b,n,rfl,rfl,P,u,c,x,y,p⟩:=hrel;obtain⟨Q,R,rfl⟩:=c.dY;have i:=Z y;have j:=Z p;have k:=Z x;have I:=Z u;have z:w.heap.size<=wr.heap.size+1:=by have:=p.size;omega
  have l:=Z c;clear y p x u;by_cases A:n<=s.size
  .have B:(aH a).length+1<=1099511627776:=by have:=k.o;have:=G.o;simp only[aH,List.length_map];omega
   by_cases J:n=s.size
   .subst J;have hcut:cutAt s 44 s.size=true:=by unfold cutAt;rw[dif_neg (Nat.lt_irrefl _)]
    have d:=Z hcut;clear hcut;have L:(ByteArray.size s:Int)<=(ByteArray.size s:Int):=Int.le_refl _;go_wp2_with (first|(at_builtin;refine aN rfl iK rfl rfl (c.alloc _) rfl (aC.gX wr [.string (ByteArray.extract s b s.size)] 9 1 rfl) (by simp[Value.oneCell']) B (by decide) (by simpa using z) ?_;intro v' w6 f g q r;go_frame));have h:=Z (nX l.o j.o g f);clear f g q r c;go_roundw;case rel=>exact⟨a++[s.extract b s.size],s.size+1,s.size+1,by go_num,by go_num,lR',lR',h.o.1,(by have:=k.o;simp;omega),(by rw[nJ lR' d.o];exact i.o),h.o.2⟩
    case measure=>simp[intOf]
   .have C:n<s.size:=(by omega);have S:((n:Int)==(s.size:Int))=false:=by simp;omega
    by_cases m:(s[n].toNat:Int)=44
    .have M:((s[n].toNat:Int)==44)=true:=(by simpa using m);have d:=Z (show cutAt s 44 n=true by unfold cutAt;rw[dif_pos C];simp;omega);clear m;go_wp2_with (first|(at_builtin;refine aN rfl iK rfl rfl (c.alloc _) rfl (aC.gX wr [.string (ByteArray.extract s b n)] 9 1 rfl) (by simp[Value.oneCell']) B (by decide) (by simpa using z) ?_;intro v' w6 f g q r;go_frame));have h:=Z (nX l.o j.o g f);clear f g q r c;go_roundw;case rel=>exact⟨a++[s.extract b n],n+1,n+1,by go_num,by go_num,lR',by omega,h.o.1,(by have:=k.o;simp;omega),(by rw[nJ A d.o];exact i.o),h.o.2⟩
     case measure=>simp[intOf];omega
    .have M:((s[n].toNat:Int)==44)=false:=(by simpa using m);have d:=Z (show cutAt s 44 n=false by unfold cutAt;rw[dif_pos C];simp;omega);clear m;go_wp2_with fail;go_roundw;case rel=>exact⟨a,b,n+1,rfl,by go_num,by omega,by omega,l.o,(by have:=k.o;omega),(by rw[rU A d.o];exact i.o),j.o⟩
     case measure=>simp[intOf];omega
  .have N:n=s.size+1:=by have:=I.o;omega
   have L:¬(n:Int)<=(s.size:Int):=(by omega);go_wp2;go_ret;have D:=i.o;rw[N,Nat.sub_self,dE,List.append_nil] at D;rw[←D];have E:=l.o;simp only[aH,List.length_map] at E;exact⟨_,rfl,E,j.o⟩
theorem oK(s:K)(c:Nat):(parts s c).length<=s.size+1:=kK s c _ _ _
theorem oZ(s:K)(m:gq s)(w:World):Calls Tryz.prog 75 #[.string s] w (fA w λr _=>r=true→qC s):=by
 have E:=Z m;have t:=oK s 46;unfold gq at m;go_enter Tryz.func75,Tryz.ntmps75;go_wp2_with fail;refine(lV s (by omega) w).mono ?_;rintro e u ⟨v,rfl,b,o⟩;have c:=Z b.rowAt;have p:=Z o;obtain⟨F,G,rfl⟩:=b.dY;simp only[aH,List.length_map] at c⊢;clear b o;obtain⟨P,d⟩:∃P,P=parts s 46:=⟨_,rfl⟩;rw[←d] at c t⊢;have y:=Z d;clear d;go_wp2_with fail;go_loopw [8] (λf wr=>∃n:Nat,f=.int .i64 n∧n<=P.length∧(∀k∈P.take n,k≠ByteArray.empty)∧wr=u) (λf _=>P.length - (intOf f).toNat)
 case atStart=>exact⟨0,rfl,zL',by simp,rfl⟩
 case round=>
  obtain⟨n,rfl,H,q,rfl⟩:=hrel;have g:=Z q;clear q;by_cases z:n<P.length
  .obtain⟨x,j⟩:=gX' P n (z);obtain⟨I,J,rfl, -,l⟩:=c.o.at (i:=n) (r:=[.string x]) (by simp[j]);have l:=l.one;simp only[Nat.mul_one] at l;have A:=Z j;have B:(n:Int)<(P.length:Int):=(by omega);clear j;by_cases a:x=ByteArray.empty
   .have C:(ByteArray.toList x).isEmpty=true:=by rw[←decide_eq_emptyBytes];exact decide_eq_true a
    clear a;go_wp2;go_ret;exact⟨false,rfl,p.o,λh=>by cases h⟩
   .have C:(ByteArray.toList x).isEmpty=false:=by rw[←decide_eq_emptyBytes];exact decide_eq_false a
    go_wp2_with fail
    go_roundw;case rel=>exact⟨n+1,by go_num,by omega,bP A.o g.o a,by first|rfl|trivial⟩
    case measure=>simp[intOf];omega
  .have B:¬(n:Int)<(P.length:Int):=(by omega);have D:=Z (eG (by omega) g.o);clear g;go_wp2;go_ret;refine⟨_,rfl,p.o,λh=>⟨by have L:=of_decide_eq_true h;omega,?_⟩⟩;rw[←y.o];exact D.o
theorem uw(s:K)(o:gq s)(w:World):Calls Tryz.prog 76 #[.string s] w (fA w λr _=>r=false→gK∉parts s 46):=by
 have H:=Z o;have y:=oK s 46;unfold gq at o;go_enter Tryz.func76,Tryz.ntmps76;go_wp2_with fail;refine(lV s (by omega) w).mono ?_;rintro e z ⟨v,rfl,c,p⟩;have d:=Z c.rowAt;have q:=Z p;obtain⟨I,J,rfl⟩:=c.dY;simp only[aH,List.length_map] at d⊢;clear c p;obtain⟨P,f⟩:∃P,P=parts s 46:=⟨_,rfl⟩;rw[←f] at d y⊢;have A:=Z f;clear f;go_wp2_with fail;go_loopw [8] (λg wr=>∃n:Nat,g=.int .i64 n∧n<=P.length∧(∀k∈P.take n,k≠gK)∧wr=z) (λg _=>P.length - (intOf g).toNat)
 case atStart=>exact⟨0,rfl,zL',by simp,rfl⟩
 case round=>
  obtain⟨n,rfl,L,t,rfl⟩:=hrel;have j:=Z t;clear t;by_cases B:n<P.length
  .obtain⟨x,l⟩:=gX' P n (B);obtain⟨M,N,rfl, -,m⟩:=d.o.at (i:=n) (r:=[.string x]) (by simp[l]);have m:=m.one;simp only[Nat.mul_one] at m;have C:=Z l;have D:(n:Int)<(P.length:Int):=(by omega);clear l;have b:(x.toList==[103,108,111,98,97,108])=decide (x=gK):=by rw[tN];exact mi x _
   by_cases a:x=gK
   .have E:(x.toList==[103,108,111,98,97,108])=true:=by rw[b];simpa using a
    clear b a;go_wp2;go_ret;exact⟨true,rfl,q.o,λh=>by cases h⟩
   .have E:(x.toList==[103,108,111,98,97,108])=false:=by rw[b];simpa using a
    have F:=Z a;clear b a;go_wp2_with fail;go_roundw;case rel=>exact⟨n+1,by go_num,by omega,bP C.o j.o F.o,by first|rfl|trivial⟩
    case measure=>simp[intOf];omega
  .have D:¬(n:Int)<(P.length:Int):=(by omega);have G:=Z (eG (by omega) j.o);clear j;go_wp2;go_ret;refine⟨_,rfl,q.o,λh u=> ?_⟩;rw[←A.o] at u;exact G.o _ u rfl
theorem zG{xs:List Want}{n:Nat}{x:Want}(h:xs[n]?=some x):((xs.take (n+1)).map λx=>x.imports.length).sum=((xs.take n).map λx=>x.imports.length).sum+x.imports.length:=by rw[List.take_add_one,h];simp
theorem zH{a b:K}(h:a++b=ByteArray.empty):a=ByteArray.empty∧b=ByteArray.empty:=by have c:=congrArg ByteArray.size h;rw[ByteArray.size_append] at c;have d:ByteArray.empty.size=0:=rfl;exact⟨ByteArray.size_eq_zero_iff.1 (by omega),ByteArray.size_eq_zero_iff.1 (by omega)⟩
theorem Dx(ok:ae)(lv:Value)(p:List (Y))(xs:List Want)(w:World)(hw:aC ok w lv 7 p)(hn:p.length=xs.length)(B:∀(n:Nat)(r:Y)(x:Want),p[n]?=some r→xs[n]?=some x→dF ok w r x)(bM:∀x∈xs,xq x):
  Calls Tryz.prog 39 #[lv] w (fA w λr _=>r=true→JI xs):=by
 have HW:=Z (hw.mono (ok':=okB ok w) (λb hb h=>⟨h,hb⟩) (by decide));have HN:=Z hn;have HX:=Z B;have dI:=Z bM;have dJ:=hw.1;obtain⟨-, -,wa,wc,rfl, -, -⟩:=hw;unfold maxLen at dJ;clear hn B bM;go_enter Tryz.func39,Tryz.ntmps39;go_wp2_with fail;go_loopw [3,13] (λit c wr=>∃n m:Nat,it=.int .i64 m∧c=.int .i64 n∧n<=p.length∧m<=1∧((xs.take n).map λx=>x.imports.length).sum=m∧(∀x∈xs.take n,JH x)∧O No w wr) (λ_ c _=>p.length - (intOf c).toNat)
 case atStart=>exact⟨0,0,rfl,rfl,zL',by omega,by simp,by simp,O.refl _ _⟩
 case round=>
  obtain⟨n,m,rfl,rfl,fE,fF,bQ,bT,hc⟩:=hrel;have aS:=Z bT;have aT:=Z bQ;have HC:=Z hc;clear bT hc bQ;by_cases bU:n<p.length
  .obtain⟨r,aU⟩:=gX' p n (bU);obtain⟨x,B⟩:=gX' xs n ((by rw[←HN.o];exact bU));obtain⟨lb,lo,rfl, -,L⟩:=HW.o.at (i:=n) (r:=r) aU;have L:=L.X HC.o id;have aV:=HX.o n r x aU B;have aF:=aV.len.1;have aW:=aV.len.2;have bV:=Z B;have aX:=Z (dI.o x (mG' B));have dK:(n:Int)<(p.length:Int):=(by omega);clear B aU;obtain⟨tv,iv,rfl,ht,hi⟩:=aV;have bW:=ht.1;have bY:=hi.1;have bZ:=Z (hi.mono (ok':=okB ok w) (λb hb h=>⟨h,hb⟩) (by decide));obtain⟨-, -,M,N,rfl, -, -⟩:=ht;obtain⟨-, -,Q,R,rfl, -, -⟩:=hi;simp only[aH,dS,List.length_map] at bW bY L aF aW bZ;unfold maxLen at bW bY;have j:=ay.new wr (aI x (.slice M x.tags.length N) (.slice Q x.imports.length R)) 79;obtain⟨d,cu⟩:∃d,d=wr.heap.size:=⟨_,rfl⟩;have aY:=Z (HC.o.trans' ((O.refl No wr).alloc (.cells (aI x (.slice M x.tags.length N) (.slice Q x.imports.length R)).toArray 79)));go_upto_region 5 with(first|(with_reducible refine V rfl dD rfl rfl L aF ?_)|(with_reducible refine ak rfl dD rfl rfl rfl rfl aF aW ?_))
   rw[←cu] at j⊢;obtain⟨q,cO⟩:∃q,q=wr.alloc (.cells (aI x (.slice M x.tags.length N) (.slice Q x.imports.length R)).toArray 79):=⟨_,rfl⟩;rw[←cO] at j aY⊢;have dL:=Z j;have q0:q.cell? ⟨d,0,none⟩=some (.string x.name):=j.cell 0;have q1:q.cell? ⟨d,1,none⟩=some (.string x.version):=j.cell 1;have q2:q.cell? ⟨d,2,none⟩=some (.string x.condition):=j.cell 2;have q3:q.cell? ⟨d,3,none⟩=some (.string x.bF):=j.cell 3;have q4:q.cell? ⟨d,4,none⟩=some (.slice M x.tags.length N):=j.cell 4;have q6:q.cell? ⟨d,6,none⟩=some (.slice Q x.imports.length R):=j.cell 6;clear cO cu L aF aW j;by_cases fG:1<m+x.imports.length
   .have dM:(1:Int)<(m:Int)+(x.imports.length:Int):=(by omega);have fH:x.imports.length<=1048576:=aX.o.kD.1;go_wp2;go_ret;exact⟨false,rfl,aY.o,λh=>by cases h⟩
   .have dM:¬(1:Int)<(m:Int)+(x.imports.length:Int):=by omega
    go_wp2_with fail
    refine(nO x.version (by have:=aX.o.fB;unfold gq at this;omega) q).mono ?_;rintro e S ⟨rv,rfl,aZ, -⟩;have u:=Z (aY.o.trans' aZ);have G:=dL.o.X aZ id;have cZ:=Z G;have p0:S.cell? ⟨d,0,none⟩=some (.string x.name):=G.cell 0;have p2:S.cell? ⟨d,2,none⟩=some (.string x.condition):=G.cell 2;have p3:S.cell? ⟨d,3,none⟩=some (.string x.bF):=G.cell 3;have p4:S.cell? ⟨d,4,none⟩=some (.slice M x.tags.length N):=G.cell 4;clear aZ G q0 q1 q2 q3 q4 q6;cases rv with
    |false=>go_wp2;go_ret;exact⟨false,rfl,u.o,λh=>by cases h⟩
    |true=>
    by_cases dN:(100:Int)<(x.condition.size:Int)
    .go_wp2;go_ret;exact⟨false,rfl,u.o,λh=>by cases h⟩
    by_cases aG:(10:Int)<(x.tags.length:Int)
    .go_wp2;go_ret;exact⟨false,rfl,u.o,λh=>by cases h⟩
    by_cases C:(100:Int)<(x.name.size:Int)
    .go_wp2;go_ret;exact⟨false,rfl,u.o,λh=>by cases h⟩
    by_cases t:(100:Int)<(x.bF.size:Int)
    .go_wp2;go_ret;exact⟨false,rfl,u.o,λh=>by cases h⟩
    have H:=Z (show x.condition.size<=100∧x.tags.length<=10∧x.name.size<=100∧x.bF.size<=100 by omega);go_wp2_with fail;clear p0 p2 p3 p4 dN aG C t;go_loopw [57] (λc wr=>∃k:Nat,c=.int .i64 k∧k<=x.condition.size∧(∀(i:Nat)(h:i<x.condition.size),i<k→32<x.condition[i].toNat∧x.condition[i].toNat<127)∧wr=S) (λc _=>x.condition.size - (intOf c).toNat);case atStart=>exact⟨0,rfl,zL',λi h h0=>by omega,rfl⟩
    case round=>
     obtain⟨k,rfl,hk,df,rfl⟩:=hrel;have dh:=Z df;have p2:wr.cell? ⟨d,2,none⟩=some (.string x.condition):=cZ.o.cell 2;clear df;by_cases fJ:k<x.condition.size
     .have dO:(k:Int)<(x.condition.size:Int):=by omega
      by_cases fK:(x.condition[k].toNat:Int)<=32
      .go_wp2;go_ret;exact⟨false,rfl,u.o,λh=>by cases h⟩
      by_cases fM:(127:Int)<=(x.condition[k].toNat:Int)
      .go_wp2;go_ret;exact⟨false,rfl,u.o,λh=>by cases h⟩
      have HB:=Z (show 32<x.condition[k].toNat∧x.condition[k].toNat<127 by omega);go_wp2_with fail;go_roundw;case rel=>exact⟨k+1,by go_num,by omega,λi h h0=>(by by_cases e:i=k;subst e;exact HB.o;exact dh.o i h (by omega)),by first|rfl|trivial⟩
      case measure=>simp[intOf];omega
     .have dO:¬(k:Int)<(x.condition.size:Int):=(by omega);have dP:=Z (show ∀(i:Nat)(h:i<x.condition.size),32<x.condition[i].toNat∧x.condition[i].toNat<127 from λi h=>dh.o i h (by omega));go_wp2_with fail;refine(vT x.condition (by have:=H.o.1;omega) wr).mono ?_;rintro e wz ⟨pv,rfl,bf,bg⟩;have bn:=Z bf.rowAt;have l:=Z (u.o.trans' bg);have dQ:=Z (cZ.o.X bg id);obtain⟨pa,pc,rfl⟩:=bf.dY;simp only[aH,List.length_map] at bn⊢;obtain⟨P,hP⟩:∃P,P=parts x.condition 44:=⟨_,rfl⟩;have dR:=oK x.condition 44;have bu:=λy (T:y∈parts x.condition 44)=>iQ T
      rw[←hP] at bn dR bu⊢;have HP:=Z hP;have dU:=Z bu;clear bf bg hP bu p2;go_wp2_with fail;go_loopw [77] (λc wr=>∃k:Nat,c=.int .i64 k∧k<=P.length∧(∀s∈P.take k,s≠ByteArray.empty→qC s)∧O No wz wr) (λc _=>P.length - (intOf c).toNat)
      case atStart=>exact⟨0,rfl,zL',by simp,O.refl _ _⟩
      case round=>
       obtain⟨D,rfl,fO,di,aG⟩:=hrel;have aJ:=Z di;have I:=Z aG;clear di aG;have fP:=H.o.1;by_cases dV:D<P.length
       .obtain⟨y,T⟩:=gX' P D (dV);obtain⟨fQ,fU,rfl, -,bz⟩:=bn.o.at (i:=D) (r:=[.string y]) (by simp[T]);have bz:=(bz.X I.o id).one;simp only[Nat.mul_one] at bz;have HY:=Z T;have dW:(D:Int)<(P.length:Int):=(by omega);clear T;by_cases U:y=ByteArray.empty
        .have W:(ByteArray.toList y).isEmpty=true:=by rw[←decide_eq_emptyBytes];exact decide_eq_true U
         have HE:=Z U;clear U;go_wp2_with fail;go_roundw;case rel=>exact⟨D+1,by go_num,by omega,bP HY.o aJ.o (λh=>absurd HE.o h),I.o⟩
         case measure=>simp[intOf];omega
        .have W:(ByteArray.toList y).isEmpty=false:=by rw[←decide_eq_emptyBytes];exact decide_eq_false U
         clear U;go_wp2_with fail;refine(oZ y (by have:=dU.o y (mG' HY.o);unfold gq;omega) _).mono ?_;rintro e w3 ⟨rp,rfl,C,dm⟩;have J:=Z (I.o.trans' C);have dX:=Z dm;clear C dm;cases rp with
         |false=>go_wp2;go_ret;exact⟨false,rfl,l.o.trans' J.o,λh=>by cases h⟩
         |true=>
          go_wp2_with fail
          go_roundw;case rel=>exact⟨D+1,by go_num,by omega,bP HY.o aJ.o (λ_=>dX.o trivial),J.o⟩
          case measure=>simp[intOf];omega
       .have dW:¬(D:Int)<(P.length:Int):=(by omega);have dZ:=Z (show ∀s∈parts x.condition 44,s≠ByteArray.empty→qC s by rw[←HP.o];exact eG (by omega) aJ.o);clear aJ;have q6:wr.cell? ⟨d,6,none⟩=some (.slice Q x.imports.length R):=(dQ.o.X I.o id).cell 6;have o:=Z I.o;obtain⟨W2,dn⟩:∃W2,W2=wr:=⟨_,rfl⟩;rw[←dn] at q6 o⊢;clear I dn;go_wp2_with fail;clear q6;go_loopw [92] (λc wr=>∃k:Nat,c=.int .i64 k∧k<=x.imports.length∧(∀i∈x.imports.take k,zF i)∧O No W2 wr) (λc _=>x.imports.length - (intOf c).toNat);case atStart=>exact⟨0,rfl,zL',by simp,O.refl _ _⟩
        case round=>
         obtain⟨v,rfl,fV,dw,C⟩:=hrel;have af:=Z dw;have J:=Z C;clear dw C;by_cases ed:v<x.imports.length
         .obtain⟨a,aK⟩:=gX' x.imports v (ed);obtain⟨fZ,gm,rfl, -,aN⟩:=bZ.o.at (i:=v) (r:=[.string a.plain,.string a.child,.string a.parent,.bool a.isMap]) (by simp[aK]);have aN:=(((aN.X l.o id).X o.o id).X J.o id);have bC:=Z aK;have E:=Z (aX.o.kD.2 a (mG' aK));have eu:(v:Int)<(x.imports.length:Int):=(by omega);have dA:([.string a.plain,.string a.child,.string a.parent,.bool a.isMap]:Y).all (·.oneCell')=true:=rfl;have z:=ay.new wr [.string a.plain,.string a.child,.string a.parent,.bool a.isMap] 110;obtain⟨f,dC⟩:∃f,f=wr.heap.size:=⟨_,rfl⟩;have ai:=Z (J.o.trans' ((O.refl No wr).alloc (.cells [.string a.plain,.string a.child,.string a.parent,.bool a.isMap].toArray 110)));clear aK;go_upto_region 23 with(first|(with_reducible refine V rfl kH rfl rfl aN rfl ?_)|(with_reducible refine ak rfl kH rfl rfl rfl rfl rfl dA ?_))
          rw[←dC] at z⊢;obtain⟨K,dE⟩:∃K,K=wr.alloc (.cells [.string a.plain,.string a.child,.string a.parent,.bool a.isMap].toArray 110):=⟨_,rfl⟩;rw[←dE] at z ai⊢;have dG:=Z z;have z0:K.cell? ⟨f,0,none⟩=some (.string a.plain):=z.cell 0;have z1:K.cell? ⟨f,1,none⟩=some (.string a.child):=z.cell 1;have z2:K.cell? ⟨f,2,none⟩=some (.string a.parent):=z.cell 2;have z3:K.cell? ⟨f,3,none⟩=some (.bool a.isMap):=z.cell 3;clear dE dC aN z dA;cases kX:a.isMap with
          |true=>
           rw[kX] at z3;have A:=Z kX;clear kX;by_cases g:a.plain=ByteArray.empty
           .have W:(ByteArray.toList a.plain).isEmpty=true:=by rw[←decide_eq_emptyBytes];exact decide_eq_true g
            have aj:=Z g;clear g;go_wp2_with fail;refine(oZ a.child E.o.2.1 _).mono ?_;rintro e w4 ⟨r4,rfl,t,au⟩;have ax:=Z (ai.o.trans' t);have aO:=Z au;have aP:=Z (dG.o.X t id);clear t au;have gp:w4.cell? ⟨f,2,none⟩=some (.string a.parent):=aP.o.cell 2;have eF:w4.cell? ⟨f,3,none⟩=some (.bool a.isMap):=aP.o.cell 3;rw[A.o] at eF;cases r4 with
            |false=>go_wp2;go_ret;exact⟨false,rfl,(l.o.trans' o.o).trans' ax.o,λh=>by cases h⟩
            |true=>
             go_wp2_with fail
             refine(oZ a.parent E.o.2.2 _).mono ?_;rintro e w5 ⟨r5,rfl,bD,dH⟩;have bG:=Z (ax.o.trans' bD);have eH:=Z dH;have aQ:=Z (aP.o.X bD id);clear bD dH;have gu:w5.cell? ⟨f,2,none⟩=some (.string a.parent):=aQ.o.cell 2;have eP:w5.cell? ⟨f,3,none⟩=some (.bool a.isMap):=aQ.o.cell 3;rw[A.o] at eP;have e2:(a.parent.toList==[46])=decide (a.parent=dB):=mi a.parent _;cases r5 with
             |false=>
              by_cases az:a.parent=dB
              .have b2:(a.parent.toList==[46])=true:=by rw[e2];simpa using az
               have bH:=Z (show qC a.parent∨a.parent=dB from .inr az);clear e2 az;go_wp2_with fail;refine(uw a.parent E.o.2.2 _).mono ?_;rintro e w6 ⟨r6,rfl,F,aA⟩;have aB:=Z (bG.o.trans' F);have bI:=Z aA;have bJ:=Z (aQ.o.X F id);clear F aA;have bK:w6.cell? ⟨f,3,none⟩=some (.bool a.isMap):=bJ.o.cell 3;rw[A.o] at bK;cases r6 with
               |true=>go_wp2;go_ret;exact⟨false,rfl,(l.o.trans' o.o).trans' aB.o,λh=>by cases h⟩
               |false=>
                go_wp2_with fail
                go_roundw;case rel=>exact⟨v+1,by go_num,by omega,bP bC.o af.o ⟨λ_=>⟨aj.o,aO.o trivial,bH.o,bI.o trivial⟩,λh=>by rw[A.o] at h;cases h⟩,aB.o⟩
                case measure=>simp[intOf];omega
              .have b2:(a.parent.toList==[46])=false:=by rw[e2];simpa using az
               clear e2 az;go_wp2;go_ret;exact⟨false,rfl,(l.o.trans' o.o).trans' bG.o,λh=>by cases h⟩
             |true=>
              clear e2;have bH:=Z (show qC a.parent∨a.parent=dB from .inl (eH.o rfl));go_wp2_with fail;refine(uw a.parent E.o.2.2 _).mono ?_;rintro e w6 ⟨r6,rfl,F,aA⟩;have aB:=Z (bG.o.trans' F);have bI:=Z aA;have bJ:=Z (aQ.o.X F id);clear F aA;have bK:w6.cell? ⟨f,3,none⟩=some (.bool a.isMap):=bJ.o.cell 3;rw[A.o] at bK;cases r6 with
              |true=>go_wp2;go_ret;exact⟨false,rfl,(l.o.trans' o.o).trans' aB.o,λh=>by cases h⟩
              |false=>
               go_wp2_with fail
               go_roundw;case rel=>exact⟨v+1,by go_num,by omega,bP bC.o af.o ⟨λ_=>⟨aj.o,aO.o trivial,bH.o,bI.o trivial⟩,λh=>by rw[A.o] at h;cases h⟩,aB.o⟩
               case measure=>simp[intOf];omega
           .have W:(ByteArray.toList a.plain).isEmpty=false:=by rw[←decide_eq_emptyBytes];exact decide_eq_false g
            clear g;go_wp2;go_ret;exact⟨false,rfl,(l.o.trans' o.o).trans' ai.o,λh=>by cases h⟩
          |false=>
           rw[kX] at z3;have A:=Z kX;have eQ:=E.o.2.1;have eU:=E.o.2.2;unfold gq at eQ eU;clear kX;by_cases g:a.child++a.parent=ByteArray.empty
           .have W:(ByteArray.toList (a.child++a.parent)).isEmpty=true:=by rw[←decide_eq_emptyBytes];exact decide_eq_true g
            have aj:=Z g;clear g;go_wp2_with fail;refine(oZ a.plain E.o.1 _).mono ?_;rintro e w4 ⟨r4,rfl,t,au⟩;have ax:=Z (ai.o.trans' t);have aO:=Z au;have aP:=Z (dG.o.X t id);clear t au;cases r4 with
            |false=>go_wp2;go_ret;exact⟨false,rfl,(l.o.trans' o.o).trans' ax.o,λh=>by cases h⟩
            |true=>
             go_wp2_with fail
             go_roundw;case rel=>exact⟨v+1,by go_num,by omega,bP bC.o af.o ⟨(λh=>by rw[A.o] at h;cases h),λ_=>⟨(zH aj.o).1,(zH aj.o).2,aO.o trivial⟩⟩,ax.o⟩
             case measure=>simp[intOf];omega
           .have W:(ByteArray.toList (a.child++a.parent)).isEmpty=false:=by rw[←decide_eq_emptyBytes];exact decide_eq_false g
            clear g;go_wp2;go_ret;exact⟨false,rfl,(l.o.trans' o.o).trans' ai.o,λh=>by cases h⟩
         .have eu:¬(v:Int)<(x.imports.length:Int):=(by omega);have eX:=Z (show JH x from⟨H.o.1,H.o.2.1,H.o.2.2.1,H.o.2.2.2,dP.o,dZ.o,eG (by omega) af.o⟩);have eY:=Z (show((xs.take (n+1)).map λx=>x.imports.length).sum=m+x.imports.length by rw[zG bV.o,aT.o]);have fC:=Z ((l.o.trans' o.o).trans' J.o);clear af;go_wp2_with fail;go_roundw;case rel=>exact⟨n+1,m+x.imports.length,by go_num,by go_num,by omega,by omega,eY.o,bP bV.o aS.o eX.o,fC.o⟩
          case measure=>simp[intOf];omega
  .have dK:¬(n:Int)<(p.length:Int):=(by omega);have fD:=Z (eG (by rw[←HN.o];omega) aS.o);have hs:=aT.o;rw[List.take_of_length_le (by rw[←HN.o];omega)] at hs;clear aS aT;go_wp2;go_ret;refine⟨_,rfl,HC.o,λh=>⟨?_,by omega,fD.o⟩⟩;have h2:=of_decide_eq_true h;rw[←HN.o];omega
theorem lF.zero(c:Ch):lF 0 c:=True.intro
theorem lF.succ{L:Nat}{c:Ch}(h:JI c.wants)(a:∀d∈c.deps,lF L d):lF (L+1) c:=⟨h,a⟩
theorem Dy(L:Nat):∀(ok:ae)(c:Ch)(cs:Y)(w:World),dU ok w cs c→nM L c→Calls Tryz.prog 9 #[.agg cs.toArray] w (fA w λr _=>r=true→∀e,lF e c):=by
 induction L with
 |zero=>intro ok c cs w _ h;exact h.elim
 |succ L J=>
  intro ok c cs w l y;obtain⟨name,K,k,b,i,f,t,M,N,dv,m,rfl, -, -,P,⟨a,o,Q,R⟩,⟨z,S,T,U⟩⟩:=l.dV.cells;have HW:=Z S;have aF:=Z T;have aG:=Z U;clear S T U;have HV:=Z P;have HD:=Z o;have HN:=Z Q;have aH:=Z R;have IH:=Z J;have HR:=Z y;have aI:=Z (show ∀x∈c.wants,xq x from λx p=>(y.2.2.2.2.2.2.2.1 x p).sm);have aJ:=o.1;obtain⟨-, -,A,B,rfl, -, -⟩:=o;unfold maxLen at aJ;have af:∀W,(w.alloc (.cells (az name K k b i f t M N (.slice A a.length B) m).toArray 30))=W→ay W w.heap.size (az name K k b i f t M N (.slice A a.length B) m) 30∧O No w W:=by rintro W rfl;exact⟨ay.new _ _ _,(O.refl No w).alloc _⟩
  have HF:=Z af;clear af P Q R J y l;go_enter Tryz.func9,Tryz.ntmps9;unfold az;go_upto_region 1 with fail
  generalize ai:World.alloc _ _=W;obtain⟨C,c1⟩:=HF.o W ai;clear ai HF;have k9:W.cell? ⟨w.heap.size,9,none⟩=some (.slice A a.length B):=C.cell 9;have aN:=Z C;have j:=Z c1;clear C c1;go_wp2_with fail;clear k9;go_loopw [8] (λD wr=>∃n:Nat,D=.int .i64 n∧n<=a.length∧(∀d∈c.deps.take n,∀e,lF e d)∧O No W wr) (λD _=>a.length - (intOf D).toNat);case atStart=>exact⟨0,rfl,zL',by simp,O.refl _ _⟩
  case round=>
   obtain⟨n,rfl,aV,aj,l⟩:=hrel;have au:=Z aj;have g:=Z l;clear aj l;by_cases ax:n<a.length
   .obtain⟨r,E⟩:=gX' a n (ax);obtain⟨x,p⟩:=gX' c.deps n ((by rw[←HN.o];exact ax));obtain⟨lb,lo,rfl, -,F⟩:=HD.o.at (i:=n) (r:=r) E;have F:=(F.X j.o id).X g.o id;have u:=(((aH.o n r x E p).X j.o nE).X g.o nE);have G:=u.one.1;have aO:=u.one.2;have aP:=Z (u.X ((O.refl No wr).alloc (.cells r.toArray 30)) nE);have HX:=Z p;have aQ:(n:Int)<(a.length:Int):=(by omega);clear u p E;go_wp2_with (first|(with_reducible refine V rfl aK rfl rfl F G ?_)|(with_reducible refine ak rfl aK rfl rfl rfl rfl G aO ?_)|(with_reducible refine V rfl aK rfl rfl (ay.new wr r 30).cells G ?_));refine(IH.o (okB ok w) x r (wr.alloc (.cells r.toArray 30)) aP.o (HR.o.2.2.2.2.2.1 x (mG' HX.o))).mono ?_;rintro e w3 ⟨H,rfl,q,s⟩;have v:=Z (g.o.trans' (((O.refl No wr).alloc (.cells r.toArray 30)).trans' q));have I:=Z s;clear q s;cases H with
    |false=>go_wp2;go_ret;exact⟨false,rfl,j.o.trans' v.o,λh=>by cases h⟩
    |true=>
     go_wp2_with fail
     go_roundw;case rel=>exact⟨n+1,by go_num,by omega,bP HX.o au.o (I.o trivial),v.o⟩
     case measure=>simp[intOf];omega
   .have aQ:¬(n:Int)<(a.length:Int):=(by omega);have aS:=Z (eG (by rw[←HN.o];omega) au.o);have aT:wr.cell? ⟨w.heap.size,10,none⟩=some m:=(aN.o.X g.o id).cell 10;have aA:aC (okB ok w) wr m 7 z:=(HW.o.X j.o nE).X g.o nE;have aB:∀(n:Nat)(r:Y)(x:Want),z[n]?=some r→c.wants[n]?=some x→dF (okB ok w) wr r x:=λn r x h1 h2=>((aG.o n r x h1 h2).X j.o nE).X g.o nE
    have aU:=Z (Dx (okB ok w) m z c.wants wr aA aF.o aB aI.o);clear aB;obtain⟨-, -,wa,wc,rfl, -, -⟩:=aA;go_wp2_with fail;refine aU.o.mono ?_;rintro e w3 ⟨H,rfl,q,s⟩;have v:=Z q;have I:=Z s;clear q s aT;go_wp2;go_ret;refine⟨H,rfl,j.o.trans' (g.o.trans' v.o),λh e=> ?_⟩;cases e with
    |zero=>exact lF.zero c
    |succ e=>exact lF.succ (I.o h) (λd o=>aS.o d o e)
def bD(t:T):List K→Option T
 |[]=>some t
 |k::r=>match get t k with
  |some (.table x)=>bD x r
  | _=>none
theorem uy{t:T}{L:List K}{n:Nat}{k:K}(h:L[n]?=some k):bD t (L.drop n)=match get t k with|some (.table x)=>bD x (L.drop (n+1))| _=>none:=by obtain⟨a,rfl⟩:=gS'.1 h;rw[List.drop_eq_getElem_cons a];rfl
theorem uz{t:T}{L:List K}{n:Nat}{k:K}(h:L[n]?=some k)(a:∀x,get t k≠some (.table x)):bD t (L.drop n)=none:=by
 rw[uy h]
 split
 .rename_i x hx;exact absurd hx (a x)
 .rfl
theorem AZ{t x:T}{L:List K}{n:Nat}{k:K}(h:L[n]?=some k)(a:get t k=some (.table x)):bD t (L.drop n)=bD x (L.drop (n+1)):=by rw[uy h,a]
theorem aG.Gt{ok:ae}{w:World}{k b i f t kv lv}{j:J}(h:aG ok w (ai k b i f t kv lv) j):(k=7→dA j=true)∧(dA j=true→k=7):=by cases h<;>simp[dA]
def Gu(ok:ae)(w:World)(o:Option T)(e:Ending)(a:World):Prop:=
 O No w a∧match o with
  |some x=>∃cs:Y,e=.returned (.tuple #[.agg cs.toArray,.bool true])∧aG ok a cs (.table x)
  |none=>e=.returned (.tuple #[.agg bu.toArray,.bool false])
theorem nP(m:K)(hp:m.size<1099511627776){ok:ae}{cs:Y}{t:T}{w:World}(h:aG ok w cs (.table t)):
  Calls Tryz.prog 41 #[.agg cs.toArray,.string m] w (Gu ok w (bD t (parts m 46))):=by
 have HV:=Z h;have HP:=Z hp;obtain⟨kb,ki,kf,kt,kv,lv,rfl⟩:=h.fV;have aQ:∀W,(w.alloc (.cells (ai 7 kb ki kf kt kv lv).toArray 26)).alloc (.cells bu.toArray 26)=W→
   ay W w.heap.size (ai 7 kb ki kf kt kv lv) 26∧ay W (w.heap.size+1) bu 26∧O No w W∧W.heap.size=w.heap.size+2:=by
  rintro W rfl;exact⟨(ay.new _ _ _).alloc _,ay.newAt (by simp) _ _,((O.refl No w).alloc _).alloc _,by simp⟩
 have HF:=Z aQ;clear h hp aQ;go_enter Tryz.func41,Tryz.ntmps41;unfold ai;go_upto_region 1 with fail
 generalize aS:World.alloc _ _=W;obtain⟨a,d,c1,ax⟩:=HF.o W aS;clear aS HF;obtain⟨g,hg⟩:∃g,g=w.heap.size:=⟨_,rfl⟩;rw[←hg] at a d ax⊢;have o:=Z hg;have aT:=Z ax;have az:=Z c1;have aB:=Z a;have aC:=Z d;have aF:=Z ((HV.o.mono (ok':=okB ok w) (λb f h=>⟨h,f⟩)).X c1 nE);have aU:=Z (show ∀x,g<=x→¬okB ok w x from λx hx e=>by have:=e.2;omega);clear c1 hg ax a d;go_wp2_with fail;refine(lV m HP.o W).mono ?_;rintro e w1 ⟨v,rfl,G,p⟩;have H:=G.rowAt.mono (ok':=λb=>g+1<b) (λb _ f=>by have:=(G.elem f).1;have:=aT.o;omega) (by decide);obtain⟨na,nc,rfl⟩:=G.dY;obtain⟨L,I⟩:∃L,L=parts m 46:=⟨_,rfl⟩;rw[←I] at H⊢;have aV:(aH L).length=L.length:=(by simp[aH]);have dn:L.length<=1099511627776:=by rw[I];have:=ik m 46;have:=HP.o;omega
 rw[aV] at H⊢;have bI:=Z H;have HC:=Z p;have aI:=Z I;have aB:=Z (aB.o.X p id);have aC:=Z (aC.o.X p id);have aF:=Z (aF.o.X p nE);have bJ:=p.size;have bK:=Z (show g+1<w1.heap.size by have:=aT.o;omega);clear H G p I aV bJ;go_wp2_with fail;go_loopw [13] (λct wr=>∃(n:Nat)(c:Y)(j:T),ct=.int .i64 n∧n<=L.length∧ay wr g c 26∧aG (okB ok w) wr c (.table j)∧bD t L=bD j (L.drop n)∧O (·=g) w1 wr) (λct _=>L.length - (intOf ct).toNat)
 case atStart=>exact⟨0,_,t,rfl,zL',aB.o,aF.o,rfl,O.refl _ _⟩
 case round=>
  obtain⟨n,c,j,rfl,hn,aX,aZ,bf,J⟩:=hrel;have aJ:=Z aX;have u:=Z aZ;have z:=Z J;have M:=Z bf;have bg:=Z (aC.o.X J (by omega));have dw:=Z (show g+1<wr.heap.size by have:=J.size;have:=bK.o;omega);clear aX aZ J bf;by_cases bM:n<L.length
  .obtain⟨k,hk⟩:=gX' L n (bM);obtain⟨nb,no,rfl,bP,N⟩:=bI.o.at (i:=n) (r:=[.string k]) (by simp[aH,hk]);have N:=(N.X z.o (λe=>by omega)).one;simp only[Nat.mul_one] at N;have aK:=Z hk;have bQ:(n:Int)<(L.length:Int):=(by omega);have a:=aJ.o;obtain⟨cb,ci,cf,bT,bU,bV,rfl⟩:=u.o.fV;clear bP hk;go_wp2_with (first|(with_reducible refine V rfl au rfl rfl a.cells rfl ?_));refine(jW (okB ok w) j k cb ci cf bT bU bV wr u.o).mono ?_;rintro e w2 ⟨l,A⟩;have aN:=Z l;have bW:=Z (aJ.o.X l id);have bn:=Z (bg.o.X l id);clear a l N;simp only[yz] at A;cases jb:get j k with
   |none=>
    rw[jb] at A;obtain rfl:=A;have aO:=Z (uz aK.o (t:=j) (λx hx=>by rw[jb] at hx;cases hx));have d:=bn.o.alloc (.cells bu.toArray 26);clear jb;go_wp2_with (first|(with_reducible refine ak rfl au rfl rfl rfl rfl rfl rfl ?_)|(with_reducible refine aA rfl au rfl rfl rfl d rfl rfl rfl ?_;intro w3 bY B dA));refine bodyPost_ret (aW rfl au rfl bY rfl) rfl ⟨?_,?_⟩
    .exact((((az.o.trans' HC.o).trans z.o (λi C e=>by have:=o.o;omega)).trans' aN.o).alloc _).trans B (λi C e=>by have:=o.o;omega)
    .rw[←aI.o,M.o,aO.o];rfl
   |some x=>
    rw[jb] at A;obtain⟨c2,rfl,q⟩:=A;have bz:=q.length;have bC:=q.one;obtain⟨s,P,Q,R,S,U,af,rfl⟩:=q.seven;have bZ:=Z q;have bF:=Z q.Gt;have bG:=Z jb;clear q jb;go_wp2_with (first|(with_reducible refine ak rfl au rfl rfl rfl rfl bz bC ?_)|(with_reducible refine V rfl au rfl rfl (ay.new w2 (ai s P Q R S U af) 26).cells bz ?_));refine(aY s Q P R S U af _).mono ?_;rintro e w3 ⟨rfl,B⟩;have D:=Z (((O.refl No w2).alloc (.cells (ai s P Q R S U af).toArray 26)).trans' B);have E:=(ay.new w2 (ai s P Q R S U af) 26).X B id;have cu:=Z E;clear B E;by_cases h7:s=7
    .subst h7;obtain⟨x',rfl⟩:=dm (bF.o.1 rfl);have a:=bW.o.X D.o id;have E:=cu.o;go_wp2_with (first|(with_reducible refine V rfl au rfl rfl E.cells rfl ?_)|(with_reducible refine aA rfl au rfl rfl rfl a rfl rfl bC ?_;intro w4 aj F bH));have cO:=Z ((aN.o.trans' D.o).mono (S':=(·=g)) (λ_ _ e=>e.elim)|>.trans F nE);have cZ:=Z aj;have df:=Z ((bZ.o.X D.o nE).X F (λb f e=>aU.o b (by omega) f));clear F aj a E bH;go_roundw;case rel=>exact⟨n+1,_,x',by go_num,by omega,cZ.o,df.o,(by rw[M.o,AZ aK.o bG.o]),z.o.trans cO.o nE⟩
     case measure=>simp[intOf];omega
    .have dB:(s==7)=false:=(by simpa using h7);have aO:=Z (uz aK.o (t:=j) (λy hy=>by
      rw[bG.o] at hy;cases hy;exact h7 (bF.o.2 rfl)))
     have d:=bn.o.X D.o id;go_wp2_with (first|(with_reducible refine aA rfl au rfl rfl rfl d rfl rfl rfl ?_;intro w4 aj F bH));refine bodyPost_ret (aW rfl au rfl aj rfl) rfl ⟨?_,?_⟩
     .exact((((az.o.trans' HC.o).trans z.o (λi C e=>by have:=o.o;omega)).trans' aN.o).trans' D.o).trans F (λi C e=>by have:=o.o;omega)
     .rw[←aI.o,M.o,aO.o];rfl
  .have bQ:¬(n:Int)<(L.length:Int):=(by omega);have a:=aJ.o;have d:=bg.o;have dh:=u.o.one;have aP:=u.o.length;go_wp2_with (first|(with_reducible refine V rfl au rfl rfl a.cells aP ?_)|(with_reducible refine aA rfl au rfl rfl rfl d rfl aP dh ?_;intro w2 di l dC));refine bodyPost_ret (aW rfl au rfl di aP) rfl ⟨?_,?_⟩
   .exact((az.o.trans' HC.o).trans z.o (λi C e=>by have:=o.o;omega)).trans l (λi C e=>by have:=o.o;omega)
   .rw[←aI.o,M.o,List.drop_of_length_le (by omega)];exact⟨c,rfl,(u.o.X l (λb f e=>aU.o b (by omega) f)).mono (λb _ f=>f.1)⟩
theorem NU:parts ⟨#[97,46,98]⟩ 46=[⟨#[97]⟩,⟨#[98]⟩]:=by kernel_rfl
theorem NV:parts ⟨#[97,46,99]⟩ 46=[⟨#[97]⟩,⟨#[99]⟩]:=by kernel_rfl
theorem NW:parts ⟨#[97]⟩ 46=[⟨#[97]⟩]:=by kernel_rfl
def kA:K:=⟨#[97]⟩
def kB:K:=⟨#[98]⟩
def kC:K:=⟨#[99]⟩
theorem NY:merged [(kB,.bool false)] [(kC,.bool true)]=[(kB,.bool false),(kC,.bool true)]:=by
 refine rC (oz _ _) (List.Pairwise.cons (by intro p b;obtain rfl:=List.mem_singleton.1 b;show([98]:List UInt8)< [99];decide) (List.pairwise_singleton _ _)) λk=> ?_
 rw[oV];simp only[get];by_cases a:kC=k
 .subst a;have:¬kB=kC:=(by decide);simp[this]
 .simp[a]
theorem NF:get (merged [(kA,.table [(kB,.bool false)])] [(kA,.table [(kC,.bool true)])]) kA=some (.table [(kB,.bool false),(kC,.bool true)]):=by rw[oV];simp[get,NY]
theorem NG:bD (merged [(kA,.table [(kB,.bool false)])] [(kA,.table [(kC,.bool true)])]) (parts ⟨#[97]⟩ 46)=some [(kB,.bool false),(kC,.bool true)]:=by rw[NW];show bD _ [kA]=_;simp only[bD];rw[NF]
theorem NZ(b:Bool):fJ ⟨#[97,46,98]⟩ (.bool b)=.table [(kA,.table [(kB,.bool b)])]:=by rw[fJ,if_neg (by decide),NU];rfl
theorem N7(b:Bool):fJ ⟨#[97,46,99]⟩ (.bool b)=.table [(kA,.table [(kC,.bool b)])]:=by rw[fJ,if_neg (by decide),NV];rfl
theorem NH(k a:K)(e:k.size=1)(f:a.size=1)(b:Bool):Wf 1 3 (.table [(k,.table [(a,.bool b)])]):=by refine⟨List.pairwise_singleton _ _,lR',λp c=> ?_⟩;obtain rfl:=List.mem_singleton.1 c;refine⟨by show k.size<=_;omega,List.pairwise_singleton _ _,lR',λq d=> ?_⟩;obtain rfl:=List.mem_singleton.1 d;exact⟨by show a.size<=_;omega,trivial⟩
theorem Dz(w:World):Calls Tryz.prog 10 #[] w λe A=>e=.returned (.bool true)∧O No w A:=by
 have B:=kN 1;have C:=F7 1 true;go_enter Tryz.func10,Tryz.ntmps10;go_wp2_with fail;refine(nK (ok:=No) (cs:=ai 1 false 0 0 ByteArray.empty (.slice none 0 0) (.slice none 0 0)) (j:=.bool false) ⟨#[97,46,98]⟩ (by decide) (.bool (dN _ _ _) (dN _ _ _))).mono ?_;rintro e R ⟨S,rfl,q,r⟩;have D:=Z q;have E:=Z r;clear q r;go_wp2_with fail;refine(nK (ok:=No) (cs:=ai 1 true 0 0 ByteArray.empty (.slice none 0 0) (.slice none 0 0)) (j:=.bool true) ⟨#[97,46,99]⟩ (by decide) (.bool (dN _ _ _) (dN _ _ _))).mono ?_;rintro e w2 ⟨T,rfl,s,t⟩;have F:=Z s;have u:=Z t;clear s t B C;go_wp2_with fail;have m:=D.o;have n:=F.o;rw[NZ] at m;rw[N7] at n;have G:=Z (vN 1 1 (by decide) (d:=3) (by decide) (ok:=λ_=>True) ((m.X u.o nE).mono (λ_ _ _=>trivial)) (n.mono (λ_ _ _=>trivial)) (NH _ _ (by decide) (by decide) _) (NH _ _ (by decide) (by decide) _) (by decide) (by decide));clear m n;refine G.o.mono ?_;rintro e w3 ⟨o,rfl,f,v⟩;have x:=f.length;have H:=f.one;have I:=Z f;have J:=Z v;clear f v;go_wp2_with (first|(with_reducible refine ak rfl au rfl rfl rfl rfl x H ?_)|(with_reducible refine V rfl au rfl rfl (ay.new w3 o 26).cells x ?_));refine(nP (ok:=λ_=>True) ⟨#[97]⟩ (by decide) ((I.o.X ((O.refl No w3).alloc (.cells o.toArray 26)) nE).mono (λ_ _ _=>trivial))).mono ?_;rintro e p ⟨y,z⟩;rw[NG] at z;obtain⟨K,rfl,c⟩:=z;have L:=Z (((O.refl No w3).alloc (.cells o.toArray 26)).trans' y);have M:=c.length;have N:=c.one;have U:=Z c;clear y;have P:∃g h i k a b l,K=ai 7 g h i k (.slice a 2 b) l:=by
  cases c with
  |table Q W hn hr=>obtain⟨-, -,a,b,rfl, -, -⟩:=Q;exact⟨_,_,_,_,_,_,_,rfl⟩
 obtain⟨g,h,i,k,a,b,l,rfl⟩:=P;have af:(p.alloc (.cells (ai 7 g h i k (.slice a 2 b) l).toArray 26)).cell? ⟨p.heap.size,5,none⟩=some (.slice a 2 b):=(ay.new p (ai 7 g h i k (.slice a 2 b) l) 26).cell 5;clear c;go_wp2_with (first|(with_reducible refine ak rfl au rfl rfl rfl rfl M N ?_));go_ret;exact⟨rfl,((((E.o.trans' u.o).trans' J.o).trans' L.o).alloc _)⟩
def mG(a:T):J:=match get a gK with
 |none=> .table []
 |some x=>x
theorem vU{a t:T}(h:mG a=.table t):bH a gK=some t:=by
 unfold mG at h;unfold bH;cases hg:get a gK with
 |none=>rw[hg] at h;cases h;rfl
 |some x=>rw[hg] at h;subst h;rfl
theorem o5{a:T}(h:dA (mG a)=false):bH a gK=none:=by
 unfold mG at h;unfold bH;cases hg:get a gK with
 |none=>rw[hg] at h;cases h
 |some x=>rw[hg] at h;cases x<;>first|rfl|cases h
structure GO (ok:ae) (w W0:World) (g gm gt:Nat) (ca cb ct:Y) (o:T) (wr:World) (oc:Y):Prop where
 b0:ay wr g ca 26
 b1:ay wr (g+1) cb 26
 b2:ay wr (g+2) bu 26
 bm:ay wr gm oc 26
 bt:ay wr gt ct 26
 val:aG (jI ok w gm) wr oc (.table o)
 X:O No w wr
 A7:O (·=gm) W0 wr
 lt:g+2<gm∧gm<gt
theorem GO.step{ok:ae}{w b:World}{g c d:Nat}{e f i:Y}{o:T}{wr j:World}{k:Y}(h:GO ok w b g c d e f i o wr k)(a:O No wr j):GO ok w b g c d e f i o j k:=
 ⟨h.b0.X a id,h.b1.X a id,h.b2.X a id,h.bm.X a id,h.bt.X a id,h.val.X a nE,h.X.trans' a,h.A7.trans' a,h.lt⟩
theorem GO.fill{ok:ae}{w f:World}{g a j:Nat}{k l m:Y}{o n:T}{wr c:World}{p d:Y}(h:GO ok w f g a j k l m o wr p)(s:w.heap.size<=a)(b:O (·=a) wr c)(q:ay c a d 26)(r:aG (jI ok w a) c d (.table n)):GO ok w f g a j k l m n c d:=
 ⟨h.b0.X b (by have:=h.lt;omega),h.b1.X b (by have:=h.lt;omega),h.b2.X b (by have:=h.lt;omega),q,h.bt.X b (by have:=h.lt;omega),r,h.X.trans b (λi t e=>by omega),h.A7.trans b nE,h.lt⟩
structure GP (ok:ae) (w:World) (g:Nat) (ca cb:Y) (wr:World):Prop where
 b0:ay wr g ca 26
 b1:ay wr (g+1) cb 26
 b2:ay wr (g+2) bu 26
 X:O No w wr
theorem GP.step{ok:ae}{w:World}{g:Nat}{b c:Y}{wr d:World}(h:GP ok w g b c wr)(a:O No wr d):GP ok w g b c d:=
 ⟨h.b0.X a id,h.b1.X a id,h.b2.X a id,h.X.trans' a⟩
theorem GP.fill{ok:ae}{w:World}{g:Nat}{b c:Y}{wr d:World}{x:Nat}(h:GP ok w g b c wr)(f:g+2<x)(j:w.heap.size<=x)(a:O (·=x) wr d):GP ok w g b c d:=
 ⟨h.b0.X a (by omega),h.b1.X a (by omega),h.b2.X a (by omega),h.X.trans a (λi k e=>by omega)⟩
theorem mr(ok:ae)(w:World):aG ok w (ai 7 false 0 0 ByteArray.empty (.slice none 0 0) (.slice none 0 0)) (.table []):=
 .table (kvs:=[]) (dN _ _ _) (dN _ _ _) rfl (λn r p h=>by simp at h)
theorem BZ{ok:ae}{a:T}{f:World}{e:Ending}(h:match get a gK with
  |some x=>∃cs,e=.returned (.tuple #[.agg cs.toArray,.bool true])∧aG ok f cs x
  |none=>e=.returned (.tuple #[.agg bu.toArray,.bool false])):∃(b:Y)(c:Bool),e=.returned (.tuple #[.agg b.toArray,.bool c])∧(b.length=7∧b.all (·.oneCell')=true)∧(c=true→aG ok f b (mG a))∧(c=false→mG a=.table []):=by
 unfold mG;cases hg:get a gK with
 |none=>rw[hg] at h;exact⟨bu,false,h,⟨rfl,rfl⟩,(by intro h;cases h),λ_=>rfl⟩
 |some x=>rw[hg] at h;obtain⟨cs,g,d⟩:=h;exact⟨cs,true,g,⟨d.length,d.one⟩,λ_=>d,(by intro h;cases h)⟩
theorem zI(U:List K)(N:Nat)(hU:U.length<1099511627776)(d:Nat)(ok:ae)(a b:T)(ca cb:Y)(w:World)(ha:aG ok w ca (.table a))(o:aG ok w cb (.table b))(wa:WU U N (d+2) (.table a))(wb:WU U N (d+2) (.table b)):
  Calls Tryz.prog 55 #[.agg ca.toArray,.agg cb.toArray] w λe w'=>∃cs,e=.returned (.agg cs.toArray)∧aG (λb=>ok b∨w.heap.size<=b) w' cs (.table (globals a b))∧O No w w':=by
 have HA:=Z ha.dV;have HB:=Z o.dV;have WA:=Z wa;have WB:=Z wb;have fO:=hU;obtain⟨ab,aI,af,at_,aK,aN,rfl⟩:=ha.fV;obtain⟨bb,bi,bf,aQ,bM,bP,rfl⟩:=o.fV;have iD:∀W,(((w.alloc (.cells (ai 7 ab aI af at_ aK aN).toArray 26)).alloc (.cells (ai 7 bb bi bf aQ bM bP).toArray 26)).alloc (.cells bu.toArray 26))=W→
   GP ok w w.heap.size (ai 7 ab aI af at_ aK aN) (ai 7 bb bi bf aQ bM bP) W∧W.heap.size=w.heap.size+3:=by
  rintro W rfl;exact⟨⟨((ay.new _ _ _).alloc _).alloc _,(ay.newAt (by simp) _ _).alloc _,ay.newAt (by simp) _ _,(((O.refl No w).alloc _).alloc _).alloc _⟩,by simp⟩
 have HF:=Z iD;clear iD ha o wa wb;go_enter Tryz.func55,Tryz.ntmps55;unfold ai;go_upto_region 1 with fail
 generalize iE:World.alloc _ _=W;obtain⟨gp,fP⟩:=HF.o W iE;clear iE HF;obtain⟨g,hg⟩:∃g,g=w.heap.size:=⟨_,rfl⟩;rw[←hg] at gp fP⊢;have HG:=Z hg;have bn:=Z gp;have jG:=Z fP;rw[show g+1+1=g+2 from rfl];have aS:=gp.b0.cells;clear hg gp fP;go_wp2_with (first|(with_reducible refine V rfl au rfl rfl aS rfl ?_));refine(jW (okB ok w) a gK ab aI af at_ aK aN W (HA.o.X bn.o.X nE)).mono ?_;rintro e M ⟨dX,P⟩;simp only[yz] at P;have jJ:=Z dX;have iF:=Z (bn.o.step dX);obtain⟨t,iG⟩:∃t,t=M.heap.size:=⟨_,rfl⟩;have iH:=Z iG;have cO:=Z (show g+2<t by have:=dX.size;have:=jG.o;omega);have bQ:=Z (show w.heap.size<=t by have:=HG.o;have:=cO.o;omega);clear dX aS iG;obtain⟨xc,fQ,rfl,⟨dF,dY⟩,iI,iJ⟩:=BZ P;have iK:=Z iI;have iL:=Z iJ;clear P iI iJ;have jK:=kN 7
 go_upto_if 20 with(first|(with_reducible refine ak rfl au rfl rfl rfl rfl dF dY ?_))
 obtain⟨w2,bz⟩:∃w2,w2=M.alloc (.cells xc.toArray 26):=⟨_,rfl⟩;rw[←iH.o,←bz];have F:=ay.newAt iH.o xc 26;rw[←bz] at F;have fU:=Z F;have cZ:=Z (show O No M w2 by rw[bz];exact(O.refl No M).alloc _);have fZ:=Z (iF.o.step cZ.o);clear F bz
 go_cut [21] from 21 to 21 (λkU wc=>∃mc,ay wc t mc 26∧aG (jI ok w t) wc mc (mG a)∧GP ok w g (ai 7 ab aI af at_ aK aN) (ai 7 bb bi bf aQ bM bP) wc)
 case first=>
  cases fQ with
  |true=>
   go_wp2_with fail
   go_meet
   exact⟨xc,fU.o,((iK.o trivial).X cZ.o nE).mono (λb _ h=> .inl h),fZ.o⟩
  |false=>
   have F:=fU.o;go_wp2_with (first|(refine aA rfl au rfl rfl rfl F dF rfl rfl ?_;intro w3 jL G dh))
   go_meet
   exact⟨_,jL,by rw[iL.o trivial];exact mr _ _,fZ.o.fill cO.o bQ.o G⟩
 case rest=>
  obtain⟨mc,F,dG,di⟩:=hcut;have dI:=Z F;have dw:=Z dG;have bn:=Z di;have iM:=di.b1.cells;clear F dG di fU iK iL cZ fZ jJ iF dF dY;go_wp2_with (first|(with_reducible refine V rfl au rfl rfl iM rfl ?_));refine(jW (okB ok w) b gK bb bi bf aQ bM bP wc (HB.o.X bn.o.X nE)).mono ?_;rintro e w4 ⟨I,P⟩;simp only[yz] at P;obtain⟨yc,fQ,rfl,⟨gq,iO⟩,iP,iQ⟩:=BZ P;have iR:=Z iP;have iT:=Z iQ;have jM:=Z I;have iU:=Z (bn.o.step I);have gu:=Z (dI.o.X I id);have gy:=Z (dw.o.X I nE);obtain⟨gt,iV⟩:∃gt,gt=w4.heap.size:=⟨_,rfl⟩;have gz:=Z iV;have bT:=Z (show t<gt by have:=gu.o.lt;omega);clear P iP iQ I iM iV
  go_upto_if 28 with(first|(with_reducible refine ak rfl au rfl rfl rfl rfl gq iO ?_))
  obtain⟨w5,dZ⟩:∃w5,w5=w4.alloc (.cells yc.toArray 26):=⟨_,rfl⟩;rw[←gz.o,←dZ];have bC:=ay.newAt gz.o yc 26;rw[←dZ] at bC;have gG:=Z bC;have dB:=Z (show O No w4 w5 by rw[dZ];exact(O.refl No w4).alloc _);have gI:=Z (iU.o.step dB.o);have gJ:=Z (gu.o.X dB.o id);have iW:=Z (gy.o.X dB.o nE);clear bC dZ
  go_cut [29] from 29 to 29 (λkV wc=>∃mc tc,ay wc t mc 26∧aG (jI ok w t) wc mc (mG a)∧ay wc gt tc 26∧aG (okB ok w) wc tc (mG b)∧GP ok w g (ai 7 ab aI af at_ aK aN) (ai 7 bb bi bf aQ bM bP) wc)
  case first=>
   cases fQ with
   |true=>
    go_wp2_with fail
    go_meet
    exact⟨mc,yc,gJ.o,iW.o,gG.o,(iR.o trivial).X dB.o nE,gI.o⟩
   |false=>
    have bC:=gG.o;go_wp2_with (first|(refine aA rfl au rfl rfl rfl bC gq rfl rfl ?_;intro w6 jO s kW))
    go_meet
    refine⟨mc,_,gJ.o.X s (by have:=bT.o;omega),?_,jO,by rw[iT.o trivial];exact mr _ _,gI.o.fill (by have:=cO.o;have:=bT.o;omega) (by have:=bQ.o;have:=bT.o;omega) s⟩;exact((gy.o.dV.X dB.o nE).X s (λx h e=>by have:=h.2;have:=gz.o;omega)).mono (λx _ h=>h.1)
  case rest=>
   obtain⟨mc,tc,F,dG,bC,ed,di⟩:=hcut;have dI:=Z F;have dw:=Z dG;have iY:=Z bC;have eu:=Z ed;have bn:=Z di;clear F dG bC ed di iR iT dB gI gJ iW gG jM iU gu gy gq iO;obtain⟨mk,mb,mi,mf,mt,iZ,ja,rfl⟩:=dw.o.seven;obtain⟨tk,tb,ti,tf,tt,jQ,jR,rfl⟩:=eu.o.seven;have gQ:=Z dw.o.oH;have gU:=Z eu.o.oH;have H:=dI.o.cells;go_wp2_with (first|(with_reducible refine V rfl au rfl rfl H rfl ?_));refine(aY mk mi mb mf mt iZ ja wc).mono ?_;rintro e w6 ⟨rfl,s⟩;have jc:=Z (dI.o.X s id);have jd:=Z (dw.o.X s nE);have gV:=Z (iY.o.X s id);have je:=Z (eu.o.X s nE);have dC:=Z (bn.o.step s);clear s H dI dw iY eu bn;by_cases eF:mk=7
   .subst eF;obtain⟨A,hA⟩:=dm (gQ.o.2.1 rfl);have aQ:=gV.o.cells;go_wp2_with (first|(with_reducible refine aJ rfl au rfl rfl aQ rfl ?_));refine(aY tk ti tb tf tt jQ jR w6).mono ?_;rintro e w7 ⟨rfl,C⟩;have jf:=Z (jc.o.X C id);have gW:=Z (jd.o.X C nE);have eG:=Z (gV.o.X C id);have eH:=Z (je.o.X C nE);have aU:=Z (dC.o.step C);clear C aQ jc jd gV je dC;by_cases eP:tk=7
    .subst eP;obtain⟨B,hB⟩:=dm (gU.o.2.1 rfl);have eQ:=Z (vU hA);have eU:=Z (vU hB);have gX:=Z (WA.o.bH eQ.o);have gY:=Z (WB.o.bH eU.o);rw[hA] at gW;rw[hB] at eH;have Q:=Z gY.o.sorted;have R:=Z (EL A);have ed:=eH.o;cases ed with
     |@table _ _ _ _ _ _ dJ _ hk hl hn hr=>
     have HK:=Z hk;have HL:=Z hl;have HR:=Z hr;have HN:=Z hn;have jg:=hk.1;obtain⟨-, -,ka,kc,rfl, -, -⟩:=hk;obtain⟨-, -,la,lc,rfl, -, -⟩:=hl;simp only[List.length_map] at HK jg eH eG⊢;unfold maxLen at jg;have jh:=Z (show GO ok w w7 g t gt (ai 7 ab aI af at_ aK aN) (ai 7 bb bi bf aQ bM bP) (ai 7 tb ti tf tt (.slice ka B.length kc) (.slice la dJ.length lc)) (jH A (B.take 0)) w7 (ai 7 mb mi mf mt iZ ja) from
      ⟨aU.o.b0,aU.o.b1,aU.o.b2,jf.o,eG.o,by rw[R.o.start gX.o.sorted (λk=>qy _)];exact gW.o,aU.o.X,O.refl _ _,⟨cO.o,bT.o⟩⟩)
     have eX:=Z bQ.o;have q5:w7.cell? ⟨gt,5,none⟩=some (.slice ka B.length kc):=eG.o.cell 5;clear hr hn hA hB jK jf gW eG eH aU gQ gU;go_wp2_with fail;clear q5;go_loopw [42] (λct wr=>∃(n:Nat)(oc:Y),ct=.int .i64 n∧n<=B.length∧GO ok w w7 g t gt (ai 7 ab aI af at_ aK aN) (ai 7 bb bi bf aQ bM bP) (ai 7 tb ti tf tt (.slice ka B.length kc) (.slice la dJ.length lc)) (jH A (B.take n)) wr oc) (λct _=>B.length - (intOf ct).toNat);case atStart=>exact⟨0,_,rfl,zL',jh.o⟩
     case round=>
      obtain⟨n,oc,rfl,jS,dK⟩:=hrel;have c:=Z dK;clear dK jh;by_cases gZ:n<B.length
      .obtain⟨p,hp⟩:=gX' B n (gZ);obtain⟨r,ig⟩:=gX' dJ n ((by rw[HN.o];exact gZ));obtain⟨kb,ko,rfl,ji,eY⟩:=HK.o.at (i:=n) (r:=[.string p.1]) (by simp[hp]);obtain⟨lb,lo,rfl,jk,fA⟩:=HL.o.at (i:=n) (r:=r) ig;have eY:=(eY.X c.o.A7 (λe=>by have:=ji.2;have:=bQ.o;omega)).one;simp only[Nat.mul_one] at eY;have fA:=fA.X c.o.A7 (λe=>by have:=jk.2;have:=bQ.o;omega);have dD:=((HR.o n r p ig hp).X c.o.A7 (λb o e=>by have:=o.2;have:=bQ.o;omega));obtain⟨vk,vb,vi,vf,vt,fB,fC,rfl⟩:=dD.seven;have ik:=dD.length;have jl:=dD.one;have jm:=Z dD.oH;have jo:=Z dD;have J:=Z hp;have jT:(n:Int)<(B.length:Int):=(by omega);have kX:(n:Int)<(dJ.length:Int):=by rw[HN.o];exact jT
       have q5:wr.cell? ⟨gt,5,none⟩=some (.slice (some ⟨kb,ko,none⟩) B.length kc):=c.o.bt.cell 5;have q6:wr.cell? ⟨gt,6,none⟩=some (.slice (some ⟨lb,lo,none⟩) dJ.length lc):=c.o.bt.cell 6;obtain⟨gv,jq⟩:∃gv,gv=wr.heap.size:=⟨_,rfl⟩;have jU:=Z (show t<gv by have:=c.o.bt.lt;have:=bT.o;omega);have jr:=Z jq;clear hp ig ji jk dD jq;go_upto_region 13 with(first|(with_reducible refine V rfl au rfl rfl fA ik ?_)|(with_reducible refine ak rfl au rfl rfl rfl rfl ik jl ?_))
       obtain⟨w2,bz⟩:∃w2,w2=wr.alloc (.cells (ai vk vb vi vf vt fB fC).toArray 26):=⟨_,rfl⟩;have iq:=ay.newAt jr.o (ai vk vb vi vf vt fB fC) 26;rw[←bz] at iq⊢;rw[←jr.o];have cZ:=Z (show O No wr w2 by rw[bz];exact(O.refl No wr).alloc _);have l:=Z iq;clear iq bz q5 q6 eY fA ik jl;have c:=Z (c.o.step cZ.o);have m:=Z ((jo.o.X cZ.o nE).mono (ok':=jI ok w t) (λb _ h=> .inl h));obtain⟨aB,hO⟩:∃aB,aB=jH A (B.take n):=⟨_,rfl⟩;have aC:=Z hO;have iw:WU U N (d+1) (.table aB):=by rw[hO];exact WU.jH gX.o gY.o.take
       have dK:get aB p.1=get A p.1:=(by rw[hO,lU,rV Q.o J.o,qy]);have jv:=Z dK;have fD:=Z iw.sorted;have fE:=Z (Nat.lt_of_le_of_lt iw.len fO);have aW:=Z (vS (ok:=ok) (w:=w) (g:=t) bQ.o);rw[←hO] at c;clear iw hO dK jo;obtain⟨ob,oi,of,ot,bW,bY,rfl⟩:=c.o.val.fV;have H:=c.o.bm.cells;go_wp2_with (first|(with_reducible refine V rfl au rfl rfl H rfl ?_));refine(jW (jI ok w t) aB p.1 ob oi of ot bW bY w2 c.o.val).mono ?_;rintro e w3 ⟨G,P⟩;simp only[yz] at P;have c:=Z (c.o.step G);have l:=Z (l.o.X G id);have m:=Z (m.o.X G nE);clear G H;cases jb:get aB p.1 with
       |none=>
        rw[jb] at P;obtain rfl:=P;have L:=Z (show get A p.1=none by rw[←jv.o];exact jb);have jV:bu.all (·.oneCell')=true:=rfl;obtain⟨gx,dL⟩:∃gx,gx=w3.heap.size:=⟨_,rfl⟩;have dM:=Z dL;clear jb dL;go_upto_region 15 with(first|(with_reducible refine ak rfl au rfl rfl rfl rfl rfl jV ?_))
        obtain⟨w4,bZ⟩:∃w4,w4=w3.alloc (.cells bu.toArray 26):=⟨_,rfl⟩;have cu:=ay.newAt dM.o bu 26;rw[←bZ] at cu⊢;rw[←dM.o];have q:=Z cu;have I:O No w3 w4:=by rw[bZ];exact(O.refl No w3).alloc _
        have c:=Z (c.o.step I);have l:=Z (l.o.X I id);have m:=Z (m.o.X I nE);clear cu bZ I;by_cases h7:vk=7
        .subst h7;have f:=l.o.cells;go_wp2_with (first|(with_reducible refine V rfl au rfl rfl f rfl ?_)|(with_reducible refine aJ rfl au rfl rfl f rfl ?_));refine(aY _ _ _ _ _ _ _ _).mono ?_;rintro e w5 ⟨rfl,D⟩;have c:=Z (c.o.step D);have l:=Z (l.o.X D id);have q:=Z (q.o.X D id);have m:=Z (m.o.X D nE);clear f;have f:=l.o.cells;go_wp2_with (first|(with_reducible refine V rfl au rfl rfl f rfl ?_)|(with_reducible refine aJ rfl au rfl rfl f rfl ?_));refine(aY _ _ _ _ _ _ _ _).mono ?_;rintro e w6 ⟨rfl,s⟩;have c:=Z (c.o.step s);have l:=Z (l.o.X s id);have q:=Z (q.o.X s id);have m:=Z (m.o.X s nE);clear f;have f:=l.o.cells;go_wp2_with (first|(with_reducible refine V rfl au rfl rfl f rfl ?_)|(with_reducible refine aJ rfl au rfl rfl f rfl ?_));refine(aY _ _ _ _ _ _ _ _).mono ?_;rintro e w7 ⟨rfl,C⟩;have c:=Z (c.o.step C);have l:=Z (l.o.X C id);have q:=Z (q.o.X C id);have m:=Z (m.o.X C nE);clear f;have H:=c.o.bm.cells;have f:=l.o.cells;go_wp2_with (first|(with_reducible refine V rfl au rfl rfl H rfl ?_)|(with_reducible refine V rfl au rfl rfl f rfl ?_));refine(jD (jI ok w t) aB p.1 p.2 ob oi of ot bW bY _ _ c.o.val m.o fD.o fE.o).mono ?_;rintro e jw ⟨c2,rfl,E,aH⟩;have F:=c.o.bm.X aH id;have dN:=E.length;have dO:=E.one;have dP:=Z (E.mono (ok':=jI ok w t) (λb _ o=>o.elim id (λh=> .inr (by have h2:=c.o.bm.lt;omega))));have bD:=Z (c.o.step aH);clear E aH H f;go_wp2_with (first|(with_reducible refine aA rfl au rfl rfl rfl F rfl dN dO ?_;intro jy bF G dh));have bG:=Z (bD.o.fill eX.o G bF (dP.o.X G (λb o e=>aW.o (e▸o))));clear bF G dh F;go_roundw;case rel=>first|exact⟨n+1,c2,by go_num,by omega,(by rw[R.o.ins (z:=p.2) Q.o J.o (by rw[L.o];cases p.2<;>rfl),←aC.o];exact bG.o)⟩|((repeat apply Exists.intro);exact⟨⟨n+1,c2,by go_num,by omega,(by rw[R.o.ins (z:=p.2) Q.o J.o (by rw[L.o];cases p.2<;>rfl),←aC.o];exact bG.o)⟩,rfl⟩)
         case measure=>simp[intOf];omega
        .have jX:(vk==7)=false:=(by simpa using h7);clear h7;have f:=l.o.cells;go_wp2_with (first|(with_reducible refine V rfl au rfl rfl f rfl ?_)|(with_reducible refine aJ rfl au rfl rfl f rfl ?_));refine(aY _ _ _ _ _ _ _ _).mono ?_;rintro e w5 ⟨rfl,D⟩;have c:=Z (c.o.step D);have l:=Z (l.o.X D id);have q:=Z (q.o.X D id);have m:=Z (m.o.X D nE);clear f;have f:=l.o.cells;go_wp2_with (first|(with_reducible refine V rfl au rfl rfl f rfl ?_)|(with_reducible refine aJ rfl au rfl rfl f rfl ?_));refine(aY _ _ _ _ _ _ _ _).mono ?_;rintro e w6 ⟨rfl,s⟩;have c:=Z (c.o.step s);have l:=Z (l.o.X s id);have q:=Z (q.o.X s id);have m:=Z (m.o.X s nE);clear f;have f:=l.o.cells;go_wp2_with (first|(with_reducible refine V rfl au rfl rfl f rfl ?_)|(with_reducible refine aJ rfl au rfl rfl f rfl ?_));refine(aY _ _ _ _ _ _ _ _).mono ?_;rintro e w7 ⟨rfl,C⟩;have c:=Z (c.o.step C);have l:=Z (l.o.X C id);have q:=Z (q.o.X C id);have m:=Z (m.o.X C nE);clear f;have bx:=q.o.cells;go_wp2_with (first|(with_reducible refine V rfl au rfl rfl bx rfl ?_)|(with_reducible refine aJ rfl au rfl rfl bx rfl ?_));refine(aY _ _ _ _ _ _ _ _).mono ?_;rintro e w8 ⟨rfl,S⟩;have c:=Z (c.o.step S);have l:=Z (l.o.X S id);have q:=Z (q.o.X S id);have m:=Z (m.o.X S nE);clear bx;have H:=c.o.bm.cells;have f:=l.o.cells;go_wp2_with (first|(with_reducible refine V rfl au rfl rfl H rfl ?_)|(with_reducible refine V rfl au rfl rfl f rfl ?_));refine(jD (jI ok w t) aB p.1 p.2 ob oi of ot bW bY _ _ c.o.val m.o fD.o fE.o).mono ?_;rintro e jw ⟨c2,rfl,E,aH⟩;have F:=c.o.bm.X aH id;have dN:=E.length;have dO:=E.one;have dP:=Z (E.mono (ok':=jI ok w t) (λb _ o=>o.elim id (λh=> .inr (by have h2:=c.o.bm.lt;omega))));have bD:=Z (c.o.step aH);clear E aH H f;go_wp2_with (first|(with_reducible refine aA rfl au rfl rfl rfl F rfl dN dO ?_;intro jy bF G dh));have bG:=Z (bD.o.fill eX.o G bF (dP.o.X G (λb o e=>aW.o (e▸o))));clear bF G dh F;go_roundw;case rel=>first|exact⟨n+1,c2,by go_num,by omega,(by rw[R.o.ins (z:=p.2) Q.o J.o (by rw[L.o];cases p.2<;>rfl),←aC.o];exact bG.o)⟩|((repeat apply Exists.intro);exact⟨⟨n+1,c2,by go_num,by omega,(by rw[R.o.ins (z:=p.2) Q.o J.o (by rw[L.o];cases p.2<;>rfl),←aC.o];exact bG.o)⟩,rfl⟩)
         case measure=>simp[intOf];omega
       |some x0=>
        rw[jb] at P;obtain⟨xc,rfl,dE⟩:=P;have L:=Z (show get A p.1=some x0 by rw[←jv.o];exact jb);have dF:=dE.length;have dY:=dE.one;obtain⟨xk,xb,xi,xf,xt,fF,fG,rfl⟩:=dE.seven;have fH:=Z dE.oH;have bI:=Z dE;obtain⟨gx,dL⟩:∃gx,gx=w3.heap.size:=⟨_,rfl⟩;have dM:=Z dL;have jY:=Z (show t<gx by have:=c.o.bt.lt;have:=bT.o;omega);clear jb dL dE;go_upto_region 15 with(first|(with_reducible refine ak rfl au rfl rfl rfl rfl dF dY ?_))
        obtain⟨w4,bZ⟩:∃w4,w4=w3.alloc (.cells (ai xk xb xi xf xt fF fG).toArray 26):=⟨_,rfl⟩;have cu:=ay.newAt dM.o (ai xk xb xi xf xt fF fG) 26;rw[←bZ] at cu⊢;rw[←dM.o];have q:=Z cu;have I:O No w3 w4:=by rw[bZ];exact(O.refl No w3).alloc _
        have c:=Z (c.o.step I);have l:=Z (l.o.X I id);have m:=Z (m.o.X I nE);have bI:=Z (bI.o.X I nE);clear cu bZ I;by_cases h7:vk=7
        .subst h7;obtain⟨v,hv⟩:=dm (jm.o.2.1 rfl);have dQ:=Z hv;rw[hv] at m;clear hv;have f:=l.o.cells;go_wp2_with (first|(with_reducible refine V rfl au rfl rfl f rfl ?_)|(with_reducible refine aJ rfl au rfl rfl f rfl ?_));refine(aY _ _ _ _ _ _ _ _).mono ?_;rintro e w5 ⟨rfl,D⟩;have c:=Z (c.o.step D);have l:=Z (l.o.X D id);have q:=Z (q.o.X D id);have m:=Z (m.o.X D nE);clear f;have bI:=Z (bI.o.X D nE);clear D;have bx:=q.o.cells;go_wp2_with (first|(with_reducible refine V rfl au rfl rfl bx rfl ?_)|(with_reducible refine aJ rfl au rfl rfl bx rfl ?_));refine(aY _ _ _ _ _ _ _ _).mono ?_;rintro e w6 ⟨rfl,s⟩;have c:=Z (c.o.step s);have l:=Z (l.o.X s id);have q:=Z (q.o.X s id);have m:=Z (m.o.X s nE);clear bx;have bI:=Z (bI.o.X s nE);clear s;by_cases aZ:xk=7
         .subst aZ;obtain⟨x,rfl⟩:=dm (fH.o.2.1 rfl);have WX:=Z (gX.o.get L.o).2;have WV:=Z (show WU U N (d) (.table v) by rw[←dQ.o];exact(gY.o.2 p (mG' J.o)).2);go_upto_region 16 with fail
          obtain⟨wx,jA⟩:∃wx,wx=w6:=⟨_,rfl⟩;rw[←jA] at c l q m bI⊢;clear jA;refine aT (FI [.eq (.agg (ai 7 ob oi of ot bW bY).toArray),.eq (.string p.1),.eq (.agg (ai 7 vb vi vf vt fB fC).toArray),.eq (.agg (ai 7 xb xi xf xt fF fG).toArray),.val (jI ok w t) (.table (bV true v x)),.val (jI ok w t) (.table (ins aB p.1 (.table (bV true v x)))),.any])
           (λbJ w'=>PG t (ai 7 ob oi of ot bW bY) (jI ok w t) (.table (ins aB p.1 (.table (bV true v x)))) wx w' (bJ 6)) (by kernel_rfl) (by kernel_rfl) (PG.start c.o.bm) ?_ ?_
          .refine⟨?_,?_,?_,?_,?_,?_,?_,trivial⟩
           .intro bJ a M K hd bg aj aF az y hK;have e5:a.tmps[5]?.getD undef=.pointer (some ⟨t,0,none⟩):=aF 5 rfl;have n6:=ny1 bg 6 5 rfl (ny1 bg 5 0 rfl hd);have jB:=y;rw[n6] at jB;obtain⟨c',o,h1, -⟩:=jB.box;obtain rfl:=h1 rfl;refine ax rfl ?_;refine aO au rfl (vE e5) o.cells rfl ?_;exact hK _ _ rfl (by simpa[dn] using y) Sy
           .intro bJ a M K hd bg aj aF az y hK;have kY:a.tmps[10]?.getD undef=.string p.1:=aF 10 rfl;clear bg aj aF az;go_simp;exact hK _ _ rfl (by simpa[dn] using y) Sy
           .intro bJ a M K hd bg aj aF az y hK;have jZ:a.tmps[11]?.getD undef=.pointer (some ⟨gv,0,none⟩):=aF 11 rfl;refine ax rfl ?_;refine aO au rfl (vE jZ) (l.o.X y.X (by have:=jU.o;omega)).cells rfl ?_;exact hK _ _ rfl (by simpa[dn] using y) Sy
           .intro bJ a M K hd bg aj aF az y hK;have ku:a.tmps[12]?.getD undef=.pointer (some ⟨gx,0,none⟩):=aF 12 rfl;refine ax rfl ?_;refine aO au rfl (vE ku) (q.o.X y.X (by have:=jY.o;omega)).cells rfl ?_;exact hK _ _ rfl (by simpa[dn] using y) Sy
           .intro bJ a M K hd bg aj aF az y hK;have kz:=fq (aj 2 74 rfl (az 2 rfl));have kC:=fq (aj 3 75 rfl (az 3 rfl));refine ax rfl ?_;have iy:=jP U N fO true d (jI ok w t) v x (ai 7 vb vi vf vt fB fC) (ai 7 xb xi xf xt fF fG) M (m.o.X y.X (λb o e=>aW.o (e▸o))) (bI.o.X y.X (λb o e=>aW.o (e▸o))) WV.o WX.o;refine gB Tryz.call53 rfl (vE kz) (vE kC) rfl iy ?_;rintro e w2 ⟨cs,rfl,hj,hc⟩;exact⟨_,rfl,hK _ _ ⟨cs,rfl,hj.mono (λb _ o=>o.elim id (λh=> .inr (by have h1:=y.size;have h2:=c.o.bm.lt;omega)))⟩ (by simpa[dn] using y.df hc) (λ_ _ _ _ h=>h.aP hc)⟩
           .intro bJ a M K hd bg aj aF az y hK;have kD:=fq (aj 0 72 rfl (az 0 rfl));have kE:=fq (aj 1 73 rfl (az 1 rfl));obtain⟨c9,kF,kG⟩:=aj 4 76 rfl (az 4 rfl);refine ax rfl ?_;have iy:=jD (jI ok w t) aB p.1 (.table (bV true v x)) ob oi of ot bW bY c9 M (c.o.val.X y.X (λb o e=>aW.o (e▸o))) kG fD.o fE.o;refine gB Tryz.call51 rfl (vE kD) (vE kE) (vE kF) iy ?_;rintro e w2 ⟨cs,rfl,hj,hc⟩;exact⟨_,rfl,hK _ _ ⟨cs,rfl,hj.mono (λb _ o=>o.elim id (λh=> .inr (by have h1:=y.size;have h2:=c.o.bm.lt;omega)))⟩ (by simpa[dn] using y.df hc) (λ_ _ _ _ h=>h.aP hc)⟩
           .intro bJ a M K hd bg aj aF az y hK;have e5:a.tmps[5]?.getD undef=.pointer (some ⟨t,0,none⟩):=aF 5 rfl;obtain⟨c2,kH,E⟩:=aj 5 77 rfl (az 5 rfl);rw[hd] at y;obtain⟨c',o,h1, -⟩:=y.box;obtain rfl:=h1 rfl;refine ax rfl ?_;refine dH au rfl (vE e5) (vE kH) o rfl E.length E.one ?_;intro w2 fJ hC kZ;refine hK undef _ trivial (by simpa[dn] using y.fill fJ hC E aW.o) ?_;refine λj hj _ u hu=>hu.keep hC (aV (i:=6) (λj hl hj=> ?_) j hj)
            match j,hj with
            |0,_|1,_|2,_|3,_=>exact trivial
            |4,_=>exact λb o e=>aW.o (e▸o)
            |5,_=>exact λb o e=>aW.o (e▸o)
            |6,hj=>exact absurd rfl hj
            |j+7,_=>exact absurd hl (by simp)
          .intro vs w2 kJ kK y;obtain⟨c2,fJ, -,E⟩:=y.box;have bD:=Z (c.o.fill eX.o y.X fJ (E rfl));clear fJ E y kJ kK;simp only[aX,Act.put,List.setIfInBounds_toArray,List.set_cons_succ,List.set_cons_zero];go_wp2_with fail;go_roundw;case rel=>first|exact⟨n+1,c2,by go_num,by omega,(by rw[R.o.ins Q.o J.o (by rw[L.o,dQ.o];rfl),←aC.o];exact bD.o)⟩|((repeat apply Exists.intro);exact⟨⟨n+1,c2,by go_num,by omega,(by rw[R.o.ins Q.o J.o (by rw[L.o,dQ.o];rfl),←aC.o];exact bD.o)⟩,rfl⟩)
           case measure=>simp[intOf];omega
         .have kL:(xk==7)=false:=(by simpa using aZ);have dR:=Z (show dA x0=false by cases h:dA x0<;>first|rfl|exact absurd (fH.o.2.2.2 h) aZ);clear aZ;have f:=l.o.cells;go_wp2_with (first|(with_reducible refine V rfl au rfl rfl f rfl ?_)|(with_reducible refine aJ rfl au rfl rfl f rfl ?_));refine(aY _ _ _ _ _ _ _ _).mono ?_;rintro e w7 ⟨rfl,C⟩;have c:=Z (c.o.step C);have l:=Z (l.o.X C id);have q:=Z (q.o.X C id);have m:=Z (m.o.X C nE);clear f;go_wp2_with fail;go_roundw;case rel=>first|exact⟨n+1,_,by go_num,by omega,(by rw[R.o.same Q.o J.o (by rw[L.o,dQ.o];have h:=dR.o;cases x0<;>first|rfl|cases h)]<;>rw[←aC.o]<;>exact c.o)⟩|((repeat apply Exists.intro);exact⟨⟨n+1,_,by go_num,by omega,(by rw[R.o.same Q.o J.o (by rw[L.o,dQ.o];have h:=dR.o;cases x0<;>first|rfl|cases h)]<;>rw[←aC.o]<;>exact c.o)⟩,rfl⟩)
          case measure=>simp[intOf];omega
        .have jX:(vk==7)=false:=(by simpa using h7);have fK:=Z (show dA p.2=false by cases h:dA p.2<;>first|rfl|exact absurd (jm.o.2.2.2 h) h7);clear h7;have f:=l.o.cells;go_wp2_with (first|(with_reducible refine V rfl au rfl rfl f rfl ?_)|(with_reducible refine aJ rfl au rfl rfl f rfl ?_));refine(aY _ _ _ _ _ _ _ _).mono ?_;rintro e w5 ⟨rfl,D⟩;have c:=Z (c.o.step D);have l:=Z (l.o.X D id);have q:=Z (q.o.X D id);have m:=Z (m.o.X D nE);clear f;have f:=l.o.cells;go_wp2_with (first|(with_reducible refine V rfl au rfl rfl f rfl ?_)|(with_reducible refine aJ rfl au rfl rfl f rfl ?_));refine(aY _ _ _ _ _ _ _ _).mono ?_;rintro e w6 ⟨rfl,s⟩;have c:=Z (c.o.step s);have l:=Z (l.o.X s id);have q:=Z (q.o.X s id);have m:=Z (m.o.X s nE);clear f;have f:=l.o.cells;go_wp2_with (first|(with_reducible refine V rfl au rfl rfl f rfl ?_)|(with_reducible refine aJ rfl au rfl rfl f rfl ?_));refine(aY _ _ _ _ _ _ _ _).mono ?_;rintro e w7 ⟨rfl,C⟩;have c:=Z (c.o.step C);have l:=Z (l.o.X C id);have q:=Z (q.o.X C id);have m:=Z (m.o.X C nE);clear f;have bx:=q.o.cells;go_wp2_with (first|(with_reducible refine V rfl au rfl rfl bx rfl ?_)|(with_reducible refine aJ rfl au rfl rfl bx rfl ?_));refine(aY _ _ _ _ _ _ _ _).mono ?_;rintro e w8 ⟨rfl,S⟩;have c:=Z (c.o.step S);have l:=Z (l.o.X S id);have q:=Z (q.o.X S id);have m:=Z (m.o.X S nE);clear bx;by_cases aZ:xk=7
         .subst aZ;obtain⟨x,rfl⟩:=dm (fH.o.2.1 rfl);go_wp2_with fail;go_roundw;case rel=>first|exact⟨n+1,_,by go_num,by omega,(by rw[R.o.same Q.o J.o (by rw[L.o];have h:=fK.o;cases ug:p.2<;>first|rfl|(rw[ug] at h;cases h))]<;>rw[←aC.o]<;>exact c.o)⟩|((repeat apply Exists.intro);exact⟨⟨n+1,_,by go_num,by omega,(by rw[R.o.same Q.o J.o (by rw[L.o];have h:=fK.o;cases ug:p.2<;>first|rfl|(rw[ug] at h;cases h))]<;>rw[←aC.o]<;>exact c.o)⟩,rfl⟩)
          case measure=>simp[intOf];omega
         .have kL:(xk==7)=false:=(by simpa using aZ);have dR:=Z (show dA x0=false by cases h:dA x0<;>first|rfl|exact absurd (fH.o.2.2.2 h) aZ);clear aZ;have H:=c.o.bm.cells;have f:=l.o.cells;go_wp2_with (first|(with_reducible refine V rfl au rfl rfl H rfl ?_)|(with_reducible refine V rfl au rfl rfl f rfl ?_));refine(jD (jI ok w t) aB p.1 p.2 ob oi of ot bW bY _ _ c.o.val m.o fD.o fE.o).mono ?_;rintro e jw ⟨c2,rfl,E,aH⟩;have F:=c.o.bm.X aH id;have dN:=E.length;have dO:=E.one;have dP:=Z (E.mono (ok':=jI ok w t) (λb _ o=>o.elim id (λh=> .inr (by have h2:=c.o.bm.lt;omega))));have bD:=Z (c.o.step aH);clear E aH H f;go_wp2_with (first|(with_reducible refine aA rfl au rfl rfl rfl F rfl dN dO ?_;intro jy bF G dh));have bG:=Z (bD.o.fill eX.o G bF (dP.o.X G (λb o e=>aW.o (e▸o))));clear bF G dh F;go_roundw;case rel=>first|exact⟨n+1,c2,by go_num,by omega,(by rw[R.o.ins (z:=p.2) Q.o J.o (by rw[L.o];have h1:=fK.o;have h2:=dR.o;cases ug:p.2<;>cases x0<;>first|rfl|(simp[dA] at h2;done)|(rw[ug] at h1;simp[dA] at h1;done)),←aC.o];exact bG.o)⟩|((repeat apply Exists.intro);exact⟨⟨n+1,c2,by go_num,by omega,(by rw[R.o.ins (z:=p.2) Q.o J.o (by rw[L.o];have h1:=fK.o;have h2:=dR.o;cases ug:p.2<;>cases x0<;>first|rfl|(simp[dA] at h2;done)|(rw[ug] at h1;simp[dA] at h1;done)),←aC.o];exact bG.o)⟩,rfl⟩)
          case measure=>simp[intOf];omega
      .have kM:n=B.length:=Nat.le_antisymm jS (Nat.not_lt.1 gZ);subst kM;have lg:¬((B.length:Nat):Int)<(B.length:Int):=(by omega);have aS:=c.o.b0.cells;have H:=c.o.bm.cells;have jC:=c.o.val.length;have hv:=c.o.val;rw[List.take_length] at hv;have HV:=Z hv;have kP:=Z (show Sorted a from WA.o.sorted);have kQ:=Z (Nat.lt_of_le_of_lt WA.o.len fO);clear hv;go_wp2_with (first|(with_reducible refine V rfl au rfl rfl aS rfl ?_)|(with_reducible refine V rfl au rfl rfl H jC ?_));refine(jD (jI ok w t) a gK (.table (jH A B)) ab aI af at_ aK aN oc wr ((HA.o.X c.o.X nE).mono (λb _ h=> .inl h)) HV.o kP.o kQ.o).mono ?_;rintro e w8 ⟨rc,rfl,fM,S⟩;have jE:=fM.length;have kR:=fM.one;have dS:=c.o.b2.X S id;have kS:=Z S;have kT:=Z fM;clear fM S aS H jC;go_wp2_with (first|(with_reducible refine aA rfl au rfl rfl rfl dS rfl jE kR ?_;intro w9 dU bK jF));refine bodyPost_ret (bU rfl au rfl dU jE) rfl ⟨rc,rfl,?_,(c.o.X.trans' kS.o).trans bK (λi hi e=>by have:=HG.o;omega)⟩;have dW:globals a b=ins a gK (.table (jH A B)):=by unfold globals;rw[eQ.o,eU.o]
       rw[dW];refine((kT.o.mono (ok':=λb=>okB ok w b∨g+2<b) (λx _ h=> ?_)).X bK (λx h e=> ?_)).mono (λx _ h=>h.imp (λh=>h.1) (λh=>by have:=HG.o;omega))
       .rcases h with h|h
        .exact h.imp id (λh=>by have:=cO.o;omega)
        .exact .inr (by have:=c.o.bt.lt;have:=cO.o;have:=bT.o;omega)
       .rcases h with h|h
        .have:=h.2;have:=HG.o;omega
        .omega
    .have lh:(tk==7)=false:=(by simpa using eP);have eU:=Z (o5 (a:=b) (by cases h:dA (mG b)<;>first|rfl|exact absurd (gU.o.2.2.2 h) eP));have aS:=aU.o.b0.cells;have dS:=aU.o.b2;have iC:(ai 7 ab aI af at_ aK aN).all (·.oneCell')=true:=HA.o.one;clear eP;go_wp2_with (first|(with_reducible refine V rfl au rfl rfl aS rfl ?_)|(with_reducible refine aA rfl au rfl rfl rfl dS rfl rfl iC ?_;intro w9 dU bK jF));refine bodyPost_ret (bU rfl au rfl dU rfl) rfl ⟨_,rfl,?_,aU.o.X.trans bK (λi hi e=>by have:=HG.o;omega)⟩;have dW:globals a b=a:=by unfold globals;rw[eU.o];cases bH a gK<;>rfl
     rw[dW];exact((HA.o.X aU.o.X nE).X bK (λb o e=>by have:=o.2;have:=HG.o;omega)).mono (λb _ h=> .inl h.1)
   .have lq:(mk==7)=false:=(by simpa using eF);have eQ:=Z (o5 (a:=a) (by cases h:dA (mG a)<;>first|rfl|exact absurd (gQ.o.2.2.2 h) eF));have aS:=dC.o.b0.cells;have dS:=dC.o.b2;have iC:(ai 7 ab aI af at_ aK aN).all (·.oneCell')=true:=HA.o.one;clear eF;go_wp2_with (first|(with_reducible refine V rfl au rfl rfl aS rfl ?_)|(with_reducible refine aA rfl au rfl rfl rfl dS rfl rfl iC ?_;intro w9 dU bK jF));refine bodyPost_ret (bU rfl au rfl dU rfl) rfl ⟨_,rfl,?_,dC.o.X.trans bK (λi hi e=>by have:=HG.o;omega)⟩;have dW:globals a b=a:=by unfold globals;rw[eQ.o]
    rw[dW];exact((HA.o.X dC.o.X nE).X bK (λb o e=>by have:=o.2;have:=HG.o;omega)).mono (λb _ h=> .inl h.1)
def ET(P:Program)(c:Array Oper)(Q:ah)(a0:Act){Γ:Type}(I:Γ→Nat→Value→World→Prop)(G:Γ→(Nat→Bool)→World→Prop)(i:Nat)(o:Oper):Prop:=
 ∀(f:Γ)(b:Nat→Bool)(a:Act)(w:World)(K:ag),
  b i=false→(∀j k,((c[j]?).map (oC k)).getD false=true→b j=true→b k=true)→
  (∀j d,(c[j]?).bind (·.dst)=some d→b j=true→I f j (a.tmps[d]?.getD undef) w)→
  (∀t:Nat,(c.toList.all λo=>o.dst !=some t)=true→a.tmps[t]?.getD undef=a0.tmps[t]?.getD undef)→
  (∀k,oC k o=true→b k=true)→G f b w→
  (∀g v e,I g i v e→G g (dn b i) e→(∀j,j≠i→b j=true→∀u,I f j u w→I g j u e)→K (a.put o.dst v) e)→
  (if Region.wanted o (yielded c a.tmps) then o.wp P a w K Q else K (a.put o.dst undef) w)
def nZ(P:Program)(a:Array Oper)(Q:ah)(a0:Act){Γ:Type}(I:Γ→Nat→Value→World→Prop)(G:Γ→(Nat→Bool)→World→Prop):Nat→List Oper→Prop
 | _,[]=>True
 |n,o::rest=>ET P a Q a0 I G n o∧nZ P a Q a0 I G (n+1) rest
theorem nZ.get{P:Program}{c:Array Oper}{Q:ah}{a0:Act}{Γ:Type}{I:Γ→Nat→Value→World→Prop}{G:Γ→(Nat→Bool)→World→Prop}:∀{l:List Oper}{n:Nat},nZ P c Q a0 I G n l→∀{i:Nat}{o:Oper},l[i]?=some o→ET P c Q a0 I G (n+i) o
 |[],_,_,i,o,h=>by simp at h
 |a::r,n,b,0,o,h=>by simp at h;subst h;exact b.1
 |a::r,n,b,i+1,o,h=>by
  have:=nZ.get b.2 (i:=i) (o:=o) (by simpa using h)
  rwa[show n+1+i=n+(i+1) by omega] at this
section
variable {P:Program} {l:List Oper} {Q:ah} {a0:Act} {Γ:Type} {I:Γ→Nat→Value→World→Prop} {G:Γ→(Nat→Bool)→World→Prop}
theorem Gv(E:tidy l a0.tmps.size=true)(hs:nZ P l.toArray Q a0 I G 0 l)
  (az:∀(n:Γ)(vs:Nat→Value)(s:World),(∀j f,l[j]?=some f→f.dst≠none→I n j (vs j) s)→(∀j f,l[j]?=some f→f.dst=none→∃u,I n j u s)→G n (λj=>decide (j<l.length)) s→Q .normal (aX vs 0 l a0) s):
  ∀(C:Nat)(b:Array Bool)(a:Act)(w:World)(n:Γ),xg l a0 (I n) (G n) b a w→((List.range l.length).filter λi=> !b.getD i false).length<=C→wpAny P .any l.toArray Q C b a w:=by
 simp only[tidy,Bool.and_eq_true,decide_eq_true_eq,List.all_eq_true] at E;obtain⟨⟨X,aA⟩,aB⟩:=E;have af:∀(j:Nat)(f:Oper)(d:Nat),l[j]?=some f→f.dst=some d→d<a0.tmps.size:=λj f d c g=>by have:=aA f (mG' c);simpa[g] using this
 have aC:∀(b:Array Bool),b.size=l.length→Region.ready .any l.toArray b=[]→∀i,i<l.length→b.getD i false=true:=by
  intro b aF O i;induction i using Nat.strongRecOn with
  | _ i R=>
   intro q;by_cases m:b.getD i false=true
   .exact m
   .exfalso
    have hm:i∈Region.ready .any l.toArray b:=by
     unfold Region.ready;refine List.mem_filter.2 ⟨List.mem_range.2 (by simpa using q),?_⟩;have B:l.toArray[i]?=some l[i]:=(by simp[q]);have aG:b.getD i true=false:=by have:i<b.size:=(by omega);simp[this] at m⊢;exact m
     rw[aG,B];simp only[Bool.not_false,Bool.true_and,Option.map_some,Option.getD_some,Array.all_eq_true_iff_forall_mem];intro e x;have S:=aB i (List.mem_range.2 q);rw[List.getElem?_eq_getElem q] at S;simp only[Option.map_some,Option.getD_some,Array.all_eq_true_iff_forall_mem] at S;have T:=S e x;by_cases p:Region.binds .any e=true
     .rw[p] at T⊢;simp at T;have:=R e.on T (by omega);simpa using this
     .simp at p;simp[p]
    rw[O] at hm;cases hm
 have ai:∀(b:Array Bool)(a:Act)(w:World)(n:Γ),xg l a0 (I n) (G n) b a w→(∀i,i<l.length→b.getD i false=true)→Q .normal a w:=by
  intro b a w n h F;have hg:(λj=>b.getD j false)=λj=>decide (j<l.length):=by
   funext j
   by_cases c:j<l.length
   .simp only[F j c,decide_eq_true c]
   .have:¬j<b.size:=by rw[h.size];exact c
    simp[c,this]
  have aj:∀{j:Nat}{f:Oper},l[j]?=some f→j<l.length:=λc=>(gS'.1 c).1
  have hq:=az n (λj=>match(l[j]?).bind (·.dst) with|some d=>a.eval (.tmp d)|none=>undef) w
   (λj f c H=>by
    cases g:f.dst with
    |none=>exact absurd g H
    |some d=>simp only[c,Option.bind_some,g];exact h.slots j f d (by simpa using c) g (F j (aj c)))
   (λj f c g=>h.mute j f (by simpa using c) g (F j (aj c)))
   (hg▸h.BM)
  have ea:aX (λj=>match(l[j]?).bind (·.dst) with|some d=>a.eval (.tmp d)|none=>undef) 0 l a0=a:=by
   have aF:=nH (λj=>match(l[j]?).bind (·.dst) with|some d=>a.eval (.tmp d)|none=>undef) l 0 a0;have L:=lq (λj=>match(l[j]?).bind (·.dst) with|some d=>a.eval (.tmp d)|none=>undef) l 0 a0;have U:(aX (λj=>match(l[j]?).bind (·.dst) with|some d=>a.eval (.tmp d)|none=>undef) 0 l a0).tmps=a.tmps:=by
    apply Array.ext_getElem?;intro t;by_cases y:∃(j:Nat)(f:Oper),l[j]?=some f∧f.dst=some t
    .obtain⟨j,f,c,g⟩:=y;have p:=af j f t c g;rw[qj _ l 0 a0 j f t X c g p];simp only[Nat.zero_add,c,Option.bind_some,g];have:t<a.tmps.size:=by rw[h.ql];exact p
     simp[Act.eval,this]
    .rw[kz _ t l 0 a0 (λo B e=>by
      obtain⟨j,c⟩:=List.getElem?_of_mem B;exact y ⟨j,o,c,e⟩)]
     exact(h.other t (λj f c g=>(y ⟨j,f,by simpa using c,g⟩).elim)).symm
   rw[←h.defers] at L;cases hp:aX (λj=>match(l[j]?).bind (·.dst) with|some d=>a.eval (.tmp d)|none=>undef) 0 l a0 with
   |mk tm df=>rw[hp] at U L;cases a;simp at U L;simp[U,L]
  rw[ea] at hq;exact hq
 intro C;induction C with
 |zero=>
  intro b a w n h hc;have F:∀i,i<l.length→b.getD i false=true:=by
   intro i q;by_cases m:b.getD i false=true
   .exact m
   .exfalso
    have:i∈(List.range l.length).filter λi=> !b.getD i false:=List.mem_filter.2 ⟨List.mem_range.2 q,by simpa using m⟩
    have:=List.length_pos_of_mem this;omega
  refine⟨?_,ai b a w n h F⟩;unfold Region.ready;rw[List.filter_eq_nil_iff];intro i q;have hi':i<l.length:=(by simpa using q);have z:=F i hi';have:i<b.size:=by rw[h.size];exact hi'
  simp[this] at z⊢;intro y;rw[z] at y;cases y
 |succ C R=>
  intro b a w n h hc;refine⟨λO=>ai b a w n h (aC b h.size O),λi q=> ?_⟩;unfold Region.ready at q;obtain⟨aH,V⟩:=List.mem_filter.1 q;have J:i<l.length:=(by simpa using aH);have B:l.toArray[i]?=some l[i]:=(by simp[J]);have D:i<b.size:=by rw[h.size];exact J
  rw[B] at V;simp only[Option.map_some,Option.getD_some,Bool.and_eq_true,Bool.not_eq_true',Array.all_eq_true_iff_forall_mem,Bool.or_eq_true] at V;obtain⟨M,aI⟩:=V;have ak:b.getD i false=false:=by simp[D] at M⊢;exact M
  have au:=hs.get (i:=i) (o:=l[i]) (by simp[J]);rw[Nat.zero_add] at au;have ax:∀e∈(l[i]).after,Region.binds .any e=true→b.getD e.on false=true:=λe x p=>by
   rcases aI e x with z|z
   .rw[p] at z;cases z
   .exact z
  have aJ:((List.range l.length).filter λj=> !(b.setIfInBounds i true).getD j false).length<=C:=by
   have aN:((List.range l.length).filter λj=> !(b.setIfInBounds i true).getD j false).length<((List.range l.length).filter λj=> !b.getD j false).length:=by
    have e1:((List.range l.length).filter λj=> !(b.setIfInBounds i true).getD j false)=(((List.range l.length).filter λj=> !b.getD j false).filter λj=> !(j==i)):=by
     rw[List.filter_filter]
     congr 1
     funext j
     rw[dZ b i j D];cases b.getD j false<;>cases(j==i)<;>rfl
    rw[e1];refine List.length_filter_lt_length_iff_exists.2 ⟨i,List.mem_filter.2 ⟨List.mem_range.2 J,by rw[ak];rfl⟩,by simp⟩
   omega
  have aK:∀K v s,I K i v s→G K (dn (λj=>b.getD j false) i) s→(∀j,j≠i→b.getD j false=true→∀u,I n j u w→I K j u s)→wpAny P .any l.toArray Q C (b.setIfInBounds i true) (a.put (l[i]).dst v) s:=by
   intro K v s hI hG ay;refine R _ _ _ K ⟨by simpa using h.size,by rw[pI];exact h.ql,by rw[nG];exact h.defers,?_,?_,?_,?_,?_⟩ aJ
   .intro j f c m e x p;rw[dZ b i _ D] at m⊢;by_cases r:j=i
    .subst r;rw[B] at c;cases c;rw[ax e x p];rfl
    .have:(j==i)=false:=(by simpa using r);rw[this,Bool.or_false] at m;rw[h.closed j f c m e x p];rfl
   .intro j f d c g m;rw[dZ b i _ D] at m;have p:d<a.tmps.size:=by rw[h.ql];exact af j f d (by simpa using c) g
    by_cases r:j=i
    .subst r;rw[B] at c;cases c;have:(a.put (l[j]).dst v).eval (.tmp d)=v:=by rw[g];simp[Act.eval,Act.put,p]
     rw[this];exact hI
    .have y:(j==i)=false:=(by simpa using r);rw[y,Bool.or_false] at m;have H:(l[i]).dst≠some d:=λe=>r (vG X (by simpa using c) (by simp[J]) g e)
     rw[eval_eq _ a d (jX a v H)];exact ay j r m _ (h.slots j f d c g m)
   .intro j f c g m;rw[dZ b i _ D] at m;by_cases r:j=i
    .subst r;exact⟨v,hI⟩
    .have y:(j==i)=false:=(by simpa using r);rw[y,Bool.or_false] at m;obtain⟨u,M⟩:=h.mute j f c g m;exact⟨u,ay j r m u M⟩
   .intro t E;have H:(l[i]).dst≠some t:=λe=>by
     have:=E i l[i] B e;rw[dZ b i _ D] at this;simp at this
    rw[jX a v H];refine h.other t λj f c g=> ?_
    have:=E j f c g;rw[dZ b i _ D] at this;simp only[Bool.or_eq_false_iff] at this;exact this.1
   .have:(λj=>(b.setIfInBounds i true).getD j false)=dn (λj=>b.getD j false) i:=by
     funext j
     rw[dZ b i _ D];rfl
    rw[this];exact hG
  have N:=au n (λj=>b.getD j false) a w (wpAny P .any l.toArray Q C (b.setIfInBounds i true)) ak
   (λj k A m=>by
    cases c:l.toArray[j]? with
    |none=>rw[c] at A;cases A
    |some f=>rw[c] at A;obtain⟨e,x,p,W⟩:=jC A;rw[←W];exact h.closed j f c m e x p)
   (λj d g m=>by
    cases c:l.toArray[j]? with
    |none=>rw[c] at g;cases g
    |some f=>rw[c] at g;have:=h.slots j f d c g m;simpa[Act.eval] using this)
   (λt E=>congrArg (·.getD undef) (h.other t (λj f c g=>by have z:=List.all_eq_true.1 E f (mG' (by simpa using c));rw[g] at z;simp at z)))
   (λk A=>by obtain⟨e,x,p,W⟩:=jC A;rw[←W];exact ax e x p) h.BM aK
  unfold wpOp;rw[B];simp only
  split
  .rename_i A;rw[if_pos A] at N;exact .inl N
  .rename_i A;rw[if_neg A] at N;exact N
theorem eQ{i:Nat}{w:World}{Γ:Type}(I:Γ→Nat→Value→World→Prop)(G:Γ→(Nat→Bool)→World→Prop)(k:P.follows .mixedOrders=true)(m:tidy l a0.tmps.size=true)
  (g:Γ) (n:G g (λ_=>false) w.drew) (o:nZ P l.toArray Q a0 I G 0 l)
  (p:∀(f:Γ)(vs:Nat→Value)(c:World),(∀j a,l[j]?=some a→a.dst≠none→I f j (vs j) c)→(∀j a,l[j]?=some a→a.dst=none→∃u,I f j u c)→G f (λj=>decide (j<l.length)) c→Q .normal (aX vs 0 l a0) c):
  (Code.region i l.toArray true).wp P Q a0 w:=by
 refine wp_region_any k (Gv m o p _ _ _ _ g ?_ ?_)
 .have e:∀j,(Array.replicate l.toArray.size false).getD j false=false:=λj=>by
   simp only[Array.getD_eq_getD_getElem?,Array.getElem?_replicate]
   split<;>rfl
  refine⟨by simp,rfl,rfl,?_,?_,?_,?_,?_⟩
  .intro j a h b;rw[e] at b;cases b
  .intro j a d h q b;rw[e] at b;cases b
  .intro j a h q b;rw[e] at b;cases b
  .intro t _;rfl
  .have:(λj=>(Array.replicate l.toArray.size false).getD j false)=λ_=>false:=funext e
   rw[this];exact n
 .exact Nat.le_trans (List.length_filter_le _ _) (by simp)
end
def N8(B:Nat)(a:Option Nat):ae:=λb=>B<=b∧a≠some b
def Fact.box(a:Option Nat):Fact:=
 ⟨λv _=>∃t,a=some t∧v=.pointer (some ⟨t,0,Option.none⟩),λ_ _=>True,λS v w b h _ _=>h,λ_=>trivial⟩
theorem fH{a:Nat→Bool}{i k:Nat}(h:i≠k):dn a i k=a k:=Me (beq_eq_false_iff_ne.2 h.symm)
theorem aG.raw{ok:ae}{w:World}{cs:Y}{j:J}(h:aG ok w cs j):∀{n d:Nat},Wf n d j→jK ok w cs:=by
 induction h with
 |null a b=>intro n d _;exact .mk (ks:=[]) a (by simp) b (by simp)
 |bool a b=>intro n d _;exact .mk (ks:=[]) a (by simp) b (by simp)
 |int a b=>intro n d _;exact .mk (ks:=[]) a (by simp) b (by simp)
 |float a b=>intro n d _;exact .mk (ks:=[]) a (by simp) b (by simp)
 |text a b=>intro n d _;exact .mk (ks:=[]) a (by simp) b (by simp)
 |@list _ _ _ _ _ _ m xs a b o h g=>
  intro n d e;cases d with
  |zero=>exact e.elim
  |succ d=>refine .mk (ks:=[]) a (by simp) b (λr k=> ?_);obtain⟨i,f⟩:=List.getElem?_of_mem k;have q:=(gS'.1 f).1;have c:=List.getElem?_eq_getElem (l:=xs) (i:=i) (by omega);exact g i r _ f c (e.2 _ (mG' c))
 |@table _ _ _ _ _ _ m kvs a b o h g=>
  intro n d e;cases d with
  |zero=>exact e.elim
  |succ d=>
   refine .mk (ks:=kvs.map (·.1)) (by simpa[aH,List.map_map,Function.comp_def] using a) (λx c=> ?_) b (λr k=> ?_)
   .obtain⟨p,s,rfl⟩:=List.mem_map.1 c;exact(e.2.2 p s).1
   .obtain⟨i,f⟩:=List.getElem?_of_mem k;have q:=(gS'.1 f).1;have c:=List.getElem?_eq_getElem (l:=kvs) (i:=i) (by omega);exact g i r _ f c (e.2.2 _ (mG' c)).2
inductive bf (ok:ae) (w:World):Value→J→(ae)→Prop where
 |plain {v:Value} {j:J} {S:ae} (h:bC ok w v j) (hn:dA j=false) (hS:∀x,¬S x):bf ok w v j S
 |table {b n:Nat} {f:K→Option Value} {kvs:T} {F:K→ae} {S:ae} (hm:aU w b n f) (hd:∀k,(f k).isSome=(get kvs k).isSome)
   (h:∀(k:K)(u:Value)(x:J),f k=some u→get kvs k=some x→bf ok w u x (F k)) (OC:∀k k' x,F k x→F k' x→k=k') (hb:∀k,¬F k b) (OD:∀k,f k=none→∀x,¬F k x)
   (hS:∀x,S x↔x=b∨∃k,F k x):bf ok w (.iface 67 (.map (some b))) (.table kvs) S
structure iC (ok:ae) (w:World) (b n:Nat) (f:K→Option Value) (kvs:T) (F:K→ae):Prop where
 map:aU w b n f
 dom:∀k,(f k).isSome=(get kvs k).isSome
 val:∀(k:K)(u:Value)(x:J),f k=some u→get kvs k=some x→bf ok w u x (F k)
 apart:∀k k' x,F k x→F k' x→k=k'
 kF:∀k,¬F k b
 none:∀k,f k=none→∀x,¬F k x
def fC(b:Nat)(F:K→ae):ae:=λx=>x=b∨∃k,F k x
section
variable {ok:ae} {w:World}
theorem iC.any{b n:Nat}{f:K→Option Value}{kvs:T}{F:K→ae}(h:iC ok w b n f kvs F):bf ok w (.iface 67 (.map (some b))) (.table kvs) (fC b F):=
 .table h.map h.dom h.val h.apart h.kF h.none (λ_=>Iff.rfl)
theorem bf.tab{v:Value}{kvs:T}{S:ae}(h:bf ok w v (.table kvs) S):∃b n f F,v=.iface 67 (.map (some b))∧iC ok w b n f kvs F∧∀x,S x↔fC b F x:=by
 cases h with
 |plain h a _=>cases a
 |table c d h e g i j=>exact⟨_,_,_,_,rfl,⟨c,d,h,e,g,i⟩,j⟩
theorem bf.set{v:Value}{j:J}{S S':ae}(h:bf ok w v j S)(b:∀x,S' x↔S x):bf ok w v j S':=by
 cases h with
 |plain h c a=>exact .plain h c (λx d=>a x ((b x).1 d))
 |table e f h g i k a=>exact .table e f h g i k (λx=>(b x).trans (a x))
theorem bf.lt{v:Value}{j:J}{S:ae}(h:bf ok w v j S):∀x,S x→x<w.heap.size:=by
 induction h with
 |plain h o a=>intro x c;exact absurd c (a x)
 |@table b n f kvs F S g i h p q l a m=>
  intro x c;rcases(a x).1 c with rfl|⟨k,e⟩
  .exact g.lt
  .cases hf:f k with
   |none=>exact absurd e (l k hf x)
   |some u=>
    have d:=i k;rw[hf] at d;cases hg:get kvs k with
    |none=>rw[hg] at d;cases d
    |some y=>exact m k u y hf hg x e
theorem bf.X{v:Value}{j:J}{S S':ae}{b:World}(h:bf ok w v j S)(c:O S' w b)(e:∀x,ok x→¬S' x)(d:∀x,S x→¬S' x):bf ok b v j S:=by
 induction h with
 |plain h f a=>exact .plain (h.X c e) f a
 |table g i h l m n a o=>exact .table (g.X c (d _ ((a _).2 (.inl rfl)))) i (λk u x p q=>o k u x p q (λy r=>d y ((a y).2 (.inr ⟨k,r⟩)))) l m n a
theorem bf.mono{ok':ae}{v:Value}{j:J}{S:ae}(h:bf ok w v j S)(b:∀x,x<w.heap.size→ok x→ok' x):bf ok' w v j S:=by
 induction h with
 |plain h c a=>exact .plain (h.mono b) c a
 |table d e h f g i a l=>exact .table d e (λk u x m n=>l k u x m n) f g i a
theorem bf.vV{v:Value}{j:J}{S:ae}(h:bf ok w v j S):bC (λx=>ok x∨S x) w v j:=by
 induction h with
 |plain h o a=>exact h.mono (λx _ d=> .inl d)
 |@table b n f kvs F S e g h p q r a i=>exact .table e (.inr ((a b).2 (.inl rfl))) g (λk u x l m=>(i k u x l m).mono (λy _ c=>c.imp id (λc=>(a y).2 (.inr ⟨k,c⟩))))
theorem bf.dV{v:Value}{j:J}{S:ae}(h:bf ok w v j S):bf (okB ok w) w v j S:=h.mono (λb a c=>⟨c,a⟩)
theorem iC.some{b n:Nat}{f:K→Option Value}{kvs:T}{F:K→ae}(h:iC ok w b n f kvs F){k:K}{u:Value}(c:f k=some u):∃x,get kvs k=some x∧bf ok w u x (F k):=by
 have a:=h.dom k;rw[c] at a;cases hx:get kvs k with
 |none=>rw[hx] at a;cases a
 |some x=>exact⟨x,rfl,h.val k u x c hx⟩
theorem iC.get_none{b n:Nat}{f:K→Option Value}{kvs:T}{F:K→ae}(h:iC ok w b n f kvs F){k:K}(c:f k=Option.none):get kvs k=Option.none:=by
 have a:=h.dom k;rw[c] at a;cases hx:get kvs k with
 |none=>rfl
 |some x=>rw[hx] at a;cases a
theorem iC.fit{b n:Nat}{f:K→Option Value}{kvs:T}{F:K→ae}(h:iC ok w b n f kvs F):iC ok w b kvs.length f kvs F:=⟨h.map.fit h.dom,h.dom,h.val,h.apart,h.kF,h.none⟩
theorem iC.lt{b n:Nat}{f:K→Option Value}{kvs:T}{F:K→ae}(h:iC ok w b n f kvs F){x:Nat}(a:fC b F x):x<w.heap.size:=h.any.lt x a
end
def mJ(w:World)(j:J)(v:Value)(a:World):Prop:=
 ∃R S,bf R a v j S∧(∀x,R x→w.heap.size<=x∧¬S x)∧(∀x,S x→w.heap.size<=x)∧O No w a
structure CM (w:World) (b g r n:Nat) (f:K→Option Value) (kvs:T) (wr:World) (left:K→Bool) (cnt no:Nat) (fo:K→Option Value) (F:K→ae) (R:ae):Prop where
 fO:bM wr b r n f left cnt
 num:no+cnt<=n
 o:aU wr g no fo
 dom:∀k,(fo k).isSome=((f k).isSome && !left k)
 val:∀(k:K)(u:Value)(x:J),fo k=some u→get kvs k=some x→bf R wr u x (F k)
 apart:∀k k' x,F k x→F k' x→k=k'
 none:∀k,fo k=Option.none→∀x,¬F k x
 fr:∀k x,F k x→r<x∧x<wr.heap.size
 rr:∀x,R x→r<x∧x<wr.heap.size∧∀k,¬F k x
 X:O No w wr
 gr:g<r
 wg:w.heap.size<=g
theorem CM.step{w:World}{b g r n:Nat}{f:K→Option Value}{kvs:T}{wr:World}{p:K→Bool}{G C:Nat}{m:K→Option Value}{F:K→ae}{R:ae}(h:CM w b g r n f kvs wr p G C m F R)
  {k:K} {u u':Value} {x:J} {s w2 w3:World} {D:Nat} (M:p k=true) (N:f k=some u) (P:get kvs k=some x) (Q:bM s b r n f (λz=>p z && !(z==k)) D) (ak:D<G) (H:O (·=r) wr s) (au:s.heap.size=wr.heap.size) (S:mJ s x u' w2)
  (hb:b<w.heap.size) (U:aU w3 g (C+1) (λz=>if z=k then some u' else m z)) (t:O (·=g) w2 w3) (ax:w3.heap.size=w2.heap.size):
  ∃V W,CM w b g r n f kvs w3 (λz=>p z && !(z==k)) D (C+1) (λz=>if z=k then some u' else m z) V W:=by
 obtain⟨R2,S2,I,L,o,A⟩:=S;have ay:=h.fO.lt;have af:=h.gr;have ai:=h.wg;have az:=A.size;have aj:=I.dV.lt;have aA:m k=Option.none:=by
  have:=h.dom k;rw[M] at this;cases N9:m k with
  |none=>rfl
  |some _=>rw[N9] at this;simp at this
 refine⟨λz=>if z=k then S2 else F z,λy=>R y∨okB R2 w2 y,⟨(Q.X A id id).X t (λe=>by omega) (λe=>by omega),by have:=h.num;omega,U,λz=> ?_,λz v y c a=> ?_,λz B y a l=> ?_,λz c y a=> ?_,λz y a=> ?_,λy a=> ?_,?_,af,ai⟩⟩
 .by_cases e:z=k
  .subst e;simp[N]
  .have e2:(z==k)=false:=by rw[lT];exact decide_eq_false e
   rw[if_neg e,h.dom z,e2];simp
 .by_cases e:z=k
  .subst e;rw[if_pos rfl] at c⊢;cases c;rw[P] at a;cases a;refine(I.dV.X t (λy a e=> ?_) (λy a e=> ?_)).mono (λy _ a=> .inr a)
   .have:=(L y a.1).1;omega
   .have:=o y a;omega
  .rw[if_neg e] at c⊢;refine((((h.val z v y c a).X H (λq d e=> ?_) (λq d e=> ?_)).X A nE nE).X t (λq d e=> ?_) (λq d e=> ?_)).mono (λq _ d=> .inl d)
   .have:=(h.rr q d).1;omega
   .have:=(h.fr z q d).1;omega
   .have:=(h.rr q d).1;omega
   .have:=(h.fr z q d).1;omega
 .by_cases e:z=k
  .by_cases e':B=k
   .rw[e,e']
   .rw[if_pos e] at a;rw[if_neg e'] at l;have j:=o y a;have E:=(h.fr B y l).2;omega
  .rw[if_neg e] at a;by_cases e':B=k
   .rw[if_pos e'] at l;have j:=o y l;have E:=(h.fr z y a).2;omega
   .rw[if_neg e'] at l;exact h.apart z B y a l
 .by_cases e:z=k
  .rw[if_pos e] at c;cases c
  .rw[if_neg e] at c a;exact h.none z c y a
 .by_cases e:z=k
  .rw[if_pos e] at a;have j:=o y a;have E:=aj y a;omega
  .rw[if_neg e] at a;have j:=h.fr z y a;omega
 .rcases a with a|a
  .obtain⟨j,E,h6⟩:=h.rr y a;refine⟨j,by omega,λz c=> ?_⟩;by_cases e:z=k
   .rw[if_pos e] at c;have:=o y c;omega
   .rw[if_neg e] at c;exact h6 z c
  .have j:=L y a.1;refine⟨by omega,by have:=a.2;omega,λz c=> ?_⟩;by_cases e:z=k
   .rw[if_pos e] at c;exact j.2 c
   .rw[if_neg e] at c;have:=(h.fr z y c).2;omega
 .exact((h.X.trans H (λi hi e=>by omega)).trans' A).trans t (λi hi e=>by omega)
theorem CM.done{w:World}{b g r n:Nat}{f:K→Option Value}{kvs:T}{wr:World}{d:K→Bool}{j i:Nat}{l:K→Option Value}{F:K→ae}{R:ae}(h:CM w b g r n f kvs wr d j i l F R)(m:∀k,d k=false)
  (o:∀k,(f k).isSome=(get kvs k).isSome):mJ w (.table kvs) (.iface 67 (.map (some g))) wr:=by
 have q:=h.gr;have p:=h.wg;refine⟨R,fC g F,iC.any (n:=i) ⟨h.o,λk=>by rw[h.dom k,m k,o k];simp,h.val,h.apart,λk a=>by have:=(h.fr k g a).1;omega,h.none⟩,λx c=>⟨by have:=(h.rr x c).1;omega,λe=> ?_⟩,λx c=> ?_,h.X⟩
 .rcases e with rfl|⟨k,a⟩
  .have:=(h.rr x c).1;omega
  .exact(h.rr x c).2.2 k a
 .rcases c with rfl|⟨k,a⟩
  .exact p
  .have:=(h.fr k x a).1;omega
def EU(w:World)(j:J)(e:Ending)(a:World):Prop:=∃v,e=.returned v∧mJ w j v a
theorem mJ.any{w:World}{j:J}{v:Value}{a:World}(h:mJ w j v a):bC (λx=>w.heap.size<=x) a v j:=by obtain⟨R,S,b,c,d, -⟩:=h;exact b.vV.mono (λx _ e=>e.elim (λh=>(c x h).1) (d x))
theorem lZ(N d:Nat)(hN:N<1099511627776)(G:∀(ok:ae)(j:J)(v:Value)(w:World),bC ok w v j→Wf N d j→Calls Tryz.prog 141 #[v] w (EU w j))
  (ok:ae) (kvs:T) (b:Nat) (w:World) (H:bC ok w (.iface 67 (.map (some b))) (.table kvs)) (r:Wf N (d+1) (.table kvs)):
  Calls Tryz.prog 116 #[.map (some b)] w λe w'=>∃g,e=.returned (.map (some g))∧mJ w (.table kvs) (.iface 67 (.map (some g))) w':=by
 obtain⟨b',n,f,e,a⟩:=H.tab;cases e;replace a:=a.fit;obtain⟨n,I⟩:∃n,n=kvs.length:=⟨_,rfl⟩;rw[←I] at a;have aI:=Z (show n<1099511627776 by have L:=r.2.1;omega);clear I;have M:=Z a;have WF:=Z r;have IH:=Z G;have m:=a.map;have aJ:=m.lt;have aK:=jO b;clear H r G a;go_enter Tryz.func116,Tryz.ntmps116;obtain⟨g,i⟩:∃g,g=w.heap.size:=⟨_,rfl⟩;obtain⟨lc, -,aN⟩:=m.len;have bg:=oD;go_wp2_with (first|(at_range;refine dR rfl rfl rfl (m.alloc _) ?_;intro P aO s aP l Q;go_frame));have S:(w.alloc (.map #[] 0)).heap.size=g+1:=(by simp[i]);rw[S] at s Q⊢;rw[←i] at aJ⊢;have U:=Z i;have bn:=Z l;have V:aU P g 0 (λ_=>none):=by have h:=aU.made w;rw[←i] at h;exact h.X l id
 have aQ:=Z (show CM w b g (g+1) n f kvs P (λk=>(f k).isSome) aO 0 (λ_=>none) (λ_ _=>False) (λ_=>False) from
  ⟨s,by omega,V,λk=>by cases f k<;>rfl,λk u x h=>(by cases h),λk k' x h=>h.elim,λk _ x h=>h,λk x h=>h.elim,λx h=>h.elim,((O.refl No w).alloc _).trans' l,by omega,by omega⟩)
 clear i Q S l aN s V aK m aP;go_loopw [4] (λ_ wr=>∃(W:K→Bool)(af o:Nat)(t:K→Option Value)(F:K→ae)(R:ae),CM w b g (g+1) n f kvs wr W af o t F R) (λ_ wr=>wr.rangeLeft b (g+1));case atStart=>exact⟨_,_,_,_,_,_,aQ.o⟩
 case round=>
  obtain⟨W,af,o,t,F,R,z⟩:=hrel;have c:=Z z;have A:=z.fO;clear z;go_wp2_with (first|(at_next;refine ed rfl rfl rfl A ?_ ?_))
  .intro l ai;have HD:=Z (c.o.done ai M.o.dom);clear ai A;go_wp2;go_ret;exact⟨g,rfl,HD.o⟩
  .intro k u w1 bu hk aj B ak C p au bz;obtain⟨x,D,ax⟩:=M.o.some B;have HU:=Z ((ax.dV.X c.o.X nE).keep p (λy hy aS e=>by have L:=aS.2;have q:=U.o;omega));have aT:=Z (λu' w2 w3 (q:mJ w1 x u' w2)=>c.o.step (u':=u') (w2:=w2) (w3:=w3) aj B D ak C p au q (by have q:=U.o;omega));have aV:=Z (c.o.o.X p (λe=>by omega));have HX:=Z D;have aW:=Z hk;have aX:=Z C;have aY:=Z c.o.fO.left_eq;have aZ:=Z (show o<maxLen by have L:=c.o.num;have q:=aI.o;unfold maxLen;omega);clear A aj B ak C p au ax D hk;go_wp2_with fail;refine(IH.o (okB ok w) x u w1 HU.o ((WF.o.get HX.o).2)).mono ?_;rintro e w2 ⟨u',rfl,E⟩;have ay:aU w2 g o t:=by obtain⟨_,_,_,_,_,hc⟩:=E;exact aV.o.X hc id
   have bf:=Z E;have az:=aZ.o;have aA:=aW.o;clear E;go_wp2_with (first|(at_mapUpdate;refine bY (u:=u') rfl rfl rfl ay az rfl aA rfl ?_;intro w3 aB aC aF;go_frame));obtain⟨F',R',aG⟩:=aT.o u' w2 w3 bf.o aB aC aF;have aH:=Z aG;clear aG aB aC aF ay az aA;go_roundw;case rel=>exact⟨_,_,_,_,_,_,aH.o⟩
   case measure=>rw[aH.o.fO.left_eq,aY.o];exact aX.o
theorem Gw(n:Nat):madeCells (Value.nilIface).cells (n*1)=(List.replicate n Value.nilIface).toArray:=by
 apply Array.ext
 .simp[madeCells]
 .intro i a b;simp[madeCells,Value.cells];rw[Nat.mod_one];rfl
theorem DC(n:Nat)(f:n<1099511627776)(w:World):(Instr.makeSlice 151 (.int .i64 n) (.int .i64 n)).run Tryz.prog w=.ok (.slice (some ⟨w.heap.size,0,none⟩) n n) (w.alloc (.cells (List.replicate n Value.nilIface).toArray 20)):=by have h:(Tryz.prog.info? 20).map (λi=>(i.zero,i.size,i.bytes))=some (some .nilIface,1,16):=(by kernel_rfl);obtain⟨i,b,c,d,e⟩:=info_parts h;have a:=run_make (P:=Tryz.prog) w 151 20 i .nilIface Tryz.underlying151 b c .i64 .i64 n n (by omega) (Int.le_refl _) (by rw[e];omega) (by omega);simp only[Int.toNat_natCast,d] at a;rw[a,Gw]
theorem xu{e:Array Oper}{rest:List Oper}{o:Oper}{a:Act}{w:World}{Q:ah}(p:o.guard=none){x y:Operand}(q:o.op=.store 20 x y)
  {g i:Nat} {u:Value} {j:J} (r:a.eval x=.pointer (some ⟨g,i,none⟩)) (s:a.eval y=u) (c:rF u j) {cs:Y} {t:TypeId} (d:ay w g cs t) (v:i<cs.length)
  (h:∀b,ay b g (cs.set i u) t→O (·=g) w b→b.heap.size=w.heap.size→wpList Tryz.prog e Q rest (a.put o.dst undef) b):wpList Tryz.prog e Q (o::rest) a w:=by
 refine wpList_plain p λK f=> ?_
 have k:=d.cell i;have z:=d.frozen i;have A:=Tryz.sizeOf20;rw[List.getElem?_eq_getElem v] at k;obtain⟨l,m,n⟩:=d.setCell i u;have B:=f _ _ (h _ l m n);clear h f l m n;obtain⟨ok,C,c⟩:=c;unfold Oper.wp execOp;simp only[q,r,s];cases c<;>(simp[go_sem,A,k,z];exact B)
theorem bC.pM{ok ok':ae}{w a:World}{v:Value}{j:J}(h:bC ok w v j)(b:∀xs,j≠ .list xs)(c:∀t,j≠ .table t):bC ok' a v j:=by
 cases h with
 |null=>exact .null
 |bool=>exact .bool
 |int=>exact .int
 |float=>exact .float
 |text=>exact .text
 |list _ _ _=>exact absurd rfl (b _)
 |table _ _ _ _=>exact absurd rfl (c _)
theorem mD{w:World}{j:J}{v:Value}(h:bC No w v j)(a:dA j=false):mJ w j v w:=
 ⟨No,No,.plain h a (λx b=>b),λx h=>h.elim,λx h=>h.elim,O.refl _ _⟩
structure ZL (w:World) (g:Nat) (xs:List J) (wr:World) (n:Nat) (vs:Y) (R:ae):Prop where
 le:n<=xs.length
 len:vs.length=n
 jh:ay wr g (vs++List.replicate (xs.length - n) .nilIface) 20
 val:∀(i:Nat)(u:Value)(x:J),vs[i]?=some u→xs[i]?=some x→bC R wr u x
 rr:∀x,R x→g<x
 X:O No w wr
 wg:w.heap.size<=g
theorem ZL.step{w:World}{g:Nat}{xs:List J}{wr w2 w3:World}{n:Nat}{vs:Y}{R:ae}(h:ZL w g xs wr n vs R){x:J}(f:xs[n]?=some x){u:Value}(j:mJ wr x u w2)
  (m:ay w3 g ((vs++List.replicate (xs.length - n) Value.nilIface).set n u) 20) (d:O (·=g) w2 w3):∃o,ZL w g xs w3 (n+1) (vs++[u]) o:=by
 have k:O No wr w2:=by obtain⟨_,_,_,_,_,p⟩:=j;exact p
 have r:=j.any;have s:n<xs.length:=(gS'.1 f).1;have B:=h.jh.lt;have t:=h.wg;refine⟨λy=>R y∨wr.heap.size<=y,s,by simp[h.len],?_,λi v y c b=> ?_,λy b=>b.elim (h.rr y) (λb=>by omega),(h.X.trans' k).trans d (λi l e=>by omega),t⟩
 .have z:List.replicate (xs.length - n) Value.nilIface=Value.nilIface::List.replicate (xs.length - (n+1)) Value.nilIface:=by
   rw[show xs.length - n=(xs.length - (n+1))+1 by omega,List.replicate_succ]
  have A:(vs++List.replicate (xs.length - n) Value.nilIface).set n u=(vs++[u])++List.replicate (xs.length - (n+1)) Value.nilIface:=by rw[z,List.set_append_right _ _ (Nat.le_of_eq h.len),h.len,Nat.sub_self];simp
  rw[←A];exact m
 .by_cases l:i<vs.length
  .rw[List.getElem?_append_left l] at c;exact(((h.val i v y c b).X k nE).X d (λq a e=>by have:=h.rr q a;omega)).mono (λq _ a=> .inl a)
  .have:i=vs.length:=by
    have:=(gS'.1 c).1;simp at this;omega
   subst this;rw[List.getElem?_append_right lR',Nat.sub_self] at c;cases c;rw[h.len,f] at b;cases b;exact(r.X d (λq a e=>by have C:wr.heap.size<=q:=a;have D:q=g:=e;omega)).mono (λq _ a=> .inr a)
theorem ZL.done{w:World}{g:Nat}{xs:List J}{wr:World}{vs:Y}{R:ae}(h:ZL w g xs wr xs.length vs R)(k:xs.length<=maxLen):mJ w (.list xs) (.iface 151 (.slice (some ⟨g,0,none⟩) xs.length xs.length)) wr:=by
 have d:=h.jh;rw[Nat.sub_self,List.replicate_zero,List.append_nil] at d;have l:=h.wg;refine⟨λy=>y=g∨R y,No,.plain (.list (vs:=vs) ?_ h.len (λi u x m n=>(h.val i u x m n).mono (λq _ o=> .inr o))) rfl (λx p=>p),λy b=>⟨?_,id⟩,λy b=>b.elim,h.X⟩
 .refine⟨by rw[List.length_map,h.len];exact k,λr a=> ?_,_,_,by rw[List.length_map,h.len],(by intro e;cases e),λ_=>⟨_,_,rfl,.inl rfl,λi r a j u f=> ?_⟩⟩
  .obtain⟨q, -,rfl⟩:=List.mem_map.1 a;rfl
  .rw[List.getElem?_map] at a;cases c:vs[i]? with
   |none=>rw[c] at a;cases a
   |some q=>
    rw[c] at a;cases a;cases j with
    |zero=>cases f;rw[d.cell,show 0+i*1+0=i by omega,c]
    |succ j=>simp at f
 .rcases b with rfl|b
  .exact l
  .have:=h.rr y b;omega
theorem rY(N:Nat)(I:N<1099511627776)(d:Nat):∀(ok:ae)(j:J)(v:Value)(w:World),bC ok w v j→Wf N d j→Calls Tryz.prog 141 #[v] w (EU w j):=by
 induction d with
 |zero=>intro ok j v w _ h;exact h.elim
 |succ d K=>
  intro ok j v w s L;have M:=Z K;have t:=Z L;have a:=Z s;have P:∀z,(Instr.typeAssert v 20 67 true).run Tryz.prog z=.ok (.tuple #[mapOf v,.bool (dA j)]) z:=λz=>dP s.dL
  have k:=Z P;clear K L P;cases s with
  |@table b n f kvs hm hb hd h=>have Q:=lZ N d I M.o ok kvs b w a.o t.o;have y:=Z Q;have c:∀z,(Instr.typeAssert (.iface 67 (.map (some b))) 20 67 true).run Tryz.prog z=.ok (.tuple #[.map (some b),.bool true]) z:=k.o;clear Q hm hb hd h;go_enter Tryz.func141,Tryz.ntmps141;go_wp2_with fail;refine y.o.mono ?_;rintro e w1 ⟨g,rfl,l⟩;have HC:=Z l;clear l;go_wp2;go_ret;exact⟨_,rfl,HC.o⟩
  |@list S vs xs A B h=>
   have C:=A.1;have c:∀z,(Instr.typeAssert (.iface 151 S) 20 67 true).run Tryz.prog z=.ok (.tuple #[.map none,.bool false]) z:=k.o;have m:=zt S;have D:=Z A;have HN:=Z B;have HE:=Z h;obtain⟨-, -,la,lc,rfl, -, -⟩:=A;simp only[List.length_map] at D a C c m⊢;rw[B] at D a C c m⊢;unfold maxLen at C;have ax:xs.length<1099511627776:=Nat.lt_of_le_of_lt t.o.1 I;have az:=DC xs.length ax;clear B h;go_enter Tryz.func141,Tryz.ntmps141;obtain⟨g,p⟩:∃g,g=w.heap.size:=⟨_,rfl⟩;go_wp2_with fail;rw[←p];have HG:=Z p;have aA:=Z (show ZL w g xs (w.alloc (.cells (List.replicate xs.length Value.nilIface).toArray 20)) 0 [] No from
    ⟨zL',rfl,by simpa using ay.newAt p (List.replicate xs.length Value.nilIface) 20,λi u x h=>by simp at h,λx h=>h.elim,(O.refl No w).alloc _,Nat.le_of_eq p.symm⟩)
   clear p az;go_loopw [22] (λE wr=>∃(n:Nat)(vs:Y)(R:ae),E=.int .i64 n∧ZL w g xs wr n vs R) (λE _=>xs.length - (intOf E).toNat);case atStart=>exact⟨0,_,_,rfl,aA.o⟩
   case round=>
    obtain⟨n,T,R,rfl,U⟩:=hrel;have o:=Z U;clear U;by_cases F:n<xs.length
    .obtain⟨x,G⟩:=gX' xs n (F);obtain⟨u,H⟩:=gX' vs n ((by rw[HN.o];exact F));obtain⟨lb,lo,rfl,aB,q⟩:=D.o.at (i:=n) (r:=[u]) (by simp[H]);have q:=(q.X o.o.X id).one;simp only[Nat.mul_one] at q;have HU:=Z ((HE.o n u x H G).dV.X o.o.X nE);have V:=Z G;have aH:(n:Int)<(xs.length:Int):=(by omega);clear G H aB;go_wp2_with fail;refine(M.o (okB ok w) x u wr HU.o (t.o.2 x (mG' V.o))).mono ?_;rintro e w2 ⟨u',rfl,l⟩;have W:=l.any.dL;have af:ay w2 g (T++List.replicate (xs.length - n) .nilIface) 20:=by obtain⟨_,_,_,_,_,hc⟩:=l;exact o.o.jh.X hc id
     have ai:n<(T++List.replicate (xs.length - n) Value.nilIface).length:=by rw[List.length_append,List.length_replicate,o.o.len];omega
     have y:=Z l;clear l q;go_wp2_with (first|(refine xu rfl rfl rfl rfl W af ai ?_;intro w3 aj ak aC));obtain⟨R',au⟩:=o.o.step V.o y.o aj ak;have aF:=Z au;clear au aj ak aC af ai W;go_roundw;case rel=>exact⟨n+1,_,_,by go_num,aF.o⟩
     case measure=>simp[intOf];omega
    .have aG:n=xs.length:=Nat.le_antisymm o.o.le (Nat.not_lt.1 F);subst aG;have aI:¬((xs.length:Nat):Int)<(xs.length:Int):=(by omega);go_wp2;go_ret;exact⟨_,rfl,o.o.done (by unfold maxLen;omega)⟩
  |@bool b0=>have c:∀z,(Instr.typeAssert (.iface 4 (.bool b0)) 20 67 true).run Tryz.prog z=.ok (.tuple #[.map none,.bool false]) z:=k.o;have m:=Ju (.bool b0);go_enter Tryz.func141,Tryz.ntmps141;go_wp2;go_ret;exact⟨_,rfl,mD (a.o.pM (λ_ e=>by cases e) (λ_ e=>by cases e)) rfl⟩
  |@int i0=>have c:∀z,(Instr.typeAssert (.iface 2 (.int .i64 i0)) 20 67 true).run Tryz.prog z=.ok (.tuple #[.map none,.bool false]) z:=k.o;have m:=Jv (.int .i64 i0);go_enter Tryz.func141,Tryz.ntmps141;go_wp2;go_ret;exact⟨_,rfl,mD (a.o.pM (λ_ e=>by cases e) (λ_ e=>by cases e)) rfl⟩
  |@float f0=>have c:∀z,(Instr.typeAssert (.iface 22 (.float .f64 f0)) 20 67 true).run Tryz.prog z=.ok (.tuple #[.map none,.bool false]) z:=k.o;have m:=IE (.float .f64 f0);go_enter Tryz.func141,Tryz.ntmps141;go_wp2;go_ret;exact⟨_,rfl,mD (a.o.pM (λ_ e=>by cases e) (λ_ e=>by cases e)) rfl⟩
  |@text t0=>have c:∀z,(Instr.typeAssert (.iface 9 (.string t0)) 20 67 true).run Tryz.prog z=.ok (.tuple #[.map none,.bool false]) z:=k.o;have m:=Jy (.string t0);go_enter Tryz.func141,Tryz.ntmps141;go_wp2;go_ret;exact⟨_,rfl,mD (a.o.pM (λ_ e=>by cases e) (λ_ e=>by cases e)) rfl⟩
  |null=>
   have c:∀z,(Instr.typeAssert .nilIface 20 67 true).run Tryz.prog z=.ok (.tuple #[.map none,.bool false]) z:=k.o;have m:∀z,(Instr.typeAssert .nilIface 20 151 true).run Tryz.prog z=.ok (.tuple #[.slice none 0 0,.bool false]) z:=λz=>by kernel_rfl
   go_enter Tryz.func141,Tryz.ntmps141;go_wp2;go_ret;exact⟨_,rfl,mD (a.o.pM (λ_ e=>by cases e) (λ_ e=>by cases e)) rfl⟩
end Go.Proofs.YtljaoopfomcaoaaGreatDoor
