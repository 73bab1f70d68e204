/- A part of the proof. -/
import Derived.Test.YtljaoopfomcaoaaGreatDoorMc7
set_option linter.unusedVariables false
set_option linter.unusedSimpArgs false
set_option maxRecDepth 100000
set_option maxHeartbeats 4000000
namespace Go.Proofs.YtljaoopfomcaoaaGreatDoor
open Go.RowKit
structure AO (ok:ae) (w W0:World) (g:Nat) (cc vc:Y) (o:T) (wr:World) (oc:Y):Prop where
 b0:ay wr g cc 30
 b1:ay wr (g+1) vc 26
 b2:ay wr (g+2) bu 26
 b3:ay wr (g+3) oc 26
 val:aG (jI ok w (g+3)) wr oc (.table o)
 X:O No w wr
 A7:O (λk=>g+3<=k) W0 wr
theorem AO.step{ok:ae}{w b:World}{g:Nat}{c d:Y}{o:T}{wr e:World}{f:Y}(h:AO ok w b g c d o wr f)(a:O No wr e):AO ok w b g c d o e f:=
 ⟨h.b0.X a id,h.b1.X a id,h.b2.X a id,h.b3.X a id,h.val.X a nE,h.X.trans' a,h.A7.trans' a⟩
theorem AO.fill{ok:ae}{w d:World}{g:Nat}{f j:Y}{o k:T}{wr b:World}{l c:Y}(h:AO ok w d g f j o wr l)(q:w.heap.size<=g)(a:O (·=g+3) wr b)(m:ay b (g+3) c 26)(n:aG (jI ok w (g+3)) b c (.table k)):AO ok w d g f j k b c:=
 ⟨h.b0.X a (by omega),h.b1.X a (by omega),h.b2.X a (by omega),m,n,h.X.trans a (λi p e=>by omega),h.A7.trans a (λi p e=>by omega)⟩
theorem AO.other{ok:ae}{w d:World}{g x:Nat}{f j:Y}{o:T}{wr b:World}{c:Y}(h:AO ok w d g f j o wr c)(m:w.heap.size<=g)(n:g+3<x)(a:O (·=x) wr b)(k:aG (jI ok w (g+3)) b c (.table o)):AO ok w d g f j o b c:=
 ⟨h.b0.X a (by omega),h.b1.X a (by omega),h.b2.X a (by omega),h.b3.X a (by omega),k,h.X.trans a (λi l e=>by omega),h.A7.trans a (λi l e=>by omega)⟩
def D6(a:T)(k:K):J:=match get a k with
 |none=> .table []
 |some x=>x
theorem GM{a t:T}{k:K}(h:D6 a k=.table t):bH a k=some t:=by
 unfold D6 at h;unfold bH;cases hg:get a k with
 |none=>rw[hg] at h;cases h;rfl
 |some x=>rw[hg] at h;subst h;rfl
theorem yM{a:T}{k:K}(h:dA (D6 a k)=false):bH a k=none:=by
 unfold D6 at h;unfold bH;cases hg:get a k with
 |none=>rw[hg] at h;cases h
 |some x=>rw[hg] at h;cases x<;>first|rfl|cases h
theorem Lj{ok:ae}{a:T}{k:K}{f:World}{e:Ending}(h:match get a k with
  |some x=>∃cs,e=.returned (.tuple #[.agg cs.toArray,.bool true])∧aG ok f cs x
  |none=>e=.returned (.tuple #[.agg bu.toArray,.bool false])):∃(b:Y)(c:Bool),e=.returned (.tuple #[.agg b.toArray,.bool c])∧(b.length=7∧b.all (·.oneCell')=true)∧(c=true→aG ok f b (D6 a k))∧(c=false→D6 a k=.table []):=by
 unfold D6;cases hg:get a k with
 |none=>rw[hg] at h;exact⟨bu,false,h,⟨rfl,rfl⟩,(by intro h;cases h),λ_=>rfl⟩
 |some x=>rw[hg] at h;obtain⟨cs,g,d⟩:=h;exact⟨cs,true,g,⟨d.length,d.one⟩,λ_=>d,(by intro h;cases h)⟩
theorem Ll{vals:J}{n:Nat}{p:K × J}(h:(fM vals)[n]?=some p):(kE vals)[n]?=some p.1∧(gZ vals)[n]?=some p.2:=by
 cases vals with
 |table t=>simp only[fM] at h;simp[kE,gZ,h]
 | _=>simp[fM] at h
theorem I5(vals:J):kE vals=(fM vals).map (·.1):=by cases vals<;>rfl
theorem oN(U:List K)(N:Nat)(hU:U.length<1099511627776)(jH:gK∈U)(m:Bool)(D:Nat):∀(h:Nat)(c:Ch),iW U N D h c→∀(E:Nat)(ok:ae)(cc:Y)(jv:J)(cv:Y)(v:T)(w:World),dU ok w cc c→aG ok w cv jv→((jv=.null∧v=[])∨jv=.table v)→WU U N E (.table v)→
  Calls Tryz.prog 16 #[.agg cc.toArray,.agg cv.toArray,.bool m] w (KZ ok w (dJ m c v)):=by
 intro h;induction h with
 |zero=>intro c hc;exact hc.elim
 |succ h ih=>
  intro c hc E ok cc jv cv v w iH gu jJ iI;have IH:=Z ih;have l7:=Z hc;have gy:=Z iI;have jK:=Z jJ;have jL:=Z iH.dV;have l9:=Z gu.dV;have gz:=hU;obtain⟨O0,gG⟩:∃O0,O0=over m (bn c.deps) v (fM c.vals):=⟨_,rfl⟩;have mf:=Z gG;have jM:dJ m c v=ja m c.deps O0:=(by rw[sH,gG]);have mi:=Z jM;have gI:WU U N (D+1) (.table (fM c.vals)):=by
   cases aU:c.vals with
   |table s=>exact(hc.2.2.2.1 s aU).1.mono (λ_ h=>h) lR' (by omega)
   | _=>exact WU.nil
  have jO:=Z gI;have bJ:=Z gI.sorted;have bg:=Z (Gl m (bn c.deps) v);have mD:=Z (show WU U N (E+(D+1)) (.table O0) by rw[gG];exact WU.over _ _ iI.max gI.Cc);obtain⟨name,dE,k,b,i,f,t,kv,lv,dv,wv,rfl, -, -,hv,⟨aC,P,hn,jQ⟩, -⟩:=iH.dV.cells;obtain⟨hk,bK,hl,jR,hr⟩:=hv.parts;rw[I5] at hk;obtain⟨L,iJ⟩:∃L,L=fM c.vals:=⟨_,rfl⟩;rw[←iJ] at hk;have aF:=Z iJ;have HK:=Z hk;have HL:=Z hl;have HR:=Z hr;have mF:=Z jR;have HD:=Z P;have jS:=Z hn;have mG:=Z jQ;have jT:=hk.1;have mJ:=P.1;have mM:=hl.1;obtain⟨-, -,ka,kc,rfl, -, -⟩:=hk;obtain⟨-, -,la,lc,rfl, -, -⟩:=hl;obtain⟨-, -,da,dc,rfl, -, -⟩:=P;simp only[aH,List.length_map] at jT HK jL⊢;unfold maxLen at jT mJ mM;obtain⟨vk,vb,vi,vf,vt,aQ,aS,rfl⟩:=gu.seven;have iK:=Z gu.oH;have jU:∀W,(((w.alloc (.cells (az name dE k b i f t (.slice ka L.length kc) (.slice la bK.length lc) (.slice da aC.length dc) wv).toArray 30)).alloc (.cells (ai vk vb vi vf vt aQ aS).toArray 26)).alloc (.cells bu.toArray 26))=W→
    ay W w.heap.size (az name dE k b i f t (.slice ka L.length kc) (.slice la bK.length lc) (.slice da aC.length dc) wv) 30∧ay W (w.heap.size+1) (ai vk vb vi vf vt aQ aS) 26∧ay W (w.heap.size+2) bu 26∧O No w W∧W.heap.size=w.heap.size+3:=by
   rintro W rfl;exact⟨((ay.new _ _ _).alloc _).alloc _,(ay.newAt (by simp) _ _).alloc _,ay.newAt (by simp) _ _,(((O.refl No w).alloc _).alloc _).alloc _,by simp⟩
  have HF:=Z jU;clear jU iH gu hv hn jQ jR hr hc iI jJ ih gG jM gI iJ;go_enter Tryz.func16,Tryz.ntmps16;unfold az ai
  go_upto_if 22 with fail
  generalize jV:World.alloc _ _=W;obtain⟨iL,iM,dh,c1,iO⟩:=HF.o W jV;clear jV HF;obtain⟨g,hg⟩:∃g,g=w.heap.size:=⟨_,rfl⟩;rw[←hg] at iL iM dh iO⊢;rw[show g+1+1=g+2 from rfl];have HG:=Z hg;have iP:=Z iL;have iQ:=Z iM;have iR:=Z dh;have gQ:=Z c1;have jX:=Z iO;clear iL iM dh c1 iO hg
  go_cut [23] from 23 to 23 (λpq wc=>∃vb vi vf vt aQ aS,aG (okB ok w) wc (ai 7 vb vi vf vt aQ aS) (.table v)∧ay wc g (az name dE k b i f t (.slice ka L.length kc) (.slice la bK.length lc) (.slice da aC.length dc) wv) 30∧ay wc (g+1) (ai 7 vb vi vf vt aQ aS) 26∧ay wc (g+2) bu 26∧O No w wc∧wc.heap.size=g+3)
  case first=>
   have mO:=kN 7;by_cases h0:vk=0
   .subst h0;have jY:v=[]:=by
     rcases jK.o with⟨-,h⟩|h
     .exact h
     .have:=iK.o.1 rfl;rw[h] at this;cases this
    have mP:=Z jY;have fE:=iQ.o;clear jY;go_wp2_with (first|(refine aA rfl au rfl rfl rfl fE rfl rfl rfl ?_;intro w3 gU R dK))
    go_meet
    refine⟨_,_,_,_,_,_,?_,iP.o.X R (by omega),gU,iR.o.X R (by omega),gQ.o.trans R (λi hi e=>by have:=HG.o;omega),by rw[dK];exact jX.o⟩;rw[mP.o];exact mr _ _
   .have pz:(vk==0)=false:=(by simpa using h0);have S:jv=.table v:=by
     rcases jK.o with⟨h, -⟩|h
     .exact absurd (iK.o.2.2.1 h) h0
     .exact h
    subst S;have h7:=iK.o.2.2.2 rfl;subst h7;clear h0;go_wp2_with fail
    go_meet
    exact⟨_,_,_,_,_,_,l9.o.X gQ.o nE,iP.o,iQ.o,iR.o,gQ.o,jX.o⟩
  case rest=>
   obtain⟨vb,vi,vf,vt,aQ,aS,gV,iT,fE,di,iU,iV⟩:=hcut;have mQ:=Z gV;have pF:=Z iU;have jZ:(ai 7 vb vi vf vt aQ aS).all (·.oneCell')=true:=gV.one;have ku:=Z (show AO ok w wc g (az name dE k b i f t (.slice ka L.length kc) (.slice la bK.length lc) (.slice da aC.length dc) wv) (ai 7 vb vi vf vt aQ aS) (over m (bn c.deps) v (L.take 0)) (wc.alloc (.cells (ai 7 vb vi vf vt aQ aS).toArray 26)) (ai 7 vb vi vf vt aQ aS) from
    ⟨iT.alloc _,fE.alloc _,di.alloc _,ay.newAt iV.symm _ _,(by rw[bg.o.start gy.o.sorted (λk=>qx m _ _)];exact(gV.X ((O.refl No wc).alloc _) nE).mono (λb _ h=> .inl h)),iU.alloc _,(O.refl _ _).alloc _⟩)
   have mV:=Z iV;have kz:=fE.cells;have k7:(wc.alloc (.cells (ai 7 vb vi vf vt aQ aS).toArray 26)).cell? ⟨g,7,none⟩=some (.slice ka L.length kc):=(iT.alloc _).cell 7;clear gV iT fE di iU iV iP iQ iR gQ;go_wp2_with (first|(with_reducible refine V rfl au rfl rfl kz rfl ?_)|(with_reducible refine ak rfl au rfl rfl rfl rfl rfl jZ ?_));rw[mV.o];clear k7 kz jZ;go_loopw [29] (λct wr=>∃(n:Nat)(oc:Y),ct=.int .i64 n∧n<=L.length∧AO ok w wc g (az name dE k b i f t (.slice ka L.length kc) (.slice la bK.length lc) (.slice da aC.length dc) wv) (ai 7 vb vi vf vt aQ aS) (over m (bn c.deps) v (L.take n)) wr oc) (λct _=>L.length - (intOf ct).toNat);case atStart=>exact⟨0,_,rfl,zL',ku.o⟩
   case round=>
    obtain⟨n,oc,rfl,mW,dF⟩:=hrel;have aj:=Z dF;clear dF ku;by_cases dY:n<L.length
    .obtain⟨p,hp⟩:=gX' L n (dY);have iZ:=Ll (vals:=c.vals) (n:=n) (p:=p) (by rw[←aF.o];exact hp);have mX:n<bK.length:=by rw[mF.o];exact(gS'.1 iZ.2).1
     obtain⟨r,dL⟩:=gX' bK n (mX);obtain⟨kb,ko,rfl,mY,gW⟩:=HK.o.at (i:=n) (r:=[.string p.1]) (by simp[hp]);obtain⟨lb,lo,rfl,mZ,dw⟩:=HL.o.at (i:=n) (r:=r) dL;have gW:=(gW.X aj.o.X id).one;simp only[Nat.mul_one] at gW;have dw:=dw.X aj.o.X id;have dZ:=(HR.o n r p.2 dL iZ.2).X aj.o.X nE;obtain⟨rk,rb,ri,rf,rt,bM,bP,rfl⟩:=dZ.seven;have dM:=dZ.length;have fF:=dZ.one;have kC:=Z dZ.oH;have kD:=Z dZ;have HP:=Z (show(fM c.vals)[n]?=some p by rw[←aF.o];exact hp);have ng:(n:Int)<(L.length:Int):=(by omega);have pG:(n:Int)<(bK.length:Int):=(by omega);have q8:wr.cell? ⟨g,8,none⟩=some (.slice (some ⟨lb,lo,none⟩) bK.length lc):=aj.o.b0.cell 8;obtain⟨gv,kE⟩:∃gv,gv=wr.heap.size:=⟨_,rfl⟩;have ni:=Z (show g+3<gv by have:=aj.o.b3.lt;omega);have kF:=Z kE;clear hp dL mY mZ dZ kE iZ;go_upto_region 8 with(first|(with_reducible refine V rfl au rfl rfl dw dM ?_)|(with_reducible refine ak rfl au rfl rfl rfl rfl dM fF ?_))
     obtain⟨w2,dO⟩:∃w2,w2=wr.alloc (.cells (ai rk rb ri rf rt bM bP).toArray 26):=⟨_,rfl⟩;have jc:=ay.newAt kF.o (ai rk rb ri rf rt bM bP) 26;rw[←dO] at jc⊢;rw[←kF.o];have ed:=Z (show O No wr w2 by rw[dO];exact(O.refl No wr).alloc _);have aI:=Z jc;clear jc dO q8 gW dw dM fF;have jd:=Z (aj.o.step ed.o);have aN:=Z ((kD.o.X ed.o nE).mono (ok':=jI ok w (g+3)) (λb _ h=> .inl h));obtain⟨G,hO⟩:∃G,G=over m (bn c.deps) v (L.take n):=⟨_,rfl⟩;have bC:=Z (show G=over m (bn c.deps) v ((fM c.vals).take n) by rw[hO,aF.o]);have eu:WU U N (E+(D+1)) (.table G):=by rw[bC.o];exact WU.over _ _ gy.o.max jO.o.take.Cc
     have gX:=Z eu.sorted;have fG:=Z (Nat.lt_of_le_of_lt eu.len gz);have bY:=Z (vS (ok:=ok) (w:=w) (g:=g+3) (by have:=HG.o;omega));rw[←hO] at jd;have B:=Z jd.o;clear jd aj;clear eu hO kD;obtain⟨ob,oi,of,ot,bZ,cu,rfl⟩:=B.o.val.fV;have kG:=B.o.b1.cells;go_wp2_with (first|(with_reducible refine V rfl au rfl rfl kG rfl ?_));refine(jW (okB ok w) v p.1 vb vi vf vt aQ aS w2 (mQ.o.X B.o.A7 (λb q e=>by have:=q.2;have:=HG.o;omega))).mono ?_;rintro e w3 ⟨R,dB⟩;simp only[yz] at dB;have B:=Z (B.o.step R);have aI:=Z (aI.o.X R id);have aN:=Z (aN.o.X R nE);clear R kG;cases jb:get v p.1 with
     |none=>
      rw[jb] at dB;obtain rfl:=dB;have aZ:=Z jb;have ny:bu.all (·.oneCell')=true:=rfl;clear jb;go_upto_region 10 with(first|(with_reducible refine ak rfl au rfl rfl rfl rfl rfl ny ?_))
      obtain⟨w4,bT⟩:∃w4,w4=w3.alloc (.cells bu.toArray 26):=⟨_,rfl⟩;rw[←bT];have cO:O No w3 w4:=by rw[bT];exact(O.refl No w3).alloc _
      have B:=Z (B.o.step cO);have aI:=Z (aI.o.X cO id);have aN:=Z (aN.o.X cO nE);clear bT cO;have bm:=B.o.b3.cells;have bv:=aI.o.cells;go_wp2_with (first|(with_reducible refine V rfl au rfl rfl bm rfl ?_)|(with_reducible refine V rfl au rfl rfl bv rfl ?_));refine(jD (jI ok w (g+3)) G p.1 p.2 ob oi of ot bZ cu _ _ B.o.val aN.o gX.o fG.o).mono ?_;rintro e nz ⟨c2,rfl,af,bU⟩;have fH:=B.o.b3.X bU id;have fJ:=af.length;have fK:=af.one;have fO:=Z (af.mono (ok':=jI ok w (g+3)) (λb _ q=>q.elim id (λh=> .inr (by have h2:=B.o.b3.lt;omega))));have bD:=Z (B.o.step bU);clear af bU bm bv;go_wp2_with (first|(with_reducible refine aA rfl au rfl rfl rfl fH rfl fJ fK ?_;intro nC dG R dK));have dP:=Z (bD.o.fill (Nat.le_of_eq HG.o.symm) R dG (fO.o.X R (λb q e=>bY.o (e▸q))));clear dG R dK fH;go_roundw;case rel=>first|exact⟨n+1,c2,by go_num,by omega,(by rw[show over m (bn c.deps) v (L.take (n+1))=ins G p.1 p.2 by rw[aF.o,bg.o.ins (z:=p.2) bJ.o HP.o (by rw[aZ.o];rfl),←bC.o]];exact dP.o)⟩|((repeat apply Exists.intro);exact⟨⟨n+1,c2,by go_num,by omega,(by rw[show over m (bn c.deps) v (L.take (n+1))=ins G p.1 p.2 by rw[aF.o,bg.o.ins (z:=p.2) bJ.o HP.o (by rw[aZ.o];rfl),←bC.o]];exact dP.o)⟩,rfl⟩)
      case measure=>simp[intOf];omega
     |some x0=>
      rw[jb] at dB;obtain⟨xc,rfl,bF⟩:=dB;have aZ:=Z jb;have fP:=bF.length;have gY:=bF.one;obtain⟨xk,xb,xi,xf,xt,eF,eG,rfl⟩:=bF.seven;have dQ:=Z bF.oH;have bf:=Z (bF.mono (ok':=jI ok w (g+3)) (λb _ h=> .inl h));obtain⟨gx,kH⟩:∃gx,gx=w3.heap.size:=⟨_,rfl⟩;have kJ:=Z kH;have nD:=Z (show g+3<gx by have:=B.o.b3.lt;omega);clear jb kH bF;go_upto_region 9 with(first|(with_reducible refine ak rfl au rfl rfl rfl rfl fP gY ?_))
      obtain⟨w4,bT⟩:∃w4,w4=w3.alloc (.cells (ai xk xb xi xf xt eF eG).toArray 26):=⟨_,rfl⟩;have je:=ay.newAt kJ.o (ai xk xb xi xf xt eF eG) 26;rw[←bT] at je⊢;rw[←kJ.o];have bW:=Z je;have cO:O No w3 w4:=by rw[bT];exact(O.refl No w3).alloc _
      have B:=Z (B.o.step cO);have aI:=Z (aI.o.X cO id);have aN:=Z (aN.o.X cO nE);have bf:=Z (bf.o.X cO nE);have kx:w4.cell? ⟨gx,0,none⟩=some (.int .i64 xk):=bW.o.cell 0;clear je bT cO;by_cases gZ:xk=0
      .subst gZ;have nG:x0=.null:=dQ.o.1 rfl;subst nG;cases m with
       |false=>
        have ig:=B.o.b3.cells;go_wp2_with (first|(with_reducible refine V rfl au rfl rfl ig rfl ?_));refine(vO (jI ok w (g+3)) G p.1 ob oi of ot bZ cu _ B.o.val fG.o).mono ?_;rintro e w5 ⟨c2,rfl,af,bU⟩;have gU:=B.o.b3.X bU id;have fJ:=af.length;have fK:=af.one;have fO:=Z (af.mono (ok':=jI ok w (g+3)) (λb _ q=>q.elim id (λh=> .inr (by have h2:=B.o.b3.lt;omega))));have bD:=Z (B.o.step bU);clear af bU ig kx;go_wp2_with (first|(with_reducible refine aA rfl au rfl rfl rfl gU rfl fJ fK ?_;intro w6 dG R dK));have dP:=Z (bD.o.fill (Nat.le_of_eq HG.o.symm) R dG (fO.o.X R (λb q e=>bY.o (e▸q))));clear dG R dK gU;go_roundw;case rel=>first|exact⟨n+1,c2,by go_num,by omega,(by rw[show over false (bn c.deps) v (L.take (n+1))=del G p.1 by rw[aF.o,bg.o.del bJ.o HP.o (by rw[aZ.o];rfl),←bC.o]];exact dP.o)⟩|((repeat apply Exists.intro);exact⟨⟨n+1,c2,by go_num,by omega,(by rw[show over false (bn c.deps) v (L.take (n+1))=del G p.1 by rw[aF.o,bg.o.del bJ.o HP.o (by rw[aZ.o];rfl),←bC.o]];exact dP.o)⟩,rfl⟩)
        case measure=>simp[intOf];omega
       |true=>
        have bx:=bW.o.cells;go_wp2_with (first|(with_reducible refine V rfl au rfl rfl bx rfl ?_)|(with_reducible refine aJ rfl au rfl rfl bx rfl ?_));refine(aY _ _ _ _ _ _ _ _).mono ?_;rintro e w5 ⟨rfl,aB⟩;have B:=Z (B.o.step aB);have aI:=Z (aI.o.X aB id);have bW:=Z (bW.o.X aB id);have aN:=Z (aN.o.X aB nE);have bf:=Z (bf.o.X aB nE);clear bx aB;clear kx;go_wp2_with fail;go_roundw;case rel=>first|exact⟨n+1,_,by go_num,by omega,(by rw[show over true (bn c.deps) v (L.take (n+1))=G by rw[aF.o,bg.o.same bJ.o HP.o (by rw[aZ.o];rfl),←bC.o]];exact B.o)⟩|((repeat apply Exists.intro);exact⟨⟨n+1,_,by go_num,by omega,(by rw[show over true (bn c.deps) v (L.take (n+1))=G by rw[aF.o,bg.o.same bJ.o HP.o (by rw[aZ.o];rfl),←bC.o]];exact B.o)⟩,rfl⟩)
        case measure=>simp[intOf];omega
      .have pI:(xk==0)=false:=(by simpa using gZ);have bx:=bW.o.cells;go_wp2_with (first|(with_reducible refine V rfl au rfl rfl bx rfl ?_)|(with_reducible refine aJ rfl au rfl rfl bx rfl ?_));refine(aY _ _ _ _ _ _ _ _).mono ?_;rintro e w5 ⟨rfl,aB⟩;have B:=Z (B.o.step aB);have aI:=Z (aI.o.X aB id);have bW:=Z (bW.o.X aB id);have aN:=Z (aN.o.X aB nE);have bf:=Z (bf.o.X aB nE);clear bx aB;clear kx;by_cases dC:xk=7
       .subst dC;obtain⟨x,rfl⟩:=dm (dQ.o.2.1 rfl);have bv:=aI.o.cells;go_wp2_with (first|(with_reducible refine V rfl au rfl rfl bv rfl ?_)|(with_reducible refine aJ rfl au rfl rfl bv rfl ?_));refine(aY _ _ _ _ _ _ _ _).mono ?_;rintro e w6 ⟨rfl,bG⟩;have B:=Z (B.o.step bG);have aI:=Z (aI.o.X bG id);have bW:=Z (bW.o.X bG id);have aN:=Z (aN.o.X bG nE);have bf:=Z (bf.o.X bG nE);clear bv bG;by_cases ik:rk=7
        .subst ik;obtain⟨v',jf⟩:=dm (kC.o.2.1 rfl);have jg:=Z jf;rw[jf] at aN;have WX:=Z (show WU U N (E+(D+1)) (.table x) by
          cases E with
          |zero=>exact gy.o.elim
          |succ E=>exact((gy.o.get aZ.o).2).mono (λ_ h=>h) lR' (by omega))
         have WY:=Z (show WU U N (E+(D+1)) (.table v') by rw[←jg.o];exact((jO.o.2 p (mG' HP.o)).2).mono (λ_ h=>h) lR' (by omega));clear jf;go_upto_region 14 with fail
         obtain⟨wx,dR⟩:∃wx,wx=w6:=⟨_,rfl⟩;rw[←dR] at B aI bW aN bf⊢;clear dR;obtain⟨mg,kK⟩:∃mg,mg=m:=⟨_,rfl⟩;have eH:=Z kK;clear kK;refine aT (FI [.eq (.agg (ai 7 ob oi of ot bZ cu).toArray),.eq (.string p.1),.eq (.agg (ai 7 xb xi xf xt eF eG).toArray),.eq (.agg (ai 7 rb ri rf rt bM bP).toArray),.eq (.bool mg),.eq (.bool mg),.unless mg (.eq (.agg (az name dE k b i f t (.slice (some ⟨kb,ko,none⟩) L.length kc) (.slice (some ⟨lb,lo,none⟩) bK.length lc) (.slice da aC.length dc) wv).toArray)),.unless mg (.eq (.string p.1)),.unless mg (.eq (.bool (bn c.deps p.1))),.eq (.bool (m||bn c.deps p.1)),.val (jI ok w (g+3)) (.table (bV (m||bn c.deps p.1) x v')),.val (jI ok w (g+3)) (.table (ins G p.1 (.table (bV (m||bn c.deps p.1) x v')))),.any])
          (λQ w'=>PG (g+3) (ai 7 ob oi of ot bZ cu) (jI ok w (g+3)) (.table (ins G p.1 (.table (bV (m||bn c.deps p.1) x v')))) wx w' (Q 12)) (by kernel_rfl) (by kernel_rfl) (PG.start B.o.b3) ?_ ?_
         .refine⟨?_,?_,?_,?_,?_,?_,?_,?_,?_,?_,?_,?_,?_,trivial⟩
          .intro Q a M K P I o H A l C;have e8:a.tmps[8]?.getD undef=.pointer (some ⟨(g+3),0,none⟩):=H 8 rfl;have nH:=ny1 I 12 11 rfl (ny1 I 11 0 rfl P);have kL:=l;rw[nH] at kL;obtain⟨c',q,h1, -⟩:=kL.box;obtain rfl:=h1 rfl;refine ax rfl ?_;refine aO au rfl (vE e8) q.cells rfl ?_;exact C _ _ rfl (by simpa[dn] using l) Sy
          .intro Q a M K P I o H A l C;have nI:a.tmps[10]?.getD undef=.string p.1:=H 10 rfl;clear I o H A;go_simp;exact C _ _ rfl (by simpa[dn] using l) Sy
          .intro Q a M K P I o H A l C;have nJ:a.tmps[12]?.getD undef=.pointer (some ⟨gx,0,none⟩):=H 12 rfl;refine ax rfl ?_;refine aO au rfl (vE nJ) (bW.o.X l.X (by have:=nD.o;omega)).cells rfl ?_;exact C _ _ rfl (by simpa[dn] using l) Sy
          .intro Q a M K P I o H A l C;have iq:a.tmps[11]?.getD undef=.pointer (some ⟨gv,0,none⟩):=H 11 rfl;refine ax rfl ?_;refine aO au rfl (vE iq) (aI.o.X l.X (by have:=ni.o;omega)).cells rfl ?_;exact C _ _ rfl (by simpa[dn] using l) Sy
          .intro Q a M K P I o H A l C;have e2:a.tmps[2]?.getD undef=.bool m:=H 2 rfl;clear I o H A;go_simp;exact C _ _ (congrArg Value.bool eH.o.symm) (by simpa[dn] using l) Sy
          .intro Q a M K P I o H A l C;have pJ:=fq (o 4 75 rfl (A 4 rfl));clear I o H A;go_simp;exact C _ _ rfl (by simpa[dn] using l) Sy
          .intro Q a M K P I o H A l C;have eg:=fq (o 5 76 rfl (A 5 rfl));obtain⟨c0,aU⟩:∃c0,c0=mg:=⟨_,rfl⟩;rw[←aU] at eg;cases c0 with
           |true=>refine gJ rfl rfl eg ?_;rw[←aU] at C;exact C undef _ trivial (by simpa[dn] using l) Sy
           |false=>refine iY rfl rfl eg ?_;rw[←aU] at C o;have e3:a.tmps[3]?.getD undef=.pointer (some ⟨g,0,none⟩):=H 3 rfl;refine aO aK rfl (vE e3) (B.o.b0.X l.X (by omega)).cells rfl ?_;exact C _ _ rfl (by simpa[dn] using l) Sy
          .intro Q a M K P I o H A l C;have eg:=fq (o 5 76 rfl (A 5 rfl));obtain⟨c0,aU⟩:∃c0,c0=mg:=⟨_,rfl⟩;rw[←aU] at eg;cases c0 with
           |true=>refine gJ rfl rfl eg ?_;rw[←aU] at C;exact C undef _ trivial (by simpa[dn] using l) Sy
           |false=>refine iY rfl rfl eg ?_;rw[←aU] at C o;have nI:a.tmps[10]?.getD undef=.string p.1:=H 10 rfl;clear I o H A eg aU;go_simp;exact C _ _ rfl (by simpa[dn] using l) Sy
          .intro Q a M K P I o H A l C;have eg:=fq (o 5 76 rfl (A 5 rfl));obtain⟨c0,aU⟩:∃c0,c0=mg:=⟨_,rfl⟩;rw[←aU] at eg;cases c0 with
           |true=>refine gJ rfl rfl eg ?_;rw[←aU] at C;exact C undef _ trivial (by simpa[dn] using l) Sy
           |false=>refine iY rfl rfl eg ?_;rw[←aU] at C o;have nK:=fq (o 6 77 rfl (A 6 rfl));have nM:=fq (o 7 78 rfl (A 7 rfl));refine jE Tryz.call54 rfl (vE nK) (vE nM) (EN ((jL.o.X B.o.X nE).X l.X (λb q e=>by have:=q.2;have:=HG.o;omega)) p.1) ?_;rintro e w2 ⟨rfl,hc⟩;exact⟨_,rfl,C _ _ rfl (by simpa[dn] using l.df hc) (λ_ _ _ _ h=>h.aP hc)⟩
          .intro Q a M K P I o H A l C;have kM:=Z (show(mg||bn c.deps p.1)=(m||bn c.deps p.1) by rw[eH.o]);clear eH;cases mg with
           |true=>have nN:=fq (o 5 76 rfl (A 5 rfl));clear I o H A;go_simp;exact C _ _ (congrArg Value.bool kM.o) (by simpa[dn] using l) Sy
           |false=>have nN:=fq (o 5 76 rfl (A 5 rfl));have pK:=fq (o 8 79 rfl (A 8 rfl));clear I o H A;go_simp;exact C _ _ (congrArg Value.bool kM.o) (by simpa[dn] using l) Sy
          .intro Q a M K P I o H A l C;have nO:=fq (o 2 73 rfl (A 2 rfl));have nP:=fq (o 3 74 rfl (A 3 rfl));have nR:=fq (o 9 80 rfl (A 9 rfl));refine ax rfl ?_;have dS:=jP U N gz (m||bn c.deps p.1) (E+(D+1)) (jI ok w (g+3)) x v' (ai 7 xb xi xf xt eF eG) (ai 7 rb ri rf rt bM bP) M (bf.o.X l.X (λb q e=>bY.o (e▸q))) (aN.o.X l.X (λb q e=>bY.o (e▸q))) WX.o WY.o;refine gB Tryz.call53 rfl (vE nO) (vE nP) (vE nR) dS ?_;rintro e w2 ⟨cs,rfl,S,hc⟩;exact⟨_,rfl,C _ _ ⟨cs,rfl,S.mono (λb _ q=>q.elim id (λh=> .inr (by have h1:=l.size;have h2:=B.o.b3.lt;omega)))⟩ (by simpa[dn] using l.df hc) (λ_ _ _ _ h=>h.aP hc)⟩
          .intro Q a M K P I o H A l C;have nS:=fq (o 0 71 rfl (A 0 rfl));have nT:=fq (o 1 72 rfl (A 1 rfl));obtain⟨c9,nU,nV⟩:=o 10 81 rfl (A 10 rfl);refine ax rfl ?_;have dS:=jD (jI ok w (g+3)) G p.1 (.table (bV (m||bn c.deps p.1) x v')) ob oi of ot bZ cu c9 M (B.o.val.X l.X (λb q e=>bY.o (e▸q))) nV gX.o fG.o;refine gB Tryz.call51 rfl (vE nS) (vE nT) (vE nU) dS ?_;rintro e w2 ⟨cs,rfl,S,hc⟩;exact⟨_,rfl,C _ _ ⟨cs,rfl,S.mono (λb _ q=>q.elim id (λh=> .inr (by have h1:=l.size;have h2:=B.o.b3.lt;omega)))⟩ (by simpa[dn] using l.df hc) (λ_ _ _ _ h=>h.aP hc)⟩
          .intro Q a M K P I o H A l C;have e8:a.tmps[8]?.getD undef=.pointer (some ⟨(g+3),0,none⟩):=H 8 rfl;obtain⟨c2,nX,af⟩:=o 11 82 rfl (A 11 rfl);rw[P] at l;obtain⟨c',q,h1, -⟩:=l.box;obtain rfl:=h1 rfl;refine ax rfl ?_;refine dH au rfl (vE e8) (vE nX) q rfl af.length af.one ?_;intro w2 di hC nY;refine C undef _ trivial (by simpa[dn] using l.fill di hC af bY.o) ?_;refine λj S _ u hu=>hu.keep hC (aV (i:=12) (λj hl S=> ?_) j S)
           match j,S with
           |0,_|1,_|2,_|3,_|4,_|5,_=>exact trivial
           |6,_=>exact by clear eH;cases mg<;>exact trivial
           |7,_=>exact by clear eH;cases mg<;>exact trivial
           |8,_=>exact by clear eH;cases mg<;>exact trivial|9,_=>exact trivial
           |10,_=>exact λb q e=>bY.o (e▸q)
           |11,_=>exact λb q e=>bY.o (e▸q)
           |12,S=>exact absurd rfl S
           |j+13,_=>exact absurd hl (by simp)
         .intro vs w2 fQ jh l;obtain⟨c2,di, -,af⟩:=l.box;have bD:=Z (B.o.fill (Nat.le_of_eq HG.o.symm) l.X di (af rfl));clear di af l fQ jh;simp only[aX,Act.put,List.setIfInBounds_toArray,List.set_cons_succ,List.set_cons_zero];go_wp2_with fail;go_roundw;case rel=>first|exact⟨n+1,c2,by go_num,by omega,(by rw[show over m (bn c.deps) v (L.take (n+1))=ins G p.1 (.table (bV (m||bn c.deps p.1) x v')) by rw[aF.o,bg.o.ins bJ.o HP.o (by rw[aZ.o,jg.o];rfl),←bC.o]];exact bD.o)⟩|((repeat apply Exists.intro);exact⟨⟨n+1,c2,by go_num,by omega,(by rw[show over m (bn c.deps) v (L.take (n+1))=ins G p.1 (.table (bV (m||bn c.deps p.1) x v')) by rw[aF.o,bg.o.ins bJ.o HP.o (by rw[aZ.o,jg.o];rfl),←bC.o]];exact bD.o)⟩,rfl⟩)
          case measure=>simp[intOf];omega
        .have pM:(rk==7)=false:=(by simpa using ik);have kP:=Z (show dA p.2=false by cases h:dA p.2<;>first|rfl|exact absurd (kC.o.2.2.2 h) ik);clear ik;go_wp2_with fail;go_roundw;case rel=>first|exact⟨n+1,_,by go_num,by omega,(by rw[show over m (bn c.deps) v (L.take (n+1))=G by rw[aF.o,bg.o.same bJ.o HP.o (by rw[aZ.o];have h:=kP.o;cases ug:p.2<;>first|rfl|(rw[ug] at h;cases h)),←bC.o]];exact B.o)⟩|((repeat apply Exists.intro);exact⟨⟨n+1,_,by go_num,by omega,(by rw[show over m (bn c.deps) v (L.take (n+1))=G by rw[aF.o,bg.o.same bJ.o HP.o (by rw[aZ.o];have h:=kP.o;cases ug:p.2<;>first|rfl|(rw[ug] at h;cases h)),←bC.o]];exact B.o)⟩,rfl⟩)
         case measure=>simp[intOf];omega
       .have nZ:(xk==7)=false:=(by simpa using dC);have kQ:=Z (show dA x0=false by cases h:dA x0<;>first|rfl|exact absurd (dQ.o.2.2.2 h) dC);have kR:=Z (show x0≠ .null from λe=>gZ (dQ.o.2.2.1 e));clear dC gZ;go_wp2_with fail;go_roundw;case rel=>first|exact⟨n+1,_,by go_num,by omega,(by rw[show over m (bn c.deps) v (L.take (n+1))=G by rw[aF.o,bg.o.same bJ.o HP.o (by rw[aZ.o];have h:=kQ.o;have h2:=kR.o;cases x0<;>first|rfl|exact absurd rfl h2|cases h),←bC.o]];exact B.o)⟩|((repeat apply Exists.intro);exact⟨⟨n+1,_,by go_num,by omega,(by rw[show over m (bn c.deps) v (L.take (n+1))=G by rw[aF.o,bg.o.same bJ.o HP.o (by rw[aZ.o];have h:=kQ.o;have h2:=kR.o;cases x0<;>first|rfl|exact absurd rfl h2|cases h),←bC.o]];exact B.o)⟩,rfl⟩)
        case measure=>simp[intOf];omega
    .have ji:n=L.length:=Nat.le_antisymm mW (Nat.not_lt.1 dY);subst ji;have og:¬((L.length:Nat):Int)<(L.length:Int):=(by omega);have kS:over m (bn c.deps) v (L.take L.length)=O0:=(by rw[List.take_length,aF.o,←mf.o]);rw[kS] at aj;have q9:wr.cell? ⟨g,9,none⟩=some (.slice da aC.length dc):=aj.o.b0.cell 9;have kT:=Z aj.o;clear kS aj;go_wp2_with fail;clear q9;go_loopw [87] (λct wr=>∃(n:Nat)(G:T)(oc:Y),ct=.int .i64 n∧n<=aC.length∧AO ok w wc g (az name dE k b i f t (.slice ka L.length kc) (.slice la bK.length lc) (.slice da aC.length dc) wv) (ai 7 vb vi vf vt aQ aS) G wr oc∧ja m (c.deps.drop n) G=dJ m c v∧∃F,WU U N F (.table G)) (λct _=>aC.length - (intOf ct).toNat);case atStart=>exact⟨0,O0,_,rfl,zL',kT.o,by rw[List.drop_zero,mi.o],⟨_,mD.o⟩⟩
     case round=>
      obtain⟨n,G,oc,rfl,oh,dF,fU,F,eu⟩:=hrel;have aj:=Z dF;have iw:=Z fU;have WO:=Z eu;clear dF fU eu kT;by_cases dY:n<aC.length
      .obtain⟨r,dL⟩:=gX' aC n (dY);obtain⟨dd,iy⟩:∃d,c.deps[n]?=some d:=⟨_,List.getElem?_eq_getElem (by rw[←jS.o];exact dY)⟩;obtain⟨lb,lo,rfl, -,dw⟩:=HD.o.at (i:=n) (r:=r) dL;have dw:=dw.X aj.o.X id;have iC:=(mG.o n r dd dL iy).X aj.o.X nE;obtain⟨dM,fF⟩:=iC.one;obtain⟨rn,rv,rk,rb,ri,rf,rt,bM,bP,eP,eU,rfl,kU, -⟩:=iC.cells;have iD:=Z kU;have kV:=Z iC;have kW:=Z iy;have jk:=Z (l7.o.2.2.2.2.2 dd (mG' iy));have ng:(n:Int)<(aC.length:Int):=(by omega);obtain⟨eX,kX⟩:∃x,x=wr.heap.size:=⟨_,rfl⟩;have kY:=Z kX;have kZ:=Z (show g+3<eX by have:=aj.o.b3.lt;omega);clear dL iy iC kU kX;go_upto_region 19 with(first|(with_reducible refine V rfl aK rfl rfl dw dM ?_)|(with_reducible refine ak rfl aK rfl rfl rfl rfl dM fF ?_))
       obtain⟨w2,dO⟩:∃w2,w2=wr.alloc (.cells (az rn rv rk rb ri rf rt bM bP eP eU).toArray 30):=⟨_,rfl⟩;have eY:=ay.newAt kY.o (az rn rv rk rb ri rf rt bM bP eP eU) 30;rw[←dO] at eY⊢;rw[←kY.o];have ed:=Z (show O No wr w2 by rw[dO];exact(O.refl No wr).alloc _);have cZ:=Z eY;have B:=Z (aj.o.step ed.o);have dW:=Z (kV.o.X ed.o nE);clear eY dO dw dM fF aj kV;have gX:=Z WO.o.sorted;have fG:=Z (Nat.lt_of_le_of_lt WO.o.len gz);have bY:=Z (vS (ok:=ok) (w:=w) (g:=g+3) (by have:=HG.o;omega));obtain⟨ob,oi,of,ot,bZ,cu,rfl⟩:=B.o.val.fV;have bm:=B.o.b3.cells;have k0:w2.cell? ⟨eX,0,none⟩=some (.string rn):=cZ.o.cell 0;go_wp2_with (first|(with_reducible refine V rfl au rfl rfl bm rfl ?_));refine(jW (jI ok w (g+3)) G rn ob oi of ot bZ cu w2 B.o.val).mono ?_;rintro e w3 ⟨R,dB⟩;simp only[yz] at dB;obtain⟨jl,oq,rfl,⟨fP,gY⟩,lg,lh⟩:=Lj dB;have lq:=Z lg;have lu:=Z lh;have B:=Z (B.o.step R);have cZ:=Z (cZ.o.X R id);have dW:=Z (dW.o.X R nE);obtain⟨jo,lC⟩:∃x,x=w3.heap.size:=⟨_,rfl⟩;have jq:=Z lC;have jr:=Z (show eX<jo by have:=cZ.o.lt;omega);have mO:=kN 7;clear dB lg lh R bm k0 lC
       go_upto_if 99 with(first|(with_reducible refine ak rfl au rfl rfl rfl rfl fP gY ?_))
       obtain⟨w4,bT⟩:∃w4,w4=w3.alloc (.cells jl.toArray 26):=⟨_,rfl⟩;have dI:=ay.newAt jq.o jl 26;rw[←bT] at dI⊢;rw[←jq.o];have jw:=Z dI;have fA:=Z (show O No w3 w4 by rw[bT];exact(O.refl No w3).alloc _);have fB:=Z (B.o.step fA.o);have jy:=Z (cZ.o.X fA.o id);have jA:=Z (dW.o.X fA.o nE);clear dI bT
       go_cut [87] from 87 to 122 (λou fZ=>ou=.int .i64 n∧∃xc,ay fZ jo xc 26∧aG (jI ok w (g+3)) fZ xc (D6 G rn)∧AO ok w wc g (az name dE k b i f t (.slice ka L.length kc) (.slice la bK.length lc) (.slice (some ⟨lb,lo,none⟩) aC.length dc) wv) (ai 7 vb vi vf vt aQ aS) G fZ (ai 7 ob oi of ot bZ cu)∧ay fZ eX (az rn rv rk rb ri rf rt bM bP eP eU) 30∧dU (okB ok w) fZ (az rn rv rk rb ri rf rt bM bP eP eU) dd)
       case first=>
        cases oq with
        |true=>
         go_wp2_with fail
         go_meet
         exact⟨rfl,jl,jw.o,(lq.o trivial).X fA.o nE,fB.o,jy.o,jA.o⟩
        |false=>
         have dI:=jw.o;go_wp2_with (first|(refine aA rfl au rfl rfl rfl dI fP rfl rfl ?_;intro w5 oz aB pO))
         go_meet
         refine⟨rfl,_,oz,by rw[lu.o trivial];exact mr _ _,fB.o.other (Nat.le_of_eq HG.o.symm) (by have:=kZ.o;have:=jr.o;omega) aB ?_,jy.o.X aB (by have:=jr.o;omega),jA.o.X aB (λb q e=>by have:=q.2;have:=HG.o;have:=kZ.o;have:=jr.o;omega)⟩;exact(((B.o.val.dV.X fA.o nE).X aB (λx h e=>by have:=h.2;have:=jq.o;omega)).mono (λx _ h=>h.1))
       case rest=>
        obtain⟨rfl,xc,dI,bF,dF,eY,lD⟩:=hcut;have gm:=Z dI;have iE:=Z bF;have lF:=Z dF;have lG:=Z eY;have lH:=Z lD;clear dI bF dF eY lD lq lu fA fB jy jA jw B cZ dW fP gY ed;obtain⟨xk,xb,xi,xf,xt,eF,eG,rfl⟩:=iE.o.seven;have dQ:=Z iE.o.oH;have bx:=gm.o.cells;go_wp2_with (first|(with_reducible refine V rfl au rfl rfl bx rfl ?_));refine(aY _ _ _ _ _ _ _ _).mono ?_;rintro e w6 ⟨rfl,bG⟩;have B:=Z (lF.o.step bG);have cZ:=Z (lG.o.X bG id);have gm:=Z (gm.o.X bG id);have dW:=Z (lH.o.X bG nE);have lI:=Z (iE.o.X bG nE);clear bx bG lF lG lH iE;by_cases dC:xk=7
        .subst dC;obtain⟨x,hx⟩:=dm (dQ.o.2.1 rfl);have gp:=Z (GM hx);have bF:=lI.o;rw[hx] at bF;have bf:=Z bF;have WX:=Z ((WO.o.max (e:=3)).bH (d:=F+1) gp.o);have lJ:=Z (WO.o.max (e:=2));have WG:=Z (WU.globals (d:=F) jH WX.o lJ.o);have lK:=Z (sF (m:=m) kW.o G);clear bF hx lI;go_upto_region 24 with fail
         obtain⟨wx,dR⟩:∃wx,wx=w6:=⟨_,rfl⟩;obtain⟨xc,lL⟩:∃xc,xc=ai 7 xb xi xf xt eF eG:=⟨_,rfl⟩;obtain⟨oc,jB⟩:∃oc,oc=ai 7 ob oi of ot bZ cu:=⟨_,rfl⟩;rw[←dR,←lL] at gm bf;rw[←dR,←jB] at B;rw[←dR] at cZ dW⊢;have lM:=Z jB;clear dR lL jB;refine eQ (λγ=>FI [.eq (.agg (az rn rv rk rb ri rf rt bM bP eP eU).toArray),.eq (.agg xc.toArray),.eq (.agg oc.toArray),.val (bz (jI ok w (g+3)) wx.heap.size γ) (.table (globals x G)),.eq (.bool m),.Hz (bz (jI ok w (g+3)) wx.heap.size γ) (jm (dJ m dd (globals x G))) (dJ m dd (globals x G)).isSome,.Hz (bz (jI ok w (g+3)) wx.heap.size γ) (jm (dJ m dd (globals x G))) (dJ m dd (globals x G)).isSome,.val (bz (jI ok w (g+3)) wx.heap.size γ) (jm (dJ m dd (globals x G))),.eq (.bool (dJ m dd (globals x G)).isSome),.box γ,.any,.eq (.bool (dJ m dd (globals x G)).isSome)])
          (λγ Q w'=>GH (jI ok w (g+3)) wx 9 10 (jm (dJ m dd (globals x G))) γ Q w') (by kernel_rfl) (by kernel_rfl) none (GH.start _ _ _ _ _) ?_ ?_
         .refine⟨?_,?_,?_,?_,?_,?_,?_,?_,?_,?_,?_,?_,trivial⟩
          .intro γ Q a M K P I o H A l C;have oC:a.tmps[15]?.getD undef=.pointer (some ⟨eX,0,none⟩):=H 15 rfl;refine ax rfl ?_;refine aO aK rfl (vE oC) (cZ.o.X l.X id).cells rfl ?_;exact C _ _ _ rfl (l.other (by decide) (by decide) (O.refl _ _)) Sy
          .intro γ Q a M K P I o H A l C;have oD:a.tmps[16]?.getD undef=.pointer (some ⟨jo,0,none⟩):=H 16 rfl;refine ax rfl ?_;refine aO au rfl (vE oD) (gm.o.X l.X id).cells bf.o.length ?_;exact C _ _ _ rfl (l.other (by decide) (by decide) (O.refl _ _)) Sy
          .intro γ Q a M K P I o H A l C;have e8:a.tmps[8]?.getD undef=.pointer (some ⟨g+3,0,none⟩):=H 8 rfl;refine ax rfl ?_;refine aO au rfl (vE e8) (B.o.b3.X l.X id).cells B.o.val.length ?_;exact C _ _ _ rfl (l.other (by decide) (by decide) (O.refl _ _)) Sy
          .intro γ Q a M K P I o H A l C;have oG:=fq (o 1 107 rfl (A 1 rfl));have oI:=fq (o 2 108 rfl (A 2 rfl));refine ax rfl ?_;have dS:=zI U N gz F (bz (jI ok w (g+3)) wx.heap.size γ) x G xc oc M ((bf.o.dV.X l.X nE).mono (λb _ h=> .inl h)) ((B.o.val.dV.X l.X nE).mono (λb _ h=> .inl h)) WX.o lJ.o;refine jE Tryz.call55 rfl (vE oG) (vE oI) dS ?_;rintro e w2 ⟨cs,rfl,S,hc⟩;exact⟨_,rfl,C γ _ _ ⟨cs,rfl,S.mono (λb _ q=>q.elim id (λh=>l.fresh h))⟩ (l.other (by decide) (by decide) hc) (λ_ _ _ _ h=>h.aP hc)⟩
          .intro γ Q a M K P I o H A l C;have e2:a.tmps[2]?.getD undef=.bool m:=H 2 rfl;clear I o H A;go_simp;exact C _ _ _ rfl (l.other (by decide) (by decide) (O.refl _ _)) Sy
          .intro γ Q a M K P I o H A l C;have oJ:=fq (o 0 106 rfl (A 0 rfl));obtain⟨c1,oK,dD⟩:=o 3 109 rfl (A 3 rfl);have oL:=fq (o 4 110 rfl (A 4 rfl));refine ax rfl ?_;have dS:=IH.o dd jk.o (F+2) (bz (jI ok w (g+3)) wx.heap.size γ) (az rn rv rk rb ri rf rt bM bP eP eU) (.table (globals x G)) c1 (globals x G) M ((dW.o.dV.X l.X nE).mono (λb _ h=> .inl ⟨.inl h.1,h.2⟩)) dD (.inr rfl) WG.o;refine gB Tryz.call16 rfl (vE oJ) (vE oK) (vE oL) dS ?_;rintro e w2 ⟨cs,rfl,S,hc⟩;exact⟨_,rfl,C γ _ _ ⟨cs,rfl,S.mono (λb _ q=>q.elim id (λh=>l.fresh h))⟩ (l.other (by decide) (by decide) hc) (λ_ _ _ _ h=>h.aP hc)⟩
          .intro γ Q a M K P I o H A l C;obtain⟨c1,pR,dD⟩:=o 5 111 rfl (A 5 rfl);have jC:=Z dD;clear dD;clear I o H A;go_simp;exact C _ _ _ ⟨c1,rfl,jC.o⟩ (l.other (by decide) (by decide) (O.refl _ _)) Sy
          .intro γ Q a M K P I o H A l C;obtain⟨c1,oM,dD⟩:=o 6 105 rfl (A 6 rfl);have jC:=Z dD;clear dD;clear I o H A;go_simp;exact C _ _ _ ⟨c1,rfl,jC.o⟩ (l.other (by decide) (by decide) (O.refl _ _)) Sy
          .intro γ Q a M K P I o H A l C;obtain⟨c1,oM,dD⟩:=o 6 105 rfl (A 6 rfl);clear dD;clear I o H A;go_simp;exact C _ _ _ rfl (l.other (by decide) (by decide) (O.refl _ _)) Sy
          .intro γ Q a M K P I o H A l C;have lN:=ny1 I 10 9 rfl P;have jF:=l.qH P;subst jF;have oO:=Z (l.lay (by decide) lN);clear I o H A;clear lN;go_simp;refine C (some M.heap.size) _ _ ⟨_,rfl,rfl⟩ oO.o ?_;refine λj S pU u hu=> ?_
           match j,S with
           |0,_=>exact hu|1,_=>exact hu|2,_=>exact hu
           |3,_=>obtain⟨c,h1,h2⟩:=hu;exact⟨c,h1,(h2.mono (λb q h=>bQ q h)).X ((O.refl No M).alloc _) nE⟩
           |4,_=>exact hu
           |5,_=>obtain⟨c,h1,h2⟩:=hu;exact⟨c,h1,(h2.mono (λb q h=>bQ q h)).X ((O.refl No M).alloc _) nE⟩
           |6,_=>obtain⟨c,h1,h2⟩:=hu;exact⟨c,h1,(h2.mono (λb q h=>bQ q h)).X ((O.refl No M).alloc _) nE⟩
           |7,_=>obtain⟨c,h1,h2⟩:=hu;exact⟨c,h1,(h2.mono (λb q h=>bQ q h)).X ((O.refl No M).alloc _) nE⟩
           |8,_=>exact hu
           |9,S=>exact absurd rfl S
           |10,_=>exact hu|11,_=>exact hu|j+12,_=>exact hu
          .intro γ Q a M K P I o H A l C;obtain⟨t,rfl,oP⟩:=o 9 18 rfl (A 9 rfl);obtain⟨c2,oQ,af⟩:=o 7 112 rfl (A 7 rfl);obtain⟨dX,c',q,oU, -⟩:=l.box t rfl;refine ax rfl ?_;refine dH au rfl (vE oP) (vE oQ) q oU af.length af.one ?_;intro w2 di hC nY;refine C (some t) undef _ trivial (l.put (by decide) hC di af) ?_;refine λj S _ u hu=>hu.keep hC (aV (i:=10) (λj hl S=> ?_) j S)
           match j,S with
           |0,_|1,_|2,_=>exact trivial
           |3,_=>exact λb q e=>bI dX q e
           |4,_=>exact trivial
           |5,_=>exact λb q e=>bI dX q e
           |6,_=>exact λb q e=>bI dX q e
           |7,_=>exact λb q e=>bI dX q e
           |8,_|9,_=>exact trivial
           |10,S=>exact absurd rfl S
           |11,_=>exact trivial
           |j+12,_=>exact absurd hl (by simp)
          .intro γ Q a M K P I o H A l C;have pV:=fq (o 8 113 rfl (A 8 rfl));clear I o H A;go_simp;exact C _ _ _ rfl (l.other (by decide) (by decide) (O.refl _ _)) Sy
         .intro γ vs w2 fQ jh l;obtain⟨oV,jF,e9⟩:∃t,γ=some t∧vs 9=.pointer (some ⟨t,0,none⟩):=fQ 9 _ rfl (by decide);have iq:vs 11=.bool (dJ m dd (globals x G)).isSome:=fQ 11 _ rfl (by decide);subst jF;obtain⟨dX,lQ,lS,oW,fC⟩:=l.box oV rfl;have oZ:=Z lS;have o5:=Z (fC rfl);have iF:=Z l.X;have pW:=Z dX;clear lS fC l fQ jh dX;simp only[aX,Act.put,List.setIfInBounds_toArray,List.set_cons_succ,List.set_cons_zero,e9,iq];clear e9 iq;have pX:=zh;cases hy:dJ m dd (globals x G) with
          |none=>
           have iG:dJ m c v=none:=by rw[←iw.o,lK.o,iD.o,gp.o];simp only[hy]
           have o6:=Z iG;have dh:=B.o.b2.X iF.o id;have o7:=Z (B.o.X.trans' iF.o);clear iG hy;go_wp2_with (first|(refine aA rfl au rfl rfl rfl dh rfl rfl rfl ?_;intro w9 gq fD lT));refine bodyPost_ret (aW rfl au rfl gq rfl) rfl ?_;rw[o6.o];exact⟨bu,rfl,.null (dN _ _ _) (dN _ _ _),o7.o.trans fD (λi hi e=>by have:=HG.o;omega)⟩
          |some y=>
           have fC:=o5.o;rw[hy] at fC;have o8:=Z (show aG (jI ok w (g+3)) w2 lQ (.table y) from fC.mono (λb _ h=>h.elim (λh=>h.1) (λh=> .inr (by have:=h.1;have:=B.o.b3.lt;omega))));have fU:ja m (c.deps.drop (n+1)) (ins G rn (.table y))=dJ m c v:=by rw[←iw.o,lK.o,iD.o,gp.o];simp only[hy]
           have lU:=Z fU;obtain⟨E2,lV⟩:=sJ jH m h dd _ _ _ jk.o WG.o hy;have lW:=Z (show ∃F',WU U N F' (.table (ins G rn (.table y))) from⟨F+E2+1,WU.ins (WO.o.mono (λ_ h=>h) lR' (by omega)) (by
            have h1:=jk.o;cases h with
            |zero=>exact h1.elim
            |succ h=>rw[←iD.o];exact h1.2.1) (lV.mono (λ_ h=>h) lR' (by omega))⟩)
           have bD:=Z (B.o.step iF.o);have bm:=bD.o.b3.cells;have lX:=bD.o.val.length;have lY:=oZ.o.cells;have k0:w2.cell? ⟨eX,0,none⟩=some (.string rn):=(cZ.o.X iF.o id).cell 0;clear fC fU lV hy;go_wp2_with (first|(with_reducible refine V rfl au rfl rfl bm lX ?_)|(with_reducible refine V rfl au rfl rfl lY oW ?_));rw[lM.o];refine(jD (jI ok w (g+3)) G rn (.table y) ob oi of ot bZ cu lQ w2 (by rw[←lM.o];exact bD.o.val) o8.o gX.o fG.o).mono ?_;rintro e nz ⟨c2,rfl,af,bU⟩;have fH:=bD.o.b3.X bU id;have fJ:=af.length;have fK:=af.one;have fO:=Z (af.mono (ok':=jI ok w (g+3)) (λb _ q=>q.elim id (λh=> .inr (by have h2:=bD.o.b3.lt;omega))));have dP:=Z (bD.o.step bU);clear af bU bm lY k0;go_wp2_with (first|(with_reducible refine aA rfl au rfl rfl rfl fH lX fJ fK ?_;intro nC dG R dK));have fB:=Z (dP.o.fill (Nat.le_of_eq HG.o.symm) R dG (fO.o.X R (λb q e=>bY.o (e▸q))));clear dG R dK fH;go_roundw;case rel=>first|exact⟨n+1,_,c2,by go_num,by omega,fB.o,lU.o,lW.o⟩|((repeat apply Exists.intro);exact⟨⟨n+1,_,c2,by go_num,by omega,fB.o,lU.o,lW.o⟩,rfl⟩)
           case measure=>simp[intOf];omega
        .have nZ:(xk==7)=false:=(by simpa using dC);have gp:=Z (yM (a:=G) (k:=rn) (by cases h:dA (D6 G rn)<;>first|rfl|exact absurd (dQ.o.2.2.2 h) dC));have dh:=B.o.b2;have hz:=zh;clear dC;go_wp2_with (first|(refine aA rfl au rfl rfl rfl dh rfl rfl rfl ?_;intro w9 gq fD lT));refine bodyPost_ret (aW rfl au rfl gq rfl) rfl ?_;have iG:dJ m c v=none:=(by rw[←iw.o,sF kW.o,iD.o,gp.o]);rw[iG];exact⟨bu,rfl,.null (dN _ _ _) (dN _ _ _),B.o.X.trans fD (λi hi e=>by have:=HG.o;omega)⟩
      .have ji:n=aC.length:=Nat.le_antisymm oh (Nat.not_lt.1 dY);subst ji;have og:¬((aC.length:Nat):Int)<(aC.length:Int):=(by omega);have lZ:dJ m c v=some G:=(by rw[←iw.o,List.drop_of_length_le (by rw[←jS.o];exact lR'),ja]);have o9:=Z lZ;have ig:=aj.o.b3.cells;have dh:=aj.o.b2;have jG:=aj.o.val.length;have pg:=aj.o.val.one;clear lZ;go_wp2_with (first|(with_reducible refine V rfl au rfl rfl ig jG ?_)|(with_reducible refine aA rfl au rfl rfl rfl dh rfl jG pg ?_;intro w9 gq fD lT));refine bodyPost_ret (aW rfl au rfl gq jG) rfl ?_;rw[o9.o];exact⟨oc,rfl,((aj.o.val.X fD (λb q e=>by rcases q with q|q<;>(have:=HG.o;omega))).mono (λb _ q=>q.imp (λh=>h.1) (λh=>by have:=HG.o;omega))),aj.o.X.trans fD (λi hi e=>by have:=HG.o;omega)⟩
def Fj(P:Program)(c:Array Oper)(Q:ah)(a0:Act)(I:Nat→Value→World→Prop)(G:(Nat→Bool)→World→Prop)(i:Nat)(o:Oper):Prop:=
 ∀(b:Nat→Bool)(a:Act)(w:World)(K:ag),
  b i=false→(∀j k,((c[j]?).map (oC k)).getD false=true→b j=true→b k=true)→
  (∀j d,(c[j]?).bind (·.dst)=some d→b j=true→I j (a.tmps[d]?.getD undef) w)→
  (∀t:Nat,(c.toList.all λo=>o.dst !=some t)=true→a.tmps[t]?.getD undef=a0.tmps[t]?.getD undef)→
  (∀(t m:Nat),((List.range c.size).all λj=>(j==m)||(((c[j]?).map λo=>o.dst !=some t).getD true))=true→b m=false→a.tmps[t]?.getD undef=a0.tmps[t]?.getD undef)→
  (∀k,oC k o=true→b k=true)→G b w→
  (∀v e,I i v e→G (dn b i) e→(∀j,j≠i→b j=true→∀u,I j u w→I j u e)→K (a.put o.dst v) e)→
  (if Region.wanted o (yielded c a.tmps) then o.wp P a w K Q else K (a.put o.dst undef) w)
def oq(P:Program)(a:Array Oper)(Q:ah)(a0:Act)(I:Nat→Value→World→Prop)(G:(Nat→Bool)→World→Prop):Nat→List Oper→Prop
 | _,[]=>True
 |n,o::rest=>Fj P a Q a0 I G n o∧oq P a Q a0 I G (n+1) rest
theorem oq.get{P:Program}{c:Array Oper}{Q:ah}{a0:Act}{I:Nat→Value→World→Prop}{G:(Nat→Bool)→World→Prop}:∀{l:List Oper}{n:Nat},oq P c Q a0 I G n l→∀{i:Nat}{o:Oper},l[i]?=some o→Fj P c Q a0 I G (n+i) o
 |[],_,_,i,o,h=>by simp at h
 |a::r,n,b,0,o,h=>by simp at h;subst h;exact b.1
 |a::r,n,b,i+1,o,h=>by
  have:=oq.get b.2 (i:=i) (o:=o) (by simpa using h)
  rwa[show n+1+i=n+(i+1) by omega] at this
section
variable {P:Program} {l:List Oper} {Q:ah} {a0:Act} {I:Nat→Value→World→Prop} {G:(Nat→Bool)→World→Prop}
theorem GN(E:tidy l a0.tmps.size=true)(hs:oq P l.toArray Q a0 I G 0 l)
  (az:∀(vs:Nat→Value)(x:World),(∀j f,l[j]?=some f→f.dst≠none→I j (vs j) x)→(∀j f,l[j]?=some f→f.dst=none→∃u,I j u x)→G (λj=>decide (j<l.length)) x→Q .normal (aX vs 0 l a0) x):
  ∀(C:Nat)(b:Array Bool)(a:Act)(w:World),xg l a0 I G b a w→((List.range l.length).filter λi=> !b.getD i false).length<=C→wpAny P .any l.toArray Q C b a w:=by
 simp only[tidy,Bool.and_eq_true,decide_eq_true_eq,List.all_eq_true] at E;obtain⟨⟨af,aA⟩,aB⟩:=E;have ai:∀(j:Nat)(f:Oper)(d:Nat),l[j]?=some f→f.dst=some d→d<a0.tmps.size:=λj f d c g=>by have:=aA f (mG' c);simpa[g] using this
 have aC:∀(b:Array Bool),b.size=l.length→Region.ready .any l.toArray b=[]→∀i,i<l.length→b.getD i false=true:=by
  intro b aF R i;induction i using Nat.strongRecOn with
  | _ i S=>
   intro r;by_cases n:b.getD i false=true
   .exact n
   .exfalso
    have K:i∈Region.ready .any l.toArray b:=by
     unfold Region.ready;refine List.mem_filter.2 ⟨List.mem_range.2 (by simpa using r),?_⟩;have B:l.toArray[i]?=some l[i]:=(by simp[r]);have aG:b.getD i true=false:=by have:i<b.size:=(by omega);simp[this] at n⊢;exact n
     rw[aG,B];simp only[Bool.not_false,Bool.true_and,Option.map_some,Option.getD_some,Array.all_eq_true_iff_forall_mem];intro e y;have T:=aB i (List.mem_range.2 r);rw[List.getElem?_eq_getElem r] at T;simp only[Option.map_some,Option.getD_some,Array.all_eq_true_iff_forall_mem] at T;have U:=T e y;by_cases p:Region.binds .any e=true
     .rw[p] at U⊢;simp at U;have:=S e.on U (by omega);simpa using this
     .simp at p;simp[p]
    rw[R] at K;cases K
 have aj:∀(b:Array Bool)(a:Act)(w:World),xg l a0 I G b a w→(∀i,i<l.length→b.getD i false=true)→Q .normal a w:=by
  intro b a w h F;have hg:(λj=>b.getD j false)=λj=>decide (j<l.length):=by
   funext j
   by_cases c:j<l.length
   .simp only[F j c,decide_eq_true c]
   .have:¬j<b.size:=by rw[h.size];exact c
    simp[c,this]
  have L:∀{j:Nat}{f:Oper},l[j]?=some f→j<l.length:=λc=>(gS'.1 c).1
  have hq:=az (λj=>match(l[j]?).bind (·.dst) with|some d=>a.eval (.tmp d)|none=>undef) w
   (λj f c H=>by
    cases g:f.dst with
    |none=>exact absurd g H
    |some d=>simp only[c,Option.bind_some,g];exact h.slots j f d (by simpa using c) g (F j (L c)))
   (λj f c g=>h.mute j f (by simpa using c) g (F j (L c)))
   (hg▸h.BM)
  have ea:aX (λj=>match(l[j]?).bind (·.dst) with|some d=>a.eval (.tmp d)|none=>undef) 0 l a0=a:=by
   have aF:=nH (λj=>match(l[j]?).bind (·.dst) with|some d=>a.eval (.tmp d)|none=>undef) l 0 a0;have M:=lq (λj=>match(l[j]?).bind (·.dst) with|some d=>a.eval (.tmp d)|none=>undef) l 0 a0;have V:(aX (λj=>match(l[j]?).bind (·.dst) with|some d=>a.eval (.tmp d)|none=>undef) 0 l a0).tmps=a.tmps:=by
    apply Array.ext_getElem?;intro t;by_cases z:∃(j:Nat)(f:Oper),l[j]?=some f∧f.dst=some t
    .obtain⟨j,f,c,g⟩:=z;have p:=ai j f t c g;rw[qj _ l 0 a0 j f t af c g p];simp only[Nat.zero_add,c,Option.bind_some,g];have:t<a.tmps.size:=by rw[h.ql];exact p
     simp[Act.eval,this]
    .rw[kz _ t l 0 a0 (λo B e=>by
      obtain⟨j,c⟩:=List.getElem?_of_mem B;exact z ⟨j,o,c,e⟩)]
     exact(h.other t (λj f c g=>(z ⟨j,f,by simpa using c,g⟩).elim)).symm
   rw[←h.defers] at M;cases hp:aX (λj=>match(l[j]?).bind (·.dst) with|some d=>a.eval (.tmp d)|none=>undef) 0 l a0 with
   |mk tm df=>rw[hp] at V M;cases a;simp at V M;simp[V,M]
  rw[ea] at hq;exact hq
 intro C;induction C with
 |zero=>
  intro b a w h hc;have F:∀i,i<l.length→b.getD i false=true:=by
   intro i r;by_cases n:b.getD i false=true
   .exact n
   .exfalso
    have:i∈(List.range l.length).filter λi=> !b.getD i false:=List.mem_filter.2 ⟨List.mem_range.2 r,by simpa using n⟩
    have:=List.length_pos_of_mem this;omega
  refine⟨?_,aj b a w h F⟩;unfold Region.ready;rw[List.filter_eq_nil_iff];intro i r;have hi':i<l.length:=(by simpa using r);have q:=F i hi';have:i<b.size:=by rw[h.size];exact hi'
  simp[this] at q⊢;intro z;rw[q] at z;cases z
 |succ C S=>
  intro b a w h hc;refine⟨λR=>aj b a w h (aC b h.size R),λi r=> ?_⟩;unfold Region.ready at r;obtain⟨aH,W⟩:=List.mem_filter.1 r;have J:i<l.length:=(by simpa using aH);have B:l.toArray[i]?=some l[i]:=(by simp[J]);have D:i<b.size:=by rw[h.size];exact J
  rw[B] at W;simp only[Option.map_some,Option.getD_some,Bool.and_eq_true,Bool.not_eq_true',Array.all_eq_true_iff_forall_mem,Bool.or_eq_true] at W;obtain⟨N,aI⟩:=W;have ak:b.getD i false=false:=by simp[D] at N⊢;exact N
  have au:=hs.get (i:=i) (o:=l[i]) (by simp[J]);rw[Nat.zero_add] at au;have ax:∀e∈(l[i]).after,Region.binds .any e=true→b.getD e.on false=true:=λe y p=>by
   rcases aI e y with q|q
   .rw[p] at q;cases q
   .exact q
  have aJ:((List.range l.length).filter λj=> !(b.setIfInBounds i true).getD j false).length<=C:=by
   have aN:((List.range l.length).filter λj=> !(b.setIfInBounds i true).getD j false).length<((List.range l.length).filter λj=> !b.getD j false).length:=by
    have e1:((List.range l.length).filter λj=> !(b.setIfInBounds i true).getD j false)=(((List.range l.length).filter λj=> !b.getD j false).filter λj=> !(j==i)):=by
     rw[List.filter_filter]
     congr 1
     funext j
     rw[dZ b i j D];cases b.getD j false<;>cases(j==i)<;>rfl
    rw[e1];refine List.length_filter_lt_length_iff_exists.2 ⟨i,List.mem_filter.2 ⟨List.mem_range.2 J,by rw[ak];rfl⟩,by simp⟩
   omega
  have aK:∀v x,I i v x→G (dn (λj=>b.getD j false) i) x→(∀j,j≠i→b.getD j false=true→∀u,I j u w→I j u x)→wpAny P .any l.toArray Q C (b.setIfInBounds i true) (a.put (l[i]).dst v) x:=by
   intro v x hI hG ay;refine S _ _ _ ⟨by simpa using h.size,by rw[pI];exact h.ql,by rw[nG];exact h.defers,?_,?_,?_,?_,?_⟩ aJ
   .intro j f c n e y p;rw[dZ b i _ D] at n⊢;by_cases s:j=i
    .subst s;rw[B] at c;cases c;rw[ax e y p];rfl
    .have:(j==i)=false:=(by simpa using s);rw[this,Bool.or_false] at n;rw[h.closed j f c n e y p];rfl
   .intro j f d c g n;rw[dZ b i _ D] at n;have p:d<a.tmps.size:=by rw[h.ql];exact ai j f d (by simpa using c) g
    by_cases s:j=i
    .subst s;rw[B] at c;cases c;have:(a.put (l[j]).dst v).eval (.tmp d)=v:=by rw[g];simp[Act.eval,Act.put,p]
     rw[this];exact hI
    .have z:(j==i)=false:=(by simpa using s);rw[z,Bool.or_false] at n;have H:(l[i]).dst≠some d:=λe=>s (vG af (by simpa using c) (by simp[J]) g e)
     rw[eval_eq _ a d (jX a v H)];exact ay j s n _ (h.slots j f d c g n)
   .intro j f c g n;rw[dZ b i _ D] at n;by_cases s:j=i
    .subst s;exact⟨v,hI⟩
    .have z:(j==i)=false:=(by simpa using s);rw[z,Bool.or_false] at n;obtain⟨u,N⟩:=h.mute j f c g n;exact⟨u,ay j s n u N⟩
   .intro t E;have H:(l[i]).dst≠some t:=λe=>by
     have:=E i l[i] B e;rw[dZ b i _ D] at this;simp at this
    rw[jX a v H];refine h.other t λj f c g=> ?_
    have:=E j f c g;rw[dZ b i _ D] at this;simp only[Bool.or_eq_false_iff] at this;exact this.1
   .have:(λj=>(b.setIfInBounds i true).getD j false)=dn (λj=>b.getD j false) i:=by
     funext j
     rw[dZ b i _ D];rfl
    rw[this];exact hG
  have O:=au (λj=>b.getD j false) a w (wpAny P .any l.toArray Q C (b.setIfInBounds i true)) ak
   (λj k A n=>by
    cases c:l.toArray[j]? with
    |none=>rw[c] at A;cases A
    |some f=>rw[c] at A;obtain⟨e,y,p,X⟩:=jC A;rw[←X];exact h.closed j f c n e y p)
   (λj d g n=>by
    cases c:l.toArray[j]? with
    |none=>rw[c] at g;cases g
    |some f=>rw[c] at g;have:=h.slots j f d c g n;simpa[Act.eval] using this)
   (λt E=>congrArg (·.getD undef) (h.other t (λj f c g=>by have q:=List.all_eq_true.1 E f (mG' (by simpa using c));rw[g] at q;simp at q)))
   (λt m p K=>congrArg (·.getD undef) (h.other t (λj f c g=>by
    have L:j<l.toArray.size:=(Array.getElem?_eq_some_iff.1 c).1;have q:=List.all_eq_true.1 p j (List.mem_range.2 L);rw[c] at q;simp only[Option.map_some,Option.getD_some,g,Bool.or_eq_true,beq_iff_eq,bne_self_eq_false] at q;rcases q with q|q
    .subst q;exact K
    .cases q)))
   (λk A=>by obtain⟨e,y,p,X⟩:=jC A;rw[←X];exact ax e y p) h.BM aK
  unfold wpOp;rw[B];simp only
  split
  .rename_i A;rw[if_pos A] at O;exact .inl O
  .rename_i A;rw[if_neg A] at O;exact O
theorem yN{g:Nat}{w:World}(I:Nat→Value→World→Prop)(G:(Nat→Bool)→World→Prop)(h:P.follows .mixedOrders=true)(i:tidy l a0.tmps.size=true)
  (k:G (λ_=>false) w.drew) (m:oq P l.toArray Q a0 I G 0 l)
  (n:∀(vs:Nat→Value)(c:World),(∀j a,l[j]?=some a→a.dst≠none→I j (vs j) c)→(∀j a,l[j]?=some a→a.dst=none→∃u,I j u c)→G (λj=>decide (j<l.length)) c→Q .normal (aX vs 0 l a0) c):
  (Code.region g l.toArray true).wp P Q a0 w:=by
 refine wp_region_any h (GN i m n _ _ _ _ ?_ ?_)
 .have e:∀j,(Array.replicate l.toArray.size false).getD j false=false:=λj=>by
   simp only[Array.getD_eq_getD_getElem?,Array.getElem?_replicate]
   split<;>rfl
  refine⟨by simp,rfl,rfl,?_,?_,?_,?_,?_⟩
  .intro j a f b;rw[e] at b;cases b
  .intro j a d f o b;rw[e] at b;cases b
  .intro j a f o b;rw[e] at b;cases b
  .intro t _;rfl
  .have:(λj=>(Array.replicate l.toArray.size false).getD j false)=λ_=>false:=funext e
   rw[this];exact k
 .exact Nat.le_trans (List.length_filter_le _ _) (by simp)
end
structure DV (ok:ae) (w:World) (B:Nat) (wr:World) (v:Value) (rows:List (Y)) (ds:List Ch):Prop where
 own:aB wr B 30 11 v rows
 len:rows.length=ds.length
 val:∀(i:Nat)(r:Y)(d:Ch),rows[i]?=some r→ds[i]?=some d→dU ok w r d
section
variable {ok:ae} {w wr w6:World} {B:Nat} {v v':Value} {rows:List (Y)} {ds:List Ch} {r:Y} {d:Ch}
theorem DV.start(ok:ae)(w:World)(B:Nat)(wr:World):DV ok w B wr (.slice none 0 0) [] []:=
 ⟨aB.nil _ _ _ _,rfl,λi r d h=>by simp at h⟩
theorem DV.keep(h:DV ok w B wr v rows ds){S:ae}(a:O S wr w6)(b:∀k,v.ownBlock=some k→¬S k):DV ok w B w6 v rows ds:=⟨h.own.X a b,h.len,h.val⟩
theorem DV.step(h:DV ok w B wr v rows ds)(e:dU ok w r d)(f:aB w6 B 30 11 v' (rows++[r])):DV ok w B w6 v' (rows++[r]) (ds++[d]):=by
 refine⟨f,by simp[h.len],λi g y a b=> ?_⟩;by_cases c:i<rows.length
 .rw[List.getElem?_append_left c] at a;rw[List.getElem?_append_left (by rw[←h.len];exact c)] at b;exact h.val i g y a b
 .have j:i=rows.length:=by
   have:=(gS'.1 a).1;simp at this;omega
  subst j;rw[List.getElem?_append_right lR',Nat.sub_self] at a;rw[h.len,List.getElem?_append_right lR',Nat.sub_self] at b;cases a;cases b;exact e
end
structure WR (ok:ae) (w:World) (B:Nat) (wr:World) (v:Value) (rows:List (Y)) (xs:List Want):Prop where
 own:aB wr B 79 7 v rows
 len:rows.length=xs.length
 val:∀(i:Nat)(r:Y)(x:Want),rows[i]?=some r→xs[i]?=some x→dF ok w r x
section
variable {ok:ae} {w wr w6:World} {B:Nat} {v v':Value} {rows:List (Y)} {xs:List Want} {r:Y} {x:Want}
theorem WR.start(ok:ae)(w:World)(B:Nat)(wr:World):WR ok w B wr (.slice none 0 0) [] []:=
 ⟨aB.nil _ _ _ _,rfl,λi r d h=>by simp at h⟩
theorem WR.keep(h:WR ok w B wr v rows xs){S:ae}(a:O S wr w6)(b:∀k,v.ownBlock=some k→¬S k):WR ok w B w6 v rows xs:=⟨h.own.X a b,h.len,h.val⟩
theorem WR.step(h:WR ok w B wr v rows xs)(d:dF ok w r x)(e:aB w6 B 79 7 v' (rows++[r])):WR ok w B w6 v' (rows++[r]) (xs++[x]):=by
 refine⟨e,by simp[h.len],λi f y a b=> ?_⟩;by_cases c:i<rows.length
 .rw[List.getElem?_append_left c] at a;rw[List.getElem?_append_left (by rw[←h.len];exact c)] at b;exact h.val i f y a b
 .have g:i=rows.length:=by
   have:=(gS'.1 a).1;simp at this;omega
  subst g;rw[List.getElem?_append_right lR',Nat.sub_self] at a;rw[h.len,List.getElem?_append_right lR',Nat.sub_self] at b;cases a;cases b;exact d
end
theorem kM{b:Array Oper}{rest:List Oper}{o:Oper}{a:Act}{w:World}{Q:ah}(c:o.guard=none){x:Operand}(d:o.op=.buildSlice 27 1 #[(0,x)]){cs:Y}(e:a.eval x=.agg cs.toArray)(f:cs.length=11)
  (h:wpList Tryz.prog b Q rest (a.put o.dst (.slice (some ⟨w.heap.size,0,none⟩) 1 1)) (w.alloc (.cells cs.toArray 30))):wpList Tryz.prog b Q (o::rest) a w:=
 wpList_plain c λ_ g=>sN d e f (g _ _ h)
theorem jd{P:Program}{j:Array Oper}{rest:List Oper}{o:Oper}{a:Act}{w:World}{Q:ah}(n:o.guard=none){t e size l i:Nat}(p:iJ P t e size l){s x:Operand}
  (q:o.op=.call {callee:=.builtin .append,args:=#[s,x],argTypes:=#[t,t]}) {v:Value} {rows:List (Y)} (u:a.eval s=v) (y:aB w i e size v rows)
  {ok:ae} {m:Value} {g:List (Y)} (z:a.eval x=m) (A:aC ok w m size g) (B:∀r∈g,r.all (·.oneCell')=true)
  (C:rows.length+g.length<=1099511627776) (D:(rows.length+g.length)*l<=140737488355328) (E:i<=w.heap.size)
  (h:∀v' f,aB f i e size v' (rows++g)→O (λb=>v.ownBlock=some b) w f→(v'.ownBlock=v.ownBlock∨∀k,v'.ownBlock=some k→w.heap.size<=k)→aB f i e size v rows→wpList P j Q rest (a.put o.dst v') f):
  wpList P j Q (o::rest) a w:=
 wpList_plain n λ_ F=>mP p q u y z A B C D E λv' f a b c d=>F _ _ (h v' f a b c d)
theorem any_take_succ{f:Want→Bool}{l:List Want}{n:Nat}{k:Want}(h:l[n]?=some k):(l.take (n+1)).any f=((l.take n).any f||f k):=by rw[List.take_add_one,h,List.any_append];simp
theorem sO{p:Ch→Bool}:∀{l:List Ch}{k:Nat}{d:Ch},(∀x∈l.take k,p x=false)→l[k]?=some d→p d=true→l.find? p=some d
 |a::r,0,d,_,b,c=>by cases b;rw[List.find?_cons,c]
 |a::r,k+1,d,e,b,c=>by have f:=e a (by simp);rw[List.find?_cons,f];exact sO (λx g=>e x (by rw[List.take_succ_cons];exact List.mem_cons_of_mem _ g)) (by simpa using b) c
theorem dU.as{ok:ae}{w:World}{name a:K}{k:Int}{b:Bool}{i:Int}{f:Nat}{t:K}{c e g j:Value}{d:Ch}(h:dU ok w (az name a k b i f t c e g j) d)(l:K):dU ok w (az l a k b i f t c e g j) (d.as l):=by
 generalize m:az name a k b i f t c e g j=cs at h;cases h with
 |mk n o p h q r s=>simp only[az,List.cons.injEq,Value.string.injEq,Value.int.injEq,Value.bool.injEq,Value.float.injEq,true_and,and_true] at m;obtain⟨rfl,rfl,rfl,rfl,rfl,rfl,rfl,rfl,rfl,rfl,rfl⟩:=m;exact .mk n o p h q r s
def jf(ok:ae)(a:List Want)(v:Value)(w:World):Prop:=
 ∃rows:List (Y),aC ok w v 7 rows∧rows.length=a.length∧∀(n:Nat)(r:Y)(y:Want),rows[n]?=some r→a[n]?=some y→dF ok w r y
theorem jf.X{ok S:ae}{c:List Want}{v:Value}{w d:World}(h:jf ok c v w)(e:O S w d)(f:∀b,ok b→¬S b):jf ok c v d:=by obtain⟨rows,g,i,j⟩:=h;exact⟨rows,g.X e f,i,λn r y a b=>(j n r y a b).X e f⟩
theorem jf.mono{ok ok':ae}{c:List Want}{v:Value}{w:World}(h:jf ok c v w)(d:∀b,b<w.heap.size→ok b→ok' b):jf ok' c v w:=by obtain⟨rows,e,f,g⟩:=h;exact⟨rows,e.mono d (by decide),f,λn r y a b=>(g n r y a b).mono d⟩
theorem oL.at{ok:ae}{w:World}{d:List Want}{e:Ending}{c:World}(h:oL ok w d e c):∃v,e=.returned v∧jf (λb=>ok b∨w.heap.size<=b) d v c∧O No w c:=by obtain⟨v,rows,rfl,g,i,j,f⟩:=h;exact⟨v,rfl,⟨rows,g,i,λn r y a b=>((j n r y a b).X f nE).mono (λb _ k=> .inl k)⟩,f⟩
def ru(ok:ae)(w:World)(g:Nat):ae:=λb=>okB ok w b∨g+3<=b
def Fact.wants(ok:ae)(a:List Want):Fact:=Fact.zU (jf ok a) (λ_ _ _ h b=>h.X b nE)
theorem Fp{ok:ae}{w:World}{B:Nat}{v:Value}{rows:List (Y)}{xs:List Want}{wr:World}(h:WR ok w B wr v rows xs)(d:O No w wr):jf (λb=>ok b∨B<=b) xs v wr:=
 ⟨rows,h.own.rowAt.mono (λb _ c=> .inr (h.own.elem c).1) (by decide),h.len,λn r y a b=>((h.val n r y a b).X d nE).mono (λb _ c=> .inl c)⟩
theorem WR.dV{ok:ae}{w wr:World}{B:Nat}{v:Value}{rows:List (Y)}{xs:List Want}(h:WR ok w B wr v rows xs):WR (okB ok w) w B wr v rows xs:=
 ⟨h.own,h.len,λi r x a b=>(h.val i r x a b).mono (λb c h=>⟨h,c⟩)⟩
structure EV (ji:ae) (go:Nat) (mk:Value→Y) (wr:World) (v:Value) (rows:List (Y)) (ds:List Ch):Prop where
 own:aB wr (go+1) 30 11 v rows
 len:rows.length=ds.length
 val:∀(i:Nat)(r:Y)(d:Ch),rows[i]?=some r→ds[i]?=some d→dU (λb=>ji b∧b≠go∧v.ownBlock≠some b) wr r d
 box:ay wr go (mk v) 30
section
variable {ji okr:ae} {go:Nat} {mk:Value→Y} {w4 w6 w7:World} {v v':Value} {rows:List (Y)} {ds:List Ch} {r:Y} {d:Ch}
theorem EV.keep(h:EV ji go mk w4 v rows ds)(c:O No w4 w6):EV ji go mk w6 v rows ds:=
 ⟨h.own.X c nE,h.len,λi r d a b=>(h.val i r d a b).X c nE,h.box.X c id⟩
theorem EV.step(h:EV ji go mk w4 v rows ds)(q:dU okr w4 r d)(s:∀b,b<w4.heap.size→okr b→ji b∧b≠go∧v.ownBlock≠some b)(t:O (λb=>v.ownBlock=some b) (w4.alloc (.cells r.toArray 30)) w6)
  (m:aB w6 (go+1) 30 11 v' (rows++[r])) (c:v'.ownBlock=v.ownBlock∨∀k,v'.ownBlock=some k→(w4.alloc (.cells r.toArray 30)).heap.size<=k) (u:ay w7 go (mk v') 30) (n:O (·=go) w6 w7):EV ji go mk w7 v' (rows++[r]) (ds++[d]):=by
 have o:∀{f:Y}{l:Ch},dU (λb=>ji b∧b≠go∧v.ownBlock≠some b) w4 f l→dU (λb=>ji b∧b≠go∧v'.ownBlock≠some b) w7 f l:=by
  intro f l w;have x:=w.mono (ok':=λb=>(ji b∧b≠go∧v.ownBlock≠some b)∧b<w4.heap.size) (λb a h=>⟨h,a⟩);have z:=x.X ((O.refl No w4).alloc (.cells r.toArray 30)) nE;have A:=z.X t (λb a e=>a.1.2.2 e);have B:=A.X n (λb a e=>a.1.2.1 e);refine B.mono (λb _ a=>⟨a.1.1,a.1.2.1,λe=> ?_⟩);rcases c with c|c
  .exact a.1.2.2 (c▸e)
  .have E:w4.heap.size+1<=b:=(by simpa using c b e);have:=a.2;omega
 refine⟨m.X n (λk C e=>by have:=(m.elem C).1;omega),by simp[h.len],λi f y g j=> ?_,u⟩;by_cases p:i<rows.length
 .rw[List.getElem?_append_left p] at g;rw[List.getElem?_append_left (by rw[←h.len];exact p)] at j;exact o (h.val i f y g j)
 .have D:i=rows.length:=by
   have:=(gS'.1 g).1;simp at this;omega
  subst D;rw[List.getElem?_append_right lR',Nat.sub_self] at g;rw[h.len,List.getElem?_append_right lR',Nat.sub_self] at j;cases g;cases j;exact o (q.mono s)
end
theorem nM.plain{L:Nat}{d:Ch}(h:nM L d):lC d.name:=by
 cases L with
 |zero=>exact h.elim
 |succ L=>exact h.2.1
theorem jF{f:Ch→Option Ch}:∀{l a:List Ch},eH f l=some a→a.length=l.length
 |[],a,h=>by cases h;rfl
 |d::r,a,h=>by
  simp only[eH] at h;cases hf:f d with
  |none=>rw[hf] at h;cases h
  |some x=>
   rw[hf] at h;cases hr:eH f r with
   |none=>rw[hr] at h;cases h
   |some y=>rw[hr] at h;cases h;simp[jF hr]
theorem uV(a:List Ch)(wants:List Want):(dw a wants).length<=a.length+wants.length:=by unfold dw;rw[List.length_append];have b:=List.length_filter_le (loneD wants) a;have c:=List.length_filterMap_le (fG a) wants;omega
def zZ(ok:ae)(w:World)(o:Option Ch)(e:Ending)(a:World):Prop:=
 ∃cs:Y,e=.returned (.tuple #[.agg cs.toArray,.bool o.isSome])∧O No w a∧(cs.length=11∧cs.all (·.oneCell')=true)∧∀c',o=some c'→dU (λb=>ok b∨w.heap.size<=b) a cs c'
theorem D7(U:List K)(N:Nat)(hU:U.length<1099511627776)(hN:400<=N)(ny:gK∈U)(L:Nat):∀(c:Ch),GL U L c→∀(E:Nat)(ok:ae)(cc cv:Y)(v:T)(o:K)(w:World),dU ok w cc c→aG ok w cv (.table v)→WU U N E (.table v)→o.size+20*L<=1000→
  Calls Tryz.prog 42 #[.agg cc.toArray,.agg cv.toArray,.string o] w (zZ ok w (fF L c v o)):=by
 induction L with
 |zero=>intro c hc;exact hc.gQ.elim
 |succ L ih=>
  intro c hc E ok cc cv v o w kS kT iF nz;have IH:=Z ih;have dm:=Z hc;have nC:=Z iF;have nD:=Z nz;have nG:=Z kS;have pW:=Z kT;obtain⟨name,dH,k,b,i,f,t,kv,lv,dv,wv,rfl,nH,aQ,hv,⟨aT,hd,hn,nI⟩,⟨P,hw,nJ,iG⟩⟩:=kS.cells;have nK:=Z nH;have nM:=Z aQ;have HV:=Z hv;have HD:=Z (aC.mono (ok':=okB ok w) hd (λb D h=>⟨h,D⟩) (by decide));have jG:=Z hn;have nN:=Z nI;have HW:=Z (aC.mono (ok':=okB ok w) hw (λb D h=>⟨h,D⟩) (by decide));have rP:=Z hw;have eQ:=Z nJ;have kU:=Z iG;have pX:=hd.1;have pY:=hw.1;obtain⟨-, -,da,dc,rfl, -, -⟩:=hd;obtain⟨-, -,wa,wc,rfl, -, -⟩:=hw;unfold maxLen at pX pY;obtain⟨vb,vi,vf,vt,kV,kW,rfl⟩:=kT.fV;have nO:∀W,((w.alloc (.cells (az name dH k b i f t kv lv (.slice da aT.length dc) (.slice wa P.length wc)).toArray 30)).alloc (.cells (ai 7 vb vi vf vt kV kW).toArray 26)).alloc (.cells fZ.toArray 30)=W→
    ay W w.heap.size (az name dH k b i f t kv lv (.slice da aT.length dc) (.slice wa P.length wc)) 30∧ay W (w.heap.size+1) (ai 7 vb vi vf vt kV kW) 26∧ay W (w.heap.size+2) fZ 30∧O No w W∧W.heap.size=w.heap.size+3:=by
   rintro W rfl;exact⟨((ay.new _ _ _).alloc _).alloc _,(ay.newAt (by simp) _ _).alloc _,ay.newAt (by simp) _ _,(((O.refl No w).alloc _).alloc _).alloc _,by simp⟩
  have HF:=Z nO;clear nO kS kT hv hn nI nJ iG hc iF ih nz nH aQ;go_enter Tryz.func42,Tryz.ntmps42;unfold az ai;go_upto_region 1 with fail
  generalize bC:World.alloc _ _=W;obtain⟨b0,b1,b2,c1,bI⟩:=HF.o W bC;clear bC HF;obtain⟨g,hg⟩:∃g,g=w.heap.size:=⟨_,rfl⟩;rw[←hg] at b0 b1 b2 bI⊢;rw[show g+1+1=g+2 from rfl];have HG:=Z hg;have gG:=Z bI;have kX:=Z c1;have jH:=Z b0;have qc:=Z b1;have qf:=Z b2;have iU:W.cell? ⟨g,10,none⟩=some (.slice wa P.length wc):=b0.cell 10;have k9:W.cell? ⟨g,9,none⟩=some (.slice da aT.length dc):=b0.cell 9;have iW:(az name dH k b i f t kv lv (.slice da aT.length dc) (.slice wa P.length wc)).all (·.oneCell')=true:=nG.o.one.2;clear b1 c1 hg bI;by_cases iH:P.length=0
  .have nP:((P.length:Int)==0)=true:=(by simp[iH]);have gJ:=Z (show fF (L+1) c v o=some c by
    have p:c.wants=[]:=List.eq_nil_of_length_eq_zero (by rw[←eQ.o,iH]);rw[fF,p];rfl)
   clear iH k9;go_wp2_with (first|(with_reducible refine V rfl aK rfl rfl b0.cells rfl ?_)|(with_reducible refine aA rfl aK rfl rfl rfl b2 rfl rfl iW ?_;intro w4 aZ aj rQ));have iI:O No w w4:=kX.o.trans aj (λx I e=>by have s:x=g+2:=e;have:=HG.o;omega);rw[gJ.o];refine bodyPost_ret (aW rfl aK rfl aZ rfl) rfl ⟨_,rfl,iI,⟨rfl,iW⟩,λc' h=> ?_⟩;cases h;exact(nG.o.X iI nE).mono (λb _ D=> .inl D)
  .have nP:((P.length:Int)==0)=false:=by rw[beq_eq_false_iff_ne];omega
   clear b0 b2;go_wp2_with fail;clear iU k9 nP;go_loopw [8,39] (λv8 R wr=>∃(n:Nat) (G:List (Y)),R=.int .i64 n∧n<=aT.length∧DV ok w (g+3) wr v8 G ((c.deps.take n).filter (loneD c.wants))∧O (λb=>g+3<=b) W wr) (λ_ R _=>aT.length - (intOf R).toNat);case atStart=>exact⟨0,[],rfl,zL',DV.start _ _ _ _,O.refl _ _⟩
   case round=>
    obtain⟨n,G,rfl,kY,gU,dM⟩:=hrel;obtain⟨S,rfl⟩:∃S,S=wr:=⟨_,rfl⟩;obtain⟨va,vc,rfl⟩:=gU.own.dY;have aU:=Z gU;have bf:=Z dM;have gV:=Z (show O No w S from kX.o.trans dM (λx I e=>by have:=HG.o;omega));clear gU dM;by_cases gW:n<aT.length
    .obtain⟨r,dN⟩:=gX' aT n (gW);obtain⟨d,dO⟩:=gX' c.deps n ((by rw[←jG.o];exact gW));obtain⟨lb,lo,rfl, -,cu⟩:=HD.o.at (i:=n) (r:=r) dN;have cu:=cu.X gV.o id;have bu:=nN.o n r d dN dO;have iJ:=Z bu;have dP:=Z dO;have dQ:=bu.one.1;have eU:=bu.one.2;obtain⟨Q,rv,rk,rb,ri,rf,rt,bJ,bM,bQ,bT,rfl,fK,fM, -⟩:=bu.cells;have jI:(n:Int)<(aT.length:Int):=(by omega);have bx:=ay.new S (az Q rv rk rb ri rf rt bJ bM bQ bT) 30;obtain⟨gx,dR⟩:∃gx,gx=S.heap.size:=⟨_,rfl⟩;have kZ:=Z dR;have bg:=Z (And.intro fK fM);clear dN dO bu fK fM;go_upto_region 8 with(first|(with_reducible refine V rfl aK rfl rfl cu dQ ?_)|(with_reducible refine ak rfl aK rfl rfl rfl rfl dQ eU ?_))
     obtain⟨wx,dS⟩:∃wx,wx=S.alloc (.cells (az Q rv rk rb ri rf rt bJ bM bQ bT).toArray 30):=⟨_,rfl⟩;have bD:=Z (show O No S wx by rw[dS];exact(O.refl No S).alloc _);rw[←dS] at bx⊢;rw[←dR] at bx⊢;have gY:=Z bx;have lg:wx.cell? ⟨g,10,none⟩=some (.slice wa P.length wc):=((jH.o.X bf.o (λe=>by omega)).X bD.o id).cell 10;clear dS dR cu dQ eU bx;go_wp2_with fail;clear lg;go_loopw [11,46] (λbv R wr=>∃k:Nat,R=.int .i64 k∧k<=P.length∧bv=.bool ((c.wants.take k).any λx=>bK x d)∧O No wx wr) (λ_ R _=>P.length - (intOf R).toNat);case atStart=>exact⟨0,rfl,zL',rfl,O.refl _ _⟩
     case round=>
      obtain⟨F,rfl,hk,rfl,fO⟩:=hrel;have aV:=Z fO;obtain⟨y0,gZ⟩:∃y0,y0=(c.wants.take F).any λx=>bK x d:=⟨_,rfl⟩
      rw[←gZ];have dW:=Z gZ;clear fO gZ;by_cases fB:F<P.length
      .obtain⟨r2,bU⟩:=gX' P F (fB);obtain⟨x,I⟩:=gX' c.wants F ((by rw[←eQ.o];exact fB));obtain⟨lh,lq,rfl, -,aY⟩:=HW.o.at (i:=F) (r:=r2) bU;have aY:=((aY.X gV.o id).X bD.o id).X aV.o id;have aQ:=kU.o F r2 x bU I;have bV:=aQ.len.1;have dn:=aQ.len.2;have HX:=Z I;obtain⟨B,C,rfl, -, -⟩:=aQ;have bw:=ay.new wr (aI x B C) 79;obtain⟨u,bC⟩:∃u,u=wr.heap.size:=⟨_,rfl⟩;have iY:(F:Int)<(P.length:Int):=(by omega);clear I bU;go_upto_region 11 with(first|(with_reducible refine V rfl dD rfl rfl aY bV ?_)|(with_reducible refine ak rfl dD rfl rfl rfl rfl bV dn ?_))
       obtain⟨J,bW⟩:∃J,J=wr.alloc (.cells (aI x B C).toArray 79):=⟨_,rfl⟩;have aF:=Z (show O No wx J by rw[bW];exact aV.o.alloc _);rw[←bW] at bw⊢;rw[←bC] at bw⊢;have lu:J.cell? ⟨u,0,none⟩=some (.string x.name):=bw.cell 0;have nR:J.cell? ⟨u,1,none⟩=some (.string x.version):=bw.cell 1;have iK:=gY.o.X aF.o id;have iZ:J.cell? ⟨gx,0,none⟩=some (.string Q):=iK.cell 0;have nS:J.cell? ⟨gx,1,none⟩=some (.string rv):=iK.cell 1;clear bW bC aY bV dn bw iK;cases y0 with
       |true=>
        go_wp2_with fail
        go_roundw;case rel=>exact⟨F+1,by go_num,by omega,by rw[any_take_succ HX.o,←dW.o];rfl,aF.o⟩
        case measure=>simp[intOf];omega
       |false=>
        by_cases s:x.name=Q
        .have iL:(x.name.toList==Q.toList)=true:=by rw[aS];simpa using s
         by_cases e2:x.version=rv
         .have jJ:(x.version.toList==rv.toList)=true:=by rw[aS];simpa using e2
          have dX:=Z (show bK x d=true by simp[bK,bg.o.1,bg.o.2,s,e2]);clear s e2;go_wp2_with fail;go_roundw;case rel=>exact⟨F+1,by go_num,by omega,by rw[any_take_succ HX.o,←dW.o,dX.o];rfl,aF.o⟩
          case measure=>simp[intOf];omega
         .have jJ:(x.version.toList==rv.toList)=false:=by rw[aS];simpa using e2
          have dX:=Z (show bK x d=false by simp[bK,bg.o.1,bg.o.2,s,e2]);clear s e2;go_wp2_with fail;go_roundw;case rel=>exact⟨F+1,by go_num,by omega,by rw[any_take_succ HX.o,←dW.o,dX.o];rfl,aF.o⟩
          case measure=>simp[intOf];omega
        .have iL:(x.name.toList==Q.toList)=false:=by rw[aS];simpa using s
         have dX:=Z (show bK x d=false by simp[bK,bg.o.1,bg.o.2,s]);clear s;go_wp2_with fail;go_roundw;case rel=>exact⟨F+1,by go_num,by omega,by rw[any_take_succ HX.o,←dW.o,dX.o];rfl,aF.o⟩
         case measure=>simp[intOf];omega
      .have rU:F=P.length:=Nat.le_antisymm hk (Nat.not_lt.1 fB);have iY:¬(F:Int)<(P.length:Int):=(by omega);have iM:=Z (show loneD c.wants d= !y0 by unfold loneD;rw[dW.o,List.take_of_length_le (by rw[←eQ.o];omega)]);have jK:=Z (gY.o.X aV.o id);have bz:=Z (bD.o.trans' aV.o);clear dW;cases y0 with
       |true=>
        have ig:=Z (show(c.deps.take (n+1)).filter (loneD c.wants)=(c.deps.take n).filter (loneD c.wants) by rw[fP dP.o,iM.o];simp);go_wp2_with fail;go_roundw;case rel=>exact⟨n+1,G,by go_num,by omega,by rw[ig.o];exact aU.o.keep bz.o nE,bf.o.trans' bz.o⟩
        case measure=>simp[intOf];omega
       |false=>
        have ig:=Z (show(c.deps.take (n+1)).filter (loneD c.wants)=(c.deps.take n).filter (loneD c.wants)++[d] by rw[fP dP.o,iM.o];simp);have b3:=jK.o.cells;have jM:(az Q rv rk rb ri rf rt bJ bM bQ bT).length=11:=rfl;have nT:=iJ.o.one.2;have cO:=aU.o.own.X bz.o nE;have ja:G.length<=20:=by rw[aU.o.len];have p:=List.length_filter_le (loneD c.wants) (c.deps.take n);have H:=dm.o.gQ.2.2.2.1;simp at p;omega
        have qg:g+3<=wr.heap.size+1:=by have p:=gG.o;have H:=bf.o.size;have h3:=bz.o.size;omega
        go_wp2_with (first|(with_reducible refine V rfl aK rfl rfl b3 jM ?_)|(refine kM rfl rfl rfl jM ?_)|(at_builtin;refine jd rfl tX rfl rfl (cO.alloc _) rfl (aC.gX wr (az Q rv rk rb ri rf rt bJ bM bQ bT) 30 11 jM) (by intro r hr;obtain rfl:=List.mem_singleton.1 hr;exact nT) (by simp;omega) (by simp;omega) (by simpa using qg) ?_;intro v' w6 aJ af dA dZ;go_frame))
        have jb:=Z (aU.o.step iJ.o aJ);have dI:=Z (show O (λb=>g+3<=b) W w6 from((bf.o.trans' bz.o).trans' ((O.refl No wr).alloc _)).trans af (λx I e=>(cO.elem e).1));clear aJ af dA dZ cO b3 nT jM;go_roundw;case rel=>exact⟨n+1,_,by go_num,by omega,by rw[ig.o];exact jb.o,dI.o⟩
        case measure=>simp[intOf];omega
    .have qh:n=aT.length:=Nat.le_antisymm kY (Nat.not_lt.1 gW);have jI:¬(n:Int)<(aT.length:Int):=(by omega);have lC:=Z (show DV ok w (g+3) S (.slice va G.length vc) G (c.deps.filter (loneD c.wants)) by
      have h:=aU.o;rw[List.take_of_length_le (by rw[←jG.o];omega)] at h;exact h)
     have lg:S.cell? ⟨g,10,none⟩=some (.slice wa P.length wc):=(jH.o.X bf.o (λe=>by omega)).cell 10;clear aU;go_wp2_with fail;clear lg;obtain⟨nV,nX⟩:∃nV,nV=S:=⟨_,rfl⟩;rw[←nX] at bf gV lC⊢;clear nX;go_loopw [8,14,76] (λv8 jO R wr=>∃(n:Nat) (G bn:List (Y)),R=.int .i64 n∧n<=P.length∧DV ok w (g+3) wr v8 G (c.deps.filter (loneD c.wants)++(c.wants.take n).filterMap (fG c.deps))∧WR ok w (g+3) wr jO bn ((c.wants.take n).map gy)∧O (λb=>g+3<=b) W wr) (λ_ _ R _=>P.length - (intOf R).toNat);case atStart=>exact⟨0,G,[],rfl,zL',by simpa using lC.o,WR.start _ _ _ _,bf.o⟩
     case round=>
      obtain⟨n,G,bn,rfl,kY,gU,iG,dM⟩:=hrel;obtain⟨S,rfl⟩:∃S,S=wr:=⟨_,rfl⟩;obtain⟨va,vc,rfl⟩:=gU.own.dY;obtain⟨sa,sc,rfl⟩:=iG.own.dY;have aU:=Z gU;have fC:=Z iG;have bf:=Z dM;have gV:=Z (show O No w S from kX.o.trans dM (λx I e=>by have:=HG.o;omega));clear gU iG dM lC;by_cases gW:n<P.length
      .obtain⟨r2,bU⟩:=gX' P n (gW);obtain⟨x,I⟩:=gX' c.wants n ((by rw[←eQ.o];exact gW));obtain⟨lh,lq,rfl, -,aY⟩:=HW.o.at (i:=n) (r:=r2) bU;have aY:=aY.X gV.o id;have aQ:=kU.o n r2 x bU I;have bV:=aQ.len.1;have dn:=aQ.len.2;have HX:=Z I;obtain⟨B,C,rfl,nY,nZ⟩:=aQ;have HT:=Z nY;have HI:=Z nZ;have jP:=Z dn;have bw:=ay.new S (aI x B C) 79;obtain⟨u,bC⟩:∃u,u=S.heap.size:=⟨_,rfl⟩;have ik:=Z bC;have jI:(n:Int)<(P.length:Int):=(by omega);have b0:=jH.o.X bf.o (λe=>by omega);clear I bU nY nZ;go_upto_region 20 with(first|(with_reducible refine V rfl dD rfl rfl aY bV ?_)|(with_reducible refine ak rfl dD rfl rfl rfl rfl bV dn ?_))
       obtain⟨wx,dS⟩:∃wx,wx=S.alloc (.cells (aI x B C).toArray 79):=⟨_,rfl⟩;have bD:=Z (show O No S wx by rw[dS];exact(O.refl No S).alloc _);rw[←dS] at bw⊢;rw[←bC] at bw⊢;have fQ:=Z bw;have q9:wx.cell? ⟨g,9,none⟩=some (.slice da aT.length dc):=(b0.X bD.o id).cell 9;clear dS bC aY bV dn bw b0;go_wp2_with fail;clear q9;go_loopw [8,83] (λv8 R wr=>∃k:Nat,v8=.slice va G.length vc∧R=.int .i64 k∧k<=aT.length∧(∀d∈c.deps.take k,bK x d=false)∧O No wx wr) (λ_ R _=>aT.length - (intOf R).toNat);case atStart=>exact⟨0,rfl,rfl,zL',by simp,O.refl _ _⟩
       case round=>
        obtain⟨F,rfl,rfl,hk,og,fO⟩:=hrel;have aV:=Z fO;have iO:=Z og;clear fO og;by_cases fB:F<aT.length
        .obtain⟨r,dN⟩:=gX' aT F (fB);obtain⟨d,dO⟩:=gX' c.deps F ((by rw[←jG.o];exact fB));obtain⟨lb,lo,rfl, -,cu⟩:=HD.o.at (i:=F) (r:=r) dN;have cu:=((cu.X gV.o id).X bD.o id).X aV.o id;have bu:=nN.o F r d dN dO;have iJ:=Z bu;have dP:=Z dO;have dQ:=bu.one.1;have eU:=bu.one.2;obtain⟨Q,rv,rk,rb,ri,rf,rt,bJ,bM,bQ,bT,rfl,fK,fM, -⟩:=bu.cells;have iY:(F:Int)<(aT.length:Int):=(by omega);have bx:=ay.new wr (az Q rv rk rb ri rf rt bJ bM bQ bT) 30;obtain⟨gx,dR⟩:∃gx,gx=wr.heap.size:=⟨_,rfl⟩;have kZ:=Z dR;have bg:=Z (And.intro fK fM);have qi:=Z eU;clear dN dO bu fK fM;go_upto_region 23 with(first|(with_reducible refine V rfl aK rfl rfl cu dQ ?_)|(with_reducible refine ak rfl aK rfl rfl rfl rfl dQ eU ?_))
         obtain⟨J,bW⟩:∃J,J=wr.alloc (.cells (az Q rv rk rb ri rf rt bJ bM bQ bT).toArray 30):=⟨_,rfl⟩;have aF:=Z (show O No wx J by rw[bW];exact aV.o.alloc _);rw[←bW] at bx⊢;rw[←dR] at bx⊢;have iZ:J.cell? ⟨gx,0,none⟩=some (.string Q):=bx.cell 0;have nS:J.cell? ⟨gx,1,none⟩=some (.string rv):=bx.cell 1;have jc:=fQ.o.X aF.o id;have lu:J.cell? ⟨u,0,none⟩=some (.string x.name):=jc.cell 0;have nR:J.cell? ⟨u,1,none⟩=some (.string x.version):=jc.cell 1;have gY:=Z bx;have qj:=Z (show wx.heap.size<=gx by rw[kZ.o];exact aV.o.size);clear bW dR cu dQ eU bx;by_cases s:x.name=Q
         .have iL:(x.name.toList==Q.toList)=true:=by rw[aS];simpa using s
          by_cases e2:x.version=rv
          .have jJ:(x.version.toList==rv.toList)=true:=by rw[aS];simpa using e2
           have dX:=Z (show bK x d=true by simp[bK,bg.o.1,bg.o.2,s,e2]);clear s e2;have lD:=Z (show fG c.deps x=some (d.as (named x)) by unfold fG;rw[sO iO.o dP.o dX.o];rfl);have lF:=Z (show(c.wants.take (n+1)).filterMap (fG c.deps)=(c.wants.take n).filterMap (fG c.deps)++[d.as (named x)] by rw[iV HX.o,lD.o];simp);have oh:=jc.cells;have gm:(aI x B C).length=7:=rfl;have rV:=Z jc;go_upto_region 24 with fail
           clear jc lu nR iZ nS iL jJ;go_wp2_with (first|(with_reducible refine V rfl dD rfl rfl oh gm ?_));refine(jv x B C J).mono ?_;rintro e w3 ⟨rfl,cZ⟩;have jQ:=gY.o.X cZ id;have c0:w3.cell? ⟨gx,0,none⟩=some (.string Q):=jQ.cell 0;have f0:=jQ.frozen 0;have gp:=Z jQ;have eX:=Z cZ;clear oh gm cZ jQ;go_upto_region 25 with fail
           obtain⟨aZ,aj, -⟩:=gp.o.setCell 0 (.string (named x));obtain⟨A,bI⟩:∃A,A=w3.setCell ⟨gx,0,none⟩ (.string (named x)):=⟨_,rfl⟩;rw[←bI] at aZ aj⊢;have je:=Z (show ay A gx (az (named x) rv rk rb ri rf rt bJ bM bQ bT) 30 from aZ);have oq:=Z (iJ.o.as (named x));have bF:=Z (show O No wx A from(aF.o.trans' eX.o).trans aj (λq m e=>by have s:q=gx:=e;have:=qj.o;omega));clear bI aZ aj c0 f0 gp eX;have gu:=je.o.cells;have df:(az (named x) rv rk rb ri rf rt bJ bM bQ bT).length=11:=rfl;have gz:=oq.o.one.2;have cO:=aU.o.own.X (bD.o.trans' bF.o) nE;have ja:G.length<=60:=by rw[aU.o.len,List.length_append];have p:=List.length_filter_le (loneD c.wants) c.deps;have H:=dm.o.gQ.2.2.2.1;have h3:=List.length_filterMap_le (fG c.deps) (c.wants.take n);have h4:=dm.o.gQ.2.2.2.2.2.2.1;simp at h3;omega
           have fD:g+3<=A.heap.size+1:=by have p:=gG.o;have H:=bf.o.size;have h3:=bD.o.size;have h4:=bF.o.size;omega
           go_upto_region 27 with(first|(with_reducible refine V rfl aK rfl rfl gu df ?_)|(refine kM rfl rfl rfl df ?_)|(at_builtin;refine jd rfl tX rfl rfl (cO.alloc _) rfl (aC.gX A (az (named x) rv rk rb ri rf rt bJ bM bQ bT) 30 11 df) (by intro r hr;obtain rfl:=List.mem_singleton.1 hr;exact gz) (by simp;omega) (by simp;omega) (by simpa using fD) ?_;intro v' wq aJ af dA dZ;go_frame))
           have lG:=Z (show g+3<=u by have p:=gG.o;have H:=bf.o.size;have:=ik.o;omega);have lH:=Z (show(aI (gy x) B C).all (·.oneCell')=true by have:=jP.o;simp only[aI,List.all_cons,List.all_nil,Bool.and_true,Bool.and_eq_true] at this;simp only[aI,gy,List.all_cons,List.all_nil,Bool.and_true,Bool.and_eq_true];simp_all [Value.oneCell']);have lI:=Z (show ∀q,(Value.slice sa bn.length sc).ownBlock=some q→¬q=u from λq m e=>by have p:=(fC.o.own.elem m).2.1;have:=ik.o;omega);have lJ:=Z (show DV ok w (g+3) wq v' (G++[az (named x) rv rk rb ri rf rt bJ bM bQ bT]) (c.deps.filter (loneD c.wants)++(c.wants.take (n+1)).filterMap (fG c.deps)) by rw[lF.o,←List.append_assoc];exact aU.o.step oq.o aJ);have jg:=Z (show ∀q,(Value.slice va G.length vc).ownBlock=some q→g+3<=q∧q≠u∧(Value.slice sa bn.length sc).ownBlock≠some q from λq m=>⟨(aU.o.own.elem m).1,λe=>by have p:=(aU.o.own.elem m).2.1;have:=ik.o;omega,aU.o.own.apart fC.o.own (by decide) m⟩);have jR:=Z (show WR ok w (g+3) wq (.slice sa bn.length sc) bn ((c.wants.take n).map gy) from(fC.o.keep ((bD.o.trans' bF.o).trans' ((O.refl No A).alloc (.cells (az (named x) rv rk rb ri rf rt bJ bM bQ bT).toArray 30))) nE).keep af (λq m e=>(jg.o q e).2.2 m));have lK:=Z (show O (λb=>g+3<=b) W wq from((bf.o.trans' (bD.o.trans' bF.o)).trans' ((O.refl No A).alloc _)).trans af (λq m e=>(jg.o q e).1));have jh:=Z (show ay wq u (aI x B C) 79 from((fQ.o.X bF.o id).X ((O.refl No A).alloc _) id).X af (λe=>(jg.o u e).2.1 rfl));have lL:=Z (show ∀q,v'.ownBlock=some q→¬q=u from λq m e=>by
            rcases dA with h|h
            .exact(jg.o q (h▸m)).2.1 e
            .have p:=h q m;have H:=fQ.o.lt;have h3:=bF.o.size;simp at p;omega)
           have lM:=Z (show ∀q,v'.ownBlock=some q→¬(Value.slice sa bn.length sc).ownBlock=some q from λq m e=>aJ.apart jR.o.own (by decide) m e);obtain⟨v8,ql⟩:∃v8,v8=v':=⟨_,rfl⟩;clear aJ af dA dZ cO gu df gz ql aU fC fQ aV iO jg;have ji:=jh.o.cells;have gm:(aI x B C).length=7:=rfl;have lN:=Z (show n+1<=P.length by omega);go_wp2_with (first|(with_reducible refine V rfl dD rfl rfl ji gm ?_));refine(jv x B C wq).mono ?_;rintro e w3 ⟨rfl,cZ⟩;have dC:=jh.o.X cZ id;have c0:w3.cell? ⟨u,0,none⟩=some (.string x.name):=dC.cell 0;have c5:w3.cell? ⟨u,5,none⟩=some (.bool x.enabled):=dC.cell 5;have f0:=dC.frozen 0;have f5:=dC.frozen 5;have gp:=Z dC;have eX:=Z cZ;clear ji gm cZ dC;go_upto_region 28 with fail
           obtain⟨aZ,aj, -⟩:=gp.o.setCell 0 (.string (named x));obtain⟨ed,dh, -⟩:=aZ.setCell 5 (.bool true);obtain⟨A,bI⟩:∃A,A=(w3.setCell ⟨u,0,none⟩ (.string (named x))).setCell ⟨u,5,none⟩ (.bool true):=⟨_,rfl⟩;rw[←bI] at ed dh⊢;have bF:=Z (show O (·=u) wq A from((eX.o.mono (λ_ _ e=>e.elim)).trans aj nE).trans dh nE);have je:=Z (show ay A u (aI (gy x) B C) 79 from ed);clear bI aZ aj ed dh c0 c5 f0 f5 gp eX;have lQ:=Z (lJ.o.keep bF.o (λq m e=>lL.o q m e));have iq:=Z (jR.o.keep bF.o (λq m e=>lI.o q m e));have di:=Z (show O (λb=>g+3<=b) W A from lK.o.trans bF.o (λq m e=>by have s:q=u:=e;rw[s];exact lG.o));have gu:=je.o.cells;have df:(aI (gy x) B C).length=7:=rfl;have gz:(aI (gy x) B C).all (·.oneCell')=true:=lH.o;have cO:=iq.o.own;have ja:bn.length+1<=1099511627776:=by rw[iq.o.len];simp;have:=dm.o.gQ.2.2.2.2.2.2.1;omega
           have fD:g+3<=A.heap.size+1:=by have p:=gG.o;have H:=di.o.size;omega
           go_wp2_with (first|(with_reducible refine V rfl dD rfl rfl gu df ?_)|(refine fU rfl rfl rfl df ?_)|(at_builtin;refine aN rfl nU rfl rfl (cO.alloc _) rfl (aC.gX A (aI (gy x) B C) 79 7 df) (by intro r hr;obtain rfl:=List.mem_singleton.1 hr;exact gz) ja (by decide) (by simpa using fD) ?_;intro v' w6 aJ af dA dZ;go_frame))
           have lS:=Z (iq.o.step (x:=gy x) ⟨B,C,rfl,HT.o,HI.o⟩ aJ);have jb:=Z ((lQ.o.keep ((O.refl No A).alloc (.cells (aI (gy x) B C).toArray 79)) nE).keep af (λq m e=>lM.o q m e));have dI:=Z (show O (λb=>g+3<=b) W w6 from(di.o.trans' ((O.refl No A).alloc _)).trans af (λq m e=>(cO.elem e).1));have lT:=Z (show(c.wants.take (n+1)).map gy=(c.wants.take n).map gy++[gy x] by rw[List.take_add_one,HX.o];simp);clear aJ af dA dZ cO gu df gz;go_roundw;case rel=>exact⟨n+1,_,_,by go_num,lN.o,jb.o,by rw[lT.o];exact lS.o,dI.o⟩
           case measure=>simp[intOf];omega
          .have jJ:(x.version.toList==rv.toList)=false:=by rw[aS];simpa using e2
           have dX:=Z (show bK x d=false by simp[bK,bg.o.1,bg.o.2,s,e2]);clear s e2;go_wp2_with fail;go_roundw;case rel=>exact⟨F+1,rfl,by go_num,by omega,bP dP.o iO.o dX.o,aF.o⟩
           case measure=>simp[intOf];omega
         .have iL:(x.name.toList==Q.toList)=false:=by rw[aS];simpa using s
          have dX:=Z (show bK x d=false by simp[bK,bg.o.1,bg.o.2,s]);clear s;go_wp2_with fail;go_roundw;case rel=>exact⟨F+1,rfl,by go_num,by omega,bP dP.o iO.o dX.o,aF.o⟩
          case measure=>simp[intOf];omega
        .have iY:¬(F:Int)<(aT.length:Int):=(by omega);have lD:=Z (show fG c.deps x=none by
          have p:c.deps.find? (bK x)=none:=List.find?_eq_none.2 (λd hd=>by have H:=iO.o d (by rw[List.take_of_length_le (by rw[←jG.o];omega)];exact hd);simp[H]);unfold fG;rw[p];rfl)
         have lF:=Z (show(c.wants.take (n+1)).filterMap (fG c.deps)=(c.wants.take n).filterMap (fG c.deps) by rw[iV HX.o,lD.o];simp);obtain⟨wq,iP⟩:∃wq,wq=wr:=⟨_,rfl⟩;have lJ:=Z (show DV ok w (g+3) wq (.slice va G.length vc) G (c.deps.filter (loneD c.wants)++(c.wants.take (n+1)).filterMap (fG c.deps)) by rw[iP,lF.o];exact aU.o.keep (bD.o.trans' aV.o) nE);have jR:=Z (show WR ok w (g+3) wq (.slice sa bn.length sc) bn ((c.wants.take n).map gy) by rw[iP];exact fC.o.keep (bD.o.trans' aV.o) nE);have lK:=Z (show O (λb=>g+3<=b) W wq by rw[iP];exact bf.o.trans' (bD.o.trans' aV.o));have jh:=Z (show ay wq u (aI x B C) 79 by rw[iP];exact fQ.o.X aV.o id);rw[←iP];clear iP fQ aV iO;have lG:=Z (show g+3<=u by have p:=gG.o;have H:=bf.o.size;have:=ik.o;omega);have lH:=Z (show(aI (gy x) B C).all (·.oneCell')=true by have:=jP.o;simp only[aI,List.all_cons,List.all_nil,Bool.and_true,Bool.and_eq_true] at this;simp only[aI,gy,List.all_cons,List.all_nil,Bool.and_true,Bool.and_eq_true];simp_all [Value.oneCell']);have lI:=Z (show ∀q,(Value.slice sa bn.length sc).ownBlock=some q→¬q=u from λq m e=>by have p:=(fC.o.own.elem m).2.1;have:=ik.o;omega);have lL:=Z (show ∀q,(Value.slice va G.length vc).ownBlock=some q→¬q=u from λq m e=>by have p:=(aU.o.own.elem m).2.1;have:=ik.o;omega);have lM:=Z (show ∀q,(Value.slice va G.length vc).ownBlock=some q→¬(Value.slice sa bn.length sc).ownBlock=some q from λq m e=>aU.o.own.apart fC.o.own (by decide) m e);have ji:=jh.o.cells;have gm:(aI x B C).length=7:=rfl;have lN:=Z (show n+1<=P.length by omega);go_wp2_with (first|(with_reducible refine V rfl dD rfl rfl ji gm ?_));refine(jv x B C wq).mono ?_;rintro e w3 ⟨rfl,cZ⟩;have dC:=jh.o.X cZ id;have c0:w3.cell? ⟨u,0,none⟩=some (.string x.name):=dC.cell 0;have c5:w3.cell? ⟨u,5,none⟩=some (.bool x.enabled):=dC.cell 5;have f0:=dC.frozen 0;have f5:=dC.frozen 5;have gp:=Z dC;have eX:=Z cZ;clear ji gm cZ dC;go_upto_region 28 with fail
         obtain⟨aZ,aj, -⟩:=gp.o.setCell 0 (.string (named x));obtain⟨ed,dh, -⟩:=aZ.setCell 5 (.bool true);obtain⟨A,bI⟩:∃A,A=(w3.setCell ⟨u,0,none⟩ (.string (named x))).setCell ⟨u,5,none⟩ (.bool true):=⟨_,rfl⟩;rw[←bI] at ed dh⊢;have bF:=Z (show O (·=u) wq A from((eX.o.mono (λ_ _ e=>e.elim)).trans aj nE).trans dh nE);have je:=Z (show ay A u (aI (gy x) B C) 79 from ed);clear bI aZ aj ed dh c0 c5 f0 f5 gp eX;have lQ:=Z (lJ.o.keep bF.o (λq m e=>lL.o q m e));have iq:=Z (jR.o.keep bF.o (λq m e=>lI.o q m e));have di:=Z (show O (λb=>g+3<=b) W A from lK.o.trans bF.o (λq m e=>by have s:q=u:=e;rw[s];exact lG.o));have gu:=je.o.cells;have df:(aI (gy x) B C).length=7:=rfl;have gz:(aI (gy x) B C).all (·.oneCell')=true:=lH.o;have cO:=iq.o.own;have ja:bn.length+1<=1099511627776:=by rw[iq.o.len];simp;have:=dm.o.gQ.2.2.2.2.2.2.1;omega
         have fD:g+3<=A.heap.size+1:=by have p:=gG.o;have H:=di.o.size;omega
         go_wp2_with (first|(with_reducible refine V rfl dD rfl rfl gu df ?_)|(refine fU rfl rfl rfl df ?_)|(at_builtin;refine aN rfl nU rfl rfl (cO.alloc _) rfl (aC.gX A (aI (gy x) B C) 79 7 df) (by intro r hr;obtain rfl:=List.mem_singleton.1 hr;exact gz) ja (by decide) (by simpa using fD) ?_;intro v' w6 aJ af dA dZ;go_frame))
         have lS:=Z (iq.o.step (x:=gy x) ⟨B,C,rfl,HT.o,HI.o⟩ aJ);have jb:=Z ((lQ.o.keep ((O.refl No A).alloc (.cells (aI (gy x) B C).toArray 79)) nE).keep af (λq m e=>lM.o q m e));have dI:=Z (show O (λb=>g+3<=b) W w6 from(di.o.trans' ((O.refl No A).alloc _)).trans af (λq m e=>(cO.elem e).1));have lT:=Z (show(c.wants.take (n+1)).map gy=(c.wants.take n).map gy++[gy x] by rw[List.take_add_one,HX.o];simp);clear aJ af dA dZ cO gu df gz;go_roundw;case rel=>exact⟨n+1,_,_,by go_num,lN.o,jb.o,by rw[lT.o];exact lS.o,dI.o⟩
         case measure=>simp[intOf];omega
      .skip
       have qh:n=P.length:=Nat.le_antisymm kY (Nat.not_lt.1 gW);have jI:¬(n:Int)<(P.length:Int):=(by omega);have lU:=Z (show DV ok w (g+3) S (.slice va G.length vc) G (dw c.deps c.wants) by have h:=aU.o;rw[List.take_of_length_le (by rw[←eQ.o];omega)] at h;exact h);have lV:=Z (show WR ok w (g+3) S (.slice sa bn.length sc) bn (c.wants.map gy) by have h:=fC.o;rw[List.take_of_length_le (by rw[←eQ.o];omega)] at h;exact h);have jT:=jH.o.X bf.o (λe=>by omega);have k9:S.cell? ⟨g,9,none⟩=some (.slice da aT.length dc):=jT.cell 9;have f9:=jT.frozen 9;have ou:=Z jT;clear aU fC jT;go_upto_region 31 with fail
       obtain⟨aZ,aj, -⟩:=ou.o.setCell 9 (.slice va G.length vc);obtain⟨A,bI⟩:∃A,A=S.setCell ⟨g,9,none⟩ (.slice va G.length vc):=⟨_,rfl⟩;rw[←bI] at aZ aj⊢;have jU:=Z (show ay A g (az name dH k b i f t kv lv (.slice va G.length vc) (.slice wa P.length wc)) 30 from aZ);have bF:=Z aj;have di:=Z (show O No w A from gV.o.trans aj (λx I e=>by have s:x=g:=e;have:=HG.o;omega));have qm:=Z ((qc.o.X bf.o (λe=>by omega)).X aj (λe=>by have s:g+1=g:=e;omega));have jk:=Z ((qf.o.X bf.o (λe=>by omega)).X aj (λe=>by have s:g+2=g:=e;omega));have jl:=Z (lU.o.keep aj (λq m e=>by have s:q=g:=e;have:=(lU.o.own.elem m).1;omega));have qo:=Z (lV.o.keep aj (λq m e=>by have s:q=g:=e;have:=(lV.o.own.elem m).1;omega));clear bI aZ aj k9 f9 lU lV ou jI;have lW:=Z (show dU (λb=>okB ok w b∨g+3<=b) A (az name dH k b i f t kv lv (.slice va G.length vc) (.slice wa P.length wc)) (.mk c.name c.version c.vals (dw c.deps c.wants) c.wants) from by rw[←nK.o,←nM.o];have qp:=jl.o.len;refine .mk (((HV.o.dV).X di.o nE).mono (λb _ D=> .inl D)) (jl.o.own.rowAt.mono (λq _ m=> .inr (jl.o.own.elem m).1) (by decide)) qp (λj r d p H=>(((jl.o.val j r d p H).dV).X di.o nE).mono (λb _ D=> .inl D)) ((HW.o.X di.o nE).mono (λb _ D=> .inl D) (by decide)) eQ.o (λj r x p H=>(((kU.o j r x p H).mono (ok':=okB ok w) (λb D h=>⟨h,D⟩)).X di.o nE).mono (λb _ D=> .inl D)));have qw:=Z (show aG (λb=>okB ok w b∨g+3<=b) A (ai 7 vb vi vf vt kV kW) (.table v) from((pW.o.dV).X di.o nE).mono (λb _ D=> .inl D));have bc:=jU.o.cells;have bv:=qm.o.cells;go_wp2_with (first|(with_reducible refine V rfl aK rfl rfl bc rfl ?_)|(with_reducible refine V rfl au rfl rfl bv rfl ?_));refine(oN U N hU ny false 50 (L+1) _ (dm.o.Lh hN) E _ _ (.table v) _ v A lW.o qw.o (.inr rfl) nC.o).mono ?_;rintro e w5 ⟨ca,rfl,jV,dh⟩;have oz:=Z jV;have oC:=Z dh;have iQ:=jV.length;have oD:=jV.one;have ba:=ay.new w5 ca 26;obtain⟨ga,oG⟩:∃ga,ga=w5.heap.size:=⟨_,rfl⟩;clear jV dh bc bv;go_upto_region 32 with(first|(with_reducible refine ak rfl au rfl rfl rfl rfl iQ oD ?_))
       obtain⟨w6,jW⟩:∃w6,w6=w5.alloc (.cells ca.toArray 26):=⟨_,rfl⟩;have dI:=Z (show O No A w6 by rw[jW];exact oC.o.alloc _);have oH:=Z (show aG (λb=>(okB ok w b∨g+3<=b)∨A.heap.size<=b) w6 ca (jm (dJ false (.mk c.name c.version c.vals (dw c.deps c.wants) c.wants) v)) by rw[jW];exact oz.o.X ((O.refl No w5).alloc _) nE);rw[←jW] at ba⊢;rw[←oG] at ba⊢;have jX:=Z ba;have rW:=Z (show g+3<=ga by have p:=gG.o;have H:=bf.o.size;have h3:=bF.o.size;have h4:=oC.o.size;omega);have lX:=Z iQ;clear ba jW oG oz iQ oD;cases jS:dJ false (.mk c.name c.version c.vals (dw c.deps c.wants) c.wants) v with
       |none=>
        have gJ:=Z (show fF (L+1) c v o=none by
         have p:c.wants.isEmpty=false:=by
          cases GR:c.wants with
          |nil=>have:=eQ.o;rw[GR] at this;simp at this;simp[this] at iH
          |cons a r=>rfl
         rw[fF,p,jS];rfl)
        have b0:=(jU.o.X dI.o id).cells;have b2:=jk.o.X dI.o id;have ho:=lW.o.one.2;clear jS;go_wp2_with (first|(with_reducible refine V rfl aK rfl rfl b0 rfl ?_)|(with_reducible refine aA rfl aK rfl rfl rfl b2 rfl rfl ho ?_;intro w7 eu dE qx));have iI:O No w w7:=(di.o.trans' dI.o).trans dE (λx I e=>by have s:x=g+2:=e;have:=HG.o;omega);rw[gJ.o];exact bodyPost_ret (aW rfl aK rfl eu rfl) rfl ⟨_,rfl,iI,⟨rfl,ho⟩,λc' h=>(by cases h)⟩
       |some all=>
        rw[jS] at oH;have lY:=Z jS;clear jS;go_upto_region 34 with fail
        have oI:=Z (show g+3<=w6.heap.size by have p:=dI.o.size;have H:=jk.o.lt;omega);have qy:=Z (show jf (ru ok w g) (c.wants.map gy) (.slice sa bn.length sc) w6 from(((Fp (WR.dV qo.o) di.o).X dI.o nE).mono (λb _ D=>D.elim .inl (λh=> .inr (by omega)))));have lZ:=Z (show aG (ru ok w g) w6 ca (.table all) from oH.o.mono (λb _ D=>by rcases D with(D|D)|D;exact .inl D;exact .inr (by omega);exact .inr (by have:=jk.o.lt;omega)));have qA:=Z (show ∀x∈(c.wants.map gy).map (jL all),gq x.condition from λx I=>by obtain⟨y,hy,rfl⟩:=List.mem_map.1 I;obtain⟨z,hz,rfl⟩:=List.mem_map.1 hy;exact(dm.o.gQ.2.2.2.2.2.2.2.1 z hz).sm.cond);have oJ:=Z (show c.wants.length<=40 from dm.o.gQ.2.2.2.2.2.2.1);refine yN (FI [.eq (.slice sa bn.length sc),.eq (.agg ca.toArray),.wants (ru ok w g) ((c.wants.map gy).map (jL all)),.eq (.agg ca.toArray),.eq (.string o),.wants (ru ok w g) (bG all o c.wants),.wants (ru ok w g) (bG all o c.wants)])
         (λiw w'=>O No w6 w') (by kernel_rfl) (by kernel_rfl) ((O.refl No _).drew) ?_ ?_
        .refine⟨?_,?_,?_,?_,?_,?_,?_,trivial⟩
         .intro iw a w1 K hd dK bY dL eF bZ hG hK;have n6:=ny1 dK 6 5 rfl (ny1 dK 5 2 rfl (ny1 dK 2 0 rfl hd));have jY:a.tmps[14]?.getD undef=.slice sa bn.length sc:=eF 14 6 rfl n6;clear n6 eF;try clear eF
          clear dK bY dL bZ;go_simp;exact hK _ _ rfl (hG.trans' (O.refl No _)) Sy
         .intro iw a w1 K hd dK bY dL eF bZ hG hK;have l7:a.tmps[19]?.getD undef=.pointer (some ⟨ga,0,none⟩):=dL 19 rfl;refine ax rfl ?_;refine aO au rfl (vE l7) (jX.o.X hG id).cells lX.o ?_;exact hK _ _ rfl (hG.trans' (O.refl No _)) Sy
         .intro iw a w1 K hd dK bY dL eF bZ hG hK;have qB:=fq (bY 0 127 rfl (bZ 0 rfl));have qC:=fq (bY 1 128 rfl (bZ 1 rfl));refine ax rfl ?_;obtain⟨rr,p,H,h3⟩:=qy.o.X hG nE;refine jE Tryz.call80 rfl (vE qB) (vE qC) (IZ _ rr _ ca all p H h3 (lZ.o.X hG nE) (by have:=oJ.o;simp;omega)) ?_;intro e w2 hp;obtain⟨vv,rfl,l9,hc⟩:=hp.at;exact⟨_,rfl,hK _ _ (l9.mono (λb _ D=>D.elim id (λh=> .inr (by have p:=hG.size;have H:=oI.o;omega)))) (hG.trans' hc) (λ_ _ _ _ h=>h.aP hc)⟩
         .intro iw a w1 K hd dK bY dL eF bZ hG hK;have l7:a.tmps[19]?.getD undef=.pointer (some ⟨ga,0,none⟩):=dL 19 rfl;refine ax rfl ?_;refine aO au rfl (vE l7) (jX.o.X hG id).cells lX.o ?_;exact hK _ _ rfl (hG.trans' (O.refl No _)) Sy
         .intro iw a w1 K hd dK bY dL eF bZ hG hK;have e2:a.tmps[2]?.getD undef=.string o:=dL 2 rfl;try clear eF
          clear dK bY dL bZ;go_simp;exact hK _ _ rfl (hG.trans' (O.refl No _)) Sy
         .intro iw a w1 K hd dK bY dL eF bZ hG hK;have eY:jf (ru ok w g) ((c.wants.map gy).map (jL all)) (a.tmps[129]?.getD undef) w1:=bY 2 129 rfl (bZ 2 rfl);obtain⟨oK,oL⟩:∃oK,a.tmps[129]?.getD undef=oK:=⟨_,rfl⟩;rw[oL] at eY;have qE:=fq (bY 3 130 rfl (bZ 3 rfl));have qF:=fq (bY 4 131 rfl (bZ 4 rfl));refine ax rfl ?_;obtain⟨rr,p,H,h3⟩:=eY;refine gB Tryz.call79 rfl (vE oL) (vE qE) (vE qF) (yL _ rr _ ca all o p H h3 (lZ.o.X hG nE) qA.o (by have:=nD.o;omega) (by have:=oJ.o;simp;omega)) ?_;intro e w2 hp;obtain⟨vv,rfl,l9,hc⟩:=hp.at;exact⟨_,rfl,hK _ _ (l9.mono (λb _ D=>D.elim id (λh=> .inr (by have p:=hG.size;have H:=oI.o;omega)))) (hG.trans' hc) (λ_ _ _ _ h=>h.aP hc)⟩
         .intro iw a w1 K hd dK bY dL eF bZ hG hK;have eY:jf (ru ok w g) (bG all o c.wants) (a.tmps[132]?.getD undef) w1:=bY 5 132 rfl (bZ 5 rfl);obtain⟨oO,qG⟩:∃oO,a.tmps[132]?.getD undef=oO:=⟨_,rfl⟩;rw[qG] at eY;have qH:=Z eY;clear eY eF;clear dK bY dL bZ;go_simp;exact hK _ _ qH.o (hG.trans' (O.refl No _)) Sy
        .intro vs w2 oP qI hG;have eY:jf (ru ok w g) (bG all o c.wants) (vs 6) w2:=oP 6 _ rfl (by decide);obtain⟨jO,jY⟩:∃jO,vs 6=jO:=⟨_,rfl⟩;rw[jY] at eY;have mf:=Z eY;have jZ:=Z hG;clear oP qI hG eY;simp only[aX,Act.put,List.setIfInBounds_toArray,List.set_cons_succ,List.set_cons_zero,jY];clear jY;obtain⟨wb,oQ⟩:∃wb,wb=w2:=⟨_,rfl⟩;rw[←oQ] at mf jZ⊢;clear oQ;have ku:=Z (show O No A wb from dI.o.trans' jZ.o);have kz:=jU.o.X ku.o id;have qJ:=Z kz;have qK:=Z kz;have kC:=Z (jk.o.X ku.o id);have qM:=Z (jX.o.X jZ.o id);have jo:=Z (jl.o.keep ku.o nE);have qN:=Z (lZ.o.X jZ.o nE);have kD:=Z (show O No w wb from di.o.trans' ku.o);have iM:=Z lW.o.one.2;have oU:=kz.cells;obtain⟨M,iy⟩:∃M,M=wb.heap.size:=⟨_,rfl⟩;have eG:=ay.new wb (az name dH k b i f t kv lv (.slice va G.length vc) (.slice wa P.length wc)) 30;rw[←iy] at eG;have iR:=Z iy;have iC:=iM.o;go_upto_region 36 with(first|(with_reducible refine V rfl aK rfl rfl oU rfl ?_)|(with_reducible refine ak rfl aK rfl rfl rfl rfl rfl iC ?_))
         rw[←iy];obtain⟨iT,mg⟩:∃iT,iT=wb.alloc (.cells (az name dH k b i f t kv lv (.slice va G.length vc) (.slice wa P.length wc)).toArray 30):=⟨_,rfl⟩;have qO:=Z (show O No wb iT by rw[mg];exact(O.refl No wb).alloc _);rw[←mg] at eG⊢;have k9:iT.cell? ⟨M,9,none⟩=some (.slice va G.length vc):=eG.cell 9;have iU:iT.cell? ⟨M,10,none⟩=some (.slice wa P.length wc):=eG.cell 10;have f9:=eG.frozen 9;have mi:=eG.frozen 10;have oV:=Z eG;clear eG mg iy kz oU iC qJ jU jk jX;go_upto_region 37 with fail
         obtain⟨aZ,aj, -⟩:=oV.o.setCell 9 (.slice none 0 0);obtain⟨ed,dh, -⟩:=aZ.setCell 10 (.slice none 0 0);obtain⟨wo,oW⟩:∃wo,wo=(iT.setCell ⟨M,9,none⟩ (.slice none 0 0)).setCell ⟨M,10,none⟩ (.slice none 0 0):=⟨_,rfl⟩;rw[←oW] at ed dh⊢;have qP:=Z (show O No wb wo from(qO.o.trans aj (λx I e=>by have s:x=M:=e;have:=iR.o;omega)).trans dh (λx I e=>by have s:x=M:=e;have:=iR.o;omega));have oZ:=Z (show EV (ru ok w g) M (λl=>az name dH k b i f t kv lv l (.slice none 0 0)) wo (.slice none 0 0) [] [] from⟨aB.nil _ _ _ _,rfl,λi r d h=>by simp at h,ed⟩);clear oW aZ aj ed dh k9 iU f9 mi oV;obtain⟨dF,mr,o5,o6⟩:=mf.o;have qQ:=mr.1;have o7:=Z mr;have kE:=Z o5;have o8:=Z o6;obtain⟨-, -,xa,xc,rfl, -, -⟩:=mr;unfold maxLen at qQ;have rX:G.length<=2 ^ 63 - 1:=by have h:=jo.o.own.rowAt.1;unfold maxLen at h;exact h
         obtain⟨E2,o9⟩:=sJ ny false (L+1) _ E v all (dm.o.Lh hN) nC.o lY.o;have qR:=Z o9;clear o5 o6 o9 mf;go_wp2_with fail;go_loopw [138] (λR wr=>∃(n:Nat)(v9:Value) (rs:List (Y)) (iD:List Ch),R=.int .i64 n∧n<=G.length∧EV (ru ok w g) M (λl=>az name dH k b i f t kv lv l (.slice none 0 0)) wr v9 rs iD∧eH (λd=>fF L d all (o++d.name++dB)) (((dw c.deps c.wants).take n).filter λd=> !gI (bG all o c.wants) d)=some iD∧O (λb=>M<=b) wo wr) (λR _=>G.length - (intOf R).toNat)
         case atStart=>exact⟨0,_,[],[],rfl,zL',oZ.o,rfl,O.refl _ _⟩
         case round=>
          obtain⟨n5,v9,rs,iD,rfl,qU,mD,pg,mF⟩:=hrel;obtain⟨aH,rfl⟩:∃aH,aH=wr:=⟨_,rfl⟩;obtain⟨ya,yc,rfl⟩:=mD.own.dY;have bH:=Z mD;have kF:=Z pg;have pq:=Z mF;have fA:=Z (show O No wb aH from qP.o.trans mF (λx I e=>by have s:M<=x:=e;have:=iR.o;omega));clear mD pg mF oZ;by_cases kG:n5<G.length
          .obtain⟨r,dN⟩:=gX' G n5 (kG);obtain⟨d,dO⟩:=gX' (dw c.deps c.wants) n5 ((by rw[←jo.o.len];exact kG));obtain⟨lb,lo,rfl,iC,cu⟩:=jo.o.own.rowAt.at (i:=n5) (r:=r) dN;have cu:=cu.X fA.o id;have bu:=jo.o.val n5 r d dN dO;have iJ:=Z bu;have dP:=Z dO;have dQ:=bu.one.1;have eU:=bu.one.2;obtain⟨Q,rv,rk,rb,ri,rf,rt,bJ,bM,bQ,bT,rfl,fK,fM, -⟩:=bu.cells;have iY:(n5:Int)<(G.length:Int):=(by omega);have bx:=ay.new aH (az Q rv rk rb ri rf rt bJ bM bQ bT) 30;obtain⟨gx,dR⟩:∃gx,gx=aH.heap.size:=⟨_,rfl⟩;have kZ:=Z dR;have bg:=Z (And.intro fK fM);have qi:=Z eU;clear dN dO bu fK fM iC;go_upto_region 41 with(first|(with_reducible refine V rfl aK rfl rfl cu dQ ?_)|(with_reducible refine ak rfl aK rfl rfl rfl rfl dQ eU ?_))
           obtain⟨wx,dS⟩:∃wx,wx=aH.alloc (.cells (az Q rv rk rb ri rf rt bJ bM bQ bT).toArray 30):=⟨_,rfl⟩;have bD:=Z (show O No aH wx by rw[dS];exact(O.refl No aH).alloc _);rw[←dS] at bx⊢;rw[←dR] at bx⊢;have gY:=Z bx;clear dS dR cu dQ eU bx;go_wp2_with fail;go_loopw [24,144] (λbv R wr=>∃k:Nat,R=.int .i64 k∧k<=dF.length∧bv=.bool (gI ((bG all o c.wants).take k) d)∧O No wx wr) (λ_ R _=>dF.length - (intOf R).toNat)
           case atStart=>exact⟨0,rfl,zL',rfl,O.refl _ _⟩
           case round=>
            obtain⟨F,rfl,hk,rfl,fO⟩:=hrel;have aV:=Z fO;obtain⟨y0,gZ⟩:∃y0,y0=gI ((bG all o c.wants).take F) d:=⟨_,rfl⟩;rw[←gZ];have dW:=Z gZ;clear fO gZ;by_cases fB:F<dF.length
            .obtain⟨r2,bU⟩:=gX' dF F (fB);obtain⟨x,I⟩:=gX' (bG all o c.wants) F ((by rw[←kE.o];exact fB));obtain⟨lh,lq,rfl, -,aY⟩:=o7.o.at (i:=F) (r:=r2) bU;have aY:=((aY.X fA.o id).X bD.o id).X aV.o id;have aQ:=o8.o F r2 x bU I;have bV:=aQ.len.1;have dn:=aQ.len.2;have HX:=Z I;obtain⟨B,C,rfl, -, -⟩:=aQ;have bw:=ay.new wr (aI x B C) 79;obtain⟨u,bC⟩:∃u,u=wr.heap.size:=⟨_,rfl⟩;have mG:(F:Int)<(dF.length:Int):=(by omega);clear I bU;go_upto_region 44 with(first|(with_reducible refine V rfl dD rfl rfl aY bV ?_)|(with_reducible refine ak rfl dD rfl rfl rfl rfl bV dn ?_))
             obtain⟨J,bW⟩:∃J,J=wr.alloc (.cells (aI x B C).toArray 79):=⟨_,rfl⟩;have aF:=Z (show O No wx J by rw[bW];exact aV.o.alloc _);rw[←bW] at bw⊢;rw[←bC] at bw⊢;have lu:J.cell? ⟨u,0,none⟩=some (.string x.name):=bw.cell 0;have mJ:J.cell? ⟨u,5,none⟩=some (.bool x.enabled):=bw.cell 5;have iK:=gY.o.X aF.o id;have iZ:J.cell? ⟨gx,0,none⟩=some (.string Q):=iK.cell 0;have mM:=Z (show gI ((bG all o c.wants).take (F+1)) d=(y0||(decide (x.name=d.name) && !x.enabled)) by unfold gI;rw[any_take_succ HX.o,dW.o];rfl);clear bW bC aY bV dn bw iK dW;cases y0 with
             |true=>
              go_wp2_with fail
              go_roundw;case rel=>exact⟨F+1,by go_num,by omega,by rw[mM.o];rfl,aF.o⟩
              case measure=>simp[intOf];omega
             |false=>
              by_cases s:x.name=Q
              .have iL:(x.name.toList==Q.toList)=true:=by rw[aS];simpa using s
               have mO:=Z (show decide (x.name=d.name)=true by simp[bg.o.1,s]);clear s;go_wp2_with fail;go_roundw;case rel=>exact⟨F+1,by go_num,by omega,by rw[mM.o,mO.o];simp,aF.o⟩
               case measure=>simp[intOf];omega
              .have iL:(x.name.toList==Q.toList)=false:=by rw[aS];simpa using s
               have mO:=Z (show decide (x.name=d.name)=false by simp[bg.o.1,s]);clear s;go_wp2_with fail;go_roundw;case rel=>exact⟨F+1,by go_num,by omega,by rw[mM.o,mO.o];simp,aF.o⟩
               case measure=>simp[intOf];omega
            .have mG:¬(F:Int)<(dF.length:Int):=(by omega);have mP:=Z (show gI (bG all o c.wants) d=y0 by rw[dW.o,List.take_of_length_le (by rw[←kE.o];omega)]);have bz:=Z (bD.o.trans' aV.o);have jK:=Z (gY.o.X aV.o id);clear dW;cases y0 with
             |true=>
              have ig:=Z (show((dw c.deps c.wants).take (n5+1)).filter (λd=> !gI (bG all o c.wants) d)=((dw c.deps c.wants).take n5).filter (λd=> !gI (bG all o c.wants) d) by rw[fP dP.o,mP.o];simp);go_wp2_with fail;go_roundw;case rel=>exact⟨n5+1,_,rs,iD,by go_num,by omega,bH.o.keep bz.o,by rw[ig.o];exact kF.o,pq.o.trans' bz.o⟩
              case measure=>simp[intOf];omega
             |false=>
              have ig:=Z (show((dw c.deps c.wants).take (n5+1)).filter (λd=> !gI (bG all o c.wants) d)=((dw c.deps c.wants).take n5).filter (λd=> !gI (bG all o c.wants) d)++[d] by rw[fP dP.o,mP.o];simp);have mQ:=dm.o.dep (mG' dP.o);have qV:=Z mQ;have rY:Q.size<=12:=by rw[←bg.o.1];exact mQ.gQ.plain.le
              have pz:=jK.o.cells;have pF:=((qM.o.X fA.o id).X bz.o id).cells;have iZ:wr.cell? ⟨gx,0,none⟩=some (.string Q):=jK.o.cell 0;have iQ:=lX.o;have rZ:=nD.o;clear mQ;go_wp2_with (first|(with_reducible refine V rfl aK rfl rfl pz rfl ?_)|(with_reducible refine V rfl au rfl rfl pF iQ ?_));refine(IH.o d qV.o E2 (λb=>ru ok w g b∧b<wb.heap.size) _ ca all (o++Q++dB) wr
               ((((iJ.o.dV.X kD.o nE).X fA.o nE).X bz.o nE).mono (λb _ D=>⟨.inl D,by have p:=D.2;have H:=kD.o.size;omega⟩))
               (((qN.o.mono (ok':=λb=>ru ok w g b∧b<wb.heap.size) (λb D h=>⟨h,D⟩)).X fA.o nE).X bz.o nE) qR.o
               (by rw[ByteArray.size_append,ByteArray.size_append];have:dB.size=1:=rfl;omega)).mono ?_
              rintro e w3 ⟨jq,rfl,cZ,⟨dG,fE⟩,pG⟩;have eX:=Z cZ;have qW:=Z pG;have pI:=Z (And.intro dG fE);have pJ:=Z (show o++d.name++dB=o++Q++dB by rw[bg.o.1]);have kH:=ay.new w3 jq 30;obtain⟨pK,mV⟩:∃pK,pK=w3.heap.size:=⟨_,rfl⟩;have su:=Z mV;clear cZ pG pz pF iZ iQ;go_upto_region 48 with(first|(with_reducible refine ak rfl aK rfl rfl rfl rfl dG fE ?_))
              obtain⟨w4,kJ⟩:∃w4,w4=w3.alloc (.cells jq.toArray 30):=⟨_,rfl⟩;have jr:=Z (show O No wr w4 by rw[kJ];exact eX.o.alloc _);have qX:=Z (show O No w3 w4 by rw[kJ];exact(O.refl No w3).alloc _);rw[←kJ] at kH⊢;rw[←mV] at kH⊢;have qY:=Z kH;clear kH kJ mV dG fE;cases ho:fF L d all (o++Q++dB) with
              |none=>
               have gJ:=Z (show fF (L+1) c v o=none by
                have p:c.wants.isEmpty=false:=by
                 cases GR:c.wants with
                 |nil=>have:=eQ.o;rw[GR] at this;simp at this;simp[this] at iH
                 |cons a r=>rfl
                have H:eH (λd=>fF L d all (o++d.name++dB)) ((dw c.deps c.wants).filter λd=> !gI (bG all o c.wants) d)=none:=
                 oM (List.mem_filter.2 ⟨mG' dP.o,by rw[mP.o];rfl⟩) (by rw[pJ.o];exact ho)
                rw[fF,p,lY.o];simp only[H]
                rfl)
               have b0:=(((qK.o.X fA.o id).X bz.o id).X jr.o id).cells;have b2:=((kC.o.X fA.o id).X bz.o id).X jr.o id;have iC:=iM.o;clear ho;go_wp2_with (first|(with_reducible refine V rfl aK rfl rfl b0 rfl ?_)|(with_reducible refine aA rfl aK rfl rfl rfl b2 rfl rfl iC ?_;intro w7 eu dE qx));have iI:O No w w7:=((kD.o.trans' fA.o).trans' (bz.o.trans' jr.o)).trans dE (λx I e=>by have s:x=g+2:=e;have:=HG.o;omega);rw[gJ.o];exact bodyPost_ret (aW rfl aK rfl eu rfl) rfl ⟨_,rfl,iI,⟨rfl,iC⟩,λc' h=>(by cases h)⟩
              |some c2=>
               have HO:=Z ho;have jw:=(bH.o.keep bz.o).keep jr.o;have kK:=Z jw;have k9:w4.cell? ⟨M,9,none⟩=some (.slice ya rs.length yc):=jw.box.cell 9;have jy:=qY.o.cells;have dG:=pI.o.1;have fE:=pI.o.2;have jA:=jw.own;have pM:rs.length<=60:=by have p:=bH.o.len;have H:=jF kF.o;have h3:=List.length_filter_le (λd=> !gI (bG all o c.wants) d) ((dw c.deps c.wants).take n5);have h4:=uV c.deps c.wants;have h5:=dm.o.gQ.2.2.2.1;have h6:=dm.o.gQ.2.2.2.2.2.2.1;simp only[List.length_take] at h3;omega
               have fD:M+1<=w4.heap.size+1:=by have:=jw.box.lt;omega
               clear ho jw;go_upto_region 51 with(first|(with_reducible refine V rfl aK rfl rfl jy dG ?_)|(refine kM rfl rfl rfl dG ?_)|(at_builtin;refine jd rfl tX rfl rfl (jA.alloc _) rfl (aC.gX w4 jq 30 11 dG) (by intro r hr;obtain rfl:=List.mem_singleton.1 hr;exact fE) (by simp;omega) (by simp;omega) (by simpa using fD) ?_;intro v' w6 aJ af dA dZ;obtain⟨za,zn,zc,rfl⟩:=aJ.slice;have fH:=(kK.o.box.alloc (.cells jq.toArray 30)).X af (λe=>by have:=(kK.o.own.elem e).1;omega);have c9:w6.cell? ⟨M,9,none⟩=some (.slice ya rs.length yc):=fH.cell 9;have f9:=fH.frozen 9;go_frame))
               obtain⟨eu,dE, -⟩:=fH.setCell 9 (.slice za zn zc);obtain⟨w7,jB⟩:∃w7,w7=w6.setCell ⟨M,9,none⟩ (.slice za zn zc):=⟨_,rfl⟩;rw[←jB] at eu dE⊢;have qZ:=Z (kK.o.step (okr:=λb=>(ru ok w g b∧b<wb.heap.size)∨wr.heap.size<=b) (d:=c2) (w7:=w7) ((qW.o c2 HO.o).X qX.o nE) (λb D h=>by
                have iy:=iR.o;have sD:=bH.o.box.lt;have hs:=bz.o.size;rcases h with h|h
                .exact⟨h.1,by have:=h.2;omega,λe=>by have:=(bH.o.own.elem e).1;have:=h.2;omega⟩
                .exact⟨.inr (by have p:=kC.o.lt;omega),by omega,λe=>by have:=(bH.o.own.elem e).2.1;omega⟩) af aJ dA eu dE)
               have rq:=Z (show O (λb=>M<=b) wo w7 from(((pq.o.trans' (bz.o.trans' jr.o)).trans' ((O.refl No w4).alloc (.cells jq.toArray 30))).trans af (λx I e=>by have:=(kK.o.own.elem e).1;omega)).trans dE (λx I e=>by have s:x=M:=e;omega));have mW:=Z (show eH (λd=>fF L d all (o++d.name++dB)) (((dw c.deps c.wants).take (n5+1)).filter λd=> !gI (bG all o c.wants) d)=some (iD++[c2]) by rw[ig.o];exact qL kF.o (by rw[pJ.o];exact HO.o));clear aJ af dA dZ jA fH c9 f9 eu dE jB k9 jy dG fE;go_wp2_with fail;go_roundw;case rel=>exact⟨n5+1,_,_,_,by go_num,by omega,qZ.o,mW.o,rq.o⟩
               case measure=>simp[intOf];omega
          .have ry:n5=G.length:=Nat.le_antisymm qU (Nat.not_lt.1 kG);have iY:¬(n5:Int)<(G.length:Int):=(by omega);have mW:=Z (show eH (λd=>fF L d all (o++d.name++dB)) ((dw c.deps c.wants).filter λd=> !gI (bG all o c.wants) d)=some iD by
            have h:=kF.o;rw[List.take_of_length_le (by rw[←jo.o.len];omega)] at h;exact h)
           have gJ:=Z (show fF (L+1) c v o=some (.mk c.name c.version c.vals iD ((bG all o c.wants).filter (·.enabled))) by
            have p:c.wants.isEmpty=false:=by
             cases GR:c.wants with
             |nil=>have:=eQ.o;rw[GR] at this;simp at this;simp[this] at iH
             |cons a r=>rfl
            rw[fF,p,lY.o];simp only[mW.o]
            rfl)
           have pO:=Z (show WR (ru ok w g) wb aH.heap.size aH (.slice none 0 0) [] (((bG all o c.wants).take 0).filter (·.enabled)) from WR.start _ _ _ _);clear kG ry;go_wp2_with fail;go_loopw [186] (λR wr=>∃(n:Nat)(mX:Value) (eP:List (Y)),R=.int .i64 n∧n<=dF.length∧WR (ru ok w g) wb aH.heap.size wr mX eP (((bG all o c.wants).take n).filter (·.enabled))∧ay wr M (az name dH k b i f t kv lv (.slice ya rs.length yc) mX) 30∧O (λb=>b=M∨aH.heap.size<=b) aH wr) (λR _=>dF.length - (intOf R).toNat)
           case atStart=>exact⟨0,_,[],rfl,zL',pO.o,bH.o.box,O.refl _ _⟩
           case round=>
            obtain⟨n7,mX,eP,rfl,rC,iF,eG,dM⟩:=hrel;obtain⟨fJ,rfl⟩:∃fJ,fJ=wr:=⟨_,rfl⟩;obtain⟨jC,jD,rfl⟩:=iF.own.dY;have iE:=Z iF;have mY:=Z eG;have kL:=Z dM;have kN:=Z (show O No wb fJ from fA.o.trans dM (λx I e=>by
             have iy:=iR.o;rcases e with e|e
             .omega
             .have:=fA.o.size;omega))
            clear iF eG dM pO;by_cases mZ:n7<dF.length
            .obtain⟨r2,bU⟩:=gX' dF n7 (mZ);obtain⟨x,I⟩:=gX' (bG all o c.wants) n7 ((by rw[←kE.o];exact mZ));obtain⟨lh,lq,rfl, -,aY⟩:=o7.o.at (i:=n7) (r:=r2) bU;have aY:=aY.X kN.o id;have aQ:=o8.o n7 r2 x bU I;have bV:=aQ.len.1;have dn:=aQ.len.2;have HX:=Z I;have rD:=Z aQ;obtain⟨B,C,rfl, -, -⟩:=aQ;have bw:=ay.new fJ (aI x B C) 79;obtain⟨u,bC⟩:∃u,u=fJ.heap.size:=⟨_,rfl⟩;have ik:=Z bC;have mG:(n7:Int)<(dF.length:Int):=(by omega);have jP:=Z dn;clear I bU;go_upto_region 55 with(first|(with_reducible refine V rfl dD rfl rfl aY bV ?_)|(with_reducible refine ak rfl dD rfl rfl rfl rfl bV dn ?_))
             obtain⟨J,bW⟩:∃J,J=fJ.alloc (.cells (aI x B C).toArray 79):=⟨_,rfl⟩;have aF:=Z (show O No fJ J by rw[bW];exact(O.refl No fJ).alloc _);rw[←bW] at bw⊢;rw[←bC] at bw⊢;have mJ:J.cell? ⟨u,5,none⟩=some (.bool x.enabled):=bw.cell 5;have fQ:=Z bw;have kP:=Z (show((bG all o c.wants).take (n7+1)).filter (·.enabled)=((bG all o c.wants).take n7).filter (·.enabled)++if x.enabled then [x] else [] from fP HX.o);clear bW bC aY bV dn bw;cases GU:x.enabled with
             |false=>
              rw[GU] at mJ kP;have ng:=Z (show((bG all o c.wants).take (n7+1)).filter (·.enabled)=((bG all o c.wants).take n7).filter (·.enabled) by rw[kP.o];simp);clear GU;go_wp2_with fail;go_roundw;case rel=>exact⟨n7+1,_,eP,by go_num,by omega,by rw[ng.o];exact iE.o.keep aF.o nE,mY.o.X aF.o id,kL.o.trans' aF.o⟩
              case measure=>simp[intOf];omega
             |true=>
              rw[GU] at mJ kP;have ng:=Z (show((bG all o c.wants).take (n7+1)).filter (·.enabled)=((bG all o c.wants).take n7).filter (·.enabled)++[x] by rw[kP.o];simp);have ni:=mY.o.X aF.o id;have iU:J.cell? ⟨M,10,none⟩=some (.slice jC eP.length jD):=ni.cell 10;have rE:=Z ni;have jy:=fQ.o.cells;have dG:(aI x B C).length=7:=rfl;have fE:=jP.o;have jA:=iE.o.own.X aF.o nE;have pM:eP.length+1<=1099511627776:=by have p:=iE.o.len;have H:=List.length_filter_le (λx:Want=>x.enabled) ((bG all o c.wants).take n7);have h3:(bG all o c.wants).length=c.wants.length:=(by simp[bG]);have h6:=dm.o.gQ.2.2.2.2.2.2.1;simp only[List.length_take] at H;omega
              have fD:aH.heap.size<=J.heap.size+1:=by have p:=kL.o.size;have H:=aF.o.size;omega
              have pR:=Z (show ∀q,(Value.slice jC eP.length jD).ownBlock=some q→aH.heap.size<=q∧q≠M from λq m=>⟨(iE.o.own.elem m).1,λe=>by have p:=(iE.o.own.elem m).1;have H:=bH.o.box.lt;omega⟩);clear GU ni;go_upto_region 57 with(first|(with_reducible refine V rfl dD rfl rfl jy dG ?_)|(refine fU rfl rfl rfl dG ?_)|(at_builtin;refine aN rfl nU rfl rfl (jA.alloc _) rfl (aC.gX J (aI x B C) 79 7 dG) (by intro r hr;obtain rfl:=List.mem_singleton.1 hr;exact fE) pM (by decide) (by simpa using fD) ?_;intro v' w6 aJ af dA dZ;obtain⟨za,zn,zc,rfl⟩:=aJ.slice;have fH:=(rE.o.alloc (.cells (aI x B C).toArray 79)).X af (λe=>(pR.o M e).2 rfl);have rF:w6.cell? ⟨M,10,none⟩=some (.slice jC eP.length jD):=fH.cell 10;have mi:=fH.frozen 10;go_frame))
              obtain⟨eu,dE, -⟩:=fH.setCell 10 (.slice za zn zc);obtain⟨w7,jB⟩:∃w7,w7=w6.setCell ⟨M,10,none⟩ (.slice za zn zc):=⟨_,rfl⟩;rw[←jB] at eu dE⊢;have rG:=Z ((iE.o.step (r:=aI x B C) (x:=x) rD.o aJ).keep dE (λq m e=>by have s:q=M:=e;have p:=(aJ.elem m).1;have H:=bH.o.box.lt;omega));have rH:=Z (show ay w7 M (az name dH k b i f t kv lv (.slice ya rs.length yc) (.slice za zn zc)) 30 from eu);have rJ:=Z (show O (λb=>b=M∨aH.heap.size<=b) aH w7 from(((kL.o.trans' aF.o).trans' ((O.refl No J).alloc (.cells (aI x B C).toArray 79))).trans af (λq m e=> .inr (pR.o q e).1)).trans dE (λq m e=> .inl e));clear aJ af dA dZ jA fH rF mi eu dE jB iU jy dG fE;go_wp2_with fail;go_roundw;case rel=>exact⟨n7+1,_,_,by go_num,by omega,by rw[ng.o];exact rG.o,rH.o,rJ.o⟩
              case measure=>simp[intOf];omega
            .have sF:n7=dF.length:=Nat.le_antisymm rC (Nat.not_lt.1 mZ);have mG:¬(n7:Int)<(dF.length:Int):=(by omega);have kQ:=Z (show WR (ru ok w g) wb aH.heap.size fJ (.slice jC eP.length jD) eP ((bG all o c.wants).filter (·.enabled)) by
              have h:=iE.o;rw[List.take_of_length_le (by rw[←kE.o];omega)] at h;exact h)
             have bo:=mY.o.cells;have b2:=kC.o.X kN.o id;have iW:(az name dH k b i f t kv lv (.slice ya rs.length yc) (.slice jC eP.length jD)).all (·.oneCell')=true:=by
              have h:=iM.o;simp only[az,List.all_cons,List.all_nil,Bool.and_true,Bool.and_eq_true] at h;simp only[az,List.all_cons,List.all_nil,Bool.and_true,Bool.and_eq_true]
              simp_all [Value.oneCell']
             go_wp2_with (first|(with_reducible refine V rfl aK rfl rfl bo rfl ?_)|(with_reducible refine aA rfl aK rfl rfl rfl b2 rfl rfl iW ?_;intro w8 rM kR sG))
             have pU:O No w w8:=(kD.o.trans' kN.o).trans kR (λx I e=>by have s:x=g+2:=e;have:=HG.o;omega);rw[gJ.o];have hg:=HG.o;have iy:=iR.o;have sH:=kC.o.lt;have pV:O (λb=>b=M∨aH.heap.size<=b∨b=g+2) aH w8:=(kL.o.mono (λb _ e=>e.elim .inl (λh=> .inr (.inl h)))).trans kR (λx I e=> .inr (.inr e));refine bodyPost_ret (aW rfl aK rfl rM rfl) rfl ⟨_,rfl,pU,⟨rfl,iW⟩,λc' h=> ?_⟩;cases h;rw[←nK.o,←nM.o];have rO:eP.length=((bG all o c.wants).filter (·.enabled)).length:=kQ.o.len;refine .mk ((HV.o.X pU nE).mono (λb _ D=> .inl D))
              (((bH.o.own.rowAt.mono (ok':=λq=>M+1<=q∧q<aH.heap.size) (λq _ m=>⟨(bH.o.own.elem m).1,(bH.o.own.elem m).2.1⟩) (by decide)).X pV (λq m e=>by omega)).mono (λq _ m=> .inr (by omega)) (by decide))
              bH.o.len
              (λj r d p H=>(((bH.o.val j r d p H).mono (ok':=λq=>ru ok w g q∧q≠M∧q<aH.heap.size) (λq m h=>⟨h.1,h.2.1,m⟩)).X pV (λq m e=>by
               rcases e with e|e|e
               .exact m.2.1 e
               .have:=m.2.2;omega
               .subst e;rcases m.1 with h|h
                .have:=h.2;omega
                .omega)).mono (λq _ m=>by
               rcases m.1 with h|h
               .exact .inl h.1
               .exact .inr (by omega)))
              (((kQ.o.own.rowAt.mono (ok':=λq=>aH.heap.size<=q) (λq _ m=>(kQ.o.own.elem m).1) (by decide)).X kR (λq m e=>by have s:q=g+2:=e;have:=bH.o.box.lt;omega)).mono (λq _ m=> .inr (by have:=bH.o.box.lt;omega)) (by decide))
              rO
              (λj r x p H=>(((kQ.o.val j r x p H).mono (ok':=λq=>ru ok w g q∧q<wb.heap.size) (λq m h=>⟨h,m⟩)).X ((kN.o.mono (S':=λq=>q=g+2) (λ_ _ e=>e.elim)).trans kR nE) (λq m e=>by
               have s:q=g+2:=e;subst s;rcases m.1 with h|h
               .have:=h.2;omega
               .omega)).mono (λq _ m=>by
               rcases m.1 with h|h
               .exact .inl h.1
               .exact .inr (by omega)))
end Go.Proofs.YtljaoopfomcaoaaGreatDoor
namespace Go.Proofs.YtljaoopfomcaoaaGreatDoor
def wG:K:=⟨#[101,120,112,111,114,116,115,46]⟩
def bT(i:iy):iy:=if i.isMap then i else⟨ByteArray.empty,wG++i.plain,dB,true⟩
def uA(x:Want):Want:={x with imports:=x.imports.map bT}
def dQ(all:T)(name:K)(m:T)(i:iy):T:=
 match bD all (parts (name++dB++(bT i).child) 46) with
 |none=>m
 |some t=>bV true m (fM (fJ (bT i).parent (.table t)))
def sQ(all:T)(m:T)(x:Want):T:=x.imports.foldl (dQ all x.name) m
def cZ(all:T)(l:List Want):T:=l.foldl (sQ all) []
def eX:Nat→Ch→Option Ch
 |0,c=>some c
 |L+1,c=>match eH (eX L) c.deps with
  |none=>none
  |some a=>if c.wants.isEmpty then some (.mk c.name c.version c.vals a c.wants) else
   match dJ true (.mk c.name c.version c.vals a c.wants) [] with
   |none=>none
   |some all=>some (.mk c.name c.version (.table (bV true all (cZ all c.wants))) a (c.wants.map uA))
theorem sS{all:T}{l:List Want}{n:Nat}{x:Want}(h:l[n]?=some x):cZ all (l.take (n+1))=sQ all (cZ all (l.take n)) x:=by rw[List.take_add_one,h];simp[cZ,List.foldl_append]
theorem Fq{all:T}{name:K}{m:T}{l:List iy}{n:Nat}{i:iy}(h:l[n]?=some i):(l.take (n+1)).foldl (dQ all name) m=dQ all name ((l.take n).foldl (dQ all name) m) i:=by rw[List.take_add_one,h];simp[List.foldl_append]
theorem dC.bV{m:Bool}{a b:T}(c:dC (.table a))(e:dC (.table b)):dC (.table (bV m a b)):=λd=>zA d (c d) (e d)
theorem dC.ins{t:T}{k:K}{x:J}(a:dC (.table t))(b:dC x)(c:k=gK→jQ x):dC (.table (ins t k x)):=λd=>by
 cases d with
 |zero=>trivial
 |succ d=>exact BV (a (d+1)) (b d) c
theorem qM{U:List K}{N D:Nat}(m:Bool):∀(h:Nat)(c:Ch)(v t:T),iW U N D h c→dC (.table v)→dJ m c v=some t→dC (.table t):=by
 intro h;induction h with
 |zero=>intro c v t i;exact i.elim
 |succ h w=>
  intro c v t i u a;rw[sH] at a;have o:∀d∈c.deps,iW U N D h d:=i.2.2.2.2.2;have j:dC (.table (over m (bn c.deps) v (fM c.vals))):=by
   refine dC.over u ?_;cases hcv:c.vals with
   |table s=>exact(i.2.2.2.1 s hcv).2
   | _=>exact λd=>kV d
  generalize over m (bn c.deps) v (fM c.vals)=p at a j;generalize c.deps=l at a o;clear u i;induction l generalizing p with
  |nil=>rw[ja] at a;cases a;exact j
  |cons d r b=>
   rw[ja] at a;cases n:bH p d.name with
   |none=>rw[n] at a;cases a
   |some x=>
    rw[n] at a;have q:=o d (by simp);have z:d.name≠gK:=by
     cases h with
     |zero=>exact q.elim
     |succ h=>exact q.2.2.1
    cases hy:dJ m d (globals x p) with
    |none=>simp only[hy] at a;cases a
    |some y=>
     simp only[hy] at a;have A:=dC.globals (j.bH n).1 j;have B:=w d _ _ q A hy;have f:=dC.ins (k:=d.name) j B (λe=>absurd e z);have g:∀x∈r,iW U N D h x:=λx n=>o x (by simp[n])
     first|exact b _ a f g|exact b _ f a g|exact b _ g a f|exact b _ a g f|exact b _ f g a|exact b _ g f a
theorem iW.mono{U:List K}{N D E:Nat}(b:D<=E):∀{h:Nat}{c:Ch},iW U N D h c→iW U N E h c
 |0,_,a=>a.elim
 |h+1,c,a=>⟨a.1,a.2.1,a.2.2.1,λt e=>⟨(a.2.2.2.1 t e).1.mono (λ_ h=>h) lR' b,(a.2.2.2.1 t e).2⟩,a.2.2.2.2.1,λd f=>iW.mono b (a.2.2.2.2.2 d f)⟩
theorem iW.all{U:List K}{N h:Nat}:∀{l:List Ch},(∀d∈l,∃D,iW U N D h d)→∃D,∀d∈l,iW U N D h d
 |[],_=>⟨0,by simp⟩
 |a::r,c=>by
  obtain⟨e,f⟩:=c a (by simp);obtain⟨g,i⟩:=iW.all (l:=r) (λd b=>c d (by simp[b]));refine⟨e+g,λd b=> ?_⟩;rcases List.mem_cons.1 b with rfl|b
  .exact f.mono (Nat.le_add_right _ _)
  .exact(i d b).mono (Nat.le_add_left _ _)
structure lQ (U:List K) (i:iy):Prop where
 plain:i.plain.size<=1000
 child:i.child.size<=1000
 parent:i.parent.size<=1000
 keys:i.isMap=true→i.parent≠dB→∀k∈parts i.parent 46,k∈U∧k≠gK
def uX(U:List K)(N D:Nat):Nat→Ch→Prop
 |0,_=>False
 |L+1,c=>iW U N D (L+1) c∧c.deps.length<=60∧c.wants.length<=40∧(∀x∈c.wants,xq x∧x.name.size<=1000∧x.imports.length<=20∧∀i∈x.imports,lQ U i)∧∀d∈c.deps,uX U N D L d
theorem jU{U:List K}{N:Nat}:∀{l:List K}{d:Nat}{t x:T},WU U N d (.table t)→bD t l=some x→WU U N d (.table x)
 |[],d,t,x,h,e=>by cases e;exact h
 |k::r,d,t,x,h,e=>by
  simp only[bD] at e
  split at e
  .rename_i y hy
   cases d with
   |zero=>exact h.elim
   |succ d=>exact(jU ((h.get hy).2) e).mono (λ_ h=>h) lR' (Nat.le_succ _)
  .cases e
theorem uB:∀{l:List K}{t x:T},dC (.table t)→bD t l=some x→dC (.table x)
 |[],t,x,h,e=>by cases e;exact h
 |k::r,t,x,h,e=>by
  simp only[bD] at e
  split at e
  .rename_i y hy
   exact uB (h.get hy) e
  .cases e
theorem Fv:∀(l:List K)(t:T),∃x,nest l (.table t)=.table x
 |[],t=>⟨t,rfl⟩
 |k::r,t=>⟨_,rfl⟩
theorem lJ(p:K)(t:T):∃x,fJ p (.table t)=.table x:=by
 unfold fJ
 split
 .exact⟨t,rfl⟩
 .exact Fv _ _
theorem Aa{U:List K}{N:Nat}:∀{l:List K}{d:Nat}{j:J},(∀k∈l,k∈U)→WU U N d j→WU U N (d+l.length) (nest l j)
 |[],d,j,_,h=>h
 |k::r,d,j,a,h=>by have b:=Aa (l:=r) (λx c=>a x (by simp[c])) h;show WU U N (d+(r.length+1)) (.table [(k,nest r j)]);refine⟨List.pairwise_singleton _ _,λp e=> ?_⟩;obtain rfl:=List.mem_singleton.1 e;exact⟨a k (by simp),b⟩
theorem Ac:∀{l:List K}{j:J},(∀k∈l,k≠gK)→dC j→dC (nest l j)
 |[],j,_,h=>h
 |k::r,j,c,h=>λd=>by
  cases d with
  |zero=>trivial
  |succ d=>
   intro t e f x b;cases e;have a:get [(k,nest r j)] f=some x:=b;simp only[get] at a
   split at a
   .rename_i e
    cases a;exact⟨Ac (l:=r) (λx b=>c x (by simp[b])) h d,λg=>absurd (e.trans g) (c k (by simp))⟩
   .cases a
theorem uY{U:List K}{i:iy}(h:lQ U i)(a:(bT i).parent≠dB):∀k∈parts (bT i).parent 46,k∈U∧k≠gK:=by
 unfold bT at a⊢;by_cases b:i.isMap=true
 .rw[if_pos b] at a⊢;exact h.keys b a
 .rw[if_neg b] at a;exact absurd rfl a
theorem Ad{U:List K}{N d:Nat}{i:iy}(h:lQ U i){t:T}(a:WU U N d (.table t)):∃E,WU U N E (fJ (bT i).parent (.table t)):=by
 unfold fJ
 split
 .exact⟨d,a⟩
 .rename_i Dh
  exact⟨_,Aa (λk b=>(uY h Dh k b).1) a⟩
theorem GV{U:List K}{i:iy}(h:lQ U i){t:T}(a:dC (.table t)):dC (fJ (bT i).parent (.table t)):=by
 unfold fJ
 split
 .exact a
 .rename_i Dh
  exact Ac (λk b=>(uY h Dh k b).2) a
def gY(U:List K)(N:Nat)(t:T):Prop:=(∃E,WU U N E (.table t))∧dC (.table t)
theorem gY.nil(U:List K)(N:Nat):gY U N []:=⟨⟨1,WU.nil⟩,λd=>kV d⟩
theorem gY.bV{U:List K}{N:Nat}{m:Bool}{a b:T}(c:gY U N a)(d:gY U N b):gY U N (bV m a b):=by obtain⟨⟨e,f⟩,g⟩:=c;obtain⟨⟨h,i⟩,j⟩:=d;exact⟨⟨e+h,WU.bV m f.max i.Cc⟩,g.bV j⟩
theorem gY.dQ{U:List K}{N:Nat}{all m:T}{name:K}{i:iy}(e:gY U N all)(a:gY U N m)(b:lQ U i):gY U N (dQ all name m i):=by
 unfold Go.Proofs.YtljaoopfomcaoaaGreatDoor.dQ
 split
 .exact a
 .rename_i t ht
  obtain⟨⟨E,f⟩,g⟩:=e;obtain⟨x,h⟩:=lJ (bT i).parent t;have c:=Ad b (jU f ht);have d:=GV b (uB g ht);rw[h] at c d⊢;exact a.bV ⟨c,d⟩
theorem gY.foldI{U:List K}{N:Nat}{all:T}{name:K}(b:gY U N all):∀(l:List iy)(m:T),gY U N m→(∀i∈l,lQ U i)→gY U N (l.foldl (Go.Proofs.YtljaoopfomcaoaaGreatDoor.dQ all name) m)
 |[],m,a,_=>a
 |i::r,m,a,c=>gY.foldI b r _ (b.dQ a (c i (by simp))) (λx d=>c x (by simp[d]))
theorem gY.cZ{U:List K}{N:Nat}{all:T}(c:gY U N all)(l:List Want)(a:∀x∈l,∀i∈x.imports,lQ U i):gY U N (cZ all l):=by
 unfold Go.Proofs.YtljaoopfomcaoaaGreatDoor.cZ;suffices h:∀(l:List Want)(m:T),gY U N m→(∀x∈l,∀i∈x.imports,lQ U i)→gY U N (l.foldl (sQ all) m) from h l [] (gY.nil U N) a
 intro l;induction l with
 |nil=>intro m b _;exact b
 |cons x r d=>intro m b a;exact d _ (gY.foldI c x.imports m b (a x (by simp))) (λy e=>a y (by simp[e]))
theorem ou{f:Ch→Option Ch}:∀{l b:List Ch},eH f l=some b→∀y∈b,∃x∈l,f x=some y
 |[],b,h,y,a=>by cases h;cases a
 |d::r,b,h,y,a=>by
  simp only[eH] at h;cases hf:f d with
  |none=>rw[hf] at h;cases h
  |some x=>
   rw[hf] at h;cases hr:eH f r with
   |none=>rw[hr] at h;cases h
   |some z=>
    rw[hr] at h;cases h;rcases List.mem_cons.1 a with rfl|a
    .exact⟨d,by simp,hf⟩
    .obtain⟨c,e,g⟩:=ou hr y a;exact⟨c,by simp[e],g⟩
theorem o8{f:Ch→Option Ch}(b:∀x y,f x=some y→y.name=x.name):∀{l a:List Ch},eH f l=some a→a.map Ch.name=l.map Ch.name
 |[],a,h=>by cases h;rfl
 |d::r,a,h=>by
  simp only[eH] at h;cases hd:f d with
  |none=>rw[hd] at h;cases h
  |some x=>
   rw[hd] at h;cases hr:eH f r with
   |none=>rw[hr] at h;cases h
   |some z=>rw[hr] at h;cases h;simp[b d x hd,o8 b hr]
theorem Ae:∀(L:Nat)(c c':Ch),eX L c=some c'→c'.name=c.name
 |0,c,c',h=>by cases h;rfl
 |L+1,c,c',h=>by
  rw[eX] at h;cases hm:eH (eX L) c.deps with
  |none=>rw[hm] at h;cases h
  |some a=>
   rw[hm] at h;simp only at h
   split at h
   .cases h;rfl
   .cases ha:dJ true (.mk c.name c.version c.vals a c.wants) [] with
    |none=>rw[ha] at h;cases h
    |some all=>rw[ha] at h;cases h;rfl
theorem Af{U:List K}{N D L:Nat}(p:gK∈U)(j:∀(d f:Ch),uX U N D L d→eX L d=some f→∃E,iW U N E L f){c:Ch}(h:uX U N D (L+1) c){b:List Ch}(g:eH (eX L) c.deps=some b):
  ∃E,iW U N E (L+1) (.mk c.name c.version c.vals b c.wants):=by
 have k:=o8 (λx y l=>Ae L x y l) g;obtain⟨E,m⟩:=iW.all (λd e=>by obtain⟨x,n,o⟩:=ou g d e;exact j x d (h.2.2.2.2 x n) o);have a:=h.1;exact⟨D+E,a.1,a.2.1,a.2.2.1,λt i=>⟨(a.2.2.2.1 t i).1.mono (λ_ h=>h) lR' (Nat.le_add_right _ _),(a.2.2.2.1 t i).2⟩,by show(b.map Ch.name).Nodup;rw[k];exact a.2.2.2.2.1,λd e=>(m d e).mono (Nat.le_add_left _ _)⟩
theorem Fz{U:List K}{N D:Nat}(e:gK∈U):∀(L:Nat)(c c':Ch),uX U N D L c→eX L c=some c'→∃E,iW U N E L c'
 |0,c,c',h,_=>h.elim
 |L+1,c,c',h,a=>by
  rw[eX] at a;cases hm:eH (eX L) c.deps with
  |none=>rw[hm] at a;cases a
  |some i=>
   rw[hm] at a;simp only at a;obtain⟨E,b⟩:=Af e (λd j=>Fz e L d j) h hm
   split at a
   .cases a;exact⟨E,b⟩
   .cases ha:dJ true (.mk c.name c.version c.vals i c.wants) [] with
    |none=>rw[ha] at a;cases a
    |some all=>rw[ha] at a;cases a;have f:=sJ e true (L+1) _ 1 [] all b WU.nil ha;have g:=qM true (L+1) _ [] all b (λd=>kV d) ha;obtain⟨⟨F,hF⟩,k⟩:=gY.bV (m:=true) (U:=U) (N:=N) ⟨f,g⟩ (gY.cZ ⟨f,g⟩ c.wants (λx l=>(h.2.2.2.1 x l).2.2.2));exact⟨E+F,b.1,b.2.1,b.2.2.1,λt n=>by cases n;exact⟨hF.mono (λ_ h=>h) lR' (Nat.le_add_left _ _),k⟩,b.2.2.2.2.1,λd o=>(b.2.2.2.2.2 d o).mono (Nat.le_add_right _ _)⟩
end Go.Proofs.YtljaoopfomcaoaaGreatDoor
