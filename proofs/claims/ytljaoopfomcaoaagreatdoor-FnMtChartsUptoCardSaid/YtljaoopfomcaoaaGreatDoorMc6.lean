/- A part of the proof. -/
import Derived.Test.YtljaoopfomcaoaaGreatDoorMc5
set_option linter.unusedVariables false
set_option linter.unusedSimpArgs false
set_option maxRecDepth 100000
set_option maxHeartbeats 4000000
namespace Go.Proofs.YtljaoopfomcaoaaGreatDoor
open Go.RowKit
theorem xY(s:K)(w:World):Calls Tryz.prog 99 #[.string s] w λe a=>(∃b,e=.returned (.iface 175 (.pointer (some ⟨b,0,none⟩))))∧O No w a:=by go_enter Tryz.func99,Tryz.ntmps99;go_wp2;go_ret;exact⟨⟨_,rfl⟩,(O.refl No w).alloc _⟩
theorem Gz(b:Nat)(w:World):(Go.binOp BinOp.neq 75 (.iface 175 (.pointer (some ⟨b,0,none⟩))) .nilIface).run Tryz.prog w=.ok (.bool true) w:=by kernel_rfl
theorem Bc(b:Nat)(x:Operand)(w:World):(eqGuard BinOp.neq 75 x (.const .nilIface) (.iface 175 (.pointer (some ⟨b,0,none⟩))) .nilIface).run Tryz.prog w=.ok () w:=by cases x<;>kernel_rfl
theorem eY(w:World):(Go.binOp BinOp.neq 75 .nilIface .nilIface).run Tryz.prog w=.ok (.bool false) w:=by kernel_rfl
theorem dO(x:Operand)(w:World):(eqGuard BinOp.neq 75 x (.const .nilIface) .nilIface .nilIface).run Tryz.prog w=.ok () w:=by cases x<;>kernel_rfl
def xZ(U:List K)(N:Nat)(m:Bool)(d h:Nat):Prop:=
 ∀c,iW U N (d+2) h c→∀(ok:ae)(p:Nat)(v:T)(ba:Nat)(a:ae)(w:World)(b:K),eU ok w p c→bf ok w (.iface 67 (.map (some ba))) (.table v) a→(∀x,a x→¬ok x)→WU U N (d+2) (.table v)→dC (.table v)→
  b.size+(d+h+8)*140737488355329<=900000000000000000→Calls Tryz.prog 92 #[l7,.pointer (some ⟨p,0,none⟩),.map (some ba),.string b,.bool m] w (pO U N ok a w ba (dJ m c v))
theorem sF{m:Bool}{c:List Ch}{n:Nat}{a:Ch}(h:c[n]?=some a)(b:T):ja m (c.drop n) b=match bH b a.name with
  |none=>none
  |some x=>match dJ m a (globals x b) with
   |none=>none
   |some y=>ja m (c.drop (n+1)) (ins b a.name (.table y)):=by
 obtain⟨d,e⟩:=gS'.1 h;rw[List.drop_eq_getElem_cons d,e];rw[ja];cases bH b a.name with
 |none=>rfl
 |some x=>
  dsimp only
  cases dJ m a (globals x b)<;>rfl
theorem IV{a:List Ch}{n:Nat}{b:Ch}(h:a[n]?=some b)(c:(a.map Ch.name).Nodup):b.name∉(a.take n).map Ch.name:=by intro d;obtain⟨e,f⟩:=gS'.1 h;have g:a.map Ch.name=(a.take n).map Ch.name++(a.drop n).map Ch.name:=(by rw[←List.map_append,List.take_append_drop]);rw[g] at c;refine(List.nodup_append.1 c).2.2 _ d b.name ?_ rfl;rw[List.drop_eq_getElem_cons e,f];simp
theorem DI{a b c x m:Nat}(h:a+b*x<=m)(d:c<=b):a+c*x<=m:=Nat.le_trans (Nat.add_le_add_left (Nat.mul_le_mul_right _ d) _) h
theorem sG{x a b:T}(h:get a gK=get b gK):globals x a=globals x b:=by unfold globals bH;rw[h]
theorem xx(U:List K)(N:Nat)(hN:N<1099511627776)(iD:U.length<=N)(bV:∀k∈U,fK k)(fE:gK∈U)(m:Bool)(d h:Nat)(bW:xZ U N m d h)(c:Ch)(hc:iW U N (d+2) (h+1) c)(ok:ae)(p:Nat)(v:T)(ba:Nat)(J:ae)(w:World)(aC:K)
  (fF:eU ok w p c) (ha:bf ok w (.iface 67 (.map (some ba))) (.table v) J) (aX:∀x,J x→¬ok x) (wa:WU U N (d+2) (.table v)) (bZ:dC (.table v)) (cu:aC.size+(d+h+9)*140737488355329<=900000000000000000):
  Calls Tryz.prog 118 #[l7,.pointer (some ⟨p,0,none⟩),.map (some ba),.string aC,.bool m] w (pO U N ok J w ba (ja m c.deps v)):=by
 cases fF with
 |@mk _ pm mv iE dv wv name iF vals L wants ps hp cO hm cZ hv hd hn hh=>
  obtain⟨aY,df,dh, -,bg,bn⟩:=hc;simp only[Ch.name,Ch.deps] at aY df dh bg bn⊢;have di:=Z aY;have fG:=Z bg;have dn:=Z bn;have HH:=Z hh;have HD:=Z hd;have dw:=hd.1;have HN:=Z hn;have aG:=Z aX;have HA:=Z ha;have WA:=Z wa;have aH:=Z bZ;have dB:=Z cu;have fH:=Z bV;have IH:=Z bW;obtain⟨-, -,da,dc,rfl, -, -⟩:=hd;simp only[aF,List.length_map] at HD dw hp;unfold maxLen at dw;have fJ:=Z (kZ hp);have HP:=Z hp;have HM:=Z hm;have dD:=Z (show ok p∧ok pm from⟨cO,cZ⟩);have ax:CD U N m ok J w ba L v 0 v (okB ok w) J w:=⟨zL',ha.dV,λx g=>⟨g.2,.inl g⟩,λx g=>g,λx g=> .inl g,λx g hs=>aX x hs g.1,O.refl _ _,by rw[List.drop_zero],λk _=>rfl,⟨_,wa⟩⟩;have dE:=Z ax;clear hp cO hm cZ hv hn hh aY df dh bg bn aX ha wa bZ cu bV bW ax;go_enter Tryz.func118,Tryz.ntmps118;go_wp2_with fail;refine fJ.o.mono ?_;rintro e wt ⟨rfl,C⟩;obtain rfl:=C.symm;go_wp2_with fail;go_loopw [24] (λct wr=>∃(n:Nat)(B:T)(R S:ae),ct=.int .i64 n∧CD U N m ok J w ba L v n B R S wr) (λct _=>ps.length - (intOf ct).toNat)
  case atStart=>exact⟨0,_,_,_,rfl,dE.o⟩
  case round=>
   obtain⟨n,B,R,S,rfl,ax⟩:=hrel;have l:=Z ax;clear ax dE;by_cases dF:n<ps.length
   .obtain⟨q,hq⟩:=gX' ps n (dF);obtain⟨o,af⟩:∃d,L[n]?=some d:=⟨_,List.getElem?_eq_getElem (by rw[←HN.o];exact dF)⟩;obtain⟨lb,lo,rfl,dG,aI⟩:=HD.o.at (i:=n) (r:=[.pointer (some ⟨q,0,none⟩)]) (by simp[hq]);have aI:=(aI.X l.o.X (λq=>aG.o lb q dG)).one;simp only[Nat.mul_one] at aI;have iG:=Z (HH.o n q o hq af).dV;have HQ:=Z (show eU R wr q o from((HH.o n q o hq af).dV.X l.o.X (λx g q=>aG.o x q g.1)).mono (λx _ g=>l.o.NI x g));have aJ:=Z af;have fM:(n:Int)<(ps.length:Int):=(by omega);have ay:=Z (dn.o o (mG' af));obtain⟨h0,rfl⟩:∃h',h=h'+1:=by
     cases h with
     |zero=>exact ay.o.elim
     |succ h=>exact⟨h,rfl⟩
    have az:=Z (show fK o.name∧o.name∈U∧o.name≠gK from⟨ay.o.1,ay.o.2.1,ay.o.2.2.1⟩);have aA:o.name.size<=maxLen:=by have:=az.o.1;unfold fK at this;unfold maxLen;omega
    have dH:get B o.name=get v o.name:=l.o.same _ (IV af fG.o);have fO:=Z dH;obtain⟨_,iH,f,F,eo,tO,ai⟩:=l.o.own.tab;cases eo;replace tO:=tO.fit;obtain⟨nn,dI⟩:∃nn,nn=B.length:=⟨_,rfl⟩;rw[←dI] at tO;have bu:=Z (show nn<1099511627776 by obtain⟨E,hE⟩:=l.o.wu;have:=hE.len;omega);have aj:=Z tO;have Q:=Z ai;have bz:=tO.map;have fP:nn<maxLen:=by have:=bu.o;unfold maxLen;omega
    clear hq af dG dH tO dI ai
    go_upto_if 36 with(first|(refine(oh HQ.o).mono ?_;rintro e wt ⟨rfl,C⟩;obtain rfl:=C.symm)|(at_lookup;refine aQ rfl rfl rfl bz rfl aA ?_;go_frame))
    go_cut [14,15,24] from 24 to 89 (λiI iJ fQ wc=>fQ=.int .i64 n∧∃(n1:Nat)(f1:K→Option Value)(F1:K→ae)(M:Nat)(H V:T),CJ R S wr B o.name ba wc n1 f1 F1 M H V)
    case first=>
     cases I:get B o.name with
     |none=>
      have ak:f o.name=none:=by
       have h:=aj.o.dom o.name;rw[I] at h;cases W:f o.name with
       |none=>rfl
       |some _=>rw[W] at h;cases h
      have P:=Z I;have aK:=Z ak;have iK:=gW;clear I ak;rw[aK.o]
      dsimp only[Option.getD_none,Option.isSome_none,Bool.not_false]
      have fU:=bz.alloc (.map #[] 0);go_wp2_with (first|(refine(oh HQ.o).mono ?_;rintro e wt ⟨rfl,C⟩;obtain rfl:=C.symm)|(at_mapUpdate;refine bY (u:=.iface 67 (.map (some wr.heap.size))) rfl rfl rfl fU fP rfl aA rfl ?_;intro w3 fV D iL;go_frame))
      go_meet
      obtain⟨E,hE⟩:=l.o.wu;have iM:=aj.o.map.lt;have fZ:(wr.alloc (.map #[] 0)).heap.size=wr.heap.size+1:=(by simp);have gm:bf R w3 (.iface 67 (.map (some wr.heap.size))) (.table []) (λx=>x=wr.heap.size):=
       (bf.set (iC.any (iC.made (ok:=R) (aU.made wr))) (λx=>⟨λh=> .inl h,λh=>h.elim id (λ⟨_,h⟩=>h.elim)⟩)).X D (λy A q=>l.o.rs y A ((Q.o y).2 (.inl q))) (λy A q=>by have h1:y=ba:=q;have h2:y=wr.heap.size:=A;omega)
      have hT:=su (k:=o.name) (ok':=R) (j:=.table []) (G:=λx=>x=wr.heap.size) aj.o hE.sorted ((O.refl No wr).alloc (.map #[] 0)) (λy q=>q.elim) (λy A=>⟨(l.o.rb y A).1,λq=>l.o.rs y A ((Q.o y).2 (.inr ⟨_,q⟩)),λq=>l.o.rs y A ((Q.o y).2 (.inl q))⟩) (λy A=>A) D fV gm (λy A=> .inr (Nat.le_of_eq A.symm));refine⟨rfl,nn+1,_,_,wr.heap.size,[],ins B o.name (.table []),hT,by rw[if_pos rfl],by rw[jy,if_pos rfl],by unfold bH;rw[P.o],λk hk=>by rw[jy,if_neg (λq=>hk q.symm)],kR _ _ hE.sorted,by have:=bu.o;omega,λx g=> ?_,(((O.refl No wr).alloc (.map #[] 0)).mono (λ_ _ q=>q.elim)).trans D (λi hi q=>(Q.o i).2 (.inl q))⟩;rcases g with q|⟨k,q⟩
      .exact .inl ((Q.o x).2 (.inl q))
      .by_cases e:k=o.name
       .rw[if_pos e] at q;exact .inr (Nat.le_of_eq q.symm)
       .rw[if_neg e] at q;exact .inl ((Q.o x).2 (.inr ⟨k,q⟩))
     |some x=>
      obtain⟨u0,ak⟩:∃u0,f o.name=some u0:=by
       have h:=aj.o.dom o.name;rw[I] at h;cases W:f o.name with
       |none=>rw[W] at h;cases h
       |some v=>exact⟨v,rfl⟩
      have HV:=Z (aj.o.val o.name u0 x ak I);have P:=Z I;have aK:=Z ak;clear I ak;rw[aK.o]
      dsimp only[Option.getD_some,Option.isSome_some,Bool.not_true]
      go_wp2_with fail
      refine(aZ HV.o.dL wr).mono ?_;rintro e wt ⟨rfl,C⟩;obtain rfl:=C.symm;cases kP:dA x with
      |false=>have aB:ja m L v=none:=(by rw[←l.o.all,sF aJ.o,show bH B o.name=none by unfold bH;rw[P.o];cases x<;>first|rfl|(cases kP;done)]);have bC:=Z aB;clear kP aB;go_wp2_with fail;refine(xY _ wr).mono ?_;rintro e w3 ⟨⟨eb,rfl⟩,D⟩;have bD:=Z D;clear D;go_wp2_with fail;go_ret2;rw[bC.o];exact⟨⟨_,_,rfl⟩,l.o.X.trans' bD.o⟩
      |true=>
       obtain⟨xt,rfl⟩:=dm kP;clear kP;go_wp2_with fail
       go_meet
       obtain⟨E,hE⟩:=l.o.wu;obtain⟨M,_,_,_,rfl, -, -⟩:=HV.o.tab;exact⟨rfl,nn,f,F,M,xt,B,aj.o,aK.o,P.o,by unfold bH;rw[P.o],λk _=>rfl,hE.sorted,by have:=bu.o;omega,λx g=> .inl ((Q.o x).2 g),O.refl _ _⟩
    case rest=>
    obtain⟨rfl,n1,f1,F1,M,H,V,au⟩:=hcut;have s:=Z au;have gp:=au.tab.map;have gq:∀x,R x→x<wr.heap.size:=λx g=>(l.o.rb x g).1
    have dK:∀x,S x→J x∨w.heap.size<=x:=l.o.sb;have aN:O J w wc:=l.o.X.trans au.X (λi hi q=>(dK i q).elim id (λq=>by omega));have dM:eU R wc q o:=HQ.o.X au.X (λx g q=>l.o.rs x g q);have dN:=Z dM;have k0:wc.cell? ⟨p,0,none⟩=some (.pointer (some ⟨pm,0,none⟩)):=(HP.o.X aN (λq=>aG.o p q dD.o.1)).cell 0;have q0:wc.cell? ⟨pm,0,none⟩=some (.string name):=(HM.o.X aN (λq=>aG.o pm q dD.o.2)).cell 0;have iO:=kY (.map (some M));have dP:aC.size<=1000000000000000000:=by have:=dB.o;omega
    have dQ:name.size<=1000000000000000000:=by have:=di.o;unfold fK at this;omega
    have gu:=Z (gV aC name wc dP dQ);have dR:=Z aN;have gy:=Z au.at_;clear au aN dM dP dQ gq dK bz aI;go_wp2_with (first|(refine(oh dN.o).mono ?_;rintro e wt ⟨rfl,C⟩;obtain rfl:=C.symm)|(at_lookup;refine aQ rfl rfl rfl gp rfl aA ?_;rw[gy.o];go_frame));refine gu.o.mono ?_;rintro e wt ⟨⟨sx,rfl,gz⟩,C⟩;obtain rfl:=C.symm;have dS:=Z (show sx.size+(d+h0+9)*140737488355329<=900000000000000000 by have h1:=dB.o;have h2:=di.o;unfold fK at h2;omega);have bF:∀x,R x→¬fC ba F1 x:=λx g W=>by
     rcases s.o.sub x W with q|q
     .exact l.o.rs x g q
     .have:=(l.o.rb x g).1;omega
    have aO:get V gK=get v gK:=(s.o.MS gK (λq=>az.o.2.2 q.symm)).trans (l.o.same gK (λhm=>by obtain⟨z,hz,he⟩:=List.mem_map.1 hm;have h:=dn.o z (List.mem_of_mem_take hz);exact h.2.2.1 he));have dU:get B gK=get v gK:=(s.o.MS gK (λq=>az.o.2.2 q.symm)).symm.trans aO;have aP:bH v o.name=some H:=by have h:=s.o.DF;unfold bH at h⊢;rwa[fO.o] at h
    have dW:sx.size+(d+3)*140737488355329<=900000000000000000:=DI dS.o (by omega);have bG:∀b,bH V gK=some b→bH v gK=some b:=λb hb=>by unfold bH at hb⊢;rwa[aO] at hb
    have dX:∀b,bH V gK=some b→jQ (.table b):=λb hb=>(aH.o.bH (bG b hb)).2 rfl
    have dY:=sD U N (by omega) fH.o m d R H V M ba n1 f1 (F1 o.name) (F1 gK) wc sx
     (s.o.tab.val o.name _ _ s.o.at_ s.o.NJ) s.o.tab.map (s.o.tab.dom gK) (λu t h1 h2=>s.o.tab.val gK u t h1 h2)
     (λy A gB=>az.o.2.2 (s.o.tab.apart _ _ y gB A)) (λy A hR=>bF y hR (.inr ⟨_,A⟩)) ((WA.o.bH aP).mono (λ_ h=>h) lR' (Nat.le_succ _))
     (λb hb=>WA.o.bH (bG b hb)) (λa ha=>((aH.o.bH aP).1.bH ha).2 rfl)
     dX dW
    have gG:=Z dY;have gI:=Z aO;have gJ:=Z dU;have dZ:=Z aP;have ed:=Z bF;clear gz bF aO dU aP dY dW bG dX;go_wp2_with fail;refine gG.o.mono ?_;rintro e w2 ⟨rfl,S',bI,bJ,bK⟩;have bM:eU R w2 q o:=dN.o.X bK (λx g q=>ed.o x g (.inr ⟨_,q⟩));have eu:globals H V=globals H v:=sG gI.o;rw[eu] at bI;have I:globals H B=globals H v:=sG gJ.o;have gQ:=s.o.X.size;have eF:WU U N (d+2) (.table (globals H v)):=WU.globals fE ((WA.o.bH dZ.o).mono (λ_ h=>h) lR' (Nat.le_succ _)) WA.o;have eG:=IH.o o ay.o R q (globals H v) M S' w2 sx bM (bI.mono (λ_ _ h=>h.1)) (λx g hR=>by
     rcases bJ x g with q|q
     .exact ed.o x hR (.inr ⟨_,q⟩)
     .have:=(l.o.rb x hR).1;omega) eF ((aH.o.bH dZ.o).1.globals aH.o) (by have:=dS.o;omega)
    have gU:=Z eG;have gX:=Z bM;have P:=Z I;have bP:=Z bJ;have aS:=Z bK;clear eG bM bI bJ bK eu I gQ eF;go_wp2_with (first|(refine(oh gX.o).mono ?_;rintro e wt ⟨rfl,C⟩;obtain rfl:=C.symm));refine gU.o.mono ?_;intro e w3 aT;have eH:n1<maxLen:=by have:=s.o.len;unfold maxLen;omega
    have aV:∀{w3:World},O S' w2 w3→aU w3 ba n1 f1:=λhc=>(s.o.tab.map.X aS.o (s.o.tab.kF _)).X hc (λq=>by
     rcases bP.o ba q with q|q
     .exact s.o.tab.kF _ q
     .have:=s.o.tab.map.lt;omega)
    cases jS:dJ m o (globals H v) with
    |none=>
     rw[jS] at aT;obtain⟨⟨gY,eb,rfl⟩,D⟩:=aT;have bQ:=aV D;have gZ:=Gz eb;have ig:=Bc eb;have aB:ja m L v=none:=by
      rw[←l.o.all,sF aJ.o,s.o.DF]
      dsimp only
      rw[P.o,jS]
     have bC:=Z aB;have bD:=Z D;clear jS aB D aV;go_wp2_with (first|(at_mapUpdate;refine bY (u:=.iface 67 gY) rfl rfl rfl bQ eH rfl aA rfl ?_;intro w4 bT aW eP;go_frame));go_ret2;rw[bC.o];refine⟨⟨_,_,rfl⟩,?_⟩;have fZ:=dR.o.size;have iP:=aS.o.size;have iQ:=l.o.X.size;have ai:∀x,x<w.heap.size→fC ba F1 x→J x:=λx g W=>by
      rcases s.o.sub x W with q|q
      .rcases l.o.sb x q with q|q
       .exact q
       .omega
      .omega
     refine((dR.o.trans aS.o (λx g q=>ai x g (.inr ⟨_,q⟩))).trans bD.o (λx g q=> ?_)).trans aW (λx g q=>ai x g (.inl q));rcases bP.o x q with q|q
     .exact ai x g (.inr ⟨_,q⟩)
     .omega
    |some y=>
     rw[jS] at aT;obtain⟨rfl,bU,eQ⟩:=aT;have D:O S' w2 w3:=by obtain⟨_,_,_,_,_,_,hc⟩:=bU;exact hc
     have bQ:=aV D;have gZ:=eY;have ig:=dO;have eX:ja m (L.drop n) B=ja m (L.drop (n+1)) (ins B o.name (.table y)):=by
      rw[sF aJ.o,s.o.DF]
      dsimp only
      rw[P.o,jS]
     have ik:=Z eX;have iq:=Z bU;have iw:=Z eQ;clear jS eX D aV bU eQ;go_wp2_with (first|(at_mapUpdate;refine bY (u:=.iface 67 (.map (some M))) rfl rfl rfl bQ eH rfl aA rfl ?_;intro w4 bT aW eP;go_frame));obtain⟨R4,S4,fA⟩:=l.o.step aJ.o s.o bP.o aS.o iq.o bT aW ik.o iw.o az.o.2.1;have fB:=Z fA;clear fA bT aW eP;refine⟨?_,?_⟩
     .first|exact⟨n+1,_,_,_,by go_num,fB.o⟩|((repeat apply Exists.intro);exact⟨⟨n+1,_,_,_,by go_num,fB.o⟩,rfl⟩)
     .simp[intOf];omega
   .have fM:¬(n:Int)<(ps.length:Int):=(by omega);have fD:ja m L v=some B:=by
     rw[←l.o.all,List.drop_eq_nil_of_le (by rw[←HN.o];omega),ja]
    have iy:=Z fD;clear fD;go_wp2;go_ret2;rw[iy.o];exact⟨rfl,⟨R,S,l.o.own,l.o.rb,l.o.sb,l.o.rs,l.o.X⟩,l.o.wu⟩
theorem sH(m:Bool)(c:Ch)(v:T):dJ m c v=ja m c.deps (over m (bn c.deps) v (fM c.vals)):=by
 cases c with
 |mk name a vals b wants=>rw[dJ];rfl
theorem vW(U:List K)(N:Nat)(A:N<1099511627776)(B:U.length<=N)(l:∀k∈U,fK k)(ai:gK∈U)(m:Bool)(d:Nat):∀h,xZ U N m d h:=by
 intro h;induction h with
 |zero=>intro c a;exact a.elim
 |succ h C=>
  intro c a ok p v ba Sa w D n E o s F u;have j:=a.2.2.2.1;have G:=uh U N A B l m (d+2) ok c p v ba Sa w D n E o s (λt ht=>(j t ht).1) a.1 (DI u (by omega));have H:WU U N (d+2) (.table (over m (bn c.deps) v (fM c.vals))):=by
   refine WU.over _ _ s ?_;cases hv:c.vals with
   |table t=>exact(j t hv).1
   | _=>exact WU.nil
  have I:dC (.table (over m (bn c.deps) v (fM c.vals))):=by
   refine dC.over F ?_;cases hv:c.vals with
   |table t=>exact(j t hv).2
   | _=>exact λd=>kV d
  have J:=xx U N A B l ai m d h C c a;have L:=sH m c v;have aj:=Z G;have ak:=Z H;have au:=Z I;have ax:=Z J;have ay:=Z L;have az:=Z n;have M:=Z o;have aA:=Z (DI (c:=d+h+9) u (by omega));clear a n E o s F u j G H I J L C l;go_enter Tryz.func92,Tryz.ntmps92;go_wp2_with fail;refine aj.o.mono ?_;rintro e w1 ⟨rfl,O⟩;obtain⟨R,S,f,P,Q,T,V,y⟩:=O.full M.o;have W:=ax.o R p (over m (bn c.deps) v (fM c.vals)) ba S w1 D ((az.o.dV.X y (λx g q=>M.o x q g.1)).mono (λx _ g=>Q x g)) f (λx g hR=>V x hR g) ak.o au.o aA.o;have aB:=Z W;have aC:=Z (λr e w2=>pO.trans (U:=U) (N:=N) (ba:=ba) P T y (r:=r) (e:=e) (w2:=w2));clear W f P Q T V y O;go_wp2_with fail;refine aB.o.mono ?_;intro e w2 af;have i:=aC.o _ _ _ af;rw[←ay.o] at i;clear af;cases hr:dJ m c v with
  |none=>rw[hr] at i;obtain⟨⟨mv,b,rfl⟩,a⟩:=i;have HC:=Z a;have z:=Z hr;clear a hr;go_wp2;go_ret2;rw[z.o];exact⟨⟨mv,b,rfl⟩,HC.o⟩
  |some t=>rw[hr] at i;obtain⟨rfl,f,hw⟩:=i;have HO:=Z f;have HW:=Z hw;have z:=Z hr;clear f hw hr;go_wp2;go_ret2;rw[z.o];exact⟨rfl,HO.o,HW.o⟩
theorem yH(N d:Nat)(a:N<1099511627776)(ok:ae)(kvs:T)(b:Nat)(w:World)(c:bC ok w (.iface 67 (.map (some b))) (.table kvs))(f:Wf N (d+1) (.table kvs)):
  Calls Tryz.prog 91 #[.map (some b)] w λe j=>∃g,e=.returned (.tuple #[.map (some g),.nilIface])∧mJ w (.table kvs) (.iface 67 (.map (some g))) j:=by
 have h:=lZ N d a (rY N a d) ok kvs b w c f;have H:=Z h;clear h c f;go_enter Tryz.func91,Tryz.ntmps91;go_wp2_with fail;refine H.o.mono ?_;rintro e l ⟨g,rfl,i⟩;have m:=jO g;have k:=Z i;clear i;go_wp2;go_ret2;exact⟨g,rfl,k.o⟩
def JR(U:List K)(N:Nat)(ok:ae)(w:World):Option T→Ending→World→Prop
 |none,e,a=>(∃c b,e=.returned (.tuple #[c,.iface 175 (.pointer (some ⟨b,0,none⟩))]))∧O No w a
 |some t,e,a=>(∃g,e=.returned (.tuple #[.map (some g),.nilIface])∧bC (λx=>okB ok w x∨w.heap.size<=x) a (.iface 67 (.map (some g))) (.table t))∧O No w a∧∃E,WU U N E (.table t)
theorem pR(U:List K)(N:Nat)(z:N<1099511627776)(A:U.length<=N)(m:∀k∈U,fK k)(O:gK∈U)(d h:Nat)(ax:d+h<=1000)(c:Ch)(f:iW U N (d+2) h c)(ok:ae)(p:Nat)(v:T)(b:Nat)(w:World)(B:eU ok w p c)
  (C:bC ok w (.iface 67 (.map (some b))) (.table v)) (n:WU U N (d+2) (.table v)) (D:dC (.table v)):
  Calls Tryz.prog 58 #[.pointer (some ⟨p,0,none⟩),.map (some b)] w (JR U N ok w (dJ false c v)):=by
 have E:=yH N (d+1) z ok v b w C (n.wf m A);have F:=vW U N z A m O false d h c f;have P:=Z E;have Q:=Z F;have V:=Z B;have W:=Z n;have af:=Z D;clear E F B C n D f m;go_enter Tryz.func58,Tryz.ntmps58;go_wp2_with fail;refine P.o.mono ?_;rintro e G ⟨g,rfl,R,S,i,o,r,j⟩;have ay:=eY;have az:=dO;have aA:=j.size;have H:=Q.o (λx=>okB ok w x∨okB R G x) p v g S G ByteArray.empty ((V.o.dV.X j nE).mono (λx _ a=> .inl a)) (i.dV.mono (λx _ a=> .inr a)) (λx a hq=>by
  rcases hq with q|q
  .have:=r x a;have:=q.2;omega
  .exact(o x q.1).2 a) W.o af.o (by rw[show ByteArray.empty.size=0 from rfl];omega)
 have ai:=Z H;have s:=Z r;have HR:=Z o;have I:=Z j;clear H i o r j;go_wp2_with fail;refine ai.o.mono ?_;intro e w2 l;cases hr:dJ false c v with
 |none=>rw[hr] at l;obtain⟨⟨mv,eb,rfl⟩,f⟩:=l;have u:=Z f;have y:=Z hr;clear f hr;go_wp2;go_ret2;rw[y.o];exact⟨⟨mv,eb,rfl⟩,I.o.trans u.o (λx a q=>by have:=s.o x q;omega)⟩
 |some t=>
  rw[hr] at l;obtain⟨rfl,⟨R2,S2,i,J,L,aj,f⟩,M⟩:=l;have u:=Z f;have HW:=Z M;have HO:=Z i;have ak:=Z L;have au:=Z J;have y:=Z hr;clear f hr M i L J aj;go_wp2;go_ret2;rw[y.o];refine⟨⟨g,rfl,HO.o.vV.mono (λx _ a=> ?_)⟩,I.o.trans u.o (λx a q=>by have:=s.o x q;omega),HW.o⟩;rcases a with q|q
  .rcases(au.o x q).2 with q|q
   .rcases q.1 with q|q
    .exact .inl q
    .exact .inr (HR.o x q.1).1
   .exact .inr (by omega)
  .rcases ak.o x q with q|q
   .exact .inr (s.o x q)
   .exact .inr (by omega)
def zO(v:Value):Prop:=∀a n c,v=.slice a n c→n<=c
inductive kG (ok:ae) (w:World):Y→Prop where
 |mk {name fB:K} {k:Int} {b:Bool} {i:Int} {f:Nat} {t:K} {kv lv dv wv:Value} {xm xn:List (Y)} (hn:gq name) (OG:gq fB) (hv:jK ok w (ai k b i f t kv lv)) (OH:zO dv) (OI:zO wv) (hd:aC ok w dv 11 xm) (h:∀r∈xm,kG ok w r)
   (hw:aC ok w wv 7 xn) (hx:∀r∈xn,∃x,dF ok w r x∧xq x):kG ok w (az name fB k b i f t kv lv dv wv)
theorem kG.X{ok S:ae}{w d:World}{cs:Y}(h:kG ok w cs)(a:O S w d)(c:∀b,ok b→¬S b):kG ok d cs:=by
 induction h with
 |mk e f g i j k _ l m n=>exact .mk e f (g.X a c) i j (k.X a c) n (l.X a c) (λr o=>by obtain⟨x,p,q⟩:=m r o;exact⟨x,p.X a c,q⟩)
theorem kG.mono{ok ok':ae}{w:World}{cs:Y}(h:kG ok w cs)(a:∀b,b<w.heap.size→ok b→ok' b):kG ok' w cs:=by
 induction h with
 |mk c d e f g i _ j k l=>exact .mk c d (e.mono a) f g (i.mono a (by decide)) l (j.mono a (by decide)) (λr m=>by obtain⟨x,n,o⟩:=k r m;exact⟨x,n.mono a,o⟩)
theorem kG.cells{ok:ae}{w:World}{cs:Y}(h:kG ok w cs):∃name j k b i f t l m e g,cs=az name j k b i f t l m e g∧gq name∧gq j∧jK ok w (ai k b i f t l m)∧(zO e∧zO g)∧
  (∃c,aC ok w e 11 c∧∀r∈c,kG ok w r)∧(∃(c:List (Y)) (xs:List Want),aC ok w g 7 c∧c.length=xs.length∧(∀(n:Nat)(r:Y)(x:Want),c[n]?=some r→xs[n]?=some x→dF ok w r x)∧∀x∈xs,xq x):=by
 cases h with
 |@mk name j k b i f t l m e g L o z A B C D E h v a=>
  refine⟨_,_,_,_,_,_,_,_,_,_,_,rfl,z,A,B,⟨C,D⟩,⟨_,E,h⟩,?_⟩;have F:∃xs:List Want,o.length=xs.length∧(∀(n:Nat)(r:Y)(x:Want),o[n]?=some r→xs[n]?=some x→dF ok w r x)∧∀x∈xs,xq x:=by
   clear v;induction o with
   |nil=>exact⟨[],rfl,by simp,by simp⟩
   |cons r M G=>
    obtain⟨xs,p,q,s⟩:=G (λr d=>a r (by simp[d]));obtain⟨x,H,I⟩:=a r (by simp);refine⟨x::xs,by simp[p],λn J K d a=> ?_,λy u=> ?_⟩
    .cases n with
     |zero=>simp at d a;subst d;subst a;exact H
     |succ n=>simp at d a;exact q n J K d a
    .rcases List.mem_cons.1 u with rfl|u
     .exact I
     .exact s y u
  obtain⟨xs,p,q,s⟩:=F;exact⟨_,xs,v,p,q,s⟩
theorem kG.one{ok:ae}{w:World}{cs:Y}(h:kG ok w cs):cs.length=11∧cs.all (·.oneCell')=true:=by
 obtain⟨name,g,k,b,i,f,t,j,l,m,n,rfl, -, -,a, -,⟨o,c, -⟩,⟨p,xs,d, -⟩⟩:=h.cells;have e:=a.seven.2;have q:=c.one;have r:=d.one;refine⟨rfl,?_⟩;simp only[ai,List.all_cons,List.all_nil,Bool.and_true,Bool.and_eq_true] at e;simp only[az,List.all_cons,List.all_nil,Bool.and_true,Bool.and_eq_true]
 simp_all [Value.oneCell']
theorem jv(x:Want)(b c:Value)(w:World):Calls Tryz.prog 78 #[.agg (aI x b c).toArray] w λe l=>e=.returned (.string (named x))∧O No w l:=by
 have g:∀W,(w.alloc (.cells (aI x b c).toArray 79))=W→ay W w.heap.size (aI x b c) 79∧O No w W:=by rintro W rfl;exact⟨ay.new _ _ _,(O.refl No w).alloc _⟩
 have h:=Z g;clear g;go_enter Tryz.func78,Tryz.ntmps78;unfold aI;go_upto_region 1 with fail
 generalize i:World.alloc _ _=W;obtain⟨d,j⟩:=h.o W i;clear i h;have n:W.cell? ⟨w.heap.size,0,none⟩=some (.string x.name):=d.cell 0;have o:W.cell? ⟨w.heap.size,3,none⟩=some (.string x.bF):=d.cell 3;have k:=Z j;clear d j;by_cases a:x.bF=ByteArray.empty
 .have m:(x.bF.toList==[])=true:=by rw[kW];simpa using a
  have f:=Z (show named x=x.name by unfold named;rw[if_neg (by simpa using a)]);clear a;go_wp2;go_ret;exact⟨by rw[f.o];rfl,k.o⟩
 .have m:(x.bF.toList==[])=false:=by rw[kW];simpa using a
  have f:=Z (show named x=x.bF by unfold named;rw[if_pos a]);clear a;go_wp2;go_ret;exact⟨by rw[f.o];rfl,k.o⟩
theorem Bd{a:Array Value}{d:Nat}{c:Bool}(h:a[d]?.getD undef=.bool c):a[d]?=some (.bool c):=by
 cases hx:a[d]? with
 |none=>rw[hx] at h;cases h
 |some v=>rw[hx] at h;exact congrArg some h
theorem zQ{a:Array Oper}{o:Oper}{e:Array Value}{k d:Nat}{c b:Bool}(f:o.guard=some (k,b))(g:(a[k]?).bind (·.dst)=some d)(h:e[d]?.getD undef=.bool c):Region.wanted o (yielded a e)=(c==b):=by
 unfold Region.wanted;rw[f];have i:yielded a e k=some c:=by unfold yielded;rw[g];simp only[Option.bind_some,Bd h]
 simp only[i];cases c<;>cases b<;>rfl
theorem iY{a:Array Oper}{o:Oper}{c:Array Value}{k d:Nat}{b:Bool}{A B:Prop}(e:o.guard=some (k,b))(f:(a[k]?).bind (·.dst)=some d)(g:c[d]?.getD undef=.bool b)(h:A):if Region.wanted o (yielded a c)=true then A else B:=by rw[if_pos (by rw[zQ e f g];cases b<;>rfl)];exact h
theorem gJ{a:Array Oper}{o:Oper}{c:Array Value}{k d:Nat}{b:Bool}{A B:Prop}(e:o.guard=some (k,b))(f:(a[k]?).bind (·.dst)=some d)(g:c[d]?.getD undef=.bool (!b))(h:B):if Region.wanted o (yielded a c)=true then A else B:=by rw[if_neg (by rw[zQ e f g];cases b<;>decide)];exact h
def Fact.unless(c:Bool)(f:Fact):Fact:=match c with
 |true=> .any
 |false=>f
def bz(base:ae)(B:Nat)(γ:Option Nat):ae:=λb=>(base b∧b<B)∨N8 B γ b
def Fact.Hz(ok:ae)(j:J)(r:Bool):Fact:=
 ⟨λv w=>∃cs:Y,v=.tuple #[.agg cs.toArray,.bool r]∧aG ok w cs j,λS _=>∀b,ok b→¬S b,
  λS v w w' h a c=>by obtain⟨cs,d,h⟩:=h;exact⟨cs,d,h.X a c⟩,λ_ _ _ e=>e⟩
structure GH (base:ae) (W:World) (ia is:Nat) (j:J) (γ:Option Nat) (done:Nat→Bool) (w:World):Prop where
 X:O No W w
 iff:done ia=γ.isSome
 box:∀t,γ=some t→W.heap.size<=t∧∃c,ay w t c 26∧c.length=7∧(done is=true→aG (bz base W.heap.size γ) w c j)
section
variable {base:ae} {W:World} {ia is:Nat} {j:J} {γ:Option Nat} {done:Nat→Bool} {w w':World}
theorem GH.start(base:ae)(W:World)(ia is:Nat)(j:J):GH base W ia is j none (λ_=>false) W.drew:=⟨(O.refl _ W).drew,rfl,λt h=>by cases h⟩
theorem GH.other(h:GH base W ia is j γ done w){i:Nat}(b:i≠ia)(d:i≠is)(a:O No w w'):GH base W ia is j γ (dn done i) w':=by refine⟨h.X.trans' a,by rw[fH b];exact h.iff,λt f=> ?_⟩;obtain⟨g,c,k,l,m⟩:=h.box t f;exact⟨g,c,k.X a id,l,λe=>(m (by rwa[fH d] at e)).X a nE⟩
theorem GH.size(h:GH base W ia is j γ done w):W.heap.size<=w.heap.size:=h.X.size
theorem GH.qH(h:GH base W ia is j γ done w)(b:done ia=false):γ=none:=by
 have a:=h.iff;rw[b] at a;cases γ with
 |none=>rfl
 |some t=>cases a
theorem GH.fresh(h:GH base W ia is j γ done w){b:Nat}(a:w.heap.size<=b):bz base W.heap.size γ b:=by refine .inr ⟨Nat.le_trans h.size a,λe=> ?_⟩;obtain⟨-,c,d, -⟩:=h.box b e;have:=d.lt;omega
theorem GH.lay(h:GH base W ia is j none done w)(a:ia≠is)(b:done is=false):GH base W ia is j (some w.heap.size) (dn done ia) (w.alloc (.cells bu.toArray 26)):=by refine⟨h.X.alloc _,by rw[rE];rfl,λt c=> ?_⟩;cases c;exact⟨h.size,bu,ay.new _ _ _,rfl,λe=>by rw[fH a,b] at e;cases e⟩
theorem bQ{b:Nat}(a:b<w.heap.size)(h:bz base W.heap.size none b):bz base W.heap.size (some w.heap.size) b:=h.imp id (λh=>⟨h.1,λe=>by cases e;omega⟩)
theorem bI{t b:Nat}(a:W.heap.size<=t)(h:bz base W.heap.size (some t) b):b≠t:=λe=>by
 rcases h with h|h
 .omega
 .exact h.2 (by rw[e])
theorem GH.put{t:Nat}{c:Y}(h:GH base W ia is j (some t) done w)(k:ia≠is)(d:O (·=t) w w')(a:ay w' t c 26)(f:aG (bz base W.heap.size (some t)) w c j):GH base W ia is j (some t) (dn done is) w':=by have g:=(h.box t rfl).1;refine⟨h.X.trans d (λi m e=>by omega),by rw[fH k.symm];exact h.iff,λn l=> ?_⟩;cases l;exact⟨g,c,a,f.length,λ_=>f.X d (λb a e=>bI g a e)⟩
end
def jm:Option T→J
 |none=> .null
 |some t=> .table t
def KZ(ok:ae)(w:World)(r:Option T)(e:Ending)(w':World):Prop:=
 ∃cs:Y,e=.returned (.tuple #[.agg cs.toArray,.bool r.isSome])∧aG (λb=>ok b∨w.heap.size<=b) w' cs (jm r)∧O No w w'
theorem WU.max{U:List K}{N d e:Nat}{j:J}(h:WU U N d j):WU U N (d+e) j:=h.mono (λ_ h=>h) lR' (Nat.le_add_right _ _)
theorem WU.Cc{U:List K}{N d e:Nat}{j:J}(h:WU U N d j):WU U N (e+d) j:=h.mono (λ_ h=>h) lR' (Nat.le_add_left _ _)
theorem sJ{U:List K}{N D:Nat}(u:gK∈U)(m:Bool):∀(h:Nat)(c:Ch)(E:Nat)(v t:T),iW U N D h c→WU U N E (.table v)→dJ m c v=some t→∃w,WU U N w (.table t):=by
 intro h;induction h with
 |zero=>intro c E v t j;exact j.elim
 |succ h z=>
  intro c E v t j q a;rw[sH] at a;have o:∀d∈c.deps,iW U N D h d:=j.2.2.2.2.2;have i:WU U N (E+(D+1)) (.table (over m (bn c.deps) v (fM c.vals))):=by
   refine WU.over _ _ q.max ?_;cases hcv:c.vals with
   |table s=>exact(j.2.2.2.1 s hcv).1.mono (λ_ h=>h) lR' (by omega)
   | _=>exact WU.nil
  generalize over m (bn c.deps) v (fM c.vals)=n at a i;generalize E+(D+1)=F at i;generalize c.deps=l at a o;clear q j;induction l generalizing n F with
  |nil=>rw[ja] at a;cases a;exact⟨F,i⟩
  |cons d r b=>
   rw[ja] at a;cases k:bH n d.name with
   |none=>rw[k] at a;cases a
   |some x=>
    rw[k] at a;have p:=o d (by simp);have A:WU U N (F+1+1) (.table x):=by have:=(i.max (e:=2)).bH k;exact this.mono (λ_ h=>h) lR' (by omega)
    have B:=WU.globals (d:=F) u A (i.max (e:=2));cases hy:dJ m d (globals x n) with
    |none=>simp only[hy] at a;cases a
    |some y=>
     simp only[hy] at a;obtain⟨C,G⟩:=z d _ _ _ p B hy;have f:WU U N (F+C+1) (.table (ins n d.name (.table y))):=WU.ins (i.mono (λ_ h=>h) lR' (by omega)) (by
      cases h with
      |zero=>exact p.elim
      |succ h=>exact p.2.1) (G.mono (λ_ h=>h) lR' (by omega))
     have g:∀x∈r,iW U N D h x:=λx k=>o x (by simp[k])
     first|exact b _ _ a f g|exact b _ _ f a g|exact b _ _ g a f|exact b _ _ a g f|exact b _ _ f g a|exact b _ _ g f a|exact b _ _ f g a
def iZ(t:T):List K→Option J
 |[]=>none
 |[k]=>match get t k with|some (.table _)=>none|r=>r
 |k::r=>match get t k with|some (.table x)=>iZ x r| _=>none
def iG(t:T)(a:K):Option J:=if a=ByteArray.empty then none else iZ t (parts a 46)
theorem Ce(s:K)(c:Nat):parts s c≠ []:=by obtain⟨e, -, -, -, -,h⟩:=lD s c s.size 0 0 (by omega);unfold parts;rw[show s.size+1=s.size+1 - 0 by omega,h];exact List.cons_ne_nil _ _
theorem x8{t:T}{L:List K}{n:Nat}{k:K}(h:L[n]?=some k)(a:n+1<L.length):iZ t (L.drop n)=match get t k with|some (.table x)=>iZ x (L.drop (n+1))| _=>none:=by obtain⟨b,rfl⟩:=gS'.1 h;rw[List.drop_eq_getElem_cons b,List.drop_eq_getElem_cons a];rfl
theorem x9{t:T}{L:List K}{n:Nat}{k:K}(h:L[n]?=some k)(a:n+1<L.length)(b:∀x,get t k≠some (.table x)):iZ t (L.drop n)=none:=by
 rw[x8 h a]
 split
 .rename_i x h2;exact absurd h2 (b x)
 .rfl
theorem EY{t x:T}{L:List K}{n:Nat}{k:K}(h:L[n]?=some k)(a:n+1<L.length)(b:get t k=some (.table x)):iZ t (L.drop n)=iZ x (L.drop (n+1)):=by rw[x8 h a,b]
theorem EZ{t:T}{L:List K}{k:K}(h:L[L.length - 1]?=some k):iZ t (L.drop (L.length - 1))=match get t k with|some (.table _)=>none|r=>r:=by obtain⟨a,rfl⟩:=gS'.1 h;rw[List.drop_eq_getElem_cons a,List.drop_of_length_le (by omega)];rfl
def IW(ok:ae)(w:World)(o:Option J)(e:Ending)(a:World):Prop:=
 O No w a∧∃(cs:Y)(j:J),e=.returned (.tuple #[.agg cs.toArray,.bool o.isSome])∧aG (λb=>ok b∨w.heap.size<=b) a cs j∧∀x,o=some x→x=j
theorem aC.init{ok:ae}{w:World}{a:Option Addr}{c c' size:Nat}{d:List (Y)}(h:aC ok w (.slice a d.length c) size d)(g:a=none→c'=0):aC ok w (.slice a (d.length - 1) c') size (d.take (d.length - 1)):=by obtain⟨u,j,v,x,k,y,l⟩:=h;cases k;refine⟨by simp;omega,λr m=>j r (List.mem_of_mem_take m),a,c',by simp,g,λn=> ?_⟩;obtain⟨b,o,p,q,s⟩:=l (λe=>n (by rw[e];rfl));exact⟨b,o,p,q,λi r f=>s i r (by have t:=(gS'.1 f).1;rw[List.getElem?_take_of_lt (by simp at t;omega)] at f;exact f)⟩
theorem aB.JS{w:World}{d e size:Nat}{a:Option Addr}{n c:Nat}{f:List (Y)}(h:aB w d e size (.slice a n c) f):n<=c∧(n=0∨a≠none):=by
 obtain⟨-, -,b⟩:=h;rcases b with⟨b, -⟩|⟨g,cap,j,b, -, -,i, -⟩
 .cases b;exact⟨lR',.inl rfl⟩
 .cases b;exact⟨i,.inr (by simp)⟩
theorem JU(ok:ae)(t:T)(k:K)(b:Bool)(i:Int)(f:Nat)(x:K)(c d:Value)(w:World)(h:aG ok w (ai 7 b i f x c d) (.table t)):
  Calls Tryz.prog 50 #[.agg (ai 7 b i f x c d).toArray,.string k] w λe g=>O No w g∧∃cs:Y,e=.returned (.tuple #[.agg cs.toArray,.bool (get t k).isSome])∧aG ok g cs ((get t k).getD .null):=by
 refine(jW ok t k b i f x c d w h).mono ?_;rintro e w2 ⟨j,a⟩;refine⟨j,?_⟩;simp only[yz] at a;cases jb:get t k with
 |none=>rw[jb] at a;exact⟨bu,a,.null (dN _ _ _) (dN _ _ _)⟩
 |some y=>rw[jb] at a;exact a
theorem La{x:J}{k:Int}(h:(k=7→dA x=true)∧(dA x=true→k=7)):Value.bool (!(k==7))=Value.bool (match some x with|some (.table _)=>none|r=>r).isSome:=by
 cases x with
 |table t=>rw[h.2 rfl];rfl
 | _=>
  have a:¬k=7:=λe=>by have:=h.1 e;cases this
  have b:(k==7)=false:=(by simpa using a);rw[b];rfl
theorem JV{x y:J}(h:(match some x with|some (.table _)=>none|r=>r)=some y):y=x:=by
 cases x with
 |table t=>cases h
 | _=>cases h;rfl
theorem zS(H:K)(hp:H.size<1099511627776){ok:ae}{cs:Y}{t:T}{w:World}(h:aG ok w cs (.table t)):
  Calls Tryz.prog 109 #[.agg cs.toArray,.string H] w (IW ok w (iG t H)):=by
 have HV:=Z h;have HP:=Z hp;obtain⟨kb,ki,kf,kt,kv,lv,rfl⟩:=h.fV;have eF:∀W,(w.alloc (.cells (ai 7 kb ki kf kt kv lv).toArray 26)).alloc (.cells bu.toArray 26)=W→
   ay W w.heap.size (ai 7 kb ki kf kt kv lv) 26∧ay W (w.heap.size+1) bu 26∧O No w W∧W.heap.size=w.heap.size+2:=by
  rintro W rfl;exact⟨(ay.new _ _ _).alloc _,ay.newAt (by simp) _ _,((O.refl No w).alloc _).alloc _,by simp⟩
 have HF:=Z eF;clear h hp eF;go_enter Tryz.func109,Tryz.ntmps109;unfold ai;go_upto_region 1 with fail
 generalize eG:World.alloc _ _=W;obtain⟨U,b1,c1,dA⟩:=HF.o W eG;clear eG HF;obtain⟨g,hg⟩:∃g,g=w.heap.size:=⟨_,rfl⟩;rw[←hg] at U b1 dA⊢;have HG:=Z hg;have eH:=Z dA;have bK:=Z c1;have dB:=Z U;have bM:=Z b1;have dC:=Z ((HV.o.mono (ok':=okB ok w) (λb q h=>⟨h,q⟩)).X c1 nE);have eP:=Z (show ∀x,g<=x→¬okB ok w x from λx hx e=>by have:=e.2;omega);clear c1 hg dA U b1;go_wp2_with fail;refine(lV H HP.o W).mono ?_;rintro e s ⟨v,rfl,aZ,I⟩;have bP:=aZ.rowAt.mono (ok':=λb=>g+1<b) (λb _ q=>by have:=(aZ.elem q).1;have:=eH.o;omega) (by decide);obtain⟨na,nc,rfl⟩:=aZ.dY;have bT:=aZ.JS;obtain⟨L,hL⟩:∃L,L=parts H 46:=⟨_,rfl⟩;rw[←hL] at bP bT⊢;have eU:(aH L).length=L.length:=(by simp[aH]);have iK:L.length<=1099511627776:=by rw[hL];have:=ik H 46;have:=HP.o;omega
 rw[eU] at bP bT⊢;have eX:=Z bT;clear bT;have eY:=Z bP;have HC:=Z I;have bU:=Z hL;have dB:=Z (dB.o.X I id);have bM:=Z (bM.o.X I id);have dC:=Z (dC.o.X I nE);have gm:=I.size;have gp:=Z (show g+1<s.heap.size by have:=eH.o;omega);clear bP aZ I hL gm;have fA:=Z eU;by_cases aI:H=ByteArray.empty
 .have gq:(ByteArray.toList H).isEmpty=true:=by rw[←decide_eq_emptyBytes];exact decide_eq_true aI
  have aJ:=Z aI;have b1:=bM.o;clear aI;go_wp2_with (first|(with_reducible refine aA rfl au rfl rfl rfl b1 rfl rfl rfl ?_;intro w4 aK aB dD));refine bodyPost_ret (aW rfl au rfl aK rfl) rfl ⟨?_,bu,.null,?_,?_,?_⟩
  .exact((bK.o.trans' HC.o)).trans aB (λi hi e=>by have:=HG.o;omega)
  .unfold iG;rw[if_pos aJ.o];rfl
  .exact .null (dN _ _ _) (dN _ _ _)
  .unfold iG;rw[if_pos aJ.o];intro x h;cases h
 .have gq:(ByteArray.toList H).isEmpty=false:=by rw[←decide_eq_emptyBytes];exact decide_eq_false aI
  have aJ:=Z aI;have iL:1<=L.length:=by have G:=Ce H 46;rw[←bU.o] at G;exact List.length_pos_iff.2 G
  clear aI;obtain⟨M,hM⟩:∃M,L.length=M+1:=⟨L.length - 1,by omega⟩;have dE:=eY.o;rw[←fA.o] at dE;have dF:=aC.init (c':=nc) dE (λe=>by rcases eX.o.2 with h|h;omega;exact absurd e h);rw[fA.o,hM,Nat.add_sub_cancel] at dF;have gu:=Z dF;clear dE dF;have iM:M<=nc:=by have:=eX.o.1;omega
  have iO:(M:Int)<=(nc:Int):=(by omega);have gy:((M+1:Nat):Int) - 1=(M:Int):=(by omega);have gz:M<=1099511627776:=(by omega);have HM:=Z hM;rw[hM];clear hM;go_wp2_with fail;go_loopw [24] (λct wr=>∃(n:Nat)(c:Y)(D:T),ct=.int .i64 n∧n<=M∧ay wr g c 26∧aG (okB ok w) wr c (.table D)∧iZ t L=iZ D (L.drop n)∧O (·=g) s wr) (λct _=>M - (intOf ct).toNat)
  case atStart=>exact⟨0,_,t,rfl,zL',dB.o,dC.o,rfl,O.refl _ _⟩
  case round=>
   obtain⟨n,c,D,rfl,hn,fB,fC,fD,bV⟩:=hrel;have bW:=Z fB;have bf:=Z fC;have aN:=Z bV;have bY:=Z fD;have dG:=Z (bM.o.X bV (by omega));have dI:=Z (show g+1<wr.heap.size by have:=bV.size;have:=gp.o;omega);clear fB fC bV fD;by_cases gB:n<M
   .obtain⟨k,hk⟩:=gX' L n ((by rw[HM.o];omega));obtain⟨nb,no,rfl,dJ,P⟩:=gu.o.at (i:=n) (r:=[.string k]) (by rw[List.getElem?_take_of_lt gB];simp[aH,hk]);have P:=(P.X aN.o (λe=>by omega)).one;simp only[Nat.mul_one] at P;have bg:=Z hk;have dK:=Z (show n+1<L.length by rw[HM.o];omega);have gG:(n:Int)<(M:Int):=(by omega);have U:=bW.o;obtain⟨cb,ci,cf,bZ,cu,cO,rfl⟩:=bf.o.fV;clear dJ hk;go_wp2_with (first|(with_reducible refine V rfl au rfl rfl U.cells rfl ?_));refine(jW (okB ok w) D k cb ci cf bZ cu cO wr bf.o).mono ?_;rintro e w2 ⟨cZ,hm⟩;have dL:=Z cZ;have gI:=Z (bW.o.X cZ id);have fE:=Z (dG.o.X cZ id);clear U cZ P;simp only[yz] at hm;cases jb:get D k with
    |none=>
     rw[jb] at hm;obtain rfl:=hm;have dM:=Z (x9 bg.o dK.o (t:=D) (λx hx=>by rw[jb] at hx;cases hx));have bn:=Z (show iG t H=none by unfold iG;rw[if_neg aJ.o,←bU.o,bY.o,dM.o]);have b1:=fE.o.alloc (.cells bu.toArray 26);clear jb;go_wp2_with (first|(with_reducible refine ak rfl au rfl rfl rfl rfl rfl rfl ?_)|(with_reducible refine aA rfl au rfl rfl rfl b1 rfl rfl rfl ?_;intro w3 gK bC iP));refine bodyPost_ret (aW rfl au rfl gK rfl) rfl ⟨?_,bu,.null,?_,.null (dN _ _ _) (dN _ _ _),?_⟩
     .exact((((bK.o.trans' HC.o).trans aN.o (λi hi e=>by have:=HG.o;omega)).trans' dL.o).alloc _).trans bC (λi hi e=>by have:=HG.o;omega)
     .rw[bn.o];rfl
     .rw[bn.o];intro x h;cases h
    |some x=>
     rw[jb] at hm;obtain⟨c2,rfl,Q⟩:=hm;have fF:=Q.length;have fG:=Q.one;obtain⟨F,xb,xi,xf,xt,af,aj,rfl⟩:=Q.seven;have gQ:=Z Q;have aQ:=Z Q.Gt;have fH:=Z jb;clear Q jb;go_wp2_with (first|(with_reducible refine ak rfl au rfl rfl rfl rfl fF fG ?_)|(with_reducible refine V rfl au rfl rfl (ay.new w2 (ai F xb xi xf xt af aj) 26).cells fF ?_));refine(aY F xi xb xf xt af aj _).mono ?_;rintro e w3 ⟨rfl,bC⟩;have bD:=Z (((O.refl No w2).alloc (.cells (ai F xb xi xf xt af aj).toArray 26)).trans' bC);have b8:=(ay.new w2 (ai F xb xi xf xt af aj) 26).X bC id;have gU:=Z b8;clear bC b8;by_cases h7:F=7
     .subst h7;obtain⟨x',rfl⟩:=dm (aQ.o.1 rfl);have U:=gI.o.X bD.o id;have b8:=gU.o;go_wp2_with (first|(with_reducible refine V rfl au rfl rfl b8.cells rfl ?_)|(with_reducible refine aA rfl au rfl rfl rfl U rfl rfl fG ?_;intro w4 aK aB dD));have gV:=Z ((dL.o.trans' bD.o).mono (S':=(·=g)) (λ_ _ e=>e.elim)|>.trans aB nE);have gW:=Z aK;have gX:=Z ((gQ.o.X bD.o nE).X aB (λb q e=>eP.o b (by omega) q));clear aB aK U b8 dD;go_roundw;case rel=>exact⟨n+1,_,x',by go_num,by omega,gW.o,gX.o,(by rw[bY.o,EY bg.o dK.o fH.o]),aN.o.trans gV.o nE⟩
      case measure=>simp[intOf];omega
     .have iQ:(F==7)=false:=(by simpa using h7);have dM:=Z (x9 bg.o dK.o (t:=D) (λy hy=>by
       rw[fH.o] at hy;cases hy;exact h7 (aQ.o.2 rfl)))
      have bn:=Z (show iG t H=none by unfold iG;rw[if_neg aJ.o,←bU.o,bY.o,dM.o]);have b1:=fE.o.X bD.o id;go_wp2_with (first|(with_reducible refine aA rfl au rfl rfl rfl b1 rfl rfl rfl ?_;intro w4 aK aB dD));refine bodyPost_ret (aW rfl au rfl aK rfl) rfl ⟨?_,bu,.null,?_,.null (dN _ _ _) (dN _ _ _),?_⟩
      .exact((((bK.o.trans' HC.o).trans aN.o (λi hi e=>by have:=HG.o;omega)).trans' dL.o).trans' bD.o).trans aB (λi hi e=>by have:=HG.o;omega)
      .rw[bn.o];rfl
      .rw[bn.o];intro x h;cases h
   .have gG:¬(n:Int)<(M:Int):=(by omega);obtain rfl:M=n:=(by omega);obtain⟨k,hk⟩:=gX' L M ((by rw[HM.o];omega));have dO:=eY.o;rw[HM.o] at dO;obtain⟨nb,no,rfl,dJ,P⟩:=dO.at (i:=M) (r:=[.string k]) (by simp[aH,hk]);have P:=(P.X aN.o (λe=>by omega));rw[Nat.mul_one] at P;have fJ:=Z P;have bg:=Z hk;have gY:=Z gz;have bF:=Z (show O No w wr from(bK.o.trans' HC.o).trans aN.o (λi hi e=>by have:=HG.o;omega));obtain⟨cb,ci,cf,bZ,cu,cO,rfl⟩:=bf.o.fV;clear P hk dO dJ;go_upto_region 12 with fail
    obtain⟨R,fK⟩:∃R,R=wr:=⟨_,rfl⟩;rw[←fK] at bW bf dG dI fJ bF⊢;clear fK;refine eQ (λB=>FI [.eq (.agg (ai 7 cb ci cf bZ cu cO).toArray),.eq (.slice (some ⟨nb,no,none⟩) (M+1) nc),.eq (.slice (some ⟨nb,no,none⟩) (M+1) nc),.eq (.int .i64 ((M+1:Nat):Int)),.eq (.int .i64 (M:Int)),.eq (.pointer (some ⟨nb,no+M,none⟩)),.eq (.string k),.Hz (bz (okB ok w) R.heap.size B) ((get D k).getD .null) (get D k).isSome,.Hz (bz (okB ok w) R.heap.size B) ((get D k).getD .null) (get D k).isSome,.val (bz (okB ok w) R.heap.size B) ((get D k).getD .null),.eq (.bool (get D k).isSome),.box B,.any,.eq (.bool (get D k).isSome)])
     (λB z w'=>GH (okB ok w) R 11 12 ((get D k).getD .null) B z w') (by kernel_rfl) (by kernel_rfl) none (GH.start _ _ _ _ _) ?_ ?_
    .refine⟨?_,?_,?_,?_,?_,?_,?_,?_,?_,?_,?_,?_,?_,?_,trivial⟩
     .intro B z a s K A p f o l d m;have e2:a.tmps[2]?.getD undef=.pointer (some ⟨g,0,none⟩):=o 2 rfl;refine ax rfl ?_;refine aO au rfl (vE e2) (bW.o.X d.X id).cells rfl ?_;exact m _ _ _ rfl (d.other (by decide) (by decide) (O.refl _ _)) Sy
     .intro B z a s K A p f o l d m;have e6:a.tmps[6]?.getD undef=(.slice (some ⟨nb,no,none⟩) (M+1) nc):=o 6 rfl;clear p f o l;go_simp;exact m _ _ _ rfl (d.other (by decide) (by decide) (O.refl _ _)) Sy
     .intro B z a s K A p f o l d m;have e6:a.tmps[6]?.getD undef=(.slice (some ⟨nb,no,none⟩) (M+1) nc):=o 6 rfl;clear p f o l;go_simp;exact m _ _ _ rfl (d.other (by decide) (by decide) (O.refl _ _)) Sy
     .intro B z a s K A p f o l d m;have iR:=fq (f 2 47 rfl (l 2 rfl));clear p f o l;go_simp;exact m _ _ _ rfl (d.other (by decide) (by decide) (O.refl _ _)) Sy
     .intro B z a s K A p f o l d m;have iT:=fq (f 3 48 rfl (l 3 rfl));have gy:((M+1:Nat):Int) - 1=(M:Int):=(by omega);have iU:IntKind.i64.wrap (M:Int)=(M:Int):=IntWalk.i64_in _ (by have:=gY.o;omega);clear p f o l;go_simp;exact m _ _ _ rfl (d.other (by decide) (by decide) (O.refl _ _)) Sy
     .intro B z a s K A p f o l d m;have iV:=fq (f 1 46 rfl (l 1 rfl));have iW:=fq (f 4 49 rfl (l 4 rfl));have ja:(M:Int)<(M:Int)+1:=(by omega);clear p f o l;go_simp;exact m _ _ _ rfl (d.other (by decide) (by decide) (O.refl _ _)) Sy
     .intro B z a s K A p f o l d m;have jc:=fq (f 5 50 rfl (l 5 rfl));have c0:s.cell? ⟨nb,no+M,none⟩=some (.string k):=(fJ.o.X d.X id).one;clear p f o l;go_simp;exact m _ _ _ rfl (d.other (by decide) (by decide) (O.refl _ _)) Sy
     .intro B z a s K A p f o l d m;have gZ:=fq (f 0 45 rfl (l 0 rfl));have ig:=fq (f 6 51 rfl (l 6 rfl));refine ax rfl ?_;have iq:=JU (bz (okB ok w) R.heap.size B) D k cb ci cf bZ cu cO s ((bf.o.dV.X d.X nE).mono (λb _ h=> .inl h));refine jE Tryz.call50 rfl (vE gZ) (vE ig) iq ?_;rintro e w2 ⟨I,cs,rfl,C⟩;exact⟨_,rfl,m B _ _ ⟨cs,rfl,C⟩ (d.other (by decide) (by decide) I) (λ_ _ _ _ h=>h.aP I)⟩
     .intro B z a s K A p f o l d m;obtain⟨c1,jd,aF⟩:=f 7 52 rfl (l 7 rfl);have dP:=Z aF;clear aF;clear p f o l;go_simp;exact m _ _ _ ⟨c1,rfl,dP.o⟩ (d.other (by decide) (by decide) (O.refl _ _)) Sy
     .intro B z a s K A p f o l d m;obtain⟨c1,iw,aF⟩:=f 8 44 rfl (l 8 rfl);have dP:=Z aF;clear aF;clear p f o l;go_simp;exact m _ _ _ ⟨c1,rfl,dP.o⟩ (d.other (by decide) (by decide) (O.refl _ _)) Sy
     .intro B z a s K A p f o l d m;obtain⟨c1,iw,aF⟩:=f 8 44 rfl (l 8 rfl);clear aF;clear p f o l;go_simp;exact m _ _ _ rfl (d.other (by decide) (by decide) (O.refl _ _)) Sy
     .intro B z a s K A p f o l d m;have fM:=ny1 p 12 11 rfl A;have dQ:=d.qH A;subst dQ;have iy:=Z (d.lay (by decide) fM);clear p f o l;clear fM;go_simp;refine m (some s.heap.size) _ _ ⟨_,rfl,rfl⟩ iy.o ?_;refine λj C je u E=> ?_
      match j,C with
      |0,_=>exact E
      |1,_=>exact E
      |2,_=>exact E
      |3,_=>exact E
      |4,_=>exact E
      |5,_=>exact E
      |6,_=>exact E
      |7,_=>obtain⟨c,G,h2⟩:=E;exact⟨c,G,(h2.mono (λb q h=>bQ q h)).X ((O.refl No s).alloc _) nE⟩
      |8,_=>obtain⟨c,G,h2⟩:=E;exact⟨c,G,(h2.mono (λb q h=>bQ q h)).X ((O.refl No s).alloc _) nE⟩
      |9,_=>obtain⟨c,G,h2⟩:=E;exact⟨c,G,(h2.mono (λb q h=>bQ q h)).X ((O.refl No s).alloc _) nE⟩
      |10,_=>exact E
      |11,C=>exact absurd rfl C
      |12,_=>exact E
      |13,_=>exact E
      |j+14,_=>exact E
     .intro B z a s K A p f o l d m;obtain⟨t9,rfl,S⟩:=f 11 11 rfl (l 11 rfl);obtain⟨c2,iC,Q⟩:=f 9 53 rfl (l 9 rfl);obtain⟨aS,c',q,iD, -⟩:=d.box t9 rfl;refine ax rfl ?_;refine dH au rfl (vE S) (vE iC) q iD Q.length Q.one ?_;intro w2 bG hC fO;refine m (some t9) undef _ trivial (d.put (by decide) hC bG Q) ?_;refine λj C _ u E=>E.keep hC (aV (i:=12) (λj hl C=> ?_) j C)
      match j,C with
      |0,_|1,_|2,_|3,_|4,_|5,_|6,_=>exact trivial
      |7,_=>exact λb q e=>bI aS q e
      |8,_=>exact λb q e=>bI aS q e
      |9,_=>exact λb q e=>bI aS q e
      |10,_|11,_=>exact trivial
      |12,C=>exact absurd rfl C
      |13,_=>exact trivial
      |j+14,_=>exact absurd hl (by simp)
     .intro B z a s K A p f o l d m;have jf:=fq (f 10 54 rfl (l 10 rfl));clear p f o l;go_simp;exact m _ _ _ rfl (d.other (by decide) (by decide) (O.refl _ _)) Sy
    .intro B vs w2 az bH d;obtain⟨g9,dQ,S⟩:∃t,B=some t∧vs 11=.pointer (some ⟨t,0,none⟩):=az 11 _ rfl (by decide);have fP:vs 13=.bool (get D k).isSome:=az 13 _ rfl (by decide);subst dQ;obtain⟨aS,c9,fQ,jg,fU⟩:=d.box g9 rfl;have dh:=Z fQ;have N:=Z (fU rfl);have di:=Z d.X;have H9:=Z aS;clear fQ fU d az bH aS;simp only[aX,Act.put,List.setIfInBounds_toArray,List.set_cons_succ,List.set_cons_zero,S,fP];clear S fP;obtain⟨F,xb,xi,xf,xt,af,aj,rfl⟩:=N.o.seven;have dR:=Z (dG.o.X di.o id);have dS:=Z (show g9≠g+1 from by have:=H9.o;have:=dI.o;omega);have aQ:=Z N.o.Gt;have dw:=Z (show ¬bz (okB ok w) R.heap.size (some g9) (g+1) from λe=>by rcases e with e|e;exact eP.o (g+1) (by omega) e.1;have:=e.1;have:=dI.o;omega);have aU:=Z (show iG t H=match get D k with|some (.table _)=>none|r=>r by
      unfold iG;rw[if_neg aJ.o,←bU.o,bY.o];have h:=EZ (t:=D) (L:=L) (k:=k) (by rw[HM.o];exact bg.o);rw[HM.o] at h;exact h)
     obtain⟨wy,fZ⟩:∃wy,wy=w2:=⟨_,rfl⟩;rw[←fZ] at dh N di dR⊢;clear fZ;go_upto_region 13 with fail
     cases jb:get D k with
     |none=>
      rw[jb] at N aU;clear jb;simp only[Option.getD_none,Option.isSome_none] at N⊢;refine aT (FI [.eq (.agg (ai F xb xi xf xt af aj).toArray),.eq (.bool false),.eq (.bool false),.any,.any,.any,.eq (.bool false),.any,.eq (.bool false)])
       (λz w'=>PG (g+1) bu (bz (okB ok w) R.heap.size (some g9)) .null wy w' (z 7)) (by kernel_rfl) (by kernel_rfl) (PG.start dR.o) ?_ ?_
      .refine⟨?_,?_,?_,?_,?_,?_,?_,?_,?_,trivial⟩
       .intro z a s K A p f o l d m;have S:a.tmps[11]?.getD undef=.pointer (some ⟨g9,0,none⟩):=o 11 rfl;refine ax rfl ?_;refine aO au rfl (vE S) (dh.o.X d.X dS.o).cells rfl ?_;exact m _ _ rfl (by simpa[dn] using d) Sy
       .intro z a s K A p f o l d m;have iE:a.tmps[12]?.getD undef=.bool false:=o 12 rfl;clear p f o l;go_simp;exact m _ _ rfl (by simpa[dn] using d) Sy
       .intro z a s K A p f o l d m;have iF:=fq (f 1 56 rfl (l 1 rfl));clear p f o l;go_simp;exact m _ _ rfl (by simpa[dn] using d) Sy
       .intro z a s K A p f o l d m;have J:=fq (f 2 57 rfl (l 2 rfl));refine gJ rfl rfl J ?_;exact m undef _ trivial (by simpa[dn] using d) Sy
       .intro z a s K A p f o l d m;have J:=fq (f 2 57 rfl (l 2 rfl));refine gJ rfl rfl J ?_;exact m undef _ trivial (by simpa[dn] using d) Sy
       .intro z a s K A p f o l d m;have J:=fq (f 2 57 rfl (l 2 rfl));refine gJ rfl rfl J ?_;exact m undef _ trivial (by simpa[dn] using d) Sy
       .intro z a s K A p f o l d m;have iH:=fq (f 2 57 rfl (l 2 rfl));clear p f o l;go_simp;exact m _ _ rfl (by simpa[dn] using d) Sy
       .intro z a s K A p f o l d m;have e4:a.tmps[4]?.getD undef=.pointer (some ⟨g+1,0,none⟩):=o 4 rfl;have dU:=fq (f 0 55 rfl (l 0 rfl));rw[A] at d;obtain⟨c',q,G, -⟩:=d.box;obtain rfl:=G rfl;refine ax rfl ?_;refine dH au rfl (vE e4) (vE dU) q rfl rfl N.o.one ?_;intro w2 bG hC fO;refine m undef _ trivial (by simpa[dn] using d.fill bG hC (N.o.X d.X (λb q e=>dw.o (e▸q))) dw.o) ?_;refine λj C _ u E=>E.keep hC (aV (i:=7) (λj hl C=> ?_) j C)
        match j,C with
        |0,_|1,_|2,_|3,_|4,_|5,_|6,_=>exact trivial
        |7,C=>exact absurd rfl C
        |8,_=>exact trivial
        |j+9,_=>exact absurd hl (by simp)
       .intro z a s K A p f o l d m;have iI:=fq (f 6 61 rfl (l 6 rfl));clear p f o l;go_simp;exact m _ _ rfl (by simpa[dn] using d) Sy
      .intro vs w2 az bH d;obtain⟨c,q, -,hv⟩:=d.box;have bJ:=Z (hv rfl);have dX:=Z q;have dZ:=Z d.X;have e8:vs 8=.bool false:=az 8 _ rfl (by decide);have ed:=bJ.o.length;clear az bH d q hv;simp only[aX,Act.put,List.setIfInBounds_toArray,List.set_cons_succ,List.set_cons_zero,e8];clear e8;go_wp2_with fail;have eu:O No w w2:=(bF.o.trans' di.o).trans dZ.o (λi hi e=>by have:=HG.o;omega);refine bodyPost_ret (aW rfl au rfl dX.o ed) rfl ⟨eu,c,_,?_,bJ.o.mono (λb _ q=>by rcases q with q|q;exact .inl q.1.1;exact .inr (by have G:=q.1;have h2:=bF.o.size;omega)),?_⟩
       .rw[aU.o];rfl
       .rw[aU.o];intro x h;cases h
     |some x=>
      rw[jb] at N aU aQ;clear jb;simp only[Option.getD_some,Option.isSome_some] at N aQ⊢;refine aT (FI [.eq (.agg (ai F xb xi xf xt af aj).toArray),.eq (.bool true),.eq (.bool true),.eq (.agg (ai F xb xi xf xt af aj).toArray),.eq (.bool (F==7)),.eq (.bool (!(F==7))),.eq (.bool (!(F==7))),.any,.eq (.bool (!(F==7)))])
       (λz w'=>PG (g+1) bu (bz (okB ok w) R.heap.size (some g9)) x wy w' (z 7)) (by kernel_rfl) (by kernel_rfl) (PG.start dR.o) ?_ ?_
      .refine⟨?_,?_,?_,?_,?_,?_,?_,?_,?_,trivial⟩
       .intro z a s K A p f o l d m;have S:a.tmps[11]?.getD undef=.pointer (some ⟨g9,0,none⟩):=o 11 rfl;refine ax rfl ?_;refine aO au rfl (vE S) (dh.o.X d.X dS.o).cells rfl ?_;exact m _ _ rfl (by simpa[dn] using d) Sy
       .intro z a s K A p f o l d m;have iE:a.tmps[12]?.getD undef=.bool true:=o 12 rfl;clear p f o l;go_simp;exact m _ _ rfl (by simpa[dn] using d) Sy
       .intro z a s K A p f o l d m;have iF:=fq (f 1 56 rfl (l 1 rfl));clear p f o l;go_simp;exact m _ _ rfl (by simpa[dn] using d) Sy
       .intro z a s K A p f o l d m;have J:=fq (f 2 57 rfl (l 2 rfl));have S:a.tmps[11]?.getD undef=.pointer (some ⟨g9,0,none⟩):=o 11 rfl;refine iY rfl rfl J ?_;refine aO au rfl (vE S) (dh.o.X d.X dS.o).cells rfl ?_;exact m _ _ rfl (by simpa[dn] using d) Sy
       .intro z a s K A p f o l d m;have J:=fq (f 2 57 rfl (l 2 rfl));have iJ:=fq (f 3 58 rfl (l 3 rfl));refine iY rfl rfl J ?_;refine dW Tryz.call21 rfl (vE iJ) (aY F xi xb xf xt af aj s) ?_;rintro e w2 ⟨rfl,I⟩;exact⟨_,rfl,m _ _ rfl (by simpa[dn] using d.df I) (λ_ _ _ _ h=>h.aP I)⟩
       .intro z a s K A p f o l d m;have J:=fq (f 2 57 rfl (l 2 rfl));have jh:=fq (f 4 59 rfl (l 4 rfl));refine iY rfl rfl J ?_;clear p f o l;clear J;go_simp;exact m _ _ rfl (by simpa[dn] using d) Sy
       .intro z a s K A p f o l d m;have iH:=fq (f 2 57 rfl (l 2 rfl));have ji:=fq (f 5 60 rfl (l 5 rfl));clear p f o l;go_simp;exact m _ _ rfl (by simpa[dn] using d) Sy
       .intro z a s K A p f o l d m;have e4:a.tmps[4]?.getD undef=.pointer (some ⟨g+1,0,none⟩):=o 4 rfl;have dU:=fq (f 0 55 rfl (l 0 rfl));rw[A] at d;obtain⟨c',q,G, -⟩:=d.box;obtain rfl:=G rfl;refine ax rfl ?_;refine dH au rfl (vE e4) (vE dU) q rfl rfl N.o.one ?_;intro w2 bG hC fO;refine m undef _ trivial (by simpa[dn] using d.fill bG hC (N.o.X d.X (λb q e=>dw.o (e▸q))) dw.o) ?_;refine λj C _ u E=>E.keep hC (aV (i:=7) (λj hl C=> ?_) j C)
        match j,C with
        |0,_|1,_|2,_|3,_|4,_|5,_|6,_=>exact trivial
        |7,C=>exact absurd rfl C
        |8,_=>exact trivial
        |j+9,_=>exact absurd hl (by simp)
       .intro z a s K A p f o l d m;have iI:=fq (f 6 61 rfl (l 6 rfl));clear p f o l;go_simp;exact m _ _ rfl (by simpa[dn] using d) Sy
      .intro vs w2 az bH d;obtain⟨c,q, -,hv⟩:=d.box;have bJ:=Z (hv rfl);have dX:=Z q;have dZ:=Z d.X;have e8:vs 8=.bool (!(F==7)):=az 8 _ rfl (by decide);have ed:=bJ.o.length;clear az bH d q hv;simp only[aX,Act.put,List.setIfInBounds_toArray,List.set_cons_succ,List.set_cons_zero,e8];clear e8;go_wp2_with fail;have eu:O No w w2:=(bF.o.trans' di.o).trans dZ.o (λi hi e=>by have:=HG.o;omega);refine bodyPost_ret (aW rfl au rfl dX.o ed) rfl ⟨eu,c,_,?_,bJ.o.mono (λb _ q=>by rcases q with q|q;exact .inl q.1.1;exact .inr (by have G:=q.1;have h2:=bF.o.size;omega)),?_⟩
       .rw[aU.o,La aQ.o];rfl
       .rw[aU.o];intro y h;exact JV h
def dX:K:=⟨#[99,104,105,108,100]⟩
def dG:K:=⟨#[112,97,114,101,110,116]⟩
def qU(ok:ae)(w:World)(v:Value)(i:iy):Prop:=
 (i.isMap=false∧v=.iface 9 (.string i.plain))∨(i.isMap=true∧∃b,v=.iface 67 (.map (some b))∧bC ok w v (.table [(dX,.text i.child),(dG,.text i.parent)]))
theorem qU.X{ok S:ae}{w a:World}{v:Value}{i:iy}(h:qU ok w v i)(c:O S w a)(d:∀b,ok b→¬S b):qU ok a v i:=by
 rcases h with h|⟨e,b,f,g⟩
 .exact .inl h
 .exact .inr ⟨e,b,f,g.X c d⟩
theorem qU.mono{ok ok':ae}{w:World}{v:Value}{i:iy}(h:qU ok w v i)(a:∀b,b<w.heap.size→ok b→ok' b):qU ok' w v i:=by
 rcases h with h|⟨c,b,d,e⟩
 .exact .inl h
 .exact .inr ⟨c,b,d,e.mono a⟩
abbrev jc(x:Want)(a:K)(b c:Value):Y:=[.string x.name,.string x.version,.string a,.string x.condition,b,.bool x.enabled,c,.string x.bF]
def iF(ok:ae)(w:World)(q:Nat)(x:Want):Prop:=∃(d:K)(b c:Value)(a:Y),ay w q (jc x d b c) 154∧aC ok w b 1 (aH x.tags)∧aC ok w c 1 (a.map λu=> [u])∧a.length=x.imports.length∧
 ∀(n:Nat)(u:Value)(i:iy),a[n]?=some u→x.imports[n]?=some i→qU ok w u i
theorem iF.X{ok S:ae}{w d:World}{q:Nat}{x:Want}(h:iF ok w q x)(a:O S w d)(c:∀b,ok b→¬S b)(e:¬S q):iF ok d q x:=by obtain⟨f,g,j,k,l,m,o,p,r⟩:=h;exact⟨f,g,j,k,l.X a e,m.X a c,o.X a c,p,λn u i s t=>(r n u i s t).X a c⟩
theorem iF.mono{ok ok':ae}{w:World}{q:Nat}{x:Want}(h:iF ok w q x)(a:∀b,b<w.heap.size→ok b→ok' b):iF ok' w q x:=by obtain⟨c,d,e,f,g,j,k,l,m⟩:=h;exact⟨c,d,e,f,g,j.mono a (by decide),k.mono a (by decide),l,λn u i o p=>(m n u i o p).mono a⟩
theorem iF.lt{ok:ae}{w:World}{q:Nat}{x:Want}(h:iF ok w q x):q<w.heap.size:=by obtain⟨b,c,d,e,a, -⟩:=h;exact a.lt
inductive bZ (ok:ae) (w:World):Nat→Ch→(ae)→Prop where
 |mk {p pm:Nat} {mv par dv wv:Value} {name fB:K} {vals:J} {deps:List Ch} {wants:List Want} {ps qs:List Nat} {F:Nat→ae} {S:ae} (hp:ay w p [.pointer (some ⟨pm,0,none⟩),mv,par,dv] 125)
   (hm:ay w pm [.string name,.string fB,wv] 122) (sK:∃a,par=.pointer a) (hv:lG ok w mv vals) (hd:aC ok w dv 1 (aF ps)) (hn:ps.length=deps.length)
   (h:∀(i q:Nat)(d:Ch),ps[i]?=some q→deps[i]?=some d→bZ ok w q d (F i)) (hw:aC ok w wv 1 (aF qs)) (OJ:wants=[]→wv=.slice none 0 0) (nS:qs.length=wants.length)
   (hx:∀(i q:Nat)(x:Want),qs[i]?=some q→wants[i]?=some x→iF ok w q x)
   (hF:∀i j x,F i x→F j x→i=j) (zT:∀i x,F i x→x≠p∧x≠pm∧x∉qs) (OL:∀i x,F i x→i<deps.length) (hq:qs.Nodup) (lH:p∉qs∧pm∉qs∧p≠pm)
   (hS:∀x,S x↔(x=p∨x=pm∨x∈qs∨∃i,F i x)):bZ ok w p (.mk name fB vals deps wants) S
theorem bZ.X{ok S S':ae}{w l:World}{p:Nat}{c:Ch}(h:bZ ok w p c S)(a:O S' w l)(f:∀b,ok b→¬S' b)(g:∀b,S b→¬S' b):bZ ok l p c S:=by
 induction h with
 |@mk p m L M N P name Q vals R wants T n F S o r s t u v h y z A B hF C D E G e H=>
  have I:∀i q,n[i]?=some q→S q:=λi q J=>(e q).2 (.inr (.inr (.inl (mG' J))))
  exact .mk (o.X a (g _ ((e p).2 (.inl rfl)))) (r.X a (g _ ((e m).2 (.inr (.inl rfl))))) s (t.X a f) (u.X a f) v
   (λi q d j k=>H i q d j k (λb K=>g b ((e b).2 (.inr (.inr (.inr ⟨i,K⟩)))))) (y.X a f) z A
   (λi q x j k=>(B i q x j k).X a f (g q (I i q j))) hF C D E G e
theorem lG.mono{ok ok':ae}{w:World}{a:Value}{vals:J}(h:lG ok w a vals)(c:∀b,b<w.heap.size→ok b→ok' b):lG ok' w a vals:=by
 rcases h with h|⟨t,b,d,e,f⟩
 .exact .inl h
 .exact .inr ⟨t,b,d,e,f.mono c⟩
theorem bZ.mono{ok ok' S:ae}{w:World}{p:Nat}{c:Ch}(h:bZ ok w p c S)(a:∀b,b<w.heap.size→ok b→ok' b):bZ ok' w p c S:=by
 induction h with
 |mk d e f g j k h l m n o hF r s t u v y=>exact .mk d e f (g.mono a) (j.mono a (by decide)) k y (l.mono a (by decide)) m n (λi q x z A=>(o i q x z A).mono a) hF r s t u v
theorem bZ.set{ok S S':ae}{w:World}{p:Nat}{c:Ch}(h:bZ ok w p c S)(a:∀x,S' x↔S x):bZ ok w p c S':=by
 cases h with
 |mk b d e f g i h j k l m hF n o q r s=>exact .mk b d e f g i h j k l m hF n o q r (λx=>(a x).trans (s x))
theorem bZ.lt{ok S:ae}{w:World}{p:Nat}{c:Ch}(h:bZ ok w p c S):∀x,S x→x<w.heap.size:=by
 induction h with
 |@mk p A B C D E name G vals f wants g H F S j k I J K l h L M m n hF N o O P r s=>
  intro x t;rcases(r x).1 t with rfl|rfl|a|⟨i,a⟩
  .exact j.lt
  .exact k.lt
  .obtain⟨i,b⟩:=List.getElem?_of_mem a;obtain⟨y,u⟩:=gX' wants i ((by rw[←m];exact(gS'.1 b).1));exact(n i x y b u).lt
  .have e:=o i x a;obtain⟨d,v⟩:=gX' f i (e);obtain⟨q,z⟩:=gX' g i ((by rw[l];exact e));exact s i q d z v x a
theorem bZ.self{ok S:ae}{w:World}{p:Nat}{c:Ch}(h:bZ ok w p c S):S p:=by
 cases h with
 |mk b d e f g i h j k l m hF n o q r a=>exact(a _).2 (.inl rfl)
theorem bZ.vX{ok S:ae}{w:World}{p:Nat}{c:Ch}(h:bZ ok w p c S):eU (λx=>ok x∨S x) w p c:=by
 induction h with
 |@mk p e r s t u name v vals y wants z A F S f g B j k l h C D E G hF H I J K a m=>
  exact .mk f (.inr ((a p).2 (.inl rfl))) g (.inr ((a e).2 (.inr (.inl rfl)))) (j.mono (λ_ _ h=> .inl h)) (k.mono (λ_ _ h=> .inl h) (by decide)) l
   (λi q d n o=>(m i q d n o).mono (λb _ h=>h.imp id (λh=>(a b).2 (.inr (.inr (.inr ⟨i,h⟩))))))
theorem bZ.par{ok S S':ae}{w o:World}{p:Nat}{c:Ch}(h:bZ ok w p c S)(D:¬ok p){r s A t:Value}(f:ay w p [r,s,A,t] 125){u:Value}(E:∃a,u=.pointer a)(G:ay o p [r,s,u,t] 125)(j:O S' w o)(B:∀x,S' x→x=p∨(¬ok x∧¬S x)):bZ ok o p c S:=by
 cases h with
 |@mk _ v H par I wv name ai vals aj wants ps qs F _ J K ak L M N h P Q R T hF C U V y n=>
  have W:[Value.pointer (some ⟨v,0,none⟩),H,par,I]=[r,s,A,t]:=by
   have g:w.heap[p]?=_:=J;have k:w.heap[p]?=_:=f;rw[g] at k;cases k
   rfl
  cases W;have l:∀b,ok b→¬S' b:=λb f e=>(B b e).elim (λm=>D (m▸f)) (λm=>m.1 f)
  have z:∀b,S b→b≠p→¬S' b:=λb f af e=>(B b e).elim af (λm=>m.2 f)
  refine .mk G (K.X j (z v ((n v).2 (.inr (.inl rfl))) (λe=>y.2.2 e.symm))) E (L.X j l) (M.X j l) N (λi q d g k=>(h i q d g k).X j l (λb f=>z b ((n b).2 (.inr (.inr (.inr ⟨i,f⟩)))) (C i b f).1)) (P.X j l) Q R
   (λi q x g k=>(T i q x g k).X j l (z q ((n q).2 (.inr (.inr (.inl (mG' g))))) (λe=>y.1 (e▸mG' g)))) hF C U V y n
theorem bZ.jh{ok S:ae}{w:World}{p:Nat}{c:Ch}(h:bZ ok w p c S):∃a b d e,ay w p [a,b,d,e] 125:=by
 cases h with
 |mk f=>exact⟨_,_,_,_,f⟩
theorem vY:iJ Tryz.prog 123 70 1 8:=by refine⟨Tryz.underlying123,?_,by decide⟩;have h:(Tryz.prog.info? 70).map (λi=>(i.zero,i.size,i.bytes))=some (some (.pointer none),1,8):=(by kernel_rfl);obtain⟨i,a,b,c,d⟩:=info_parts h;exact⟨i,_,a,b,c,d,rfl⟩
abbrev ptr(q:Nat):Value:=.pointer (some ⟨q,0,none⟩)
structure AD (w:World) (base p:Nat) (a0 a1 a2 NL:Value) (Og qs:List Nat) (n:Nat) (dv:Value) (wr:World):Prop where
 le:n<=qs.length
 jh:ay wr p [a0,a1,a2,dv] 125
 own:aB wr base 70 1 dv (aF (Og++qs.take n))
 yI:∀q∈qs.take n,∀b0 b1 b2 b3,ay w q [b0,b1,b2,b3] 125→ay wr q [b0,b1,ptr p,b3] 125
 rest:∀q∈qs.drop n,∀b0 b1 b2 b3,ay w q [b0,b1,b2,b3] 125→ay wr q [b0,b1,b2,b3] 125
 X:O (λk=>k=p∨k∈qs.take n∨NL.ownBlock=some k) w wr
 new:dv.ownBlock=NL.ownBlock∨∀k,dv.ownBlock=some k→w.heap.size<=k
theorem AD.step{w:World}{H p:Nat}{z A B I:Value}{J a:List Nat}{n:Nat}{l:Value}{wr:World}(h:AD w H p z A B I J a n l wr){q:Nat}(C:a[n]?=some q)(T:a.Nodup)(K:p∉a){L M b2 N:Value}(U:ay wr q [L,M,b2,N] 125){w2 w3 s:World}{t:Value}(P:ay w2 q [L,M,ptr p,N] 125)(D:O (·=q) wr w2)
  (d:O (λb=>l.ownBlock=some b) (w2.alloc (.cells #[ptr q] 70)) w3) (V:aB w3 H 70 1 t (aF (J++a.take n)++[[ptr q]])) (ai:t.ownBlock=l.ownBlock∨∀k,t.ownBlock=some k→(w2.alloc (.cells #[ptr q] 70)).heap.size<=k)
  (h4:ay s p [z,A,B,t] 125) (f:O (·=p) w3 s):AD w H p z A B I J a (n+1) t s:=by
 have aj:n<a.length:=(gS'.1 C).1;have ak:q∈a:=mG' C;have E:a.take (n+1)=a.take n++[q]:=by rw[List.take_add_one,C];rfl
 have F:a.drop n=q::a.drop (n+1):=by obtain⟨u,P⟩:=gS'.1 C;rw[List.drop_eq_getElem_cons u,P]
 have aC:=h.X.size;have aG:=D.size;have au:=d.size;simp at au;have ax:∀k,l.ownBlock=some k→∃Q,wr.heap[k]?=some (.cells Q 70 (0,0)):=λk v=>(h.own.elem v).2.2
 have R:∀x m o d f,ay wr x [m,o,d,f] 125→l.ownBlock≠some x:=λx m o d f g e=>by obtain⟨Q,y⟩:=ax x e;have u:wr.heap[x]?=_:=g;rw[u] at y;cases y
 have W:q≠p:=λe=>K (e▸ak)
 have af:∀x m o d f,x≠q→x≠p→ay wr x [m,o,d,f] 125→ay s x [m,o,d,f] 125:=λx m o aH aI u h3 g=>((((g.X D u).alloc _).X d (R x _ _ _ _ g)).X f h3)
 have az:ay s q [L,M,ptr p,N] 125:=(((P.alloc _).X d (R q _ _ _ _ U)).X f W);refine⟨aj,h4,?_,λx c m o d2 d3 g=> ?_,λx c m o d2 d3 g=> ?_,?_,?_⟩
 .have h5:=V.X f (λk v e=>by
   obtain⟨-, -,Q,y⟩:=V.elem v;have e2:k=p:=e;subst e2;have j:w3.heap[k]?=some (.cells #[z,A,B,l] 125 (0,0)):=by have:=((h.jh.X D (Ne.symm W)).alloc (.cells #[ptr q] 70)).X d (R k _ _ _ _ h.jh);exact this
   rw[j] at y;cases y)
  rw[E,←List.append_assoc];simpa[aF] using h5
 .rw[E] at c;rcases List.mem_append.1 c with c|c
  .have S:x≠q:=λe=>by
    have j:=T;rw[←List.take_append_drop n a,F] at j;exact(List.nodup_append.1 j).2.2 x c q (by simp) e
   exact af x _ _ _ _ S (λe=>K (e▸List.mem_of_mem_take c)) (h.yI x c _ _ _ _ g)
  .obtain rfl:x=q:=(by simpa using c);have j:=h.rest x (by rw[F];simp) _ _ _ _ g;have G:wr.heap[x]?=_:=j;have h8:wr.heap[x]?=_:=U;rw[G] at h8;cases h8;exact az
 .have aA:x∈a:=List.mem_of_mem_drop c;have S:x≠q:=λe=>by
   have j:=T;rw[←List.take_append_drop n a,F] at j;have G:=(List.nodup_append.1 j).2.1;rw[List.nodup_cons] at G;exact G.1 (e▸c)
  exact af x _ _ _ _ S (λe=>K (e▸aA)) (h.rest x (by rw[F];simp[c]) _ _ _ _ g)
 .have k1:O (λk=>k=q∨k=p∨l.ownBlock=some k) wr s:=
   (((D.mono (S':=λk=>k=q∨k=p∨l.ownBlock=some k) (λ_ _ e=> .inl e)).alloc _).trans d (λi hi e=> .inr (.inr e))).trans f (λi hi e=> .inr (.inl e))
  refine(h.X.mono (S':=λk=>k=p∨k∈a.take (n+1)∨I.ownBlock=some k) (λi _ e=> ?_)).trans k1 (λi hi e=> ?_)
  .rw[E];rcases e with e|e|e
   .exact .inl e
   .exact .inr (.inl (by simp[e]))
   .exact .inr (.inr e)
  .rcases e with e|e|e
   .exact .inr (.inl (by rw[E,e];simp))
   .exact .inl e
   .rcases h.new with r|r
    .exact .inr (.inr (r▸e))
    .have:=r i e;omega
 .rcases ai with r|r
  .rw[r];exact h.new
  .exact .inr (λk v=>by have:=r k v;simp at this;omega)
theorem yc(g p:Nat)(l m o d:Value)(j a:List Nat)(cv:Value)(w:World){ok:ae}(A:g<=w.heap.size)(B:ay w p [l,m,o,d] 125)(s:aB w g 70 1 d (aF j))(T:aC ok w cv 1 (aF a))(U:∀b,ok b→b<w.heap.size→b≠p∧b∉a∧d.ownBlock≠some b)
  (V:a.Nodup) (af:p∉a) (ai:∀q∈a,∃F G H I,ay w q [F,G,H,I] 125) (aj:j.length+a.length<=1000000):
  Calls Tryz.prog 85 #[ptr p,cv] w λe w'=>e=.returned (.tuple #[])∧∃t,AD w g p l m o d j a a.length t w':=by
 have HC:=Z (aC.mono (ok':=okB ok w) T (λb B h=>⟨h,B⟩) (by decide));have aS:=Z U;have aT:=Z V;have ak:=Z af;have aU:=Z ai;have aV:=Z A;have aW:=Z (show AD w g p l m o d j a 0 d w from⟨zL',B,by simpa using s,by simp,λq _ _ _ _ _ h=>h,O.refl _ _,.inl rfl⟩);have aX:=Z aj;have bP:(a.length:Int)<=1000000:=(by omega);obtain⟨-, -,ca,cc,rfl, -, -⟩:=T;simp only[aF,List.length_map] at HC⊢;clear U V af ai B s aj A;go_enter Tryz.func85,Tryz.ntmps85;go_wp2_with fail;go_loopw [8] (λJ wr=>∃(n:Nat)(t:Value),J=.int .i64 n∧AD w g p l m o d j a n t wr) (λJ _=>a.length - (intOf J).toNat)
 case atStart=>exact⟨0,d,rfl,aW.o⟩
 case round=>
  obtain⟨n,t,rfl,au⟩:=hrel;have c:=Z au;clear au;by_cases ax:n<a.length
  .obtain⟨q,u⟩:=gX' a n (ax);have K:q∈a:=mG' u;obtain⟨lb,lo,rfl,L,C⟩:=HC.o.at (i:=n) (r:=[ptr q]) (by simp[u]);have D:=aS.o lb L.1 L.2;have az:=(C.X c.o.X (λe=>by
    rcases e with e|e|e
    .exact D.1 e
    .exact D.2.1 (List.mem_of_mem_take e)
    .exact D.2.2 e))
   have C:=az.one;simp only[Nat.mul_one] at C;obtain⟨F,G,H,I,aA⟩:=aU.o q K;have v:=c.o.rest q (by obtain⟨f,h2⟩:=gS'.1 u;rw[List.drop_eq_getElem_cons f,h2];simp) _ _ _ _ aA;have M:=Z v;have aY:=v.frozen 2;have aZ:=v.lt;have bf:wr.cell? ⟨q,2,none⟩=some H:=v.cell 2;have aG:∀W,(wr.setCell ⟨q,2,none⟩ (ptr p))=W→ay W q [F,G,ptr p,I] 125∧O (·=q) wr W∧W.heap.size=wr.heap.size:=by rintro W rfl;exact M.o.setCell 2 (ptr p)
   have HF:=Z aG;have x:=c.o.jh;have HQ:=Z u;have bg:=Z K;have bn:(n:Int)<(a.length:Int):=(by omega);clear u K L D aA az aG v x;go_upto_region 4 with fail
   generalize aH:World.setCell _ _ _=y;obtain⟨aI,E,aJ⟩:=HF.o y aH;clear aH HF bf aY aZ C;have aK:¬p=q:=λe=>ak.o (e▸bg.o)
   have x:=c.o.jh.X E aK;have bu:=Z x;have bz:=Z aI;have bC:=Z E;have bD:=Z aJ;obtain⟨N,P,Q,rfl⟩:=c.o.own.slice;have k3:y.cell? ⟨p,3,none⟩=some (.slice N P Q):=x.cell 3;have s:=(c.o.own.X E (λk hk e=>by have e1:k=q:=e;obtain⟨-, -,bF,R⟩:=c.o.own.elem hk;have f:wr.heap[q]?=_:=M.o;rw[←e1,R] at f;cases f));have bG:(aF (j++a.take n)).length+1<=1099511627776:=by have:=aX.o;simp only[aF,List.length_map,List.length_append,List.length_take];omega
   have A:g<=y.heap.size+1:=by have:=aV.o;have:=c.o.X.size;have:=bD.o;omega
   clear x aI E aJ aK;have bH:=Z (λ(w6:World) (z:O (λb=>(Value.slice N P Q).ownBlock=some b) (y.alloc (.cells #[ptr q] 70)) w6)=>show ay w6 p [l,m,o,.slice N P Q] 125 from(bu.o.alloc _).X z (λe=>by obtain⟨-, -,bF,R⟩:=c.o.own.elem e;have f:wr.heap[p]?=_:=c.o.jh;rw[R] at f;cases f));go_wp2_with (first|(at_builtin;refine aN rfl vY rfl rfl (s.alloc _) rfl (aC.gX y [ptr q] 70 1 rfl) (by simp[Value.oneCell']) bG (by decide) (by simpa using A) ?_;intro bQ w6 S z aO bI;(obtain⟨sa,sn,sc,rfl⟩:=S.slice);go_frame)|(refine pK rfl rfl rfl rfl Tryz.sizeOf123 (bH.o w6 z) (show 3<4 by decide) ?_;intro w7 aP aQ bJ;go_frame))
   have bK:=Z (c.o.step HQ.o aT.o ak.o M.o bz.o bC.o z S aO aP aQ);clear S z aO bI aP aQ bJ s k3;go_roundw;case rel=>exact⟨n+1,_,by go_num,bK.o⟩
   case measure=>simp[intOf];omega
  .have bM:n=a.length:=Nat.le_antisymm c.o.le (Nat.not_lt.1 ax);subst bM;have bn:¬((a.length:Nat):Int)<(a.length:Int):=(by omega);go_wp2;go_end0;exact⟨rfl,t,c.o⟩
def Fact.zU(P:Value→World→Prop)(a:∀v w w',P v w→O No w w'→P v w'):Fact:=
 ⟨P,λS _=>∀k,¬S k,λS v w w' h b c=>a v w w' h (b.mono (λi _ e=>c i e)),λ_ _ e=>e⟩
theorem aB.empty{w:World}{a e size b:Nat}(c:a<=b)(h:ay w b [] e):aB w a e size (.slice (some ⟨b,0,none⟩) 0 0) []:=by exact⟨by simp,by simp,.inr ⟨b,0,#[],rfl,c,h,by simp,by simp[maxLen],by simp,by simp⟩⟩
theorem yJ{P:Program}{o:Oper}{a:Act}{w:World}{K:ag}{Q:ah}{t e size j d:Nat}(p:iJ P t e size j){s x:Operand}
  (q:o.op=.call {callee:=.builtin .append,args:=#[s,x],argTypes:=#[t,t]}) {b:Nat} (u:a.eval s=.slice (some ⟨b,0,none⟩) 0 0) (v:d<=b) (l:ay w b [] e)
  {ok:ae} {m:Value} {f:List (Y)} (y:a.eval x=m) (z:aC ok w m size f) (A:∀r∈f,r.all (·.oneCell')=true)
  (B:f.length<=1099511627776) (C:j<=128) (D:d<=w.heap.size)
  (h:∀v' w',aB w' d e size v' f→O No w w'→K (a.put o.dst v') w'):o.wp P a w K Q:=by
 have E:aB w d e size (.slice (some ⟨b,0,none⟩) 0 0) []:=aB.empty v l;refine bJ p q u E y z A (by simpa using B) C D λv' w' F c T G=> ?_
 refine h v' w' (by simpa using F) ⟨c.os,c.tape,c.output,c.size,λk H _=> ?_⟩;by_cases n:k=b
 .subst n;have I:w.heap[k]?=_:=l;rcases G.2.2 with⟨i, -⟩|⟨g,cap,J,i, -,L, -, -,M, -⟩
  .cases i
  .cases i;have N:J=#[]:=Array.eq_empty_of_size_eq_zero (by rw[M];simp);rw[L,N,I]
 .exact c.block k H (λR=>n (by have S:(some b:Option Nat)=some k:=R;exact(Option.some.inj S).symm))
theorem yf{o:Oper}{a:Act}{w:World}{d:ag}{Q:ah}{m x v:Operand}(j:o.op=Op.insert 67 m x v){b n:Nat}{f:K→Option Value}(l:a.eval m=.map (some b))(p:aU w b n f)(q:n<maxLen)
  {k:K} {u:Value} (r:a.eval x=.string k) (s:k.size<=maxLen) (t:a.eval v=u)
  (y:∀w',aU w' b (n+1) (λz=>if z=k then some u else f z)→O (·=b) w w'→w'.heap.size=w.heap.size→d (a.put o.dst undef) w'):o.wp Tryz.prog a w d Q:=by
 obtain⟨D,g,A⟩:=p;obtain⟨w',B,C,h⟩:=g.store kJ Tryz.underlying67 q (iM s) (show RV u=some (.held u,[]) from rfl);unfold Oper.wp;simp[execOp,j,l,r,t,B,Result.andThen];refine y w' ⟨_,C,λz=> ?_⟩ ((O.grown h.grown).mono (λi _ e=>(Option.some.inj e).symm)) ?_
 .simp only[vH g.isMap,A]
 .obtain⟨E,c,F,c',G,rfl⟩:=h;simp[ChangeMaps.setBlock]
structure AG (q:Nat) (mk:Value→Y) (ty:TypeId) (B e:Nat) (iv:Value) (rows:List (Y)) (row:Y) (wr w:World) (da ds:Bool):Prop where
 X:O (λb=>b=q∨iv.ownBlock=some b) wr w
 own:da=false→aB w B e 1 iv rows
 box:∃l',ay w q (mk l') ty∧(ds=false→l'=iv)∧(ds=true→aB w B e 1 l' (rows++[row])∧(l'.ownBlock=iv.ownBlock∨∀k,l'.ownBlock=some k→wr.heap.size<=k))
def Fact.L6(B e:Nat)(iv:Value)(rows:List (Y))(row:Y)(wr:World):Fact:=
 ⟨λv w=>aB w B e 1 v (rows++[row])∧(v.ownBlock=iv.ownBlock∨∀k,v.ownBlock=some k→wr.heap.size<=k),λS w=>∀k,S k→B<=k→¬∃a,w.heap[k]?=some (.cells a e (0,0)),
  λS v w w' h b c=>⟨h.1.X b (λk d f=>by obtain⟨g, -,i⟩:=h.1.elem d;exact c k f g i),h.2⟩,λ_ _ e=>e.elim⟩
section
variable {q:Nat} {mk:Value→Y} {ty:TypeId} {B e:Nat} {iv:Value} {rows:List (Y)} {row row':Y} {wr w w':World} {da ds:Bool}
theorem AG.start(a:aB wr B e 1 iv rows)(b:ay wr q (mk iv) ty):AG q mk ty B e iv rows row wr wr.drew false false:=
 ⟨(O.refl _ wr).drew,λ_=>a.X ((O.refl No wr).drew) nE,iv,b.drew,λ_=>rfl,λe=>(by cases e)⟩
theorem AG.MV(g:AG q mk ty B e iv rows row wr w da false):AG q mk ty B e iv rows row' wr w da false:=by obtain⟨a,b,c,d⟩:=g.box;exact⟨g.X,g.own,a,b,c,λe=>(by cases e)⟩
theorem aB.lI{v:Value}{b:List (Y)}(h:aB w B e 1 v b)(c:e≠ty){cs:Y}(d:ay w q cs ty):v.ownBlock≠some q:=λf=>by obtain⟨-, -,i,a⟩:=h.elem f;have g:w.heap[q]?=_:=d;rw[g] at a;cases a;exact c rfl
theorem AG.df(g:AG q mk ty B e iv rows row wr w da ds)(a:O No w w'):AG q mk ty B e iv rows row wr w' da ds:=by obtain⟨c,d,f,b⟩:=g.box;exact⟨g.X.trans' a,λe=>(g.own e).X a nE,c,d.X a id,f,λe=>⟨(b e).1.X a nE,(b e).2⟩⟩
theorem AG.HY{t:Nat}(g:AG q mk ty B e iv rows row wr w da false)(a:O (·=t) w w')(n:wr.heap.size<=t)(b:t≠q)(c:¬∃d,w.heap[t]?=some (.cells d e (0,0))):AG q mk ty B e iv rows row wr w' da false:=by obtain⟨f,h,j,o⟩:=g.box;exact⟨g.X.trans a (λi p e=>by omega),λe=>(g.own e).X a (λk l m=>c (m▸((g.own e).elem l).2.2)),f,h.X a (λe=>b e.symm),j,λe=>(by cases e)⟩
theorem AG.app(g:AG q mk ty B e iv rows row wr w false false)(d:e≠ty)(a:O (λb=>iv.ownBlock=some b) w w'):AG q mk ty B e iv rows row wr w' true false:=by obtain⟨f,c,h,j⟩:=g.box;exact⟨g.X.trans a (λi _ e=> .inr e),λe=>(by cases e),f,c.X a (λe=>(g.own rfl).lI d c e),h,λe=>(by cases e)⟩
theorem AG.store{v:Value}(g:AG q mk ty B e iv rows row wr w true false)(c:e≠ty)(d:ay w' q (mk v) ty)(a:O (·=q) w w')(b:aB w B e 1 v (rows++[row]))(f:v.ownBlock=iv.ownBlock∨∀k,v.ownBlock=some k→wr.heap.size<=k):AG q mk ty B e iv rows row wr w' true true:=by obtain⟨l,h,m,n⟩:=g.box;exact⟨g.X.trans a (λi _ e=> .inl e),λe=>(by cases e),v,d,λe=>(by cases e),λ_=>⟨b.X a (λk j e=>b.lI c h (e▸j)),f⟩⟩
end
theorem IX(n v c a:K)(b:Option Addr)(d e:Nat)(f:Bool)(w:World):(Instr.build 154 #[(0,.string n),(1,.string v),(3,.string c),(7,.string a),(4,.slice b d e),(5,.bool f)]).run Tryz.prog w=
  .ok (.agg #[.string n,.string v,.string ByteArray.empty,.string c,.slice b d e,.bool f,.slice none 0 0,.string a]) w:=by kernel_rfl
theorem zV(w:World):(Instr.buildSlice 23 0 #[]).run Tryz.prog w=.ok (.slice (some ⟨w.heap.size,0,none⟩) 0 0) (w.alloc (.cells #[] 9)):=by kernel_rfl
theorem zW:iJ Tryz.prog 117 152 1 8:=by refine⟨Tryz.underlying117,?_,by decide⟩;have h:(Tryz.prog.info? 152).map (λi=>(i.zero,i.size,i.bytes))=some (some (.pointer none),1,8):=(by kernel_rfl);obtain⟨i,a,b,c,d⟩:=info_parts h;exact⟨i,_,a,b,c,d,rfl⟩
def Lc(ok:ae)(cs:Y)(w:World)(p c L:Nat)(e:Ending)(b:World):Prop:=
 ∃r:Bool,e=.returned (.bool r)∧O (·=p) w b∧(r=true→∃a,dU ok b cs a∧nM L a∧cnt a<=c∧ay b p [.int .i64 ((c - cnt a:Nat):Int)] 3)
structure CL (ok:ae) (w:World) (p c L:Nat) (rows:List (Y)) (W wr:World) (n:Nat) (js:List Ch):Prop where
 le:n<=rows.length
 len:js.length=n
 val:∀(i:Nat)(r:Y)(d:Ch),rows[i]?=some r→js[i]?=some d→dU (okB ok w) wr r d
 good:∀d∈js,nM L d
 nd:(js.map Ch.name).Nodup
 cnt:1+jR js<=c
 X:O (·=p) W wr
 jh:ay wr p [.int .i64 ((c - (1+jR js):Nat):Int)] 3
theorem CL.step{ok:ae}{w:World}{p c L:Nat}{k:List (Y)}{W wr:World}{n:Nat}{f:List Ch}(h:CL ok w p c L k W wr n f){r:Y}(o:k[n]?=some r){d:Ch}(t:¬ok p){l:World}(u:dU (okB ok w) l r d)(v:nM L d)
  (y:d.name∉f.map Ch.name) (D:Go.Proofs.YtljaoopfomcaoaaGreatDoor.cnt d<=c - (1+jR f)) (q:O (·=p) wr l) (j:ay l p [.int .i64 ((c - (1+jR f) - Go.Proofs.YtljaoopfomcaoaaGreatDoor.cnt d:Nat):Int)] 3):CL ok w p c L k W l (n+1) (f++[d]):=by
 have z:n<k.length:=(gS'.1 o).1;have E:=h.cnt;have s:jR (f++[d])=jR f+Go.Proofs.YtljaoopfomcaoaaGreatDoor.cnt d:=by rw[Dp];simp[jR]
 refine⟨z,by simp[h.len],λi A x m g=> ?_,λx g=> ?_,?_,by rw[s];omega,h.X.trans q (λi _ e=>e),by rw[s,show c - (1+(jR f+Go.Proofs.YtljaoopfomcaoaaGreatDoor.cnt d))=c - (1+jR f) - Go.Proofs.YtljaoopfomcaoaaGreatDoor.cnt d by omega];exact j⟩
 .by_cases B:i<f.length
  .rw[List.getElem?_append_left B] at g;exact(h.val i A x m g).X q (λb j e=>t (e▸j.1))
  .have:i=f.length:=by
    have:=(gS'.1 g).1;simp at this;omega
   subst this;rw[List.getElem?_append_right lR',Nat.sub_self] at g;cases g;rw[h.len,o] at m;cases m;exact u
 .rcases List.mem_append.1 g with g|g
  .exact h.good x g
  .rw[List.mem_singleton.1 g];exact v
 .rw[List.map_append];refine List.nodup_append.2 ⟨h.nd,by simp,λa C b j e=> ?_⟩;have:b=d.name:=(by simpa using j);exact y (by rw[←this,←e];exact C)
theorem kL.symm{a b:Want}(h:kL a b):kL b a:=⟨h.1.symm,h.2.1.symm,h.2.2.2.symm,h.2.2.1.symm⟩
theorem DJ{ok:ae}{w:World}{rn rv rk rb ri a rt b c rdv e}{d:Ch}(h:dU ok w (az rn rv rk rb ri a rt b c rdv e) d):d.name=rn:=by cases h;rfl
theorem dU.of{ok:ae}{w:World}{name g:K}{k:Int}{b:Bool}{i:Int}{f:Nat}{t:K}{j l m o:Value}{vals:J}{a c:List (Y)}{e:List Ch}{wants:List Want}
  (p:aG ok w (ai k b i f t j l) vals) (q:aC ok w m 11 a) (s:a.length=e.length) (h:∀(n:Nat)(r:Y)(d:Ch),a[n]?=some r→e[n]?=some d→dU ok w r d)
  (u:aC ok w o 7 c) (v:c.length=wants.length) (y:∀(n:Nat)(r:Y)(x:Want),c[n]?=some r→wants[n]?=some x→dF ok w r x):dU ok w (az name g k b i f t j l m o) (.mk name g vals e wants):=.mk p q s h u v y
theorem DK(L:Nat):∀(ok:ae)(cs:Y)(w:World)(p c:Nat),kG ok w cs→ay w p [.int .i64 (c:Int)] 3→¬ok p→c<=40→L<=4000→
  Calls Tryz.prog 72 #[.agg cs.toArray,.int .i64 (L:Int),.pointer (some ⟨p,0,none⟩)] w (Lc ok cs w p c L):=by
 induction L with
 |zero=>
  intro ok cs w p c h hp aA M hL;obtain⟨name,aH,k,b,i,f,t,kv,lv,dv,wv,rfl, -, -, -, -, -, -⟩:=h.cells;have lJ:(c:Int)<=40:=(by omega);have dh:w.cell? ⟨p,0,none⟩=some (.int .i64 (c:Int)):=hp.cell 0;have di:=hp.frozen 0;have dm:=hp.lt;have HP:=Z hp;have bf:∀W,((w.setCell ⟨p,0,none⟩ (.int .i64 ((c:Int) - 1))).alloc (.cells (az name aH k b i f t kv lv dv wv).toArray 30))=W→
    ay W p [.int .i64 ((c:Int) - 1)] 3∧O (·=p) w W:=by
   rintro W rfl;obtain⟨T,h2,h3⟩:=HP.o.setCell 0 (.int .i64 ((c:Int) - 1));exact⟨T.alloc _,h2.alloc _⟩
  have HF:=Z bf;clear bf hp h M;go_enter Tryz.func72,Tryz.ntmps72;unfold az;go_upto_region 2 with fail
  generalize bg:World.alloc _ _=W;obtain⟨B,c1⟩:=HF.o W bg;clear bg HF;have H:=Z c1;have q0:W.cell? ⟨p,0,none⟩=some (.int .i64 ((c:Int) - 1)):=B.cell 0;clear B c1 dh di;by_cases h0:(c:Int) - 1<0
  .go_wp2;go_ret;exact⟨false,rfl,H.o,λh=>by cases h⟩
  .go_wp2;go_ret;exact⟨false,rfl,H.o,λh=>by cases h⟩
 |succ L ih=>
  intro ok cs w p c h hp aA M hL;have IH:=Z ih;obtain⟨name,aH,k,b,i,f,t,kv,lv,dv,wv,rfl,iC,iD,hv,⟨iE,iF⟩,⟨I,E,iG⟩,⟨U,xs,hw,hm,iH,dn⟩⟩:=(h.mono (ok':=okB ok w) (λb hb h=>⟨h,hb⟩)).cells;have iI:=Z iC;have eU:=Z iD;have HV:=Z hv;have HD:=Z E;have lK:=Z iG;have HW:=Z hw;have HM:=Z hm;have eX:=Z iH;have lL:=Z dn;have af:=Z aA;have HC:=Z M;have HL:=Z hL;have lM:=E.1;have lN:=hw.1;have lJ:(c:Int)<=40:=(by omega);have lQ:¬(L:Int)+1<1:=(by omega);have nY:decide ((L:Int)+1<1)=false:=decide_eq_false lQ;obtain⟨-, -,da,dc,rfl, -, -⟩:=E;obtain⟨-, -,wa,bI,rfl, -, -⟩:=hw;have iJ:=Z (iE _ _ _ rfl);have iK:=Z (iF _ _ _ rfl);clear iE iF;unfold maxLen at lM lN;have dh:w.cell? ⟨p,0,none⟩=some (.int .i64 (c:Int)):=hp.cell 0;have di:=hp.frozen 0;have dm:=hp.lt;have HP:=Z hp;have bf:∀W,((w.setCell ⟨p,0,none⟩ (.int .i64 ((c:Int) - 1))).alloc (.cells (az name aH k b i f t kv lv (.slice da I.length dc) (.slice wa U.length bI)).toArray 30))=W→
    ay W p [.int .i64 ((c:Int) - 1)] 3∧O (·=p) w W∧ay W w.heap.size (az name aH k b i f t kv lv (.slice da I.length dc) (.slice wa U.length bI)) 30:=by
   rintro W rfl;obtain⟨T,h2,h3⟩:=HP.o.setCell 0 (.int .i64 ((c:Int) - 1));refine⟨T.alloc _,h2.alloc _,?_⟩;have h4:=ay.new (w.setCell ⟨p,0,none⟩ (.int .i64 ((c:Int) - 1))) (az name aH k b i f t kv lv (.slice da I.length dc) (.slice wa U.length bI)) 30
   rwa[h3] at h4
  have HF:=Z bf;have lS:=Z dm;clear bf hp h hv iG hm iH dn iC iD aA ih hL M;go_enter Tryz.func72,Tryz.ntmps72;unfold az;go_upto_region 2 with fail
  generalize bg:World.alloc _ _=W;obtain⟨B,c1,bx⟩:=HF.o W bg;clear bg HF;have dN:=Z B;have H:=Z c1;have eY:=Z bx;have q0:W.cell? ⟨p,0,none⟩=some (.int .i64 ((c:Int) - 1)):=B.cell 0;clear B c1 bx dh di dm;by_cases h0:(c:Int) - 1<0
  .go_wp2;go_ret;exact⟨false,rfl,H.o,λh=>by cases h⟩
  have iL:=Z (show 1<=c by omega);have lT:=Z (show ay W p [.int .i64 ((c - 1:Nat):Int)] 3 by rw[Int.natCast_sub iL.o];exact dN.o);have lU:=Z (HV.o.X H.o (λb hb e=>af.o (e▸hb.1)))
  go_cut [65] from 22 to 65 (λlV wc=>∃r:Bool,lV=.bool r∧O No W wc∧(r=false→(∃j,aG (okB ok w) wc (ai k b i f t kv lv) j∧Wf 400 50 j∧sz j<=400∧(j=.null∨dA j=true))∧lC name∧yD aH∧I.length<=20))
  case first=>
   have D:=eY.o.tV;go_wp2_with (first|(with_reducible refine aJ rfl au rfl rfl D rfl ?_)|(with_reducible refine V rfl au rfl rfl D rfl ?_));refine(qB lU.o 400 (by decide)).mono ?_;rintro e w3 ⟨r1,rfl,bn,iM⟩;have G:=Z bn;have lW:=Z iM;clear bn iM D;cases r1 with
   |false=>
    go_wp2_with fail
    go_meet
    exact⟨true,rfl,G.o,λh=>by cases h⟩
   |true=>
    obtain⟨j,fA,iO,fC⟩:=lW.o rfl;have iP:=Z fA.zC;have HJ:=Z (show ∀w',O No w3 w'→(j=.null∨dA j=true)→∃j,aG (okB ok w) w' (ai k b i f t kv lv) j∧Wf 400 50 j∧sz j<=400∧(j=.null∨dA j=true) from λw' M hk=>⟨j,fA.X M nE,iO.mono fC lR',fC,hk⟩);have fD:=eY.o.X G.o id;have aV:=Z fD;have q2:w3.cell? ⟨w.heap.size,2,none⟩=some (.int .i64 k):=fD.cell 2;clear fA iO fC fD;by_cases fE:k=0
    .subst fE;have q3:w3.cell? ⟨w.heap.size,0,none⟩=some (.string name):=aV.o.cell 0;have dw:=Z (λw' M=>HJ.o w' M (.inl (iP.o.1 rfl)));go_wp2_with fail;clear q2 q3;refine(nN name iI.o.ok _).mono ?_;rintro e w5 ⟨r2,rfl,dB,dC⟩;obtain rfl:=dB.symm;have fF:=Z dC;clear dB dC;cases r2 with
     |false=>
      go_wp2_with fail
      go_meet
      exact⟨true,rfl,G.o,λh=>by cases h⟩
     |true=>
      have q1:=aV.o.cell 1;simp only[az,List.getElem?_cons_succ,List.getElem?_cons_zero] at q1;go_wp2_with fail;refine(nO aH (by have:=eU.o;unfold gq at this;omega) _).mono ?_;rintro e w6 ⟨r3,rfl,aN,bu⟩;have ax:=Z aN;have bT:=Z bu;have q9:=(aV.o.X aN id).cell 9;simp only[az,List.getElem?_cons_succ,List.getElem?_cons_zero] at q9;clear aN bu q1;cases r3 with
      |false=>
       go_wp2_with fail
       go_meet
       exact⟨true,rfl,G.o.trans' ax.o,λh=>by cases h⟩
      |true=>
       rcases Decidable.em ((20:Int)<(I.length:Int)) with bz|bz
       .go_wp2_with fail
        go_meet
        exact⟨true,rfl,G.o.trans' ax.o,λh=>by cases h⟩
       .go_wp2_with fail
        go_meet
        exact⟨false,by rw[decide_eq_false (by omega)],G.o.trans' ax.o,λ_=>⟨dw.o _ ax.o,fF.o trivial,bT.o trivial,by omega⟩⟩
    .have lX:(k !=0)=true:=(by simpa using fE);have D:=aV.o.tV;clear fE;go_wp2_with (first|(with_reducible refine aJ rfl au rfl rfl D rfl ?_)|(with_reducible refine V rfl au rfl rfl D rfl ?_));refine(aY k i b f t kv lv w3).mono ?_;rintro e w4 ⟨rfl,iQ⟩;have dO:=Z iQ;clear iQ D q2;by_cases fG:k=7
     .subst fG;have dw:=Z (λw' M=>HJ.o w' M (.inr (iP.o.2.1 rfl)));have G:=Z (G.o.trans' dO.o);have dw:=Z (λw' (M:O No w4 w')=>dw.o w' (dO.o.trans' M));have aV:=Z (aV.o.X dO.o id);have q3:w4.cell? ⟨w.heap.size,0,none⟩=some (.string name):=aV.o.cell 0;go_wp2_with fail;clear q3 lX;refine(nN name iI.o.ok _).mono ?_;rintro e w5 ⟨r2,rfl,dB,dC⟩;obtain rfl:=dB.symm;have fF:=Z dC;clear dB dC;cases r2 with
      |false=>
       go_wp2_with fail
       go_meet
       exact⟨true,rfl,G.o,λh=>by cases h⟩
      |true=>
       have q1:=aV.o.cell 1;simp only[az,List.getElem?_cons_succ,List.getElem?_cons_zero] at q1;go_wp2_with fail;refine(nO aH (by have:=eU.o;unfold gq at this;omega) _).mono ?_;rintro e w6 ⟨r3,rfl,aN,bu⟩;have ax:=Z aN;have bT:=Z bu;have q9:=(aV.o.X aN id).cell 9;simp only[az,List.getElem?_cons_succ,List.getElem?_cons_zero] at q9;clear aN bu q1;cases r3 with
       |false=>
        go_wp2_with fail
        go_meet
        exact⟨true,rfl,G.o.trans' ax.o,λh=>by cases h⟩
       |true=>
        rcases Decidable.em ((20:Int)<(I.length:Int)) with bz|bz
        .go_wp2_with fail
         go_meet
         exact⟨true,rfl,G.o.trans' ax.o,λh=>by cases h⟩
        .go_wp2_with fail
         go_meet
         exact⟨false,by rw[decide_eq_false (by omega)],G.o.trans' ax.o,λ_=>⟨dw.o _ ax.o,fF.o trivial,bT.o trivial,by omega⟩⟩
     .have nZ:(k==7)=false:=(by simpa using fG);clear fG;go_wp2_with fail
      go_meet
      exact⟨true,rfl,G.o.trans' dO.o,λh=>by cases h⟩
  case rest=>
   obtain⟨r,rfl,iR,dE⟩:=hcut;have dP:=Z iR;have bU:=Z dE;clear iR dE q0;cases r with
   |true=>go_wp2;go_ret;exact⟨false,rfl,H.o.trans' dP.o,λh=>by cases h⟩
   |false=>
    obtain⟨⟨vals,iT,iU,dF,iV⟩,iW,iZ,bz⟩:=bU.o rfl;have lY:=Z iT;have lZ:=Z (show Wf 400 50 vals∧sz vals<=400∧(vals=.null∨dA vals=true) from⟨iU,dF,iV⟩);have l7:=Z iW;have l9:=Z iZ;have fH:=Z (eY.o.X dP.o id);have mf:=Z (lT.o.X dP.o id);have H:=Z (H.o.trans' dP.o);have q9:wc.cell? ⟨w.heap.size,9,none⟩=some (.slice da I.length dc):=fH.o.cell 9;have fJ:=Z (show p≠w.heap.size by have:=lS.o;omega);clear iT iU dF iV iW iZ bU;go_wp2_with fail;clear q9;go_loopw [69] (λQ wr=>∃(n:Nat)(N:List Ch),Q=.int .i64 n∧CL ok w p c L I wc wr n N) (λQ _=>I.length - (intOf Q).toNat);case atStart=>exact⟨0,[],rfl,zL',rfl,λi r x _ h=>(by simp at h),λx h=>(by cases h),by simp,by have:=iL.o;simp[jR];omega,O.refl _ _,mf.o⟩
    case round=>
     obtain⟨n,N,rfl,C⟩:=hrel;have aj:=Z C;clear C;by_cases dG:n<I.length
     .obtain⟨r,bC⟩:=gX' I n (dG);have fK:=lK.o r (mG' bC);have mg:=Z (fK.X H.o (λb hb e=>af.o (e▸hb.1)));obtain⟨lb,lo,rfl,bJ,aQ⟩:=HD.o.at (i:=n) (r:=r) bC;have aQ:=(aQ.X H.o (λe=>af.o (e▸bJ.1))).X aj.o.X (λe=>af.o (e▸bJ.1));obtain⟨bD,bV⟩:=fK.one;obtain⟨rn,rv,rk,rb,ri,rf,rt,dQ,dR,dV,dX,rfl, -, -, -, -, -, -⟩:=fK.cells;have mi:=Z bC;have fM:(n:Int)<(I.length:Int):=(by omega);have ja:(n:Int)<=(dc:Int):=by have:=iJ.o;omega
      have jb:dc≠0:=by have:=iJ.o;omega
      have k9:(wr.alloc (.cells (az rn rv rk rb ri rf rt dQ dR dV dX).toArray 30)).cell? ⟨w.heap.size,9,none⟩=some (.slice (some ⟨lb,lo,none⟩) I.length dc):=((fH.o.X aj.o.X (λe=>fJ.o e.symm)).alloc _).cell 9;obtain⟨g8,jc⟩:∃g,g=wr.heap.size:=⟨_,rfl⟩;have jd:=Z jc;clear bC bJ jc;go_upto_region 8 with(first|(with_reducible refine V rfl aK rfl rfl aQ bD ?_)|(with_reducible refine ak rfl aK rfl rfl rfl rfl bD bV ?_))
      obtain⟨W2,bW⟩:∃W2,W2=wr.alloc (.cells (az rn rv rk rb ri rf rt dQ dR dV dX).toArray 30):=⟨_,rfl⟩;have fO:=ay.newAt jd.o (az rn rv rk rb ri rf rt dQ dR dV dX) 30;rw[←bW] at fO⊢;rw[←jd.o];have je:=Z fO;have fP:=Z (show O No wr W2 by rw[bW];exact(O.refl No wr).alloc _);clear k9 fO bW aQ bD bV;go_loopw [79] (λQ wr=>∃m:Nat,Q=.int .i64 m∧m<=n∧(∀d∈N.take m,d.name≠rn)∧O No W2 wr) (λQ _=>n - (intOf Q).toNat);case atStart=>exact⟨0,rfl,zL',by simp,O.refl _ _⟩
      case round=>
       obtain⟨m,rfl,og,jf,bn⟩:=hrel;have jg:=Z jf;have G:=Z bn;clear jf bn;by_cases ji:m<n
       .obtain⟨r2,bK⟩:∃r,I[m]?=some r:=⟨_,List.getElem?_eq_getElem (by omega)⟩;obtain⟨d2,fQ⟩:∃d,N[m]?=some d:=⟨_,List.getElem?_eq_getElem (by rw[aj.o.len];exact ji)⟩;have fU:=aj.o.val m r2 d2 bK fQ;have mr:=Z fQ;obtain⟨mD,mG,fV,bM,aW⟩:=HD.o.at (i:=m) (r:=r2) bK;cases fV;have aW:=(((aW.X H.o (λe=>af.o (e▸bM.1))).X aj.o.X (λe=>af.o (e▸bM.1))).X fP.o id).X G.o id;obtain⟨bG,dH⟩:=fU.one;obtain⟨bY,jk,jl,jm,jo,jq,jr,jw,jy,jA,jB,rfl,jC, -⟩:=fU.cells;have mJ:=Z jC;have fZ:(m:Int)<(n:Int):=(by omega);clear bK fQ fU jC bM;have k8:(wr.alloc (.cells (az bY jk jl jm jo jq jr jw jy jA jB).toArray 30)).cell? ⟨g8,0,none⟩=some (.string rn):=((je.o.X G.o id).alloc _).cell 0;have q8:(wr.alloc (.cells (az bY jk jl jm jo jq jr jw jy jA jB).toArray 30)).cell? ⟨wr.heap.size,0,none⟩=some (.string bY):=(ay.new wr _ 30).cell 0;by_cases aC:rn=bY
        .have gm:(rn.toList==bY.toList)=true:=by rw[aS];simpa using aC
         clear aC;go_wp2_with (first|(with_reducible refine V rfl aK rfl rfl aW bG ?_)|(with_reducible refine ak rfl aK rfl rfl rfl rfl bG dH ?_));go_ret;exact⟨false,rfl,(((H.o.trans aj.o.X nE).trans' fP.o).trans' G.o).alloc _,λh=>by cases h⟩
        .have gm:(rn.toList==bY.toList)=false:=by rw[aS];simpa using aC
         have dY:=Z aC;clear aC;go_wp2_with (first|(with_reducible refine V rfl aK rfl rfl aW bG ?_)|(with_reducible refine ak rfl aK rfl rfl rfl rfl bG dH ?_));go_roundw;case rel=>exact⟨m+1,by go_num,by omega,bP mr.o jg.o (by rw[mJ.o];exact λe=>dY.o e.symm),G.o.alloc _⟩
         case measure=>simp[intOf];omega
       .have fZ:¬(m:Int)<(n:Int):=(by omega);have mM:=Z (show rn∉N.map Ch.name from λhm=>by
         obtain⟨d,E,he⟩:=List.mem_map.1 hm;exact eG (P:=λd=>Ch.name d≠rn) (by rw[aj.o.len];omega) jg.o d E he)
        have b8:=(je.o.X G.o id).cells;have bH:=Z (fP.o.trans' G.o);have mO:(L:Int)<=4000:=by have:=HL.o;omega
        go_wp2_with (first|(with_reducible refine V rfl aK rfl rfl b8 rfl ?_))
        clear mO;have jD:=IH.o (okB ok w) (az rn rv rk rb ri rf rt dQ dR dV dX) wr p (c - (1+jR N)) (((mg.o.X aj.o.X (λb hb e=>af.o (e▸hb.1))).X bH.o nE).mono (λb _ h=>h)) (aj.o.jh.X bH.o id) (λh=>af.o h.1) (by have:=HC.o;omega) (by have:=HL.o;omega);refine Calls.mono jD ?_;rintro e w7 ⟨rr,rfl,aZ,dI⟩;have R:=Z ((bH.o.mono (S':=(·=p)) (λ_ _ e=>e.elim)).trans aZ nE);have dZ:=Z dI;clear aZ dI jD b8;cases rr with
        |false=>go_wp2;go_ret;exact⟨false,rfl,(H.o.trans aj.o.X nE).trans R.o nE,λh=>by cases h⟩
        |true=>
         have jE:∃d,CL ok w p c L I wc w7 (n+1) (N++[d]):=by obtain⟨d,T,h2,h3,h4⟩:=dZ.o rfl;exact⟨d,aj.o.step mi.o af.o T h2 (by rw[DJ T];exact mM.o) h3 R.o h4⟩
         have mP:=Z jE;clear jE;go_wp2_with fail;go_roundw;case rel=>obtain⟨d,E⟩:=mP.o;exact⟨n+1,N++[d],by go_num,E⟩
         case measure=>simp[intOf];omega
     .have gp:n=I.length:=Nat.le_antisymm aj.o.le (Nat.not_lt.1 dG);subst gp;have fM:¬((I.length:Nat):Int)<(I.length:Int):=(by omega);have gu:=Z (fH.o.X aj.o.X (λe=>fJ.o e.symm));have H:=Z (H.o.trans aj.o.X nE);have ed:wr.cell? ⟨w.heap.size,10,none⟩=some (.slice wa U.length bI):=gu.o.cell 10;obtain⟨W3,gz⟩:∃W3,W3=wr:=⟨_,rfl⟩;have aF:=Z (show CL ok w p c L I wc W3 I.length N by rw[gz];exact aj.o);rw[←gz] at ed gu H⊢;clear gz aj;go_wp2_with fail;clear ed;go_loopw [99] (λQ wr=>∃n:Nat,Q=.int .i64 n∧n<=U.length∧n<=c - (1+jR N)∧(∀x∈xs.take n,mF x)∧(xs.take n).Pairwise (λa b=>kL b a)∧(∀x∈xs.take n,∀d∈N,x.bF≠d.name)∧O (·=p) W3 wr∧ay wr p [.int .i64 ((c - (1+jR N) - n:Nat):Int)] 3) (λQ _=>U.length - (intOf Q).toNat);case atStart=>exact⟨0,rfl,zL',zL',by simp,by simp,by simp,O.refl _ _,aF.o.jh⟩
      case round=>
       obtain⟨n,rfl,oh,jF,dE,jG,jH,bn,aB⟩:=hrel;have bU:=Z dE;have gB:=Z jG;have gG:=Z jH;have G:=Z bn;have dJ:=Z aB;have jI:=Z jF;clear dE jG jH bn aB jF;by_cases dG:n<U.length
       .obtain⟨r,bC⟩:=gX' U n (dG);obtain⟨x,hx⟩:=gX' xs n ((by rw[←HM.o];exact dG));have jJ:=eX.o n r x bC hx;have dn:=lL.o x (mG' hx);obtain⟨lb,lo,rfl,bJ,aQ⟩:=HW.o.at (i:=n) (r:=r) bC;have aQ:=(aQ.X H.o (λe=>af.o (e▸bJ.1))).X G.o (λe=>af.o (e▸bJ.1));obtain⟨bD,bV⟩:=jJ.len;obtain⟨bQ,oq,rfl,mQ,jK⟩:=jJ;have dK:=Z dn;have HX:=Z hx;have jL:=jK.1;obtain⟨-, -,ia,ic,rfl, -, -⟩:=jK;simp only[dS,List.length_map] at jL aQ bD bV;unfold maxLen at jL;obtain⟨m,gI⟩:∃m,m=c - (1+jR N) - n:=⟨_,rfl⟩;have jM:=Z gI;have aB:=dJ.o;rw[←gI] at aB;have jO:=Z aB;have ou:(m:Int)<=40:=by have:=HC.o;omega
        have dh:wr.cell? ⟨p,0,none⟩=some (.int .i64 (m:Int)):=aB.cell 0;have di:=aB.frozen 0;have dm:=aB.lt;have fM:(n:Int)<(U.length:Int):=(by omega);have bf:∀W,((wr.setCell ⟨p,0,none⟩ (.int .i64 ((m:Int) - 1))).alloc (.cells (aI x bQ (.slice ia x.imports.length ic)).toArray 79))=W→
          ay W p [.int .i64 ((m:Int) - 1)] 3∧O (·=p) wr W∧ay W wr.heap.size (aI x bQ (.slice ia x.imports.length ic)) 79:=by
         rintro W rfl;obtain⟨T,h2,h3⟩:=jO.o.setCell 0 (.int .i64 ((m:Int) - 1));refine⟨T.alloc _,h2.alloc _,?_⟩;have h4:=ay.new (wr.setCell ⟨p,0,none⟩ (.int .i64 ((m:Int) - 1))) (aI x bQ (.slice ia x.imports.length ic)) 79
         rwa[h3] at h4
        have HF:=Z bf;have mV:=Z (show p≠wr.heap.size by omega);clear hx bC dn bJ mQ gI aB bf;go_upto_region 20 with(first|(with_reducible refine V rfl dD rfl rfl aQ bD ?_)|(with_reducible refine ak rfl dD rfl rfl rfl rfl bD bV ?_))
        generalize bg:World.alloc _ _=W5;obtain⟨b5,c5,gK⟩:=HF.o W5 bg;clear bg HF;obtain⟨gx,jP⟩:∃g,g=wr.heap.size:=⟨_,rfl⟩;rw[←jP] at gK mV⊢;have jQ:=Z b5;have eu:=Z (G.o.trans c5 nE);have bZ:=Z gK;have q0:W5.cell? ⟨p,0,none⟩=some (.int .i64 ((m:Int) - 1)):=b5.cell 0;clear b5 c5 gK dh di dm jP aQ bD bV;by_cases h0:(m:Int) - 1<0
        .go_wp2;go_ret;exact⟨false,rfl,H.o.trans eu.o nE,λh=>by cases h⟩
        have jS:=Z (show 1<=m by omega);have jT:=Z (show ay W5 p [.int .i64 ((m - 1:Nat):Int)] 3 by rw[Int.natCast_sub jS.o];exact jQ.o)
        go_cut [99,141] from 99 to 191 (λmW mX mY=>mW=.int .i64 n∧∃r:Bool,mX=.bool r∧O No W5 mY∧(r=false→mF x))
        case first=>
         have x6:W5.cell? ⟨gx,6,none⟩=some (.slice ia x.imports.length ic):=bZ.o.cell 6;have x0:W5.cell? ⟨gx,0,none⟩=some (.string x.name):=bZ.o.cell 0;rcases Decidable.em ((20:Int)<(x.imports.length:Int)) with bz|bz
         .go_wp2_with fail
          go_meet
          exact⟨rfl,true,rfl,O.refl _ _,λh=>by cases h⟩
         have oz:decide ((20:Int)<(x.imports.length:Int))=false:=decide_eq_false bz;have jU:=Z (show x.imports.length<=20 by omega);clear bz;go_wp2_with fail;refine(nN x.name dK.o.name.ok _).mono ?_;rintro e w6 ⟨r2,rfl,jV,bu⟩;obtain rfl:=jV.symm;have bT:=Z bu;clear jV bu x6 x0;cases r2 with
         |false=>
          go_wp2_with fail
          go_meet
          exact⟨rfl,true,rfl,O.refl _ _,λh=>by cases h⟩
         |true=>
          have x1:W5.cell? ⟨gx,1,none⟩=some (.string x.version):=bZ.o.cell 1;go_wp2_with fail;refine(nO x.version (by have:=dK.o.fB;unfold gq at this;omega) _).mono ?_;rintro e w7 ⟨r3,rfl,aZ,dI⟩;have R:=Z aZ;have dZ:=Z dI;have x3:w7.cell? ⟨gx,3,none⟩=some (.string x.bF):=(bZ.o.X aZ id).cell 3;clear aZ dI x1;cases r3 with
          |false=>
           go_wp2_with fail
           go_meet
           exact⟨rfl,true,rfl,R.o,λh=>by cases h⟩
          |true=>
           by_cases ha:x.bF=ByteArray.empty
           .have mZ:(x.bF.toList==[])=true:=by rw[kW];simpa using ha
            have HA:=Z ha;clear ha;go_wp2_with fail
            go_meet
            exact⟨rfl,false,rfl,R.o,λ_=>⟨dK.o,jU.o,bT.o trivial,dZ.o trivial,.inl HA.o⟩⟩
           .have mZ:(x.bF.toList==[])=false:=by rw[kW];simpa using ha
            clear ha;go_wp2_with fail;refine(nN x.bF dK.o.yE.ok _).mono ?_;rintro e w8 ⟨r4,rfl,jW,jX⟩;obtain rfl:=jW.symm;have ng:=Z jX;clear jW jX x3;cases r4 with
            |false=>
             go_wp2_with fail
             go_meet
             exact⟨rfl,true,rfl,R.o,λh=>by cases h⟩
            |true=>
             go_wp2_with fail
             go_meet
             exact⟨rfl,false,rfl,R.o,λ_=>⟨dK.o,jU.o,bT.o trivial,dZ.o trivial,.inr (ng.o trivial)⟩⟩
        case rest=>
         obtain⟨rfl,r,rfl,aN,jY⟩:=hcut;have ax:=Z aN;have jZ:=Z jY;clear aN jY q0;cases r with
         |true=>go_wp2;go_ret;exact⟨false,rfl,(H.o.trans eu.o nE).trans' ax.o,λh=>by cases h⟩
         |false=>
          have ni:=Z (jZ.o rfl);have eF:=Z (eu.o.trans' ax.o);have ny:=Z (jT.o.X ax.o id);have aU:=Z (bZ.o.X ax.o id);have ku:=Z (gu.o.X eF.o (λe=>fJ.o e.symm));have ed:wc.cell? ⟨w.heap.size,10,none⟩=some (.slice (some ⟨lb,lo,none⟩) U.length bI):=ku.o.cell 10;have ja:(n:Int)<=(bI:Int):=by have:=iK.o;omega
          have jb:bI≠0:=by have:=iK.o;omega
          clear jZ jO eu bZ jQ jT ax;go_wp2_with fail;clear ed ja jb;go_loopw [147] (λQ wr=>∃m2:Nat,Q=.int .i64 m2∧m2<=n∧(∀y∈xs.take m2,kL x y)∧O No wc wr) (λQ _=>n - (intOf Q).toNat);case atStart=>exact⟨0,rfl,zL',by simp,O.refl _ _⟩
          case round=>
           obtain⟨m2,rfl,oC,kz,aZ⟩:=hrel;have gQ:=Z kz;have R:=Z aZ;clear kz aZ;by_cases ji:m2<n
           .obtain⟨r2,bK⟩:∃r,U[m2]?=some r:=⟨_,List.getElem?_eq_getElem (by omega)⟩;obtain⟨y,hy⟩:=gX' xs m2 ((by rw[←HM.o];omega));have kC:=eX.o m2 r2 y bK hy;obtain⟨mD,mG,fV,bM,aW⟩:=HW.o.at (i:=m2) (r:=r2) bK;cases fV;have aW:=((aW.X H.o (λe=>af.o (e▸bM.1))).X eF.o (λe=>af.o (e▸bM.1))).X R.o id;obtain⟨bG,dH⟩:=kC.len;obtain⟨cu,cO,rfl, -, -⟩:=kC;have HY:=Z hy;have fZ:(m2:Int)<(n:Int):=(by omega);clear bK hy bM;obtain⟨gy,kD⟩:∃g,g=wr.heap.size:=⟨_,rfl⟩;have kE:=Z kD;clear kD;go_upto_region 25 with(first|(with_reducible refine V rfl dD rfl rfl aW bG ?_)|(with_reducible refine ak rfl dD rfl rfl rfl rfl bG dH ?_))
            obtain⟨wx,gU⟩:∃wx,wx=wr.alloc (.cells (aI y cu cO).toArray 79):=⟨_,rfl⟩;have gV:=ay.newAt kE.o (aI y cu cO) 79;rw[←gU] at gV⊢;rw[←kE.o];have eH:=Z gV;have gW:=Z (show O No wr wx by rw[gU];exact(O.refl No wr).alloc _);have aU:=Z (aU.o.X (R.o.trans' gW.o) id);clear gV gU aW bG dH;obtain⟨B,gX⟩:∃b,(x.name.toList==y.name.toList)=b:=⟨_,rfl⟩;obtain⟨D,gY⟩:∃b,((named x).toList==(named y).toList)=b:=⟨_,rfl⟩;obtain⟨S,aB⟩:∃b,(x.name.toList==(named y).toList)=b:=⟨_,rfl⟩;obtain⟨b4,gZ⟩:∃b,((named x).toList==y.name.toList)=b:=⟨_,rfl⟩;have dN:=Z gX;have kF:=Z gY;have dJ:=Z aB;have kH:=Z gZ;clear gX gY aB gZ;refine aT (FI [.eq (.pointer (some ⟨gx,0,none⟩)),.eq (.string x.name),.eq (.pointer (some ⟨gy,0,none⟩)),.eq (.string y.name),.eq (.bool B),.eq (.bool B),.unless B (.eq (.agg (aI x bQ (.slice ia x.imports.length ic)).toArray)),.unless B (.eq (.string (named x))),.unless B (.eq (.agg (aI y cu cO).toArray)),.unless B (.eq (.string (named y))),.unless B (.eq (.bool D)),.eq (.bool (B||D)),.eq (.bool (B||D)),.unless (B||D) (.eq (.pointer (some ⟨gx,0,none⟩))),.unless (B||D) (.eq (.string x.name)),.unless (B||D) (.eq (.agg (aI y cu cO).toArray)),.unless (B||D) (.eq (.string (named y))),.unless (B||D) (.eq (.bool S)),.eq (.bool ((B||D)||S)),.eq (.bool (B||D||S)),.unless (B||D||S) (.eq (.agg (aI x bQ (.slice ia x.imports.length ic)).toArray)),.unless (B||D||S) (.eq (.string (named x))),.unless (B||D||S) (.eq (.pointer (some ⟨gy,0,none⟩))),.unless (B||D||S) (.eq (.string y.name)),.unless (B||D||S) (.eq (.bool b4)),.eq (.bool ((B||D||S)||b4))])
             (λJ w'=>O No wx w') (by kernel_rfl) (by kernel_rfl) ((O.refl No _).drew) ?_ ?_
            .refine⟨?_,?_,?_,?_,?_,?_,?_,?_,?_,?_,?_,?_,?_,?_,?_,?_,?_,?_,?_,?_,?_,?_,?_,?_,?_,?_,trivial⟩
             .intro J a F K E C l A s u o;have dL:a.tmps[12]?.getD undef=.pointer (some ⟨gx,0,none⟩):=A 12 rfl;clear C l A s;go_simp;exact o _ _ rfl (u.trans' (O.refl No _)) Sy
             .intro J a F K E C l A s u o;have oD:=fq (l 0 151 rfl (s 0 rfl));have c0:F.cell? ⟨gx,0,none⟩=some (.string x.name):=(aU.o.X u id).cell 0;clear C l A s;go_simp;exact o _ _ rfl (u.trans' (O.refl No _)) Sy
             .intro J a F K E C l A s u o;have dM:a.tmps[14]?.getD undef=.pointer (some ⟨gy,0,none⟩):=A 14 rfl;clear C l A s;go_simp;exact o _ _ rfl (u.trans' (O.refl No _)) Sy
             .intro J a F K E C l A s u o;have oG:=fq (l 2 153 rfl (s 2 rfl));have c0:F.cell? ⟨gy,0,none⟩=some (.string y.name):=(eH.o.X u id).cell 0;clear C l A s;go_simp;exact o _ _ rfl (u.trans' (O.refl No _)) Sy
             .intro J a F K E C l A s u o;have oH:=fq (l 1 152 rfl (s 1 rfl));have oI:=fq (l 3 154 rfl (s 3 rfl));have gX:=dN.o;clear C l A s;go_simp;exact o _ _ rfl (u.trans' (O.refl No _)) Sy
             .intro J a F K E C l A s u o;have oJ:=fq (l 4 155 rfl (s 4 rfl));clear C l A s;go_simp;exact o _ _ rfl (u.trans' (O.refl No _)) Sy
             .intro J a F K E C l A s u o;have v:=fq (l 5 156 rfl (s 5 rfl));obtain⟨c,z⟩:∃c,c=B:=⟨_,rfl⟩;rw[←z] at v;cases c with
              |true=>refine gJ rfl rfl v ?_;rw[←z] at o;exact o undef _ trivial u Sy
              |false=>refine iY rfl rfl v ?_;rw[←z] at o l;have dL:a.tmps[12]?.getD undef=.pointer (some ⟨gx,0,none⟩):=A 12 rfl;refine aO dD rfl (vE dL) (aU.o.X u id).cells rfl ?_;exact o _ _ rfl (u.trans' (O.refl No _)) Sy
             .intro J a F K E C l A s u o;have v:=fq (l 5 156 rfl (s 5 rfl));obtain⟨c,z⟩:∃c,c=B:=⟨_,rfl⟩;rw[←z] at v;cases c with
              |true=>refine gJ rfl rfl v ?_;rw[←z] at o;exact o undef _ trivial u Sy
              |false=>refine iY rfl rfl v ?_;rw[←z] at o l;have nz:=fq (l 6 157 rfl (s 6 rfl));refine dW Tryz.call78 rfl (vE nz) (jv x bQ (.slice ia x.imports.length ic) F) ?_;rintro e w2 ⟨rfl,M⟩;exact⟨_,rfl,o _ _ rfl (u.trans' M) (λ_ _ _ _ h=>h.aP M)⟩
             .intro J a F K E C l A s u o;have v:=fq (l 5 156 rfl (s 5 rfl));obtain⟨c,z⟩:∃c,c=B:=⟨_,rfl⟩;rw[←z] at v;cases c with
              |true=>refine gJ rfl rfl v ?_;rw[←z] at o;exact o undef _ trivial u Sy
              |false=>refine iY rfl rfl v ?_;rw[←z] at o l;have dM:a.tmps[14]?.getD undef=.pointer (some ⟨gy,0,none⟩):=A 14 rfl;refine aO dD rfl (vE dM) (eH.o.X u id).cells rfl ?_;exact o _ _ rfl (u.trans' (O.refl No _)) Sy
             .intro J a F K E C l A s u o;have v:=fq (l 5 156 rfl (s 5 rfl));obtain⟨c,z⟩:∃c,c=B:=⟨_,rfl⟩;rw[←z] at v;cases c with
              |true=>refine gJ rfl rfl v ?_;rw[←z] at o;exact o undef _ trivial u Sy
              |false=>refine iY rfl rfl v ?_;rw[←z] at o l;have nC:=fq (l 8 159 rfl (s 8 rfl));refine dW Tryz.call78 rfl (vE nC) (jv y cu cO F) ?_;rintro e w2 ⟨rfl,M⟩;exact⟨_,rfl,o _ _ rfl (u.trans' M) (λ_ _ _ _ h=>h.aP M)⟩
             .intro J a F K E C l A s u o;have v:=fq (l 5 156 rfl (s 5 rfl));obtain⟨c,z⟩:∃c,c=B:=⟨_,rfl⟩;rw[←z] at v;cases c with
              |true=>refine gJ rfl rfl v ?_;rw[←z] at o;exact o undef _ trivial u Sy
              |false=>refine iY rfl rfl v ?_;rw[←z] at o l;have oK:=fq (l 7 158 rfl (s 7 rfl));have oL:=fq (l 9 160 rfl (s 9 rfl));have gY:=kF.o;clear C l A s v z;go_simp;exact o _ _ rfl (u.trans' (O.refl No _)) Sy
             .intro J a F K E C l A s u o
              (cases B)<;>first|(have nD:=fq (l 5 156 rfl (s 5 rfl));clear C l A s;go_simp;exact o _ _ rfl (u.trans' (O.refl No _)) Sy)|(have nD:=fq (l 5 156 rfl (s 5 rfl));have oM:=fq (l 10 161 rfl (s 10 rfl));clear C l A s;go_simp;exact o _ _ rfl (u.trans' (O.refl No _)) Sy)
             .intro J a F K E C l A s u o;have oN:=fq (l 11 162 rfl (s 11 rfl));clear C l A s;go_simp;exact o _ _ rfl (u.trans' (O.refl No _)) Sy
             .intro J a F K E C l A s u o;have v:=fq (l 12 163 rfl (s 12 rfl));obtain⟨c,z⟩:∃c,c=(B||D):=⟨_,rfl⟩;rw[←z] at v;cases c with
              |true=>refine gJ rfl rfl v ?_;rw[←z] at o;exact o undef _ trivial u Sy
              |false=>refine iY rfl rfl v ?_;rw[←z] at o l;have dL:a.tmps[12]?.getD undef=.pointer (some ⟨gx,0,none⟩):=A 12 rfl;clear C l A s v z;go_simp;exact o _ _ rfl (u.trans' (O.refl No _)) Sy
             .intro J a F K E C l A s u o;have v:=fq (l 12 163 rfl (s 12 rfl));obtain⟨c,z⟩:∃c,c=(B||D):=⟨_,rfl⟩;rw[←z] at v;cases c with
              |true=>refine gJ rfl rfl v ?_;rw[←z] at o;exact o undef _ trivial u Sy
              |false=>refine iY rfl rfl v ?_;rw[←z] at o l;have oO:=fq (l 13 164 rfl (s 13 rfl));have c0:F.cell? ⟨gx,0,none⟩=some (.string x.name):=(aU.o.X u id).cell 0;clear C l A s v z;go_simp;exact o _ _ rfl (u.trans' (O.refl No _)) Sy
             .intro J a F K E C l A s u o;have v:=fq (l 12 163 rfl (s 12 rfl));obtain⟨c,z⟩:∃c,c=(B||D):=⟨_,rfl⟩;rw[←z] at v;cases c with
              |true=>refine gJ rfl rfl v ?_;rw[←z] at o;exact o undef _ trivial u Sy
              |false=>refine iY rfl rfl v ?_;rw[←z] at o l;have dM:a.tmps[14]?.getD undef=.pointer (some ⟨gy,0,none⟩):=A 14 rfl;refine aO dD rfl (vE dM) (eH.o.X u id).cells rfl ?_;exact o _ _ rfl (u.trans' (O.refl No _)) Sy
             .intro J a F K E C l A s u o;have v:=fq (l 12 163 rfl (s 12 rfl));obtain⟨c,z⟩:∃c,c=(B||D):=⟨_,rfl⟩;rw[←z] at v;cases c with
              |true=>refine gJ rfl rfl v ?_;rw[←z] at o;exact o undef _ trivial u Sy
              |false=>refine iY rfl rfl v ?_;rw[←z] at o l;have nG:=fq (l 15 166 rfl (s 15 rfl));refine dW Tryz.call78 rfl (vE nG) (jv y cu cO F) ?_;rintro e w2 ⟨rfl,M⟩;exact⟨_,rfl,o _ _ rfl (u.trans' M) (λ_ _ _ _ h=>h.aP M)⟩
             .intro J a F K E C l A s u o;have v:=fq (l 12 163 rfl (s 12 rfl));obtain⟨c,z⟩:∃c,c=(B||D):=⟨_,rfl⟩;rw[←z] at v;cases c with
              |true=>refine gJ rfl rfl v ?_;rw[←z] at o;exact o undef _ trivial u Sy
              |false=>refine iY rfl rfl v ?_;rw[←z] at o l;have oP:=fq (l 14 165 rfl (s 14 rfl));have oQ:=fq (l 16 167 rfl (s 16 rfl));have aB:=dJ.o;clear C l A s v z;go_simp;exact o _ _ rfl (u.trans' (O.refl No _)) Sy
             .intro J a F K E C l A s u o
              (cases B<;>cases D)<;>first|(have nH:=fq (l 12 163 rfl (s 12 rfl));clear C l A s;go_simp;exact o _ _ rfl (u.trans' (O.refl No _)) Sy)|(have nH:=fq (l 12 163 rfl (s 12 rfl));have oU:=fq (l 17 168 rfl (s 17 rfl));clear C l A s;go_simp;exact o _ _ rfl (u.trans' (O.refl No _)) Sy)
             .intro J a F K E C l A s u o;have oV:=fq (l 18 169 rfl (s 18 rfl));clear C l A s;go_simp;exact o _ _ rfl (u.trans' (O.refl No _)) Sy
             .intro J a F K E C l A s u o;have v:=fq (l 19 170 rfl (s 19 rfl));obtain⟨c,z⟩:∃c,c=(B||D||S):=⟨_,rfl⟩;rw[←z] at v;cases c with
              |true=>refine gJ rfl rfl v ?_;rw[←z] at o;exact o undef _ trivial u Sy
              |false=>refine iY rfl rfl v ?_;rw[←z] at o l;have dL:a.tmps[12]?.getD undef=.pointer (some ⟨gx,0,none⟩):=A 12 rfl;refine aO dD rfl (vE dL) (aU.o.X u id).cells rfl ?_;exact o _ _ rfl (u.trans' (O.refl No _)) Sy
             .intro J a F K E C l A s u o;have v:=fq (l 19 170 rfl (s 19 rfl));obtain⟨c,z⟩:∃c,c=(B||D||S):=⟨_,rfl⟩;rw[←z] at v;cases c with
              |true=>refine gJ rfl rfl v ?_;rw[←z] at o;exact o undef _ trivial u Sy
              |false=>refine iY rfl rfl v ?_;rw[←z] at o l;have nI:=fq (l 20 171 rfl (s 20 rfl));refine dW Tryz.call78 rfl (vE nI) (jv x bQ (.slice ia x.imports.length ic) F) ?_;rintro e w2 ⟨rfl,M⟩;exact⟨_,rfl,o _ _ rfl (u.trans' M) (λ_ _ _ _ h=>h.aP M)⟩
             .intro J a F K E C l A s u o;have v:=fq (l 19 170 rfl (s 19 rfl));obtain⟨c,z⟩:∃c,c=(B||D||S):=⟨_,rfl⟩;rw[←z] at v;cases c with
              |true=>refine gJ rfl rfl v ?_;rw[←z] at o;exact o undef _ trivial u Sy
              |false=>refine iY rfl rfl v ?_;rw[←z] at o l;have dM:a.tmps[14]?.getD undef=.pointer (some ⟨gy,0,none⟩):=A 14 rfl;clear C l A s v z;go_simp;exact o _ _ rfl (u.trans' (O.refl No _)) Sy
             .intro J a F K E C l A s u o;have v:=fq (l 19 170 rfl (s 19 rfl));obtain⟨c,z⟩:∃c,c=(B||D||S):=⟨_,rfl⟩;rw[←z] at v;cases c with
              |true=>refine gJ rfl rfl v ?_;rw[←z] at o;exact o undef _ trivial u Sy
              |false=>refine iY rfl rfl v ?_;rw[←z] at o l;have oW:=fq (l 22 173 rfl (s 22 rfl));have c0:F.cell? ⟨gy,0,none⟩=some (.string y.name):=(eH.o.X u id).cell 0;clear C l A s v z;go_simp;exact o _ _ rfl (u.trans' (O.refl No _)) Sy
             .intro J a F K E C l A s u o;have v:=fq (l 19 170 rfl (s 19 rfl));obtain⟨c,z⟩:∃c,c=(B||D||S):=⟨_,rfl⟩;rw[←z] at v;cases c with
              |true=>refine gJ rfl rfl v ?_;rw[←z] at o;exact o undef _ trivial u Sy
              |false=>refine iY rfl rfl v ?_;rw[←z] at o l;have oZ:=fq (l 21 172 rfl (s 21 rfl));have o5:=fq (l 23 174 rfl (s 23 rfl));have gZ:=kH.o;clear C l A s v z;go_simp;exact o _ _ rfl (u.trans' (O.refl No _)) Sy
             .intro J a F K E C l A s u o
              (cases B<;>cases D<;>cases S)<;>first|(have nJ:=fq (l 19 170 rfl (s 19 rfl));clear C l A s;go_simp;exact o _ _ rfl (u.trans' (O.refl No _)) Sy)|(have nJ:=fq (l 19 170 rfl (s 19 rfl));have o6:=fq (l 24 175 rfl (s 24 rfl));clear C l A s;go_simp;exact o _ _ rfl (u.trans' (O.refl No _)) Sy)
            .intro vs w2 dF nK u;have kJ:vs 25=.bool (B||D||S||b4):=dF 25 _ rfl (by simp);have ig:=Z u;obtain⟨W2,bW⟩:∃W2,W2=w2:=⟨_,rfl⟩;rw[←bW] at ig⊢;clear dF nK u bW;simp only[aX,Act.put,List.setIfInBounds_toArray,List.set_cons_succ,List.set_cons_zero,kJ];generalize kK:(B||D||S||b4)=bb;have nM:=Z kK;clear kK kJ;cases bb with
             |true=>go_wp2;go_ret;exact⟨false,rfl,(((H.o.trans eF.o nE).trans' R.o).trans' gW.o).trans' ig.o,λh=>by cases h⟩
             |false=>
              have nP:=Z (show kL x y by have h:=nM.o;simp only[Bool.or_eq_false_iff] at h;obtain⟨⟨⟨T,h2⟩,h3⟩,h4⟩:=h;have e1:=dN.o;have e2:=kF.o;have e3:=dJ.o;have e4:=kH.o;rw[T,aS] at e1;rw[h2,aS] at e2;rw[h3,aS] at e3;rw[h4,aS] at e4;exact⟨of_decide_eq_false e1,of_decide_eq_false e2,of_decide_eq_false e3,of_decide_eq_false e4⟩);go_wp2_with fail
              go_roundw;case rel=>exact⟨m2+1,by go_num,by omega,bP HY.o gQ.o nP.o,R.o.trans' (gW.o.trans' ig.o)⟩
              case measure=>simp[intOf];omega
           .have fZ:¬(m2:Int)<(n:Int):=(by omega);have nR:=Z (show ∀y∈xs.take n,kL x y by
             rw[show n=m2 by omega];exact gQ.o)
            have q9:wr.cell? ⟨w.heap.size,9,none⟩=some (.slice da I.length dc):=(ku.o.X R.o id).cell 9;have bH:=Z (eF.o.trans' R.o);have kM:=Z (ny.o.X R.o id);have aU:=Z (aU.o.X R.o id);obtain⟨W8,kN⟩:∃W8,W8=wr:=⟨_,rfl⟩;rw[←kN] at q9 bH kM aU⊢;clear kN gQ R;go_wp2_with fail;clear q9;go_loopw [181] (λQ wr=>∃q:Nat,Q=.int .i64 q∧q<=I.length∧(∀d∈N.take q,x.bF≠d.name)∧O No W8 wr) (λQ _=>I.length - (intOf Q).toNat);case atStart=>exact⟨0,rfl,zL',by simp,O.refl _ _⟩
            case round=>
             obtain⟨q,rfl,hq,kP,kQ⟩:=hrel;have dY:=Z kP;have cZ:=Z kQ;clear kP kQ;by_cases kR:q<I.length
             .obtain⟨r3,ik⟩:∃r,I[q]?=some r:=⟨_,List.getElem?_eq_getElem kR⟩;obtain⟨d3,iq⟩:∃d,N[q]?=some d:=⟨_,List.getElem?_eq_getElem (by rw[aF.o.len];exact kR)⟩;have iw:=aF.o.val q r3 d3 ik iq;have nS:=Z iq;obtain⟨o7,o8,rfl,iy,eP⟩:=HD.o.at (i:=q) (r:=r3) ik;have eP:=((eP.X H.o (λe=>af.o (e▸iy.1))).X bH.o (λe=>af.o (e▸iy.1))).X cZ.o id;obtain⟨eQ,kS⟩:=iw.one;obtain⟨df,kT,kU,kV,kX,kY,kZ,lg,lh,lq,lu,rfl,lD, -⟩:=iw.cells;have nT:=Z lD;have nU:(q:Int)<(I.length:Int):=(by omega);clear ik iq iw lD iy;have y0:(wr.alloc (.cells (az df kT kU kV kX kY kZ lg lh lq lu).toArray 30)).cell? ⟨wr.heap.size,0,none⟩=some (.string df):=(ay.new wr _ 30).cell 0;have x3:(wr.alloc (.cells (az df kT kU kV kX kY kZ lg lh lq lu).toArray 30)).cell? ⟨gx,3,none⟩=some (.string x.bF):=((aU.o.X cZ.o id).alloc _).cell 3;by_cases aC:x.bF=df
              .have gm:(x.bF.toList==df.toList)=true:=by rw[aS];simpa using aC
               clear aC;go_wp2_with (first|(with_reducible refine V rfl aK rfl rfl eP eQ ?_)|(with_reducible refine ak rfl aK rfl rfl rfl rfl eQ kS ?_));go_ret;exact⟨false,rfl,((H.o.trans bH.o nE).trans' cZ.o).alloc _,λh=>by cases h⟩
              .have gm:(x.bF.toList==df.toList)=false:=by rw[aS];simpa using aC
               have nV:=Z aC;clear aC;go_wp2_with (first|(with_reducible refine V rfl aK rfl rfl eP eQ ?_)|(with_reducible refine ak rfl aK rfl rfl rfl rfl eQ kS ?_));go_roundw;case rel=>exact⟨q+1,by go_num,by omega,bP nS.o dY.o (by rw[nT.o];exact nV.o),cZ.o.alloc _⟩
               case measure=>simp[intOf];omega
             .have nU:¬(q:Int)<(I.length:Int):=(by omega);have nX:=Z (eG (P:=λd=>x.bF≠Ch.name d) (by rw[aF.o.len];omega) dY.o);go_wp2_with fail;go_roundw
              case rel=>
               refine⟨n+1,by go_num,by omega,by have:=jS.o;have:=jM.o;omega,bP HX.o bU.o ni.o,?_,?_,bH.o.trans' cZ.o,?_⟩
               .rw[List.take_add_one,HX.o];refine List.pairwise_append.2 ⟨gB.o,by simp,λa ha b hb=> ?_⟩;obtain rfl:b=x:=(by simpa using hb);exact nR.o a ha
               .exact bP (P:=λx=>∀d∈N,x.bF≠Ch.name d) HX.o gG.o nX.o
               .rw[show c - (1+jR N) - (n+1)=m - 1 by have:=jM.o;omega];exact kM.o.X cZ.o id
              case measure=>simp[intOf];omega
       .have gp:n=U.length:=(by omega);subst gp;have fM:¬((U.length:Nat):Int)<(U.length:Int):=(by omega);have lF:xs.take U.length=xs:=List.take_of_length_le (by rw[HM.o];exact lR');have lG:=Z bU.o;have lH:=Z gB.o;have lI:=Z gG.o;rw[lF] at lG lH lI;clear lF bU gB gG;go_wp2;go_ret;refine⟨true,rfl,H.o.trans G.o nE,λ_=>⟨.mk name aH vals N xs,?_,?_,?_,?_⟩⟩
        .have aA:∀b,okB ok w b→¬b=p:=λb hb e=>af.o (e▸hb.1)
         refine dU.mono (ok:=okB ok w) (dU.of ((lY.o.X aF.o.X aA).X G.o aA) ((HD.o.X H.o aA).X G.o aA) aF.o.len.symm (λn r d T h2=>(aF.o.val n r d T h2).X G.o aA) ((HW.o.X H.o aA).X G.o aA) HM.o
          (λn r x T h2=>((eX.o n r x T h2).X H.o aA).X G.o aA)) (λb _ h=>h.1)
        .refine⟨lZ.o,l7.o,⟨l9.o,eU.o⟩,by have:=aF.o.len;show N.length<=20;omega,aF.o.nd,aF.o.good,by have:=jI.o;have:=HC.o;have:=HM.o;show xs.length<=40;omega,lG.o,lH.o.imp (λh=>kL.symm h),lI.o⟩
        .have:=jI.o;have:=aF.o.cnt;have:=HM.o;simp only[cnt];omega
        .have T:=dJ.o;rw[show c - cnt (.mk name aH vals N xs)=c - (1+jR N) - U.length by have:=HM.o;simp only[cnt];omega];exact T
theorem yK{ok:ae}{cs:Y}{w:World}(h:kG ok w cs):Calls Tryz.prog 34 #[.agg cs.toArray] w (fA w λr z=>r=true→∃a,dU ok z cs a∧nM 6 a∧cnt a<=40):=by
 have H:=Z h;have I:=h.one.1;obtain⟨name,c,k,b,i,f,t,d,g,j,l,rfl, -⟩:=h.cells;have n:∀W,(w.alloc (.cells (az name c k b i f t d g j l).toArray 30)).alloc (.cells [.int .i64 (40:Int)].toArray 3)=W→
   ay W w.heap.size (az name c k b i f t d g j l) 30∧ay W (w.heap.size+1) [.int .i64 (40:Int)] 3∧O No w W:=by
  rintro W rfl;exact⟨(ay.new _ _ _).alloc _,ay.newAt (by simp) _ _,((O.refl No w).alloc _).alloc _⟩
 have o:=Z n;clear h n;go_enter Tryz.func34,Tryz.ntmps34;unfold az;go_upto_region 2 with fail
 generalize p:World.alloc _ _=W;obtain⟨A,q,s⟩:=o.o W p;clear p o;have B:=Z q;have u:=Z s;clear q s;go_wp2_with (first|(with_reducible refine V rfl aK rfl rfl A.cells rfl ?_));have v:=DK 6 (okB ok w) (az name c k b i f t d g j l) W (w.heap.size+1) 40 ((H.o.mono (ok':=okB ok w) (λb m h=>⟨h,m⟩)).X u.o nE) B.o (λh=>by have:=h.2;omega) (by decide) (by decide);refine Calls.mono v ?_;rintro e J ⟨r,rfl,x,y⟩;have C:=Z x;have D:=Z y;clear v x y;go_wp2_with fail;go_ret;refine⟨r,rfl,u.o.trans C.o (λi K e=>by omega),λh=> ?_⟩;obtain⟨a,E,F,G, -⟩:=D.o h;exact⟨a,E.mono (λb _ m=>m.1),F,G⟩
def vZ(w:World)(e:Ending)(a:World):Prop:=e=.returned (.bool true)∧O No w a
theorem gq.int{k:K}(h:gq k):¬(2147483647:Int)<(k.size:Int):=by unfold gq at h;omega
abbrev cu(i:iy):Y:=[.string i.plain,.string i.child,.string i.parent,.bool i.isMap]
theorem Be(i:iy)(h:gq i.plain∧gq i.child∧gq i.parent)(w:World):Calls Tryz.prog 128 #[.agg (cu i).toArray] w (vZ w):=by
 have g:=h.1.int;have j:=h.2.1.int;have k:=h.2.2.int;have b:∀W,(w.alloc (.cells (cu i).toArray 110))=W→ay W w.heap.size (cu i) 110∧O No w W:=by rintro W rfl;exact⟨ay.new _ _ _,(O.refl No w).alloc _⟩
 have c:=Z b;clear b h;go_enter Tryz.func128,Tryz.ntmps128;unfold cu;go_upto_region 1 with fail
 generalize d:World.alloc _ _=W;obtain⟨a,e⟩:=c.o W d;clear d c;have l:W.cell? ⟨w.heap.size,0,none⟩=some (.string i.plain):=a.cell 0;have m:W.cell? ⟨w.heap.size,1,none⟩=some (.string i.child):=a.cell 1;have n:W.cell? ⟨w.heap.size,2,none⟩=some (.string i.parent):=a.cell 2;have f:=Z e;clear a e;go_wp2;go_ret;exact⟨rfl,f.o⟩
theorem Bf{ok:ae}{v:Value}{w:World}{l:List iy}(h:aC ok w v 4 (dS l))(y:l.length<=1048576)(j:∀i∈l,gq i.plain∧gq i.child∧gq i.parent):Calls Tryz.prog 107 #[v] w (vZ w):=by
 have H:=Z h;have p:=Z j;obtain⟨-, -,a,c,rfl, -, -⟩:=h;simp only[dS,List.length_map] at H⊢;have z:¬(2147483647:Int)<(l.length:Int):=(by omega);clear j;go_enter Tryz.func107,Tryz.ntmps107;go_wp2_with fail;go_loopw [10] (λd wr=>∃n:Nat,d=.int .i64 n∧n<=l.length∧O No w wr) (λd _=>l.length - (intOf d).toNat)
 case atStart=>exact⟨0,rfl,zL',O.refl _ _⟩
 case round=>
  obtain⟨n,rfl,A,f⟩:=hrel;have k:=Z f;by_cases q:n<l.length
  .obtain⟨x,g⟩:=gX' l n (q);obtain⟨B,C,rfl, -,b⟩:=H.o.at (i:=n) (r:=cu x) (by simp[g]);have b:=b.X f id;have s:=Z (p.o x (mG' g));have t:(n:Int)<(l.length:Int):=(by omega);have m:(cu x).all (·.oneCell')=true:=rfl;clear g f;go_wp2_with (first|(with_reducible refine V rfl kH rfl rfl b rfl ?_)|(with_reducible refine ak rfl kH rfl rfl rfl rfl rfl m ?_)|(with_reducible refine V rfl kH rfl rfl (ay.new wr (cu x) 110).cells rfl ?_));refine(Be x s.o (wr.alloc (.cells (cu x).toArray 110))).mono ?_;rintro e w3 ⟨rfl,o⟩;have u:=Z (k.o.trans' (((O.refl No wr).alloc (.cells (cu x).toArray 110)).trans' o));clear o b m;go_wp2_with fail;go_roundw;case rel=>exact⟨n+1,by go_num,by omega,u.o⟩
   case measure=>simp[intOf];omega
  .have t:¬(n:Int)<(l.length:Int):=(by omega);go_wp2;go_ret;exact⟨rfl,k.o⟩
theorem DL{ok:ae}{ks:List K}{v:Value}{w:World}(h:aC ok w v 1 (aH ks))(p:ks.length<=1048576)(g:∀k∈ks,gq k):Calls Tryz.prog 33 #[v] w (vZ w):=by
 have H:=Z h;have l:=Z g;obtain⟨-, -,a,c,rfl, -, -⟩:=h;simp only[aH,List.length_map] at H⊢;have q:¬(2147483647:Int)<(ks.length:Int):=(by omega);clear g;go_enter Tryz.func33,Tryz.ntmps33;go_wp2_with fail;go_loopw [10] (λb wr=>∃n:Nat,b=.int .i64 n∧n<=ks.length∧O No w wr) (λb _=>ks.length - (intOf b).toNat)
 case atStart=>exact⟨0,rfl,zL',O.refl _ _⟩
 case round=>
  obtain⟨n,rfl,s,d⟩:=hrel;have j:=Z d;by_cases m:n<ks.length
  .obtain⟨x,e⟩:=gX' ks n (m);obtain⟨t,u,rfl, -,f⟩:=H.o.at (i:=n) (r:=[.string x]) (by simp[e]);have f:=(f.X d id).one;simp only[Nat.mul_one] at f;have o:(n:Int)<(ks.length:Int):=(by omega);have y:=(l.o x (mG' e)).int;clear e d;go_wp2_with fail;go_roundw;case rel=>exact⟨n+1,by go_num,by omega,j.o⟩
   case measure=>simp[intOf];omega
  .have o:¬(n:Int)<(ks.length:Int):=(by omega);go_wp2;go_ret;exact⟨rfl,j.o⟩
theorem DN{ok:ae}{cs:Y}{x:Want}{w:World}(h:dF ok w cs x)(c:xq x):Calls Tryz.prog 71 #[.agg cs.toArray] w (vZ w):=by
 obtain⟨f,g,rfl,k,l⟩:=h;have t:=Z k;have u:=Z l;have d:=Z c;have H:=c.name.int;have I:=c.fB.int;have J:=c.cond.int;have K:=c.yE.int;have m:∀W,(w.alloc (.cells (aI x f g).toArray 79))=W→ay W w.heap.size (aI x f g) 79∧O No w W∧W.heap.size=w.heap.size+1:=by rintro W rfl;exact⟨ay.new _ _ _,(O.refl No w).alloc _,by simp⟩
 have n:=Z m;clear m c k l;go_enter Tryz.func71,Tryz.ntmps71;unfold aI;go_upto_region 1 with fail
 generalize o:World.alloc _ _=W;obtain⟨a,p,v⟩:=n.o W o;clear o n;have y:W.cell? ⟨w.heap.size,0,none⟩=some (.string x.name):=a.cell 0;have z:W.cell? ⟨w.heap.size,1,none⟩=some (.string x.version):=a.cell 1;have A:W.cell? ⟨w.heap.size,2,none⟩=some (.string x.condition):=a.cell 2;have B:W.cell? ⟨w.heap.size,3,none⟩=some (.string x.bF):=a.cell 3;have C:W.cell? ⟨w.heap.size,4,none⟩=some f:=a.cell 4;have D:=Z a;have q:=Z p;clear a p v;go_wp2_with fail;refine(DL (ok:=okB ok w) ((t.o.mono (λb i h=>⟨h,i⟩) (by decide)).X q.o nE) d.o.tags.1 d.o.tags.2).mono ?_;rintro e E ⟨rfl,j⟩;have r:=Z (q.o.trans' j);have F:E.cell? ⟨w.heap.size,6,none⟩=some g:=(D.o.X j id).cell 6;clear j y z A B C;go_wp2_with fail;refine(Bf (ok:=okB ok w) ((u.o.mono (λb i h=>⟨h,i⟩) (by decide)).X r.o nE) d.o.kD.1 d.o.kD.2).mono ?_;rintro e w6 ⟨rfl,s⟩;have G:=Z (r.o.trans' s);clear s F;go_wp2;go_ret;exact⟨rfl,G.o⟩
theorem DR{ok:ae}{v:Value}{w:World}{d:List (Y)}{xs:List Want}(h:aC ok w v 7 d)(m:d.length=xs.length)(f:∀(n:Nat)(r:Y)(x:Want),d[n]?=some r→xs[n]?=some x→dF ok w r x)(t:∀x∈xs,xq x):Calls Tryz.prog 32 #[v] w (fA w λ_ _=>True):=by
 have H:=Z (h.mono (ok':=okB ok w) (λb g h=>⟨h,g⟩) (by decide));have B:=Z m;have C:=Z (λn r x o D=>(f n r x o D).mono (ok':=okB ok w) (λb g h=>⟨h,g⟩));have E:=Z t;have o:=h.1;obtain⟨-, -,a,c,rfl, -, -⟩:=h;unfold maxLen at o;clear m f t;by_cases g:(2147483647:Int)<(d.length:Int)
 .go_enter Tryz.func32,Tryz.ntmps32;go_wp2;go_ret;exact⟨false,rfl,O.refl _ _,trivial⟩
 .go_enter Tryz.func32,Tryz.ntmps32;go_wp2_with fail;go_loopw [10] (λp wr=>∃n:Nat,p=.int .i64 n∧n<=d.length∧O No w wr) (λp _=>d.length - (intOf p).toNat)
  case atStart=>exact⟨0,rfl,zL',O.refl _ _⟩
  case round=>
   obtain⟨n,rfl,m,j⟩:=hrel;have u:=Z j;by_cases y:n<d.length
   .obtain⟨r,q⟩:=gX' d n (y);obtain⟨x,f⟩:=gX' xs n ((by rw[←B.o];exact y));obtain⟨K,L,rfl, -,k⟩:=H.o.at (i:=n) (r:=r) q;have k:=k.X j id;have s:=(C.o n r x q f).X j nE;obtain⟨l,z⟩:=s.len;have F:=Z (s.X ((O.refl No wr).alloc (.cells r.toArray 79)) nE);have G:=Z (E.o x (mG' f));have I:(n:Int)<(d.length:Int):=(by omega);clear q f j s;go_wp2_with (first|(with_reducible refine V rfl dD rfl rfl k l ?_)|(with_reducible refine ak rfl dD rfl rfl rfl rfl l z ?_)|(with_reducible refine V rfl dD rfl rfl (ay.new wr r 79).cells l ?_));refine(DN F.o G.o).mono ?_;rintro e w3 ⟨rfl,A⟩;have J:=Z (u.o.trans' (((O.refl No wr).alloc (.cells r.toArray 79)).trans' A));clear A k l z;go_wp2_with fail;go_roundw;case rel=>exact⟨n+1,by go_num,by omega,J.o⟩
    case measure=>simp[intOf];omega
   .have I:¬(n:Int)<(d.length:Int):=(by omega);go_wp2;go_ret;exact⟨true,rfl,u.o,trivial⟩
theorem DT{ok:ae}{cs:Y}{w:World}(h:kG ok w cs):Calls Tryz.prog 6 #[.agg cs.toArray] w (fA w λ_ _=>True):=by
 obtain⟨name,g,k,b,i,f,t,o,p,Q,j,rfl,q,s, -, -,⟨c,u, -⟩,⟨R,xs,v,y,z,A⟩⟩:=(h.mono (ok':=okB ok w) (λb B h=>⟨h,B⟩)).cells;have K:=Z v;have L:=Z y;have M:=Z z;have N:=Z A;have C:=q.int;have D:=s.int;have P:=u.1;obtain⟨-, -,l,m,rfl, -, -⟩:=u;unfold maxLen at P;have E:∀W,(w.alloc (.cells (az name g k b i f t o p (.slice l c.length m) j).toArray 30))=W→ay W w.heap.size (az name g k b i f t o p (.slice l c.length m) j) 30∧O No w W:=by rintro W rfl;exact⟨ay.new _ _ _,(O.refl No w).alloc _⟩
 have F:=Z E;clear E h v y z A q s;go_enter Tryz.func6,Tryz.ntmps6;unfold az;go_upto_region 1 with fail
 generalize G:World.alloc _ _=W;obtain⟨a,H⟩:=F.o W G;clear G F;have S:W.cell? ⟨w.heap.size,0,none⟩=some (.string name):=a.cell 0;have T:W.cell? ⟨w.heap.size,1,none⟩=some (.string g):=a.cell 1;have U:W.cell? ⟨w.heap.size,9,none⟩=some (.slice l c.length m):=a.cell 9;have V:W.cell? ⟨w.heap.size,10,none⟩=some j:=a.cell 10;have d:=Z H;clear a H;by_cases B:(2147483647:Int)<(c.length:Int)
 .go_wp2;go_ret;exact⟨false,rfl,d.o,trivial⟩
 .go_wp2_with fail
  refine(DR (K.o.X d.o nE) L.o (λn r x C D=>(M.o n r x C D).X d.o nE) N.o).mono ?_;rintro e w5 ⟨r,rfl,I, -⟩;have J:=Z (d.o.trans' I);clear I;cases r with
  |false=>go_wp2;go_ret;exact⟨false,rfl,J.o,trivial⟩
  |true=>go_wp2;go_ret;exact⟨true,rfl,J.o,trivial⟩
structure JW (ok:ae) (w:World) (cs vs:Y) (ch:Ch) (t:T):Prop where
 Ld:dU ok w cs ch
 gQ:nM 6 ch
 cnt:cnt ch<=40
 JX:aG ok w vs (.table t)
 wf:Wf 300 50 (.table t)
 sz:sz (.table t)<=300
 NM:dC (.table t)
 E5:∀e,Dw e ch
 off:(∀e,Hu e ch)∨∀e,JG e (.table t)
theorem DU{ok:ae}{cs vs:Y}{w:World}(h:kG ok w cs)(C:jK ok w vs):Calls Tryz.prog 8 #[.agg cs.toArray,.agg vs.toArray] w (fA w λr w'=>r=true→∃x t,JW ok w' cs vs x t):=by
 have H:=Z (h.mono (ok':=okB ok w) (λb D h=>⟨h,D⟩));have HV:=Z (C.mono (ok':=okB ok w) (λb D h=>⟨h,D⟩));obtain⟨name,Q,k,b,i,f,t,R,S,T,U,bg, -⟩:=h.cells;obtain⟨q,E,F,G,I,J,K,bn⟩:=C.cells;subst bg;subst bn;have af:∀W,(w.alloc (.cells (az name Q k b i f t R S T U).toArray 30)).alloc (.cells (ai q E F G I J K).toArray 26)=W→
   ay W w.heap.size (az name Q k b i f t R S T U) 30∧ay W (w.heap.size+1) (ai q E F G I J K) 26∧O No w W:=by
  rintro W rfl;exact⟨(ay.new _ _ _).alloc _,ay.newAt (by simp) _ _,((O.refl No w).alloc _).alloc _⟩
 have HF:=Z af;clear h C af;go_enter Tryz.func8,Tryz.ntmps8;unfold az ai;go_upto_region 1 with fail
 generalize aj:World.alloc _ _=W;obtain⟨m,d,c1⟩:=HF.o W aj;clear aj HF;have g:=Z m;have a:=Z d;have s:=Z c1;clear d c1;go_wp2_with (first|(with_reducible refine V rfl aK rfl rfl m.cells rfl ?_));refine(yK (H.o.X s.o nE)).mono ?_;rintro e w1 ⟨r1,rfl,y,ak⟩;have s:=Z (s.o.trans' y);have g:=Z (g.o.X y id);have a:=Z (a.o.X y id);have ax:=Z ak;clear y ak m;cases r1 with
 |false=>go_wp2;go_ret;exact⟨false,rfl,s.o,λh=>by cases h⟩
 |true=>
  obtain⟨x,aA,aB,aC⟩:=ax.o rfl;have c:=Z aA;have z:=Z aB;have aF:=Z aC;have d:=a.o.cells;clear aA aB aC ax;go_wp2_with (first|(with_reducible refine aJ rfl au rfl rfl d rfl ?_));refine(aY q F E G I J K w1).mono ?_;rintro e w2 ⟨rfl,u⟩;have L:=Z (s.o.trans' u);have g:=Z (g.o.X u id);have a:=Z (a.o.X u id);have c:=Z (c.o.X u nE);clear u d;by_cases M:q=7
  .subst M;have d:=a.o.cells;go_wp2_with (first|(with_reducible refine aJ rfl au rfl rfl d rfl ?_));refine(qB (HV.o.X L.o nE) 300 (by decide)).mono ?_;rintro e w3 ⟨r3,rfl,v,aG⟩;have aH:=Z (L.o.trans' v);have g:=Z (g.o.X v id);have a:=Z (a.o.X v id);have c:=Z (c.o.X v nE);have aI:=Z aG;clear v aG d;cases r3 with
   |false=>go_wp2;go_ret;exact⟨false,rfl,aH.o,λh=>by cases h⟩
   |true=>
    obtain⟨j,N,aN,P⟩:=aI.o rfl;obtain⟨t,rfl⟩:=dm (N.zC.2.1 rfl);have l:=Z N;have A:=Z (aN.mono P lR');have aO:=Z P;have d:=a.o.cells;clear N aN P aI;go_wp2_with (first|(with_reducible refine aJ rfl au rfl rfl d rfl ?_));refine(rX 300 50 _ _ _ _ l.o A.o).mono ?_;rintro e w4 ⟨r4,rfl,n,aP⟩;have aQ:=Z (aH.o.trans' n);have g:=Z (g.o.X n id);have a:=Z (a.o.X n id);have c:=Z (c.o.X n nE);have l:=Z (l.o.X n nE);have aS:=Z aP;clear n aP d;cases r4 with
    |false=>go_wp2;go_ret;exact⟨false,rfl,aQ.o,λh=>by cases h⟩
    |true=>
     have m:=g.o.cells;go_wp2_with (first|(with_reducible refine aJ rfl aK rfl rfl m rfl ?_));refine(AY 6 _ _ _ _ c.o z.o).mono ?_;rintro e w5 ⟨r5,rfl,o,aT⟩;have aU:=Z (aQ.o.trans' o);have g:=Z (g.o.X o id);have a:=Z (a.o.X o id);have c:=Z (c.o.X o nE);have l:=Z (l.o.X o nE);have aV:=Z aT;clear o aT m;cases r5 with
     |false=>go_wp2;go_ret;exact⟨false,rfl,aU.o,λh=>by cases h⟩
     |true=>
      have m:=g.o.cells;go_wp2_with (first|(with_reducible refine aJ rfl aK rfl rfl m rfl ?_));refine(Gs 6 _ _ _ _ c.o z.o).mono ?_;rintro e w6 ⟨r6,rfl,p,aW⟩;have aX:=Z (aU.o.trans' p);have g:=Z (g.o.X p id);have a:=Z (a.o.X p id);have c:=Z (c.o.X p nE);have l:=Z (l.o.X p nE);have bu:=Z aW;clear p aW m;cases r6 with
      |false=>go_wp2;go_ret;exact⟨true,rfl,aX.o,λ_=>⟨x,t,⟨c.o.mono (λb _ h=>h.1),z.o,aF.o,l.o.mono (λb _ h=>h.1),A.o,aO.o,aS.o trivial,aV.o trivial,.inl (bu.o trivial)⟩⟩⟩
      |true=>
       have d:=a.o.cells;go_wp2_with (first|(with_reducible refine aJ rfl au rfl rfl d rfl ?_));refine(ES 300 50 _ _ _ _ l.o A.o).mono ?_;rintro e w7 ⟨r7,rfl,B,aZ⟩;have bf:=Z (aX.o.trans' B);have c:=Z (c.o.X B nE);have l:=Z (l.o.X B nE);have bz:=Z aZ;clear B aZ d;cases r7 with
       |true=>go_wp2;go_ret;exact⟨false,rfl,bf.o,λh=>by cases h⟩
       |false=>go_wp2;go_ret;exact⟨true,rfl,bf.o,λ_=>⟨x,t,⟨c.o.mono (λb _ h=>h.1),z.o,aF.o,l.o.mono (λb _ h=>h.1),A.o,aO.o,aS.o trivial,aV.o trivial,.inr (bz.o trivial)⟩⟩⟩
  .have bC:(q==7)=false:=(by simpa using M);clear M;go_wp2;go_ret;exact⟨false,rfl,L.o,λh=>by cases h⟩
end Go.Proofs.YtljaoopfomcaoaaGreatDoor
