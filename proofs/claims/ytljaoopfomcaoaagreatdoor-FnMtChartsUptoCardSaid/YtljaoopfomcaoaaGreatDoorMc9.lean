/- A part of the proof. -/
import Derived.Test.YtljaoopfomcaoaaGreatDoorMc8
import Derived.Shelf.Strings.OnBuilder
set_option linter.unusedVariables false
set_option linter.unusedSimpArgs false
set_option maxRecDepth 100000
set_option maxHeartbeats 4000000
namespace Go.Proofs.YtljaoopfomcaoaaGreatDoor
open Go.RowKit
structure LV (ji:ae) (B:Nat) (wr:World) (v:Value) (rows:List (Y)) (ds:List Ch):Prop where
 own:aB wr B 30 11 v rows
 len:rows.length=ds.length
 val:∀(i:Nat)(r:Y)(d:Ch),rows[i]?=some r→ds[i]?=some d→dU (λb=>ji b∧v.ownBlock≠some b) wr r d
section
variable {ji okr:ae} {B:Nat} {w4 w6:World} {v v':Value} {rows:List (Y)} {ds:List Ch} {r:Y} {d:Ch}
theorem LV.start(ji:ae)(B:Nat)(w:World):LV ji B w (.slice none 0 0) [] []:=⟨aB.nil _ _ _ _,rfl,λi r d h=>by simp at h⟩
theorem LV.keep(h:LV ji B w4 v rows ds)(c:O No w4 w6):LV ji B w6 v rows ds:=
 ⟨h.own.X c nE,h.len,λi r d a b=>(h.val i r d a b).X c nE⟩
theorem LV.GY{S:ae}(h:LV ji B w4 v rows ds)(c:O S w4 w6)(e:∀k,v.ownBlock=some k→¬S k)(f:∀k,ji k→¬S k):LV ji B w6 v rows ds:=
 ⟨h.own.X c e,h.len,λi r d a b=>(h.val i r d a b).X c (λk g=>f k g.1)⟩
theorem LV.step(h:LV ji B w4 v rows ds)(o:dU okr w4 r d)(p:∀b,b<w4.heap.size→okr b→ji b∧v.ownBlock≠some b)(q:O (λb=>v.ownBlock=some b) (w4.alloc (.cells r.toArray 30)) w6)
  (s:aB w6 B 30 11 v' (rows++[r])) (c:v'.ownBlock=v.ownBlock∨∀k,v'.ownBlock=some k→(w4.alloc (.cells r.toArray 30)).heap.size<=k):LV ji B w6 v' (rows++[r]) (ds++[d]):=by
 have m:∀{f:Y}{l:Ch},dU (λb=>ji b∧v.ownBlock≠some b) w4 f l→dU (λb=>ji b∧v'.ownBlock≠some b) w6 f l:=by
  intro f l t;have u:=t.mono (ok':=λb=>(ji b∧v.ownBlock≠some b)∧b<w4.heap.size) (λb a h=>⟨h,a⟩);have w:=u.X ((O.refl No w4).alloc (.cells r.toArray 30)) nE;have x:=w.X q (λb a e=>a.1.2 e);refine x.mono (λb _ a=>⟨a.1.1,λe=> ?_⟩);rcases c with c|c
  .exact a.1.2 (c▸e)
  .have A:w4.heap.size+1<=b:=(by simpa using c b e);have:=a.2;omega
 refine⟨s,by simp[h.len],λi f y g j=> ?_⟩;by_cases n:i<rows.length
 .rw[List.getElem?_append_left n] at g;rw[List.getElem?_append_left (by rw[←h.len];exact n)] at j;exact m (h.val i f y g j)
 .have z:i=rows.length:=by
   have:=(gS'.1 g).1;simp at this;omega
  subst z;rw[List.getElem?_append_right lR',Nat.sub_self] at g;rw[h.len,List.getElem?_append_right lR',Nat.sub_self] at j;cases g;cases j;exact m (o.mono p)
end
structure LW (ji:ae) (B q:Nat) (wr:World) (v:Value) (rows:List (Y)) (xs:List Want):Prop where
 own:aB wr B 79 7 v rows
 len:rows.length=xs.length
 val:∀(i:Nat)(r:Y)(x:Want),rows[i]?=some r→xs[i]?=some x→dF (λb=>ji b∧b≠q∧v.ownBlock≠some b) wr r x
 lt:q<B
section
variable {ji okr:ae} {B q:Nat} {w4 w6:World} {v v':Value} {rows:List (Y)} {xs:List Want} {r:Y} {x:Want}
theorem LW.start(ji:ae)(B q:Nat)(w:World)(h:q<B):LW ji B q w (.slice none 0 0) [] []:=⟨aB.nil _ _ _ _,rfl,λi r d h=>by simp at h,h⟩
theorem LW.GY{S:ae}(h:LW ji B q w4 v rows xs)(g:O S w4 w6)(j:∀k,k<w4.heap.size→S k→k=q):LW ji B q w6 v rows xs:=
 ⟨h.own.X g (λk c e=>by have l:=h.own.elem c;have:=j k l.2.1 e;have:=h.lt;omega),h.len,λi r d a b=>((h.val i r d a b).mono (ok':=λb=>(ji b∧b≠q∧v.ownBlock≠some b)∧b<w4.heap.size) (λb f h=>⟨h,f⟩)|>.X g (λk c e=>c.1.2.1 (j k c.2 e))).mono (λb _ f=>f.1),h.lt⟩
theorem LW.step(h:LW ji B q w4 v rows xs)(n:dF okr w4 r x)(o:∀b,b<w4.heap.size→okr b→ji b∧b≠q∧v.ownBlock≠some b)(p:O (λb=>v.ownBlock=some b) (w4.alloc (.cells r.toArray 79)) w6)
  (s:aB w6 B 79 7 v' (rows++[r])) (c:v'.ownBlock=v.ownBlock∨∀k,v'.ownBlock=some k→(w4.alloc (.cells r.toArray 79)).heap.size<=k):LW ji B q w6 v' (rows++[r]) (xs++[x]):=by
 have l:∀{d:Y}{j:Want},dF (λb=>ji b∧b≠q∧v.ownBlock≠some b) w4 d j→dF (λb=>ji b∧b≠q∧v'.ownBlock≠some b) w6 d j:=by
  intro d j t;have u:=t.mono (ok':=λb=>(ji b∧b≠q∧v.ownBlock≠some b)∧b<w4.heap.size) (λb a h=>⟨h,a⟩);have w:=u.X ((O.refl No w4).alloc (.cells r.toArray 79)) nE;have z:=w.X p (λb a e=>a.1.2.2 e);refine z.mono (λb _ a=>⟨a.1.1,a.1.2.1,λe=> ?_⟩);rcases c with c|c
  .exact a.1.2.2 (c▸e)
  .have C:w4.heap.size+1<=b:=(by simpa using c b e);have:=a.2;omega
 refine⟨s,by simp[h.len],λi d y f g=> ?_,h.lt⟩;by_cases m:i<rows.length
 .rw[List.getElem?_append_left m] at f;rw[List.getElem?_append_left (by rw[←h.len];exact m)] at g;exact l (h.val i d y f g)
 .have A:i=rows.length:=by
   have:=(gS'.1 f).1;simp at this;omega
  subst A;rw[List.getElem?_append_right lR',Nat.sub_self] at f;rw[h.len,List.getElem?_append_right lR',Nat.sub_self] at g;cases f;cases g;exact l (n.mono o)
end
theorem Ag(cs:Y)(h:cs.length=4)(w:World):(Instr.buildSlice 77 1 #[(0,.agg cs.toArray)]).run Tryz.prog w=.ok (.slice (some ⟨w.heap.size,0,none⟩) 1 1) (w.alloc (.cells cs.toArray 110)):=by
 obtain⟨a,b,c,d,rfl⟩:∃a b c d,cs=[a,b,c,d]:=by
  match cs,h with
  |[a,b,c,d],_=>exact⟨a,b,c,d,rfl⟩
 clear h
 kernel_rfl
theorem mQ{b:Array Oper}{rest:List Oper}{o:Oper}{a:Act}{w:World}{Q:ah}(c:o.guard=none){x:Operand}(d:o.op=.buildSlice 77 1 #[(0,x)]){cs:Y}(e:a.eval x=.agg cs.toArray)(f:cs.length=4)
  (h:wpList Tryz.prog b Q rest (a.put o.dst (.slice (some ⟨w.heap.size,0,none⟩) 1 1)) (w.alloc (.cells cs.toArray 110))):wpList Tryz.prog b Q (o::rest) a w:=by
 refine wpList_plain c λj g=> ?_
 have i:=Ag cs f w;unfold Oper.wp;simp only[execOp,d,List.map_toArray,List.map_cons,List.map_nil,e,Sem.run_bind,i,Result.andThen_ok];exact g _ _ h
theorem Lm(k:K)(w:World):(Instr.build 110 #[(1,.string k),(2,.string ⟨#[46]⟩),(3,.bool true)]).run Tryz.prog w=.ok (.agg (cu ⟨ByteArray.empty,k,dB,true⟩).toArray) w:=by kernel_rfl
theorem uX.Lp{U:List K}{N D L:Nat}{c:Ch}(h:uX U N D L c):iW U N D L c:=by
 cases L with
 |zero=>exact h.elim
 |succ L=>exact h.1
theorem aG.app{P:ae}{w4 w6:World}{cs:Y}{j:J}{v v':Value}{o:Obj}(h:aG (λb=>P b∧v.ownBlock≠some b) w4 cs j)(d:O (λb=>v.ownBlock=some b) (w4.alloc o) w6)
  (c:v'.ownBlock=v.ownBlock∨∀k,v'.ownBlock=some k→(w4.alloc o).heap.size<=k):aG (λb=>P b∧v'.ownBlock≠some b) w6 cs j:=by
 have f:=h.mono (ok':=λb=>(P b∧v.ownBlock≠some b)∧b<w4.heap.size) (λb a h=>⟨h,a⟩);have g:=f.X ((O.refl No w4).alloc o) nE;have i:=g.X d (λb a e=>a.1.2 e);refine i.mono (λb _ a=>⟨a.1.1,λe=> ?_⟩);rcases c with c|c
 .exact a.1.2 (c▸e)
 .have l:w4.heap.size+1<=b:=(by simpa using c b e);have:=a.2;omega
theorem o9{U:List K}{i:iy}(h:lQ U i):(bT i).child.size<=2000∧(bT i).parent.size<=1000:=by
 unfold bT
 split
 .exact⟨Nat.le_trans h.child (by decide),h.parent⟩
 .refine⟨?_,by show dB.size<=1000;decide⟩;show(wG++i.plain).size<=2000;rw[ByteArray.size_append];have:=h.plain;have a:wG.size=8:=rfl;omega
theorem yg{all m:T}{name:K}{i:iy}(h:bD all (parts (name++dB++(bT i).child) 46)=none):dQ all name m i=m:=by unfold dQ;rw[h]
theorem yh{all m t x:T}{name:K}{i:iy}(h:bD all (parts (name++dB++(bT i).child) 46)=some t)(a:fJ (bT i).parent (.table t)=.table x):dQ all name m i=bV true m x:=by unfold dQ;rw[h];simp only[a,fM]
def lW(ok:ae)(w:World)(g:Nat):ae:=λb=>okB ok w b∨g+2<=b
theorem Bg(U:List K)(N D:Nat)(hU:U.length<1099511627776)(je:gK∈U)(L:Nat):∀(c:Ch),uX U N D L c→∀(ok:ae)(cc:Y)(w:World),dU ok w cc c→
  Calls Tryz.prog 43 #[.agg cc.toArray,.bool true] w (zZ ok w (eX L c)):=by
 induction L with
 |zero=>intro c hc;exact hc.elim
 |succ L ih=>
  intro c hc ok cc w fH;have IH:=Z ih;have gV:=Z hc;have qE:=Z fH;obtain⟨name,bQ,k,b,i,f,t,kv,lv,dv,wv,rfl,ni,fK,hv,⟨bF,R,hn,ny⟩,⟨aJ,hw,nz,nC⟩⟩:=fH.cells;have nD:=Z ni;have nG:=Z fK;have HV:=Z hv;have HD:=Z (aC.mono (ok':=okB ok w) R (λb o h=>⟨h,o⟩) (by decide));have nH:=Z hn;have qF:=Z ny;have HW:=Z (aC.mono (ok':=okB ok w) hw (λb o h=>⟨h,o⟩) (by decide));have fM:=Z nz;have nI:=Z nC;have qG:=R.1;have qH:=hw.1;obtain⟨-, -,da,dc,rfl, -, -⟩:=R;obtain⟨-, -,wa,wc,rfl, -, -⟩:=hw;unfold maxLen at qG qH;have nJ:∀W,(w.alloc (.cells (az name bQ k b i f t kv lv (.slice da bF.length dc) (.slice wa aJ.length wc)).toArray 30)).alloc (.cells fZ.toArray 30)=W→
    ay W w.heap.size (az name bQ k b i f t kv lv (.slice da bF.length dc) (.slice wa aJ.length wc)) 30∧ay W (w.heap.size+1) fZ 30∧O No w W∧W.heap.size=w.heap.size+2:=by
   rintro W rfl;exact⟨(ay.new _ _ _).alloc _,ay.newAt (by simp) _ _,((O.refl No w).alloc _).alloc _,by simp⟩
  have HF:=Z nJ;clear nJ fH hv hn ny nz nC hc ih ni fK;go_enter Tryz.func43,Tryz.ntmps43;unfold az;go_upto_region 1 with fail
  generalize bZ:World.alloc _ _=W;obtain⟨b0,b1,c1,fO⟩:=HF.o W bZ;clear bZ HF;obtain⟨g,hg⟩:∃g,g=w.heap.size:=⟨_,rfl⟩;rw[←hg] at b0 b1 fO⊢;have HG:=Z hg;have nM:=Z fO;have qI:=Z c1;have nN:=Z b0;have nO:=Z b1;have k9:W.cell? ⟨g,9,none⟩=some (.slice da bF.length dc):=b0.cell 9;have nR:=Z (show(az name bQ k b i f t kv lv (.slice da bF.length dc) (.slice wa aJ.length wc)).all (·.oneCell')=true from qE.o.one.2);clear b0 b1 c1 hg fO;go_wp2_with fail;clear k9;go_loopw [6,25] (λv6 S wr=>∃(n:Nat) (aY:List (Y)) (bI:List Ch),S=.int .i64 n∧n<=bF.length∧LV (lW ok w g) (g+2) wr v6 aY bI∧eH (eX L) (c.deps.take n)=some bI∧O (λb=>g+2<=b) W wr) (λ_ S _=>bF.length - (intOf S).toNat);case atStart=>exact⟨0,[],[],rfl,zL',LV.start _ _ _,rfl,O.refl _ _⟩
  case round=>
   obtain⟨n,aY,bI,rfl,jT,jV,nS,bJ⟩:=hrel;obtain⟨J,rfl⟩:∃J,J=wr:=⟨_,rfl⟩;obtain⟨va,vc,rfl⟩:=jV.own.dY;have ed:=Z jV;have jf:=Z nS;have eu:=Z bJ;have jg:=Z (show O No w J from qI.o.trans bJ (λx hx e=>by have:=HG.o;omega));clear jV nS bJ;by_cases dO:n<bF.length
   .obtain⟨r,jW⟩:=gX' bF n (dO);obtain⟨d,jh⟩:=gX' c.deps n ((by rw[←nH.o];exact dO));obtain⟨lb,lo,rfl, -,ji⟩:=HD.o.at (i:=n) (r:=r) jW;have ji:=ji.X jg.o id;have jk:=qF.o n r d jW jh;have qJ:=Z jk;have nT:=Z jh;have jX:=jk.one.1;have qK:=jk.one.2;have jl:(n:Int)<(bF.length:Int):=(by omega);have bx:=(ay.new J r 30).cells;have qN:=Z (show c.deps.take (n+1)=c.deps.take n++[d] by rw[List.take_add_one,jh];rfl);clear jW jh jk;go_wp2_with (first|(with_reducible refine V rfl aK rfl rfl ji jX ?_)|(with_reducible refine ak rfl aK rfl rfl rfl rfl jX qK ?_)|(with_reducible refine V rfl aK rfl rfl bx jX ?_));have jY:=Z ((O.refl No J).alloc (.cells r.toArray 30));refine(IH.o d (gV.o.2.2.2.2 d (mG' nT.o)) (okB ok w) r (J.alloc (.cells r.toArray 30)) ((qJ.o.dV.X jg.o nE).X jY.o nE)).mono ?_;rintro e w3 ⟨jo,rfl,jZ,⟨dP,fP⟩,nV⟩;have qO:=Z (jY.o.trans' jZ);have tN:=Z jZ;have qP:=Z nV;have nX:=Z (And.intro dP fP);have jq:=ay.new w3 jo 30;clear jZ nV bx ji;go_upto_region 6 with(first|(with_reducible refine ak rfl aK rfl rfl rfl rfl dP fP ?_))
    obtain⟨gy,nY⟩:∃gy,gy=w3.heap.size:=⟨_,rfl⟩;obtain⟨w4,jr⟩:∃w4,w4=w3.alloc (.cells jo.toArray 30):=⟨_,rfl⟩;have eF:=Z (show O No J w4 by rw[jr];exact qO.o.alloc _);have qQ:=Z (show O No w3 w4 by rw[jr];exact(O.refl No w3).alloc _);rw[←jr] at jq⊢;rw[←nY] at jq⊢;have qR:=Z jq;clear jq jr nY dP fP;cases ho:eX L d with
    |none=>have eG:=Z (show eX (L+1) c=none by rw[eX,oM (mG' nT.o) ho]);have b0:=((nN.o.X eu.o (λe=>by omega)).X eF.o id).cells;have b2:=(nO.o.X eu.o (λe=>by omega)).X eF.o id;have dR:=nR.o;clear ho;go_wp2_with (first|(with_reducible refine V rfl aK rfl rfl b0 rfl ?_)|(with_reducible refine aA rfl aK rfl rfl rfl b2 rfl rfl dR ?_;intro w7 ku bf qU));have gW:O No w w7:=(jg.o.trans' eF.o).trans bf (λx hx e=>by have T:x=g+1:=e;have:=HG.o;omega);rw[eG.o];exact bodyPost_ret (aW rfl aK rfl ku rfl) rfl ⟨_,rfl,gW,⟨rfl,dR⟩,λc' h=>(by cases h)⟩
    |some c2=>
     have HO:=Z ho;have kz:=Z (ed.o.keep eF.o);have nZ:=qR.o.cells;have dP:=nX.o.1;have fP:=nX.o.2;have gZ:=kz.o.own;have og:aY.length<=60:=by have v:=ed.o.len;have A:=jF jf.o;have h5:=gV.o.2.1;simp only[List.length_take] at A;omega
     have eP:g+2<=w4.heap.size+1:=by have v:=nM.o;have A:=eu.o.size;have h3:=eF.o.size;omega
     clear ho;go_wp2_with (first|(with_reducible refine V rfl aK rfl rfl nZ dP ?_)|(refine kM rfl rfl rfl dP ?_)|(at_builtin;refine jd rfl tX rfl rfl (gZ.alloc _) rfl (aC.gX w4 jo 30 11 dP) (by intro r hr;obtain rfl:=List.mem_singleton.1 hr;exact fP) (by simp;omega) (by simp;omega) (by simpa using eP) ?_;intro v' w6 bg af bG eQ;go_frame));have qV:=Z (kz.o.step (okr:=λb=>okB ok w b∨J.heap.size<=b) (d:=c2) (((qP.o c2 HO.o).X qQ.o nE).mono (λb _ o=>o.elim .inl (λh=> .inr (by have:=jY.o.size;omega)))) (λb o h=>by
      have h0:=nM.o;have v:=eu.o.size;rcases h with h|h
      .exact⟨.inl h,λe=>by have A:=(ed.o.own.elem e).1;have h3:=h.2;have:=HG.o;omega⟩
      .exact⟨.inr (by omega),λe=>by have:=(ed.o.own.elem e).2.1;omega⟩) af bg bG)
     have bK:=Z (show O (λb=>g+2<=b) W w6 from((eu.o.trans' eF.o).trans' ((O.refl No w4).alloc (.cells jo.toArray 30))).trans af (λx hx e=>(kz.o.own.elem e).1));have fQ:=Z (show eH (eX L) (c.deps.take (n+1))=some (bI++[c2]) by rw[qN.o];exact qL jf.o HO.o);clear bg af bG eQ gZ nZ dP fP;go_roundw;case rel=>exact⟨n+1,_,_,by go_num,by omega,qV.o,fQ.o,bK.o⟩
     case measure=>simp[intOf];omega
   .have oh:n=bF.length:=Nat.le_antisymm jT (Nat.not_lt.1 dO);have jl:¬(n:Int)<(bF.length:Int):=(by omega);have fQ:=Z (show eH (eX L) c.deps=some bI by
     have h:=jf.o;rw[List.take_of_length_le (by rw[←nH.o];omega)] at h;exact h)
    have jv:=nN.o.X eu.o (λe=>by omega);have k9:J.cell? ⟨g,9,none⟩=some (.slice da bF.length dc):=jv.cell 9;have f9:=jv.frozen 9;have oq:=Z jv;clear jf jv;go_upto_region 11 with fail
    obtain⟨cO,aS, -⟩:=oq.o.setCell 9 (.slice va aY.length vc);obtain⟨ws,fO⟩:∃ws,ws=J.setCell ⟨g,9,none⟩ (.slice va aY.length vc):=⟨_,rfl⟩;rw[←fO] at cO aS⊢;have fV:=Z (show ay ws g (az name bQ k b i f t kv lv (.slice va aY.length vc) (.slice wa aJ.length wc)) 30 from cO);have tV:=Z aS;have gp:=Z (show O No w ws from jg.o.trans aS (λx hx e=>by have T:x=g:=e;have:=HG.o;omega));have eU:=Z ((nO.o.X eu.o (λe=>by omega)).X aS (λe=>by have T:g+1=g:=e;omega));have bU:=Z (ed.o.GY aS (λq l e=>by have T:q=g:=e;have:=(ed.o.own.elem l).1;omega) (λq l e=>by
     have T:q=g:=e;rcases l with h|h
     .have:=h.2;have:=HG.o;omega
     .omega))
    have ou:=Z (show(az name bQ k b i f t kv lv (.slice va aY.length vc) (.slice wa aJ.length wc)).all (·.oneCell')=true by
     have h:=nR.o;simp only[az,List.all_cons,List.all_nil,Bool.and_true,Bool.and_eq_true] at h;simp only[az,List.all_cons,List.all_nil,Bool.and_true,Bool.and_eq_true]
     simp_all [Value.oneCell'])
    have kC:ws.cell? ⟨g,10,none⟩=some (.slice wa aJ.length wc):=fV.o.cell 10;clear fO cO aS k9 f9 oq jl ed;have oz:=Z (show dU (lW ok w g) ws (az name bQ k b i f t kv lv (.slice va aY.length vc) (.slice wa aJ.length wc)) (.mk c.name c.version c.vals bI c.wants) from by rw[←nD.o,←nG.o];have qW:=bU.o.len;refine .mk (((HV.o.dV).X gp.o nE).mono (λb _ o=> .inl o)) (bU.o.own.rowAt.mono (λq _ l=> .inr (bU.o.own.elem l).1) (by decide)) qW (λj r d v A=>(bU.o.val j r d v A).mono (λb _ o=>o.1)) ((HW.o.X gp.o nE).mono (λb _ o=> .inl o) (by decide)) fM.o (λj r x v A=>(((nI.o j r x v A).mono (ok':=okB ok w) (λb o h=>⟨h,o⟩)).X gp.o nE).mono (λb _ o=> .inl o)));by_cases ig:aJ.length=0
    .have oC:((aJ.length:Int)==0)=true:=(by simp[ig]);have eG:=Z (show eX (L+1) c=some (.mk c.name c.version c.vals bI c.wants) by
      have v:c.wants=[]:=List.eq_nil_of_length_eq_zero (by rw[←fM.o,ig]);rw[eX,fQ.o];simp only[v,List.isEmpty_nil,if_true])
     have b0:=fV.o.cells;have b1:=eU.o;have dR:=ou.o;clear ig;go_wp2_with (first|(with_reducible refine V rfl aK rfl rfl b0 rfl ?_)|(with_reducible refine aA rfl aK rfl rfl rfl b1 rfl rfl dR ?_;intro w4 cO aS tY));have gW:O No w w4:=gp.o.trans aS (λx hx e=>by have T:x=g+1:=e;have:=HG.o;omega);rw[eG.o];refine bodyPost_ret (aW rfl aK rfl cO rfl) rfl ⟨_,rfl,gW,⟨rfl,dR⟩,λc' h=> ?_⟩;cases h;have hg:=HG.o;refine(oz.o.X aS (λq l e=> ?_)).mono (λq _ l=> ?_)
     .have T:q=g+1:=e;rcases l with h|h
      .have:=h.2;omega
      .omega
     .rcases l with h|h
      .exact .inl h.1
      .exact .inr (by omega)
    .have oC:((aJ.length:Int)==0)=false:=by rw[beq_eq_false_iff_ne];omega
     obtain⟨E,hE⟩:=Af je (λd d'=>Fz je L d d') gV.o fQ.o;have HE:=Z hE;have oD:=Z (show c.wants.isEmpty=false by
      cases GR:c.wants with
      |nil=>have:=fM.o;rw[GR] at this;simp at this;simp[this] at ig
      |cons a r=>rfl)
     have bc:=fV.o.cells;clear hE ig;go_wp2_with (first|(with_reducible refine V rfl aK rfl rfl bc rfl ?_));refine(oN U N hU je true E (L+1) _ HE.o 1 _ _ .null bu [] ws oz.o (.null (dN _ _ _) (dN _ _ _)) (.inl ⟨rfl,rfl⟩) WU.nil).mono ?_;rintro e w5 ⟨ca,rfl,jw,bW⟩;have oG:=Z jw;have oH:=Z bW;have dh:=jw.length;have kD:=jw.one;have ba:=ay.new w5 ca 26;obtain⟨ga,oI⟩:∃ga,ga=w5.heap.size:=⟨_,rfl⟩;clear jw bW bc oC kC;go_upto_region 14 with(first|(with_reducible refine ak rfl au rfl rfl rfl rfl dh kD ?_))
     obtain⟨w6,jy⟩:∃w6,w6=w5.alloc (.cells ca.toArray 26):=⟨_,rfl⟩;have bK:=Z (show O No ws w6 by rw[jy];exact oH.o.alloc _);have kE:=Z (show aG (lW ok w g) w6 ca (jm (dJ true (.mk c.name c.version c.vals bI c.wants) [])) by rw[jy];exact(oG.o.X ((O.refl No w5).alloc _) nE).mono (λb _ o=>o.elim id (λh=> .inr (by have:=eU.o.lt;omega))));rw[←jy] at ba⊢;rw[←oI] at ba⊢;have kF:=Z ba;have qX:=Z (show g+2<=ga by have v:=eU.o.lt;have h4:=oH.o.size;omega);have kG:=Z (And.intro dh kD);clear ba jy oI oG dh kD;cases jS:dJ true (.mk c.name c.version c.vals bI c.wants) [] with
     |none=>have eG:=Z (show eX (L+1) c=none by rw[eX,fQ.o];simp only[oD.o,jS,Bool.false_eq_true,if_false]);have b0:=(fV.o.X bK.o id).cells;have b2:=eU.o.X bK.o id;have dR:=ou.o;clear jS;go_wp2_with (first|(with_reducible refine V rfl aK rfl rfl b0 rfl ?_)|(with_reducible refine aA rfl aK rfl rfl rfl b2 rfl rfl dR ?_;intro w7 ku bf qU));have gW:O No w w7:=(gp.o.trans' bK.o).trans bf (λx hx e=>by have T:x=g+1:=e;have:=HG.o;omega);rw[eG.o];exact bodyPost_ret (aW rfl aK rfl ku rfl) rfl ⟨_,rfl,gW,⟨rfl,dR⟩,λc' h=>(by cases h)⟩
     |some all=>
      rw[jS] at kE;have tZ:=Z jS;have gq:=Z (show gY U N all from⟨sJ je true (L+1) _ 1 [] all HE.o WU.nil jS,qM true (L+1) _ [] all HE.o (λd=>kV d) jS⟩);have eG:=Z (show eX (L+1) c=some (.mk c.name c.version (.table (bV true all (cZ all c.wants))) bI (c.wants.map uA)) by rw[eX,fQ.o];simp only[oD.o,jS,Bool.false_eq_true,if_false]);have qY:=kN 7;clear jS;go_upto_region 18 with(first|(with_reducible refine ak rfl au rfl rfl rfl rfl rfl rfl ?_))
      obtain⟨p,kJ⟩:∃p,p=w6.heap.size:=⟨_,rfl⟩;have oJ:∀W,w6.alloc (.cells (ai 7 false 0 0 ByteArray.empty (.slice none 0 0) (.slice none 0 0)).toArray 26)=W→ay W w6.heap.size (ai 7 false 0 0 ByteArray.empty (.slice none 0 0) (.slice none 0 0)) 26∧O No w6 W:=by rintro W rfl;exact⟨ay.new _ _ _,(O.refl No w6).alloc _⟩
      generalize bZ:World.alloc _ _=wm;obtain⟨bm,oK⟩:=oJ wm bZ;have kK:=Z oK;clear bZ oJ oK;rw[←kJ] at bm⊢;have jA:=Z kJ;have qZ:=Z bm;have uf:=Z bm.lt;have ik:=Z (show O No ws wm from bK.o.trans' kK.o);have rf:=Z (show O No w wm from gp.o.trans' ik.o);have oL:=Z (fV.o.X ik.o id);have rq:=Z (eU.o.X ik.o id);have kL:=Z (kF.o.X kK.o id);have kP:=Z (show aG (λb=>lW ok w g b∧b<p) wm ca (.table all) from(kE.o.mono (ok':=λb=>lW ok w g b∧b<p) (λb o h=>⟨h,by omega⟩)).X kK.o nE);have ru:=Z (show ∀(i:Nat)(r:Y)(d:Ch),aY[i]?=some r→bI[i]?=some d→dU (λb=>lW ok w g b∧b<p) wm r d from λi r d v A=>((bU.o.val i r d v A).mono (ok':=λb=>lW ok w g b∧b<p) (λb o h=>⟨h.1,by have v:=bK.o.size;have A:=jA.o;omega⟩)).X ik.o nE);have ry:=Z (show aC (λb=>g+2<=b∧b<p) wm (.slice va aY.length vc) 11 aY from(bU.o.own.rowAt.mono (λq _ l=>⟨(bU.o.own.elem l).1,by have h0:=(bU.o.own.elem l).2.1;have v:=bK.o.size;have A:=jA.o;omega⟩) (by decide)).X ik.o nE);have rC:=Z bU.o.len;have kC:wm.cell? ⟨g,10,none⟩=some (.slice wa aJ.length wc):=oL.o.cell 10;have kQ:=Z (show ga<p by have:=kF.o.lt;have:=jA.o;omega);have bH:=Z (show g+2<=p by have v:=eU.o.lt;have A:=bK.o.size;have h3:=jA.o;omega);have kR:=Z gV.o.2.2.2.1;have rD:=Z gV.o.2.2.1;clear kJ bm qY fV eU kF kE bU;go_wp2_with fail;clear kC;go_loopw [14,64] (λoO S wr=>∃(n:Nat) (aj:List (Y)) (cm:Y),S=.int .i64 n∧n<=aJ.length∧LW (lW ok w g) (p+1) p wr oO aj ((c.wants.take n).map uA)∧ay wr p cm 26∧aG (λb=>(lW ok w g b∧b≠p)∧oO.ownBlock≠some b) wr cm (.table (cZ all (c.wants.take n)))∧O (λb=>p<=b) wm wr) (λ_ S _=>aJ.length - (intOf S).toNat);case atStart=>exact⟨0,[],_,rfl,zL',LW.start _ _ _ _ (Nat.lt_succ_self _),qZ.o,mr _ _,O.refl _ _⟩
      case round=>
       obtain⟨n,aj,cm,rfl,jT,kS,iq,gu,bJ⟩:=hrel;obtain⟨J,rfl⟩:∃J,J=wr:=⟨_,rfl⟩;obtain⟨sa,sc,rfl⟩:=kS.own.dY;have gz:=Z kS;have jB:=Z iq;have kT:=Z gu;have dW:=Z bJ;have kU:=Z (show O No w J from rf.o.trans bJ (λx hx e=>by have v:p<=x:=e;have A:=bH.o;have:=HG.o;omega));clear kS iq gu bJ;by_cases dO:n<aJ.length
       .obtain⟨r2,kW⟩:=gX' aJ n (dO);obtain⟨x,hx⟩:=gX' c.wants n ((by rw[←fM.o];exact dO));obtain⟨ug,uh,rfl, -,iw⟩:=HW.o.at (i:=n) (r:=r2) kW;have iw:=iw.X kU.o id;have fK:=nI.o n r2 x kW hx;have jC:=fK.len.1;have jD:=fK.len.2;have HX:=Z hx;have gG:=Z (kR.o x (mG' hx));obtain⟨tv,iv,rfl,oP,kY⟩:=fK;have HT:=Z oP;have oQ:=Z (kY.mono (ok':=okB ok w) (λb o h=>⟨h,o⟩) (by decide));have oU:=kY.1;obtain⟨-, -,ia,ic,rfl, -, -⟩:=kY;have oV:(dS x.imports).length=x.imports.length:=(by simp[dS]);rw[oV] at oQ iw jC jD oU;unfold maxLen at oU;have rE:=Z jD;have bw:=ay.new J (aI x tv (.slice ia x.imports.length ic)) 79;obtain⟨Q,bZ⟩:∃Q,Q=J.heap.size:=⟨_,rfl⟩;have kZ:=Z bZ;have jl:(n:Int)<(aJ.length:Int):=(by omega);clear hx kW oP oV;go_upto_region 22 with(first|(with_reducible refine V rfl dD rfl rfl iw jC ?_)|(with_reducible refine ak rfl dD rfl rfl rfl rfl jC jD ?_))
        obtain⟨wx,lg⟩:∃wx,wx=J.alloc (.cells (aI x tv (.slice ia x.imports.length ic)).toArray 79):=⟨_,rfl⟩;have eY:=Z (show O No J wx by rw[lg];exact(O.refl No J).alloc _);rw[←lg] at bw⊢;rw[←bZ] at bw⊢;have lh:=Z bw;have q6:wx.cell? ⟨Q,6,none⟩=some (.slice ia x.imports.length ic):=bw.cell 6;obtain⟨Bi,oW⟩:∃Bi,Bi=wx.heap.size:=⟨_,rfl⟩;have jG:=Z oW;have aF:=Z (show p<Q∧Q<Bi∧J.heap.size<=Bi from⟨by have:=jB.o.lt;have:=kZ.o;omega,by have:=bw.lt;omega,by have:=eY.o.size;omega⟩);have dX:=Z (show ∀q,(Value.slice sa aj.length sc).ownBlock=some q→p+1<=q∧q<J.heap.size from λq l=>⟨(gz.o.own.elem l).1,(gz.o.own.elem l).2.1⟩);have oZ:=Z (show aG (λb=>(((lW ok w g b∧b≠p)∧(Value.slice sa aj.length sc).ownBlock≠some b)∧b≠Q)∧(Value.slice none 0 0).ownBlock≠some b) wx cm (.table (cZ all (c.wants.take n))) from((kT.o.mono (ok':=λb=>((lW ok w g b∧b≠p)∧(Value.slice sa aj.length sc).ownBlock≠some b)∧b≠Q) (λb o h=>⟨h,by have:=kZ.o;omega⟩)).X eY.o nE).mono (λb _ o=>⟨o,λe=>by cases e⟩));have rF:=Z (show gY U N (cZ all (c.wants.take n)) from gY.cZ gq.o _ (λy hy=>(kR.o y (List.mem_of_mem_take hy)).2.2.2));clear lg bZ iw jC jD bw oW;go_wp2_with fail;clear q6;go_loopw [17,71] (λo5 S wr=>∃(k:Nat)(aU:Y),S=.int .i64 k∧k<=x.imports.length∧aB wr Bi 110 4 o5 (((x.imports.take k).map bT).map cu)∧ay wr p aU 26∧aG (λb=>(((lW ok w g b∧b≠p)∧(Value.slice sa aj.length sc).ownBlock≠some b)∧b≠Q)∧o5.ownBlock≠some b) wr aU (.table ((x.imports.take k).foldl (dQ all x.name) (cZ all (c.wants.take n))))∧O (λb=>b=p∨Bi<=b) wx wr) (λ_ S _=>x.imports.length - (intOf S).toNat);case atStart=>exact⟨0,cm,rfl,zL',aB.nil _ _ _ _,jB.o.X eY.o id,oZ.o,O.refl _ _⟩
        case round=>
         obtain⟨B,aU,rfl,rG,jH,iq,gu,bJ⟩:=hrel;obtain⟨aZ,rfl⟩:∃aZ,aZ=wr:=⟨_,rfl⟩;obtain⟨ja,jc,rfl⟩:=jH.dY;simp only[List.length_map,List.length_take,Nat.min_eq_left rG] at jH gu⊢;have fA:=Z jH;have fB:=Z iq;have lq:=Z gu;have gI:=Z bJ;have jI:=Z (show O No w aZ from(kU.o.trans' eY.o).trans bJ (λq l e=>by have v:=HG.o;have A:=bH.o;have h3:=aF.o;rcases e with e|e<;>omega));clear jH iq gu bJ oZ;by_cases rH:B<x.imports.length
         .obtain⟨z,gJ⟩:=gX' x.imports B (rH);obtain⟨o6,o7,rfl, -,jJ⟩:=oQ.o.at (i:=B) (r:=cu z) (by simp[dS,gJ]);have jJ:=jJ.X jI.o id;have ui:=Z gJ;have fC:=Z (gG.o.2.2.2 z (mG' gJ));have rJ:(B:Int)<(x.imports.length:Int):=(by omega);have o8:(cu z).all (·.oneCell')=true:=rfl;have bi:=ay.new aZ (cu z) 110;obtain⟨gi,lu⟩:∃gi,gi=aZ.heap.size:=⟨_,rfl⟩;have iy:=Z lu;have gQ:=Z (Fq (all:=all) (name:=x.name) (m:=cZ all (c.wants.take n)) gJ);have pg:=Z (show((x.imports.take (B+1)).map bT).map cu=((x.imports.take B).map bT).map cu++[cu (bT z)] by rw[List.take_add_one,gJ];simp);have pq:=Z (show gY U N ((x.imports.take B).foldl (dQ all x.name) (cZ all (c.wants.take n))) from gY.foldI gq.o _ _ rF.o (λi hi=>gG.o.2.2.2 i (List.mem_of_mem_take hi)));clear gJ;go_upto_region 25 with(first|(with_reducible refine V rfl kH rfl rfl jJ rfl ?_)|(with_reducible refine ak rfl kH rfl rfl rfl rfl rfl o8 ?_))
          obtain⟨wi,lC⟩:∃wi,wi=aZ.alloc (.cells (cu z).toArray 110):=⟨_,rfl⟩;have pz:=Z (show O No aZ wi by rw[lC];exact(O.refl No aZ).alloc _);rw[←lC] at bi⊢;rw[←lu] at bi⊢;have lD:=Z bi;have z3:wi.cell? ⟨gi,3,none⟩=some (.bool z.isMap):=bi.cell 3;clear lC lu jJ bi o8;cases kX:z.isMap with
          |true=>
           rw[kX] at z3;have lF:=Z (show bT z=z by unfold bT;rw[if_pos kX]);clear kX;obtain⟨wj,jK⟩:∃wj,wj=wi:=⟨_,rfl⟩;have iC:=Z (show ay wj gi (cu (bT z)) 110 by rw[lF.o,jK];exact lD.o);have bn:=Z (show O No aZ wj by rw[jK];exact pz.o);go_upto_region 27 with fail
           rw[←jK];clear jK z3;have bj:=iC.o.cells;have iD:=fA.o.X bn.o nE;have di:(cu (bT z)).length=4:=rfl;have iE:(cu (bT z)).all (·.oneCell')=true:=rfl;have lG:(((x.imports.take B).map bT).map cu).length+1<=1099511627776:=by have:=gG.o.2.2.1;simp only[List.length_map,List.length_take];omega
           have eP:Bi<=wj.heap.size+1:=by have v:=gI.o.size;have A:=bn.o.size;have h3:=jG.o;omega
           have dm:=Z (show ∀q,(Value.slice ja B jc).ownBlock=some q→Bi<=q∧q<aZ.heap.size from λq l=>⟨(fA.o.elem l).1,(fA.o.elem l).2.1⟩);go_upto_region 28 with(first|(with_reducible refine V rfl kH rfl rfl bj di ?_)|(refine mQ rfl rfl rfl di ?_)|(at_builtin;refine aN rfl y8 rfl rfl (iD.alloc _) rfl (aC.gX wj (cu (bT z)) 110 4 di) (by intro r hr;obtain rfl:=List.mem_singleton.1 hr;exact iE) lG (by decide) (by simpa using eP) ?_;intro v' wk bg af bG eQ;obtain⟨za,zn,zc,rfl⟩:=bg.slice;go_frame))
           have iF:=Z (show aB wk Bi 110 4 (.slice za zn zc) (((x.imports.take (B+1)).map bT).map cu) by rw[pg.o];exact bg);have bM:=Z (show O (λb=>b=p∨Bi<=b) wx wk from((gI.o.trans' bn.o).trans' ((O.refl No wj).alloc (.cells (cu (bT z)).toArray 110))).trans af (λq l e=> .inr (dm.o q e).1));have lH:=Z (show O No w wk from((jI.o.trans' bn.o).trans' ((O.refl No wj).alloc (.cells (cu (bT z)).toArray 110))).trans af (λq l e=>by have v:=HG.o;have A:=bH.o;have h3:=aF.o;have h4:=(dm.o q e).1;omega));have iG:=Z ((lq.o.X bn.o nE).app af bG);have dw:=Z (show ay wk p aU 26 from((fB.o.X bn.o id).alloc _).X af (λe=>by have v:=(dm.o p e).1;have A:=aF.o;omega));have iH:=Z (show ay wk gi (cu (bT z)) 110 from(iC.o.alloc _).X af (λe=>by have v:=(dm.o gi e).2;have A:=iy.o;omega));have lI:=Z (show ay wk Q (aI x tv (.slice (some ⟨o6,o7,none⟩) x.imports.length ic)) 79 from lh.o.X bM.o (λe=>by have A:=aF.o;omega));have iI:=Z (show O (λb=>p<=b) wm wk from(dW.o.trans' eY.o).trans bM.o (λq l e=>by have A:=aF.o;rcases e with e|e<;>omega));have lK:=Z (show ay wk ga ca 26 from kL.o.X iI.o (λe=>by have:=kQ.o;omega));have lL:=Z (kP.o.X iI.o (λq l e=>by have:=l.2;omega));have dZ:=lK.o.cells;have dh:=kG.o.1;have lM:wk.cell? ⟨Q,0,none⟩=some (.string x.name):=lI.o.cell 0;have z1:wk.cell? ⟨gi,1,none⟩=some (.string (bT z).child):=iH.o.cell 1;have rM:=(o9 fC.o).1;have rO:=gG.o.2.1;clear bg af bG eQ iD bj di iE;go_wp2_with (first|(with_reducible refine V rfl au rfl rfl dZ dh ?_));refine(nP (x.name++dB++(bT z).child) (by rw[ByteArray.size_append,ByteArray.size_append];have:dB.size=1:=rfl;omega) lL.o).mono ?_;rintro e w7 ⟨bf,hm⟩;have bY:=Z bf;clear bf dZ lM z1;cases iU:bD all (parts (x.name++dB++(bT z).child) 46) with
           |none=>
            rw[iU] at hm;obtain rfl:=hm;have dA:=Z (show dQ all x.name ((x.imports.take B).foldl (dQ all x.name) (cZ all (c.wants.take n))) z=(x.imports.take B).foldl (dQ all x.name) (cZ all (c.wants.take n)) from yg iU);clear iU;go_wp2_with (first|(with_reducible refine ak rfl au rfl rfl rfl rfl rfl rfl ?_));have M:=Z (bY.o.alloc (.cells bu.toArray 26));go_roundw;case rel=>exact⟨B+1,aU,by go_num,by omega,iF.o.X M.o nE,dw.o.X M.o id,by rw[gQ.o,dA.o];exact iG.o.X M.o nE,bM.o.trans' M.o⟩
            case measure=>simp[intOf];omega
           |some tt=>
            rw[iU] at hm;obtain⟨S,rfl,dC⟩:=hm;obtain⟨tx,dE⟩:=lJ (bT z).parent tt;have lN:=Z dE;have dA:=Z (show dQ all x.name ((x.imports.take B).foldl (dQ all x.name) (cZ all (c.wants.take n))) z=bV true ((x.imports.take B).foldl (dQ all x.name) (cZ all (c.wants.take n))) tx from yh iU dE);have lQ:∃F,WU U N F (.table ((x.imports.take B).foldl (dQ all x.name) (cZ all (c.wants.take n))))∧WU U N F (.table tx):=by obtain⟨⟨E1,v⟩, -⟩:=pq.o;obtain⟨⟨E0,h0⟩, -⟩:=gq.o;obtain⟨E2,A⟩:=Ad fC.o (jU h0 iU);rw[dE] at A;exact⟨E1+E2,v.max,A.Cc⟩
            obtain⟨F,iJ,iK⟩:=lQ;have fD:=Z iJ;have iL:=Z iK;have fE:=dC.length;have iM:=dC.one;have iO:=Z dC;have bt:=ay.new w7 S 26;obtain⟨gt,iP⟩:∃gt,gt=w7.heap.size:=⟨_,rfl⟩;clear iU dC dE iJ iK;go_upto_region 30 with(first|(with_reducible refine ak rfl au rfl rfl rfl rfl fE iM ?_))
            obtain⟨wy,dG⟩:∃wy,wy=w7.alloc (.cells S.toArray 26):=⟨_,rfl⟩;have M:=Z (show O No wk wy by rw[dG];exact bY.o.alloc _);have iQ:=Z (show aG (λb=>lW ok w g b∧b<p) wy S (.table tt) by rw[dG];exact iO.o.X ((O.refl No w7).alloc _) nE);rw[←dG] at bt⊢;rw[←iP] at bt⊢;have lS:=Z bt;have lT:=Z (show ¬gt=p by have v:=dw.o.lt;have A:=bY.o.size;omega);have lU:=Z (show ¬gi=p by have v:=fB.o.lt;have A:=iy.o;omega);have lV:=Z fE;obtain⟨aH,bz⟩:∃aH:ae,aH=λb=>(((lW ok w g b∧b≠p)∧(Value.slice sa aj.length sc).ownBlock≠some b)∧b≠Q)∧(Value.slice za zn zc).ownBlock≠some b:=⟨_,rfl⟩
            have dI:=Z (show aG aH wy aU (.table ((x.imports.take B).foldl (dQ all x.name) (cZ all (c.wants.take n)))) by rw[bz];exact iG.o.X M.o nE);have dK:=Z (iF.o.X M.o nE);have iR:=Z (show ∀b,wy.heap.size<=b→aH b by
             intro b o;rw[bz];have v:=HG.o;have A:=bH.o;have h3:=aF.o;have h4:=fB.o.lt;have h5:=M.o.size;have h6:=lH.o.size;have h7:=dw.o.lt;have h9:=bM.o.size;have rP:=jG.o;refine⟨⟨⟨⟨.inr (by omega),by omega⟩,λe=> ?_⟩,by omega⟩,λe=> ?_⟩
             .have h8:=(dX.o b e).2;omega
             .have:=(dK.o.elem e).2.1;omega)
            have lX:=Z (show aG aH wy S (.table tt) from iQ.o.mono (λb _ o=>by
             rw[bz];have h3:=aF.o;refine⟨⟨⟨⟨o.1,by have:=o.2;omega⟩,λe=> ?_⟩,by have:=o.2;omega⟩,λe=> ?_⟩
             .have:=(dX.o b e).1;have:=o.2;omega
             .have:=(dK.o.elem e).1;have:=o.2;omega))
            have bP:=Z (show ¬aH p by rw[bz];exact λe=>e.1.1.1.2 rfl);have lY:=Z (dw.o.X M.o id);have lZ:=Z (iH.o.X M.o id);have l7:=Z (show(bT z).parent.size<1099511627776 by have:=(o9 fC.o).2;omega);have l9:=Z bz;obtain⟨m2,iT⟩:∃m2,m2=(x.imports.take B).foldl (dQ all x.name) (cZ all (c.wants.take n)):=⟨_,rfl⟩;rw[←iT] at dI fD dA gQ;clear dG iP bt fE iM bz iO iQ iT;refine aT (FI [.eq (.agg aU.toArray),.eq (.pointer (some ⟨gi,2,none⟩)),.eq (.string (bT z).parent),.eq (.agg S.toArray),.val aH (fJ (bT z).parent (.table tt)),.eq (.bool true),.val aH (.table (bV true m2 tx)),.any])
             (λaQ w'=>PG p aU aH (.table (bV true m2 tx)) wy w' (aQ 7)) (by kernel_rfl) (by kernel_rfl) (PG.start lY.o) ?_ ?_
            .refine⟨?_,?_,?_,?_,?_,?_,?_,?_,trivial⟩
             .intro aQ a w1 K R P C H G s I;have fF:a.tmps[13]?.getD undef=.pointer (some ⟨p,0,none⟩):=H 13 rfl;have n7:=ny1 P 7 6 rfl (ny1 P 6 0 rfl R);have iV:=s;rw[n7] at iV;obtain⟨c',o,v, -⟩:=iV.box;obtain rfl:=v rfl;refine ax rfl ?_;refine aO au rfl (vE fF) o.cells dI.o.length ?_;exact I _ _ rfl (by simpa[dn] using s) Sy
             .intro aQ a w1 K R P C H G s I;have rQ:a.tmps[19]?.getD undef=.pointer (some ⟨gi,0,none⟩):=H 19 rfl;clear P C H G;go_simp;exact I _ _ rfl (by simpa[dn] using s) Sy
             .intro aQ a w1 K R P C H G s I;have rU:=fq (C 1 99 rfl (G 1 rfl));have c6:w1.cell? ⟨gi,2,none⟩=some (.string (bT z).parent):=(lZ.o.X s.X lU.o).cell 2;clear P C H G;go_simp;exact I _ _ rfl (by simpa[dn] using s) Sy
             .intro aQ a w1 K R P C H G s I;have mf:a.tmps[20]?.getD undef=.pointer (some ⟨gt,0,none⟩):=H 20 rfl;refine ax rfl ?_;refine aO au rfl (vE mf) (lS.o.X s.X (lT.o)).cells lV.o ?_;exact I _ _ rfl (by simpa[dn] using s) Sy
             .intro aQ a w1 K R P C H G s I;have mg:=fq (C 2 100 rfl (G 2 rfl));have mi:=fq (C 3 101 rfl (G 3 rfl));refine ax rfl ?_;have fG:=nK (bT z).parent l7.o (lX.o.X s.X (λb o e=>bP.o (e▸o)));refine jE Tryz.call40 rfl (vE mg) (vE mi) fG ?_;rintro e w2 ⟨cs,rfl,hj,hc⟩;exact⟨_,rfl,I _ _ ⟨cs,rfl,hj.mono (λb _ o=>o.elim id (λh=>iR.o b (by have:=s.size;omega)))⟩ (by simpa[dn] using s.df hc) (λ_ _ _ _ h=>h.aP hc)⟩
             .intro aQ a w1 K R P C H G s I;have T:a.tmps[1]?.getD undef=.bool true:=H 1 rfl;clear P C H G;go_simp;exact I _ _ rfl (by simpa[dn] using s) Sy
             .intro aQ a w1 K R P C H G s I;have mD:=fq (C 0 98 rfl (G 0 rfl));obtain⟨c9,mF,iW⟩:=C 4 102 rfl (G 4 rfl);rw[lN.o] at iW;have mG:=fq (C 5 103 rfl (G 5 rfl));refine ax rfl ?_;have fG:=jP U N hU true F aH m2 tx aU c9 w1 (dI.o.X s.X (λb o e=>bP.o (e▸o))) iW fD.o iL.o;refine gB Tryz.call53 rfl (vE mD) (vE mF) (vE mG) fG ?_;rintro e w2 ⟨cs,rfl,hj,hc⟩;exact⟨_,rfl,I _ _ ⟨cs,rfl,hj.mono (λb _ o=>o.elim id (λh=>iR.o b (by have:=s.size;omega)))⟩ (by simpa[dn] using s.df hc) (λ_ _ _ _ h=>h.aP hc)⟩
             .intro aQ a w1 K R P C H G s I;have fF:a.tmps[13]?.getD undef=.pointer (some ⟨p,0,none⟩):=H 13 rfl;obtain⟨c2,mJ,bC⟩:=C 6 104 rfl (G 6 rfl);rw[R] at s;obtain⟨c',o,v, -⟩:=s.box;obtain rfl:=v rfl;refine ax rfl ?_;refine dH au rfl (vE fF) (vE mJ) o dI.o.length bC.length bC.one ?_;intro w2 dL hC rV;refine I undef _ trivial (by simpa[dn] using s.fill dL hC bC bP.o) ?_;refine λj hj _ u hu=>hu.keep hC (aV (i:=7) (λj hl hj=> ?_) j hj)
              match j,hj with
              |0,_|1,_|2,_|3,_=>exact trivial
              |4,_=>exact λb o e=>bP.o (e▸o)
              |5,_=>exact trivial
              |6,_=>exact λb o e=>bP.o (e▸o)
              |7,hj=>exact absurd rfl hj
              |j+8,_=>exact absurd hl (by simp)
            .intro vs w2 mM mO s;obtain⟨c2,dL, -,bC⟩:=s.box;have mP:=Z dL;have mV:=Z (bC rfl);have iY:=Z s.X;clear dL bC s mM mO;simp only[aX,Act.put,List.setIfInBounds_toArray,List.set_cons_succ,List.set_cons_zero];go_wp2_with fail;have iZ:=l9.o;have mW:=Z (show aG (λb=>(((lW ok w g b∧b≠p)∧(Value.slice sa aj.length sc).ownBlock≠some b)∧b≠Q)∧(Value.slice za zn zc).ownBlock≠some b) w2 c2 (.table (bV true m2 tx)) by rw[←iZ];exact mV.o);clear iZ;go_roundw;case rel=>exact⟨B+1,c2,by go_num,by omega,dK.o.X iY.o (λq l e=>by have T:q=p:=e;have v:=(dK.o.elem l).1;have:=aF.o;omega),mP.o,by rw[gQ.o,dA.o];exact mW.o,(bM.o.trans' M.o).trans iY.o (λq l e=> .inl e)⟩
             case measure=>simp[intOf];omega
          |false=>
           rw[kX] at z3;have lF:=Z (show bT z=⟨ByteArray.empty,wG++z.plain,dB,true⟩ by unfold bT;rw[kX];rfl);clear kX;have z0:wi.cell? ⟨gi,0,none⟩=some (.string z.plain):=lD.o.cell 0;have rW:=Lm;have pF:=lD.o;have uj:=fC.o.plain;have pG:(cu ⟨ByteArray.empty,wG++z.plain,dB,true⟩).all (·.oneCell')=true:=rfl;go_upto_region 27 with(first|(with_reducible refine aA rfl kH rfl rfl rfl pF rfl rfl pG ?_;intro wj pI fH rX))
           have iC:=Z (show ay wj gi (cu (bT z)) 110 by rw[lF.o];exact pI);have bn:=Z (show O No aZ wj from pz.o.trans fH (λq l e=>by have T:q=gi:=e;have:=iy.o;omega));clear pI fH rX z0 z3 rW pF pG;have bj:=iC.o.cells;have iD:=fA.o.X bn.o nE;have di:(cu (bT z)).length=4:=rfl;have iE:(cu (bT z)).all (·.oneCell')=true:=rfl;have lG:(((x.imports.take B).map bT).map cu).length+1<=1099511627776:=by have:=gG.o.2.2.1;simp only[List.length_map,List.length_take];omega
           have eP:Bi<=wj.heap.size+1:=by have v:=gI.o.size;have A:=bn.o.size;have h3:=jG.o;omega
           have dm:=Z (show ∀q,(Value.slice ja B jc).ownBlock=some q→Bi<=q∧q<aZ.heap.size from λq l=>⟨(fA.o.elem l).1,(fA.o.elem l).2.1⟩);go_upto_region 28 with(first|(with_reducible refine V rfl kH rfl rfl bj di ?_)|(refine mQ rfl rfl rfl di ?_)|(at_builtin;refine aN rfl y8 rfl rfl (iD.alloc _) rfl (aC.gX wj (cu (bT z)) 110 4 di) (by intro r hr;obtain rfl:=List.mem_singleton.1 hr;exact iE) lG (by decide) (by simpa using eP) ?_;intro v' wk bg af bG eQ;obtain⟨za,zn,zc,rfl⟩:=bg.slice;go_frame))
           have iF:=Z (show aB wk Bi 110 4 (.slice za zn zc) (((x.imports.take (B+1)).map bT).map cu) by rw[pg.o];exact bg);have bM:=Z (show O (λb=>b=p∨Bi<=b) wx wk from((gI.o.trans' bn.o).trans' ((O.refl No wj).alloc (.cells (cu (bT z)).toArray 110))).trans af (λq l e=> .inr (dm.o q e).1));have lH:=Z (show O No w wk from((jI.o.trans' bn.o).trans' ((O.refl No wj).alloc (.cells (cu (bT z)).toArray 110))).trans af (λq l e=>by have v:=HG.o;have A:=bH.o;have h3:=aF.o;have h4:=(dm.o q e).1;omega));have iG:=Z ((lq.o.X bn.o nE).app af bG);have dw:=Z (show ay wk p aU 26 from((fB.o.X bn.o id).alloc _).X af (λe=>by have v:=(dm.o p e).1;have A:=aF.o;omega));have iH:=Z (show ay wk gi (cu (bT z)) 110 from(iC.o.alloc _).X af (λe=>by have v:=(dm.o gi e).2;have A:=iy.o;omega));have lI:=Z (show ay wk Q (aI x tv (.slice (some ⟨o6,o7,none⟩) x.imports.length ic)) 79 from lh.o.X bM.o (λe=>by have A:=aF.o;omega));have iI:=Z (show O (λb=>p<=b) wm wk from(dW.o.trans' eY.o).trans bM.o (λq l e=>by have A:=aF.o;rcases e with e|e<;>omega));have lK:=Z (show ay wk ga ca 26 from kL.o.X iI.o (λe=>by have:=kQ.o;omega));have lL:=Z (kP.o.X iI.o (λq l e=>by have:=l.2;omega));have dZ:=lK.o.cells;have dh:=kG.o.1;have lM:wk.cell? ⟨Q,0,none⟩=some (.string x.name):=lI.o.cell 0;have z1:wk.cell? ⟨gi,1,none⟩=some (.string (bT z).child):=iH.o.cell 1;have rM:=(o9 fC.o).1;have rO:=gG.o.2.1;clear bg af bG eQ iD bj di iE;go_wp2_with (first|(with_reducible refine V rfl au rfl rfl dZ dh ?_));refine(nP (x.name++dB++(bT z).child) (by rw[ByteArray.size_append,ByteArray.size_append];have:dB.size=1:=rfl;omega) lL.o).mono ?_;rintro e w7 ⟨bf,hm⟩;have bY:=Z bf;clear bf dZ lM z1;cases iU:bD all (parts (x.name++dB++(bT z).child) 46) with
           |none=>
            rw[iU] at hm;obtain rfl:=hm;have dA:=Z (show dQ all x.name ((x.imports.take B).foldl (dQ all x.name) (cZ all (c.wants.take n))) z=(x.imports.take B).foldl (dQ all x.name) (cZ all (c.wants.take n)) from yg iU);clear iU;go_wp2_with (first|(with_reducible refine ak rfl au rfl rfl rfl rfl rfl rfl ?_));have M:=Z (bY.o.alloc (.cells bu.toArray 26));go_roundw;case rel=>exact⟨B+1,aU,by go_num,by omega,iF.o.X M.o nE,dw.o.X M.o id,by rw[gQ.o,dA.o];exact iG.o.X M.o nE,bM.o.trans' M.o⟩
            case measure=>simp[intOf];omega
           |some tt=>
            rw[iU] at hm;obtain⟨S,rfl,dC⟩:=hm;obtain⟨tx,dE⟩:=lJ (bT z).parent tt;have lN:=Z dE;have dA:=Z (show dQ all x.name ((x.imports.take B).foldl (dQ all x.name) (cZ all (c.wants.take n))) z=bV true ((x.imports.take B).foldl (dQ all x.name) (cZ all (c.wants.take n))) tx from yh iU dE);have lQ:∃F,WU U N F (.table ((x.imports.take B).foldl (dQ all x.name) (cZ all (c.wants.take n))))∧WU U N F (.table tx):=by obtain⟨⟨E1,v⟩, -⟩:=pq.o;obtain⟨⟨E0,h0⟩, -⟩:=gq.o;obtain⟨E2,A⟩:=Ad fC.o (jU h0 iU);rw[dE] at A;exact⟨E1+E2,v.max,A.Cc⟩
            obtain⟨F,iJ,iK⟩:=lQ;have fD:=Z iJ;have iL:=Z iK;have fE:=dC.length;have iM:=dC.one;have iO:=Z dC;have bt:=ay.new w7 S 26;obtain⟨gt,iP⟩:∃gt,gt=w7.heap.size:=⟨_,rfl⟩;clear iU dC dE iJ iK;go_upto_region 30 with(first|(with_reducible refine ak rfl au rfl rfl rfl rfl fE iM ?_))
            obtain⟨wy,dG⟩:∃wy,wy=w7.alloc (.cells S.toArray 26):=⟨_,rfl⟩;have M:=Z (show O No wk wy by rw[dG];exact bY.o.alloc _);have iQ:=Z (show aG (λb=>lW ok w g b∧b<p) wy S (.table tt) by rw[dG];exact iO.o.X ((O.refl No w7).alloc _) nE);rw[←dG] at bt⊢;rw[←iP] at bt⊢;have lS:=Z bt;have lT:=Z (show ¬gt=p by have v:=dw.o.lt;have A:=bY.o.size;omega);have lU:=Z (show ¬gi=p by have v:=fB.o.lt;have A:=iy.o;omega);have lV:=Z fE;obtain⟨aH,bz⟩:∃aH:ae,aH=λb=>(((lW ok w g b∧b≠p)∧(Value.slice sa aj.length sc).ownBlock≠some b)∧b≠Q)∧(Value.slice za zn zc).ownBlock≠some b:=⟨_,rfl⟩
            have dI:=Z (show aG aH wy aU (.table ((x.imports.take B).foldl (dQ all x.name) (cZ all (c.wants.take n)))) by rw[bz];exact iG.o.X M.o nE);have dK:=Z (iF.o.X M.o nE);have iR:=Z (show ∀b,wy.heap.size<=b→aH b by
             intro b o;rw[bz];have v:=HG.o;have A:=bH.o;have h3:=aF.o;have h4:=fB.o.lt;have h5:=M.o.size;have h6:=lH.o.size;have h7:=dw.o.lt;have h9:=bM.o.size;have rP:=jG.o;refine⟨⟨⟨⟨.inr (by omega),by omega⟩,λe=> ?_⟩,by omega⟩,λe=> ?_⟩
             .have h8:=(dX.o b e).2;omega
             .have:=(dK.o.elem e).2.1;omega)
            have lX:=Z (show aG aH wy S (.table tt) from iQ.o.mono (λb _ o=>by
             rw[bz];have h3:=aF.o;refine⟨⟨⟨⟨o.1,by have:=o.2;omega⟩,λe=> ?_⟩,by have:=o.2;omega⟩,λe=> ?_⟩
             .have:=(dX.o b e).1;have:=o.2;omega
             .have:=(dK.o.elem e).1;have:=o.2;omega))
            have bP:=Z (show ¬aH p by rw[bz];exact λe=>e.1.1.1.2 rfl);have lY:=Z (dw.o.X M.o id);have lZ:=Z (iH.o.X M.o id);have l7:=Z (show(bT z).parent.size<1099511627776 by have:=(o9 fC.o).2;omega);have l9:=Z bz;obtain⟨m2,iT⟩:∃m2,m2=(x.imports.take B).foldl (dQ all x.name) (cZ all (c.wants.take n)):=⟨_,rfl⟩;rw[←iT] at dI fD dA gQ;clear dG iP bt fE iM bz iO iQ iT;refine aT (FI [.eq (.agg aU.toArray),.eq (.pointer (some ⟨gi,2,none⟩)),.eq (.string (bT z).parent),.eq (.agg S.toArray),.val aH (fJ (bT z).parent (.table tt)),.eq (.bool true),.val aH (.table (bV true m2 tx)),.any])
             (λaQ w'=>PG p aU aH (.table (bV true m2 tx)) wy w' (aQ 7)) (by kernel_rfl) (by kernel_rfl) (PG.start lY.o) ?_ ?_
            .refine⟨?_,?_,?_,?_,?_,?_,?_,?_,trivial⟩
             .intro aQ a w1 K R P C H G s I;have fF:a.tmps[13]?.getD undef=.pointer (some ⟨p,0,none⟩):=H 13 rfl;have n7:=ny1 P 7 6 rfl (ny1 P 6 0 rfl R);have iV:=s;rw[n7] at iV;obtain⟨c',o,v, -⟩:=iV.box;obtain rfl:=v rfl;refine ax rfl ?_;refine aO au rfl (vE fF) o.cells dI.o.length ?_;exact I _ _ rfl (by simpa[dn] using s) Sy
             .intro aQ a w1 K R P C H G s I;have rQ:a.tmps[19]?.getD undef=.pointer (some ⟨gi,0,none⟩):=H 19 rfl;clear P C H G;go_simp;exact I _ _ rfl (by simpa[dn] using s) Sy
             .intro aQ a w1 K R P C H G s I;have rU:=fq (C 1 99 rfl (G 1 rfl));have c6:w1.cell? ⟨gi,2,none⟩=some (.string (bT z).parent):=(lZ.o.X s.X lU.o).cell 2;clear P C H G;go_simp;exact I _ _ rfl (by simpa[dn] using s) Sy
             .intro aQ a w1 K R P C H G s I;have mf:a.tmps[20]?.getD undef=.pointer (some ⟨gt,0,none⟩):=H 20 rfl;refine ax rfl ?_;refine aO au rfl (vE mf) (lS.o.X s.X (lT.o)).cells lV.o ?_;exact I _ _ rfl (by simpa[dn] using s) Sy
             .intro aQ a w1 K R P C H G s I;have mg:=fq (C 2 100 rfl (G 2 rfl));have mi:=fq (C 3 101 rfl (G 3 rfl));refine ax rfl ?_;have fG:=nK (bT z).parent l7.o (lX.o.X s.X (λb o e=>bP.o (e▸o)));refine jE Tryz.call40 rfl (vE mg) (vE mi) fG ?_;rintro e w2 ⟨cs,rfl,hj,hc⟩;exact⟨_,rfl,I _ _ ⟨cs,rfl,hj.mono (λb _ o=>o.elim id (λh=>iR.o b (by have:=s.size;omega)))⟩ (by simpa[dn] using s.df hc) (λ_ _ _ _ h=>h.aP hc)⟩
             .intro aQ a w1 K R P C H G s I;have T:a.tmps[1]?.getD undef=.bool true:=H 1 rfl;clear P C H G;go_simp;exact I _ _ rfl (by simpa[dn] using s) Sy
             .intro aQ a w1 K R P C H G s I;have mD:=fq (C 0 98 rfl (G 0 rfl));obtain⟨c9,mF,iW⟩:=C 4 102 rfl (G 4 rfl);rw[lN.o] at iW;have mG:=fq (C 5 103 rfl (G 5 rfl));refine ax rfl ?_;have fG:=jP U N hU true F aH m2 tx aU c9 w1 (dI.o.X s.X (λb o e=>bP.o (e▸o))) iW fD.o iL.o;refine gB Tryz.call53 rfl (vE mD) (vE mF) (vE mG) fG ?_;rintro e w2 ⟨cs,rfl,hj,hc⟩;exact⟨_,rfl,I _ _ ⟨cs,rfl,hj.mono (λb _ o=>o.elim id (λh=>iR.o b (by have:=s.size;omega)))⟩ (by simpa[dn] using s.df hc) (λ_ _ _ _ h=>h.aP hc)⟩
             .intro aQ a w1 K R P C H G s I;have fF:a.tmps[13]?.getD undef=.pointer (some ⟨p,0,none⟩):=H 13 rfl;obtain⟨c2,mJ,bC⟩:=C 6 104 rfl (G 6 rfl);rw[R] at s;obtain⟨c',o,v, -⟩:=s.box;obtain rfl:=v rfl;refine ax rfl ?_;refine dH au rfl (vE fF) (vE mJ) o dI.o.length bC.length bC.one ?_;intro w2 dL hC rV;refine I undef _ trivial (by simpa[dn] using s.fill dL hC bC bP.o) ?_;refine λj hj _ u hu=>hu.keep hC (aV (i:=7) (λj hl hj=> ?_) j hj)
              match j,hj with
              |0,_|1,_|2,_|3,_=>exact trivial
              |4,_=>exact λb o e=>bP.o (e▸o)
              |5,_=>exact trivial
              |6,_=>exact λb o e=>bP.o (e▸o)
              |7,hj=>exact absurd rfl hj
              |j+8,_=>exact absurd hl (by simp)
            .intro vs w2 mM mO s;obtain⟨c2,dL, -,bC⟩:=s.box;have mP:=Z dL;have mV:=Z (bC rfl);have iY:=Z s.X;clear dL bC s mM mO;simp only[aX,Act.put,List.setIfInBounds_toArray,List.set_cons_succ,List.set_cons_zero];go_wp2_with fail;have iZ:=l9.o;have mW:=Z (show aG (λb=>(((lW ok w g b∧b≠p)∧(Value.slice sa aj.length sc).ownBlock≠some b)∧b≠Q)∧(Value.slice za zn zc).ownBlock≠some b) w2 c2 (.table (bV true m2 tx)) by rw[←iZ];exact mV.o);clear iZ;go_roundw;case rel=>exact⟨B+1,c2,by go_num,by omega,dK.o.X iY.o (λq l e=>by have T:q=p:=e;have v:=(dK.o.elem l).1;have:=aF.o;omega),mP.o,by rw[gQ.o,dA.o];exact mW.o,(bM.o.trans' M.o).trans iY.o (λq l e=> .inl e)⟩
             case measure=>simp[intOf];omega
         .skip
          have rJ:¬(B:Int)<(x.imports.length:Int):=(by omega);have pJ:=Z (show aB aZ Bi 110 4 (.slice ja B jc) (dS (x.imports.map bT)) by have h:=fA.o;rw[List.take_of_length_le (by omega)] at h;exact h);have rY:=Z (show cZ all (c.wants.take (n+1))=(x.imports.take B).foldl (dQ all x.name) (cZ all (c.wants.take n)) by
           rw[sS HX.o,List.take_of_length_le (by omega:x.imports.length<=B)]
           rfl)
          have mX:=Z (lh.o.X gI.o (λe=>by have A:=aF.o;omega));have c6:aZ.cell? ⟨Q,6,none⟩=some (.slice ia x.imports.length ic):=mX.o.cell 6;have f6:=mX.o.frozen 6;go_upto_region 33 with fail
          obtain⟨cO,aS, -⟩:=mX.o.setCell 6 (.slice ja B jc);obtain⟨dM,pK⟩:∃dM,dM=aZ.setCell ⟨Q,6,none⟩ (.slice ja B jc):=⟨_,rfl⟩;rw[←pK] at cO aS⊢;have rZ:=Z (show ay dM Q (aI (uA x) tv (.slice ja B jc)) 79 from cO);have eF:=Z aS;have su:=Z (show dF (λb=>okB ok w b∨Bi<=b) dM (aI (uA x) tv (.slice ja B jc)) (uA x) from
           ⟨_,_,rfl,(((HT.o.mono (ok':=okB ok w) (λb o h=>⟨h,o⟩) (by decide)).X jI.o nE).X aS (λq l e=>by have T:q=Q:=e;have v:=l.2;have A:=HG.o;have h3:=bH.o;have h4:=aF.o;omega)).mono (λb _ o=> .inl o) (by decide),
            ((pJ.o.rowAt.mono (ok':=λq=>Bi<=q) (λq _ l=>(pJ.o.elem l).1) (by decide)).X aS (λq l e=>by have T:q=Q:=e;have h4:=aF.o;omega)).mono (λb _ o=> .inr o) (by decide)⟩)
          have pM:=Z (show O (λb=>b=p∨J.heap.size<=b) J dM from((eY.o.mono (S':=λb=>b=p∨J.heap.size<=b) (λ_ _ e=>e.elim)).trans gI.o (λq l e=>by have h4:=aF.o;rcases e with e|e;exact .inl e;exact .inr (by omega))).trans aS (λq l e=> .inr (by have T:q=Q:=e;have:=kZ.o;omega)));have pO:=Z (gz.o.GY pM.o (λq l e=>by rcases e with e|e;exact e;omega));have pR:=Z (fB.o.X aS (λe=>by have T:p=Q:=e;have:=aF.o;omega));have sD:=Z (show aG (λb=>(lW ok w g b∧b≠p)∧(Value.slice sa aj.length sc).ownBlock≠some b) dM aU (.table (cZ all (c.wants.take (n+1)))) by rw[rY.o];exact((lq.o.mono (ok':=λb=>((lW ok w g b∧b≠p)∧(Value.slice sa aj.length sc).ownBlock≠some b)∧b≠Q) (λb _ h=>h.1)).X aS (λq l e=>l.2 e)).mono (λb _ h=>h.1));clear pK cO aS c6 f6;have pV:=rZ.o.cells;have jL:(aI (uA x) tv (.slice ja B jc)).length=7:=rfl;have pW:(aI (uA x) tv (.slice ja B jc)).all (·.oneCell')=true:=by
           have h:=rE.o;simp only[aI,List.all_cons,List.all_nil,Bool.and_true,Bool.and_eq_true] at h;simp only[aI,uA,List.all_cons,List.all_nil,Bool.and_true,Bool.and_eq_true]
           simp_all [Value.oneCell']
          have gZ:=pO.o.own;have og:aj.length+1<=1099511627776:=by have v:=gz.o.len;simp only[List.length_map,List.length_take] at v;have A:=rD.o;omega
          have eP:p+1<=dM.heap.size+1:=by have v:=pR.o.lt;omega
          have uk:=Z dO;go_wp2_with (first|(with_reducible refine V rfl dD rfl rfl pV jL ?_)|(refine fU rfl rfl rfl jL ?_)|(at_builtin;refine aN rfl nU rfl rfl (gZ.alloc _) rfl (aC.gX dM (aI (uA x) tv (.slice ja B jc)) 79 7 jL) (by intro r hr;obtain rfl:=List.mem_singleton.1 hr;exact pW) og (by decide) (by simpa using eP) ?_;intro v' w6 bg af bG eQ;go_frame));have sF:=Z (pO.o.step (okr:=λb=>okB ok w b∨Bi<=b) (x:=uA x) su.o (λb o h=>by
           have v:=HG.o;have A:=bH.o;have h3:=aF.o;rcases h with h|h
           .exact⟨.inl h,by have:=h.2;omega,λe=>by have h4:=(dX.o b e).1;have:=h.2;omega⟩
           .exact⟨.inr (by omega),by omega,λe=>by have h4:=(dX.o b e).2;omega⟩) af bg bG)
          have sG:=Z (show ay w6 p aU 26 from(pR.o.alloc (.cells (aI (uA x) tv (.slice ja B jc)).toArray 79)).X af (λe=>by have:=(dX.o p e).1;omega));have sH:=Z (sD.o.app af bG);have bK:=Z (show O (λb=>p<=b) wm w6 from((dW.o.trans pM.o (λq l e=>by have h3:=jB.o.lt;rcases e with e|e<;>omega)).trans' ((O.refl No dM).alloc (.cells (aI (uA x) tv (.slice ja B jc)).toArray 79))).trans af (λq l e=>by have:=(dX.o q e).1;omega));have sK:=Z (show(c.wants.take (n+1)).map uA=(c.wants.take n).map uA++[uA x] by rw[List.take_add_one,HX.o];simp);clear bg af bG eQ gZ pV jL pW;go_roundw;case rel=>exact⟨n+1,_,aU,by go_num,by omega,by rw[sK.o];exact sF.o,sG.o,sH.o,bK.o⟩
          case measure=>simp[intOf];omega
       .skip
        have oh:n=aJ.length:=Nat.le_antisymm jT (Nat.not_lt.1 dO);have jl:¬(n:Int)<(aJ.length:Int):=(by omega);have jM:=Z (show LW (lW ok w g) (p+1) p J (.slice sa aj.length sc) aj (c.wants.map uA) by have h:=gz.o;rw[List.take_of_length_le (by rw[←fM.o];omega)] at h;exact h);have pX:=Z (show aG (λb=>(lW ok w g b∧b≠p)∧(Value.slice sa aj.length sc).ownBlock≠some b) J cm (.table (cZ all c.wants)) by have h:=kT.o;rw[List.take_of_length_le (by rw[←fM.o];omega)] at h;exact h);have jO:=oL.o.X dW.o (λe=>by have T:p<=g:=e;have:=bH.o;omega);have sN:J.cell? ⟨g,10,none⟩=some (.slice wa aJ.length wc):=jO.cell 10;have sO:=jO.frozen 10;have pY:=Z jO;clear jO gz kT oh;go_upto_region 36 with fail
        obtain⟨mY,bW, -⟩:=pY.o.setCell 10 (.slice sa aj.length sc);obtain⟨gU,qc⟩:∃gU,gU=J.setCell ⟨g,10,none⟩ (.slice sa aj.length sc):=⟨_,rfl⟩;rw[←qc] at mY bW⊢;have qf:=Z (show ay gU g (az name bQ k b i f t kv lv (.slice va aY.length vc) (.slice sa aj.length sc)) 30 from mY);have qg:=Z bW;have jb:=Z (show ∀q,lW ok w g q→q≠g∧q≠g+1 from λq l=>by
         have v:=HG.o;rcases l with h|h
         .have:=h.2;omega
         .omega)
        have sQ:=Z ((kL.o.X dW.o (λe=>by have T:p<=ga:=e;have:=kQ.o;omega)).X bW (λe=>by have T:ga=g:=e;have:=qX.o;omega));have qh:=Z (jB.o.X bW (λe=>by have T:p=g:=e;have:=bH.o;omega));have sU:=Z (show aG (lW ok w g) gU ca (.table all) from((kP.o.X dW.o (λq l e=>by have v:=l.2;omega)).X bW (λq l e=>(jb.o q l.1).1 e)).mono (λb _ h=>h.1));have qi:=Z (show aG (lW ok w g) gU cm (.table (cZ all c.wants)) from(pX.o.X bW (λq l e=>(jb.o q l.1.1).1 e)).mono (λb _ h=>h.1.1));have sV:gY U N (cZ all c.wants):=gY.cZ gq.o _ (λy hy=>(kR.o y hy).2.2.2);obtain⟨⟨E1,qj⟩, -⟩:=gq.o;obtain⟨⟨E2,ql⟩, -⟩:=sV;have fD:=Z (show WU U N (E1+E2) (.table all) from qj.max);have iL:=Z (show WU U N (E1+E2) (.table (cZ all c.wants)) from ql.Cc);have dZ:=sQ.o.cells;have dh:=kG.o.1;have qm:=qh.o.cells;have sW:=qi.o.length;clear qc mY bW sN sO qj ql pX pY;go_wp2_with (first|(with_reducible refine V rfl au rfl rfl dZ dh ?_)|(with_reducible refine V rfl au rfl rfl qm sW ?_));refine(jP U N hU true (E1+E2) (lW ok w g) all (cZ all c.wants) ca cm gU sU.o qi.o fD.o iL.o).mono ?_;rintro e w7 ⟨cv,rfl,jQ,bf⟩;obtain⟨vk,vb,vi,vf,vt,qo,qp,rfl⟩:=jQ.seven;have sZ:=Z jQ;have bY:=Z bf;have qw:=jQ.one;have b9:=qf.o.X bf id;have qx:2+7<=(az name bQ k b i f t kv lv (.slice va aY.length vc) (.slice sa aj.length sc)).length:=(by simp[az]);clear jQ bf dZ qm;go_upto_region 39 with(first|(with_reducible refine pU rfl au rfl rfl rfl b9 qx rfl qw ?_;intro w8 qy mZ tq))
        have b8:ay w8 g (az name bQ vk vb vi vf vt qo qp (.slice va aY.length vc) (.slice sa aj.length sc)) 30:=qy;have M:=Z mZ;have um:=Z b8;have tu:=(((rq.o.X dW.o (λe=>by have T:p<=g+1:=e;have:=bH.o;omega)).X qg.o (λe=>by have T:g+1=g:=e;omega)).X bY.o id).X mZ (λe=>by have T:g+1=g:=e;omega);have qA:(az name bQ vk vb vi vf vt qo qp (.slice va aY.length vc) (.slice sa aj.length sc)).all (·.oneCell')=true:=by
         simp only[ai,List.all_cons,List.all_nil,Bool.and_true,Bool.and_eq_true] at qw;simp only[az,List.all_cons,List.all_nil,Bool.and_true,Bool.and_eq_true]
         simp_all [Value.oneCell']
        have tC:=b8.cells;clear qy mZ tq b9 qx b8;go_wp2_with (first|(with_reducible refine V rfl aK rfl rfl tC rfl ?_)|(with_reducible refine aA rfl aK rfl rfl rfl tu rfl rfl qA ?_;intro w9 tH qB uo));have hg:=HG.o;have uq:=bH.o;have jR:O (λq=>q=g∨q=g+1) J w9:=(((qg.o.mono (S':=λq=>q=g∨q=g+1) (λ_ _ e=> .inl e)).trans' bY.o).trans M.o (λq _ e=> .inl e)).trans qB (λq _ e=> .inr e);have qC:O (λq=>p<=q∨q=g∨q=g+1) wm w9:=(dW.o.mono (S':=λq=>p<=q∨q=g∨q=g+1) (λ_ _ e=> .inl e)).trans jR (λq _ e=> .inr e);have tJ:O No w w9:=kU.o.trans jR (λq l e=>by rcases e with e|e<;>omega);have tK:O (λq=>q=g∨q=g+1) w7 w9:=(M.o.mono (S':=λq=>q=g∨q=g+1) (λ_ _ e=> .inl e)).trans qB (λq _ e=> .inr e);have uu:=qf.o.lt;have uw:=qh.o.lt;rw[eG.o];refine bodyPost_ret (aW rfl aK rfl tH rfl) rfl ⟨_,rfl,tJ,⟨rfl,qA⟩,λc' h=> ?_⟩;cases h;rw[←nD.o,←nG.o];have ng:∀q,lW ok w g q→ok q∨w.heap.size<=q:=λq l=>by
         rcases l with h|h
         .exact .inl h.1
         .exact .inr (by omega)
        refine .mk ((sZ.o.X tK (λq l e=>by
          rcases l with l|l
          .have:=jb.o q l;omega
          .omega)).mono (λq _ l=>by
          rcases l with l|l
          .exact ng q l
          .exact .inr (by omega)))
         ((ry.o.X qC (λq l e=>by omega)).mono (λq _ l=> .inr (by omega)) (by decide))
         rC.o
         (λj r d v A=>((ru.o j r d v A).X qC (λq l e=>by have h3:=jb.o q l.1;have h4:=l.2;omega)).mono (λq _ l=>ng q l.1))
         (((jM.o.own.rowAt.mono (ok':=λq=>p+1<=q) (λq _ l=>(jM.o.own.elem l).1) (by decide)).X jR (λq l e=>by omega)).mono (λq _ l=> .inr (by omega)) (by decide))
         jM.o.len
         (λj r x v A=>((jM.o.val j r x v A).X jR (λq l e=>by have:=jb.o q l.1;omega)).mono (λq _ l=>ng q l.1))
def mV:Nat→Ch→List K
 |0,_=> []
 |L+1,c=>(c.wants.flatMap λx=>x.imports.flatMap λi=>parts i.parent 46)++c.deps.flatMap (mV L)
structure sU (U:List K) (L:Nat) (c:Ch):Prop where
 en:GL U L c
 ask:∀e,lF e c
 keys:∀k∈mV L c,k∈U
theorem lF.as{e:Nat}{d:Ch}{k:K}(h:lF e d):lF e (d.as k):=by
 cases e with
 |zero=>exact lF.zero _
 |succ e=>exact lF.succ h.1 h.2
theorem sU.dep{U:List K}{L:Nat}{c d:Ch}(h:sU U (L+1) c)(g:d∈dw c.deps c.wants):sU U L d:=by
 have f:∀a∈c.deps,∀k∈mV L a,k∈U:=λa b k f=>h.keys k (by simp only[mV,List.mem_append,List.mem_flatMap];exact .inr ⟨a,b,f⟩)
 refine⟨h.en.dep g,?_,?_⟩
 .rcases uU g with⟨i, -⟩|⟨x,l,a,b, -,rfl⟩
  .exact λe=>(h.ask (e+1)).2 d i
  .exact λe=>((h.ask (e+1)).2 a b).as
 .rcases uU g with⟨i, -⟩|⟨x,l,a,b, -,rfl⟩
  .exact f d i
  .intro k j;cases L with
   |zero=>cases j
   |succ L=>exact f a b k j
theorem sU.L9{U:List K}{L:Nat}{c d:Ch}(h:sU U (L+1) c)(a:d∈c.deps):sU U L d:=by refine⟨⟨h.en.gQ.2.2.2.2.2.1 d a,λe=>(h.en.E5 (e+1)).2 d a,λk b=>h.en.keys k (by simp only[jZ,List.mem_cons,List.mem_append,List.mem_flatMap];exact .inr (.inr (.inr ⟨d,a,b⟩)))⟩,λe=>(h.ask (e+1)).2 d a,λk b=>h.keys k (by simp only[mV,List.mem_append,List.mem_flatMap];exact .inr ⟨d,a,b⟩)⟩
theorem zF.NQ{U:List K}{i:iy}(h:zF i)(g:∀k∈parts i.parent 46,k∈U):lQ U i:=by
 have b:ByteArray.empty.size=0:=rfl;cases hm:i.isMap with
 |true=>
  obtain⟨c,d,a,j⟩:=h.1 hm;refine⟨by rw[c,b];omega,Nat.le_trans d.1 (by decide),?_,λ_ l k f=>⟨g k f,λe=>j (e▸f)⟩⟩;rcases a with a|a
  .exact Nat.le_trans a.1 (by decide)
  .rw[a];decide
 |false=>obtain⟨c,d,a⟩:=h.2 hm;exact⟨Nat.le_trans a.1 (by decide),by rw[c,b];omega,by rw[d,b];omega,λe=>by rw[hm] at e;cases e⟩
theorem sU.wants{U:List K}{L:Nat}{c:Ch}(h:sU U (L+1) c):∀x∈c.wants,xq x∧x.name.size<=1000∧x.imports.length<=20∧∀i∈x.imports,lQ U i:=λx a=>by have b:=h.en.gQ.2.2.2.2.2.2.2.1 x a;have e:=(h.ask 1).1.2.2 x a;exact⟨b.sm,Nat.le_trans b.name.le (by decide),b.kD,λi d=>(e.kD i d).NQ (λk f=>h.keys k (by simp only[mV,List.mem_append,List.mem_flatMap];exact .inl ⟨x,a,i,d,f⟩))⟩
theorem sU.Bh{U:List K}{N:Nat}(a:400<=N):∀(L:Nat){c:Ch},sU U L c→uX U N 50 L c
 |0,c,h=>h.en.gQ.elim
 |L+1,c,h=>⟨y9 a (L+1) h.en.gQ h.en.E5 (λk b=>h.en.keys k (wE _ _ k b)),Nat.le_trans h.en.gQ.2.2.2.1 (by decide),h.en.gQ.2.2.2.2.2.2.1,h.wants,λd e=>sU.Bh a L (h.L9 e)⟩
theorem GZ:∀(L:Nat)(c c':Ch)(v:T)(a:K),fF L c v a=some c'→c'.name=c.name
 |0,c,c',v,a,h=>by cases h;rfl
 |L+1,c,c',v,a,h=>by
  rw[fF] at h
  split at h
  .cases h;rfl
  .cases ha:dJ false (.mk c.name c.version c.vals (dw c.deps c.wants) c.wants) v with
   |none=>rw[ha] at h;cases h
   |some all=>
    rw[ha] at h;simp only at h;cases hm:eH (λd=>fF L d all (a++d.name++dB)) ((dw c.deps c.wants).filter λd=> !gI (bG all a c.wants) d) with
    |none=>rw[hm] at h;cases h
    |some b=>rw[hm] at h;cases h;rfl
theorem FB{x:Want}(h:xq x):xq (gy x):=by
 refine⟨?_,h.fB,h.cond,h.yE,h.tags,h.kD⟩;show gq (named x);unfold named
 split
 .exact h.yE
 .exact h.name
theorem tY{U:List K}{N:Nat}(i:400<=N):∀(L:Nat)(c c':Ch)(v:T)(b:K),sU U L c→fF L c v b=some c'→uX U N 50 L c'
 |0,c,c',v,b,h,_=>h.en.gQ.elim
 |L+1,c,c',v,b,h,a=>by
  rw[fF] at a
  split at a
  .cases a;exact h.Bh i
  .cases ha:dJ false (.mk c.name c.version c.vals (dw c.deps c.wants) c.wants) v with
   |none=>rw[ha] at a;cases a
   |some all=>
    rw[ha] at a;simp only at a;cases hm:eH (λd=>fF L d all (b++d.name++dB)) ((dw c.deps c.wants).filter λd=> !gI (bG all b c.wants) d) with
    |none=>rw[hm] at a;cases a
    |some j=>
     rw[hm] at a;cases a;have f:=h.en.Lh i;have o:=o8 (λx y p=>GZ L x y all _ p) hm;have m:∀d∈j,uX U N 50 L d:=λd k=>by obtain⟨x,g,q⟩:=ou hm d k;exact tY i L x d all _ (h.dep (List.mem_filter.1 g).1) q
     refine⟨⟨f.1,f.2.1,f.2.2.1,f.2.2.2.1,?_,λd k=>(m d k).Lp⟩,?_,?_,λy r=> ?_,m⟩
     .show(j.map Ch.name).Nodup
      rw[o];exact(wF h.en.gQ).sublist ((List.filter_sublist).map _)
     .show j.length<=60
      rw[jF hm];have s:=List.length_filter_le (λd=> !gI (bG all b c.wants) d) (dw c.deps c.wants);have t:=uV c.deps c.wants;have A:=h.en.gQ.2.2.2.1;have u:=h.en.gQ.2.2.2.2.2.2.1;omega
     .show((bG all b c.wants).filter (·.enabled)).length<=40
      have s:=List.length_filter_le (λx:Want=>x.enabled) (bG all b c.wants);have t:(bG all b c.wants).length=c.wants.length:=(by simp[bG]);have u:=h.en.gQ.2.2.2.2.2.2.1;omega
     .have n:y∈bG all b c.wants:=(List.mem_filter.1 r).1;unfold bG at n;obtain⟨B,w,rfl⟩:=List.mem_map.1 n;obtain⟨C,z,rfl⟩:=List.mem_map.1 w;obtain⟨x,g,rfl⟩:=List.mem_map.1 z;have l:=h.wants x g;have e:=FB l.1;refine⟨⟨e.name,e.fB,e.cond,e.yE,e.tags,e.kD⟩,?_,l.2.2.1,l.2.2.2⟩;show(named x).size<=1000;exact Nat.le_trans (h.en.gQ.2.2.2.2.2.2.2.1 x g).named.le (by decide)
def seen(L:Nat)(c:Ch)(v:T):Option Ch:=
 match fF L c v ByteArray.empty with
 |none=>none
 |some c'=>eX L c'
theorem FC(U:List K)(N:Nat)(J:U.length<1099511627776)(M:400<=N)(P:gK∈U)(L:Nat)(hL:L<=40)(c:Ch)(Q:sU U L c)(E:Nat)(ok:ae)(R cv:Y)(v:T)(w:World)(n:dU ok w R c)(A:aG ok w cv (.table v))(S:WU U N E (.table v)):
  Calls Tryz.prog 11 #[.agg R.toArray,.agg cv.toArray] w (zZ ok w (seen L c v)):=by
 have af:=Z Q;have aU:=Z S;have aV:=Z n;have aX:=Z A;obtain⟨aj,ax⟩:=n.one;have aY:=Z (And.intro aj ax);obtain⟨name,aB,k,b,i,f,t,kv,lv,dv,wv,rfl, -⟩:=n.cells;obtain⟨vb,vi,vf,vt,aC,aF,rfl⟩:=A.fV;have aH:∀W,((w.alloc (.cells (az name aB k b i f t kv lv dv wv).toArray 30)).alloc (.cells (ai 7 vb vi vf vt aC aF).toArray 26)).alloc (.cells fZ.toArray 30)=W→
   ay W w.heap.size (az name aB k b i f t kv lv dv wv) 30∧ay W (w.heap.size+1) (ai 7 vb vi vf vt aC aF) 26∧ay W (w.heap.size+2) fZ 30∧O No w W∧W.heap.size=w.heap.size+3:=by
  rintro W rfl;exact⟨((ay.new _ _ _).alloc _).alloc _,(ay.newAt (by simp) _ _).alloc _,ay.newAt (by simp) _ _,(((O.refl No w).alloc _).alloc _).alloc _,by simp⟩
 have HF:=Z aH;clear aH n A Q S aj ax;go_enter Tryz.func11,Tryz.ntmps11;unfold az ai;go_upto_region 1 with fail
 generalize aI:World.alloc _ _=W;obtain⟨j,B,d,c1,o⟩:=HF.o W aI;clear aI HF;obtain⟨g,p⟩:∃g,g=w.heap.size:=⟨_,rfl⟩;rw[←p] at j B d o⊢;rw[show g+1+1=g+2 from rfl];have C:=Z p;have aZ:=Z o;have r:=Z c1;have bf:=Z j;have aJ:=Z d;clear d c1 o p;go_wp2_with (first|(with_reducible refine V rfl aK rfl rfl j.cells rfl ?_)|(with_reducible refine V rfl au rfl rfl B.cells rfl ?_));refine(D7 U N J M P L c af.o.en E (okB ok w) _ _ v ByteArray.empty W (aV.o.dV.X r.o nE) (aX.o.dV.X r.o nE) aU.o (by have:ByteArray.empty.size=0:=rfl;omega)).mono ?_;rintro e w2 ⟨D,rfl,aN,⟨m,F⟩,aO⟩;have bg:=Z aN;have bn:=Z aO;have bu:=Z (And.intro m F);have s:=ay.new w2 D 30;clear aN aO j B;go_upto_region 2 with(first|(with_reducible refine ak rfl aK rfl rfl rfl rfl m F ?_))
 obtain⟨gy,aP⟩:∃gy,gy=w2.heap.size:=⟨_,rfl⟩;obtain⟨w3,u⟩:∃w3,w3=w2.alloc (.cells D.toArray 30):=⟨_,rfl⟩;have l:=Z (show O No W w3 by rw[u];exact bg.o.alloc _);have bz:=Z (show O No w2 w3 by rw[u];exact(O.refl No w2).alloc _);rw[←u] at s⊢;rw[←aP] at s⊢;have bC:=Z s;clear s u aP m F;cases ho:fF L c v ByteArray.empty with
 |none=>have bD:=Z (show seen L c v=none by unfold seen;rw[ho]);have j:=(bf.o.X l.o id).cells;have d:=aJ.o.X l.o id;have aQ:=aY.o.2;clear ho;go_wp2_with (first|(with_reducible refine V rfl aK rfl rfl j rfl ?_)|(with_reducible refine aA rfl aK rfl rfl rfl d rfl rfl aQ ?_;intro w7 G y bF));have H:O No w w7:=(r.o.trans' l.o).trans y (λx hx e=>by have e1:x=g+2:=e;have:=C.o;omega);rw[bD.o];exact bodyPost_ret (aW rfl aK rfl G rfl) rfl ⟨_,rfl,H,⟨rfl,aQ⟩,λc' h=>(by cases h)⟩
 |some z=>
  have bG:=Z (tY M L c z v ByteArray.empty af.o ho);have bH:=Z (show seen L c v=eX L z by unfold seen;rw[ho]);have bI:=Z ((bn.o z ho).X bz.o nE);have bJ:=bC.o.cells;have m:=bu.o.1;clear ho;go_wp2_with (first|(with_reducible refine V rfl aK rfl rfl bJ m ?_));refine(Bg U N 50 J P L z bG.o (λq=>okB ok w q∨W.heap.size<=q) D w3 bI.o).mono ?_;rintro e w4 ⟨bM,rfl,aS,⟨I,aT⟩,bK⟩;have d:=(aJ.o.X l.o id).X aS id;go_wp2_with (first|(with_reducible refine aA rfl aK rfl rfl rfl d rfl I aT ?_;intro w7 G y bF));have H:O No w w7:=((r.o.trans' l.o).trans' aS).trans y (λx hx e=>by have e1:x=g+2:=e;have:=C.o;omega);rw[bH.o];refine bodyPost_ret (aW rfl aK rfl G I) rfl ⟨_,rfl,H,⟨I,aT⟩,λc' h=> ?_⟩;have p:=C.o;have o:=aZ.o;have bP:=l.o.size;refine((bK c' h).X y (λq a e=> ?_)).mono (λq _ a=> ?_)
  .have e1:q=g+2:=e;rcases a with(a|a)|a
   .have:=a.2;omega
   .omega
   .omega
  .rcases a with(a|a)|a
   .exact .inl a.1
   .exact .inr (by omega)
   .exact .inr (by omega)
theorem extract_extract(s:K)(b e i j:Nat)(a:e<=s.size)(c:b<=e)(d:j<=e - b):(s.extract b e).extract i j=s.extract (b+i) (b+j):=by apply ByteArray.ext;apply Array.ext';have f:(s.extract b e).size=e - b:=extract_size s a;simp only[ByteArray.data_extract,Array.toList_extract,List.extract_eq_take_drop];rw[List.drop_take,List.take_take,List.drop_drop,show min (j - i) (e - b - i)=j - i by omega,show b+j - (b+i)=j - i by omega]
theorem D8(s:K){n:Nat}(h:n<s.size):s.extract n (n+1)=⟨#[s[n]]⟩:=by
 apply ByteArray.ext;apply Array.ext';simp only[ByteArray.data_extract,Array.toList_extract,List.extract_eq_take_drop];have a:n<s.data.toList.length:=(by simpa using h);rw[List.drop_eq_getElem_cons a,show n+1 - n=1 by omega];simp
 rfl
theorem sV(s:K)(c b i:Nat)(a:b<=s.size):cutAt (s.extract b s.size) c i=cutAt s c (b+i):=by
 have d:(s.extract b s.size).size=s.size - b:=extract_size s lR';unfold cutAt;by_cases h:i<s.size - b
 .rw[dif_pos (by omega),dif_pos (by omega),qA s lR' (by omega) (by omega)]
 .rw[dif_neg (by omega),dif_neg (by omega)]
theorem aB.Ah{w:World}{d:Nat}{v:Value}{b:List K}(h:aB w d 9 1 v (aH b)):∃a c,v=.slice a b.length c:=by obtain⟨a,c,h⟩:=h.dY;exact⟨a,c,by rw[h,aH,List.length_map]⟩
def J4(c:UInt8):K:=⟨#[c]⟩
theorem G5(s a:K)(c:UInt8)(g:a=J4 c)(z:s.size<1099511627776)(e:Nat)(p:e<=s.size)(q:cutAt s c.toNat e=true)(t:∀j,j<e→cutAt s c.toNat j=false)(w:World):
  Calls Tryz.prog 156 #[.string s,.string a] w λA B=>A=.returned (.int .i64 (if e<s.size then(e:Int) else -1))∧B=w:=by
 have L:ByteArray.size a=1:=by rw[g];rfl
 have u:∀n,(h:n<s.size)→((s.extract n (n+1)).toList==a.toList)=cutAt s c.toNat n:=by
  intro n h;rw[aS,g,D8 s h,nY h];unfold J4;by_cases i:s[n]=c
  .simp[i]
  .rw[decide_eq_false (λe=>i (by injection e with e;simpa using e)),decide_eq_false (λe=>i (UInt8.toNat_inj.1 e))]
 have v:=Z u;have C:=Z q;have D:=Z t;have E:=Z p;have M:=Z z;obtain⟨N,k⟩:∃r:Int,r=if e<s.size then(e:Int) else -1:=⟨_,rfl⟩
 rw[←k];have x:=Z k;clear u q t p g k;go_enter Tryz.func156,Tryz.ntmps156;go_wp2_with fail;go_loopw [5] (λl wr=>∃n:Nat,l=.int .i64 n∧n<=e∧wr=w) (λl _=>s.size+1 - (intOf l).toNat)
 case atStart=>exact⟨0,rfl,zL',rfl⟩
 case round=>
  obtain⟨n,rfl,d,F⟩:=hrel;subst F;have y:=Z d;have m:=E.o;have O:(n:Int)<=(s.size:Int):=by omega
  by_cases f:n<s.size
  .have G:(n:Int)+1<=(s.size:Int):=by omega
   by_cases o:n=e
   .subst o;have H:((s.extract n (n+1)).toList==a.toList)=true:=(v.o n f).trans C.o;clear d m;go_wp2;go_ret;refine⟨?_,rfl⟩;have b:=x.o;rw[if_pos (by assumption)] at b;rw[b]
    rfl
   .have H:((s.extract n (n+1)).toList==a.toList)=false:=(v.o n f).trans (D.o n (by omega));have I:=Z o;clear o d m;go_wp2_with fail;go_roundw;case rel=>exact⟨n+1,by go_num,(by have:=y.o;have:=I.o;omega),trivial⟩
    case measure=>simp[intOf];omega
  .have G:¬(n:Int)+1<=(s.size:Int):=(by omega);have J:=Z f;clear d m f;go_wp2;go_ret;refine⟨?_,rfl⟩;have b:=x.o;rw[if_neg (by have:=y.o;have:=J.o;omega)] at b;rw[b]
   rfl
theorem wH(s o:K)(c:UInt8)(y:o=J4 c)(R:s.size<1099511627776)(w:World):
  Calls Tryz.prog 130 #[.string s,.string o] w λe S=>∃v,e=.returned v∧aB S w.heap.size 9 1 v (aH (parts s c.toNat))∧O No w S:=by
 have z:ByteArray.size o=1:=by rw[y];rfl
 have A:=Z R;have aj:=Z y;clear y R;go_enter Tryz.func130,Tryz.ntmps130;go_wp2_with fail;go_loopw [0,5,8] (λB v it wr=>∃(f:List K)(b:Nat),B=.string (s.extract b s.size)∧b<=s.size∧aB wr w.heap.size 9 1 v (aH f)∧f.length<=b∧f++dE s c.toNat (s.size+1 - b) b b=parts s c.toNat∧O No w wr)
  (λB _ _ _=>match B with| .string x=>x.size| _=>0)
 case atStart=>exact⟨[],0,by simp,zL',aB.nil _ _ _ _,lR',rfl,O.refl _ _⟩
 case round=>
  obtain⟨f,b,rfl,d,g,C,p,q⟩:=hrel;obtain⟨va,vc,rfl⟩:=g.Ah;obtain⟨e,D,E,F,G,H⟩:=lD s c.toNat (s.size - b) b b (by omega);have h:(s.extract b s.size).size=s.size - b:=extract_size s lR';have r:=G5 (s.extract b s.size) o c aj.o (by rw[h];have:=A.o;omega) (e - b) (by omega) (by rw[sV s _ _ _ d,show b+(e - b)=e by omega];exact F) (λj hj=>by rw[sV s _ _ _ d];exact G _ (by omega) (by omega)) wr;rw[h] at r;have t:=Z r;have I:(s.extract b s.size).extract 0 (e - b)=s.extract b e:=(by rw[extract_extract s b s.size 0 (e - b) lR' d (by omega),show b+0=b by omega,show b+(e - b)=e by omega]);have ak:=Z I;rw[H] at p;have J:=Z p;have T:=Z q;have U:=Z g;have V:w.heap.size<=wr.heap.size+1:=by have:=q.size;omega
  have W:(aH f).length+1<=1099511627776:=by have:=A.o;simp only[aH,List.length_map];omega
  by_cases L:e<s.size
  .have X:(s.extract b s.size).extract (e - b+1) (s.size - b)=s.extract (e+1) s.size:=(by rw[extract_extract s b s.size _ _ lR' d (by omega),show b+(e - b+1)=e+1 by omega,show b+(s.size - b)=s.size by omega]);have au:=Z X;have i:(if e - b<s.size - b then((e - b:Nat):Int) else -1)=((e - b:Nat):Int):=if_pos (by omega);obtain⟨n,M⟩:∃n,n=e - b:=⟨_,rfl⟩;obtain⟨x,a⟩:∃x,x=s.extract b s.size:=⟨_,rfl⟩;have u:x.size=s.size - b:=(by rw[a,h]);rw[i,←M,←a] at t;have af:=Z M;have ai:=Z a;have ax:=Z u;have ay:(n:Int)<=(x.size:Int):=by rw[u];omega
   have az:(n:Int)+1<=(x.size:Int):=by rw[u];omega
   have aA:x.size<1099511627776:=by have:=A.o;omega
   have HE:=Z (And.intro D (And.intro E L));have HB:=Z (And.intro d C);rw[←a];clear I p q r X i M a u D E F G H L h d C;go_wp2_with fail;refine t.o.mono ?_;rintro en w2 ⟨rfl,N⟩;obtain rfl:=N.symm;have aF:¬(n:Int)<0:=by omega
   go_wp2_with (first|(at_builtin;refine aN rfl iK rfl rfl (g.alloc _) rfl (aC.gX wr [.string (ByteArray.extract x 0 n)] 9 1 rfl) (by simp[Value.oneCell']) W (by decide) (by simpa using V) ?_;intro v' w6 k l P Q;go_frame))
   have m:=Z (nX U.o T.o l k);clear k l P Q g;go_roundw
   case rel=>
    have hE:=HE.o;have hB:=HB.o;refine⟨f++[s.extract b e],e+1,?_,by omega,?_,(by simp;omega),?_,m.o.2⟩
    .rw[←au.o,←ai.o,←ax.o,←af.o]
    .rw[←ak.o,←ai.o,←af.o];exact m.o.1
    .rw[←J.o,show s.size+1 - (e+1)=s.size - e by omega];simp
   case measure=>have:=HB.o;simp[extract_size];omega
  .obtain rfl:e=s.size:=(by omega);have i:(if s.size - b<s.size - b then((s.size - b:Nat):Int) else -1)=(-1:Int):=if_neg (by omega);obtain⟨x,a⟩:∃x,x=s.extract b s.size:=⟨_,rfl⟩;rw[i,←a] at t;rw[←a] at J;rw[←a];clear I p q r i a D E F G H L h d C;go_wp2_with fail;refine t.o.mono ?_;rintro en w2 ⟨rfl,N⟩;obtain rfl:=N.symm;go_wp2_with (first|(at_builtin;refine aN rfl iK rfl rfl (g.alloc _) rfl (aC.gX wr [.string x] 9 1 rfl) (by simp[Value.oneCell']) W (by decide) (by simpa using V) ?_;intro v' w6 k l P Q;go_frame));have m:=Z (nX U.o T.o l k);clear k l P Q g;go_ret;have z:=J.o;rw[Nat.sub_self,dE] at z;rw[←z];exact⟨_,rfl,m.o.1,m.o.2⟩
section
variable {w:World} {ops:Array Oper} {rest:List Oper} {o:Oper} {a:Act} {Q:ah}
theorem lX{h e:TypeId}{z:Value}(l:Tryz.prog.underlying h=some (TypeDesc.map 9 e))(m:∀w,(zeroValue e).run Tryz.prog w=.ok z w){b n:Nat}{f:K→Option Value}(o:aU w b n f){k:K}(p:k.size<=maxLen)(c:Bool):
  (Instr.lookup h (.map (some b)) (.string k) c).run Tryz.prog w=.ok (if c then .tuple #[(f k).getD z,.bool (f k).isSome] else(f k).getD z) w:=by
 obtain⟨D,⟨i,u,q,F,_,rfl⟩,r⟩:=o;rw[r];rcases Maps.fit_look c kJ l (m w) q F (iM p) with⟨d,_,a⟩|⟨j,y,_,_,d,s,a,_⟩
 .have g:mv (DataW.map ((i.toList.map (WideElems.rg Tryz.prog 9 RV)).foldr DataW.insert [])) k=none:=by unfold mv;rw[a]
  rw[g];rw[d];cases c<;>rfl
 .have t:y.1=.held j.val:=by cases s;rfl
  rw[t] at a;have g:mv (DataW.map ((i.toList.map (WideElems.rg Tryz.prog 9 RV)).foldr DataW.insert [])) k=some j.val:=by unfold mv;rw[a]
  rw[g];rw[d];cases c<;>rfl
theorem D9{g e:TypeId}(l:Tryz.prog.underlying g=some (TypeDesc.map 9 e))(p:o.guard=none){m x v:Operand}(q:o.op=Op.mapUpdate g m x v){b n:Nat}{f:K→Option Value}(r:a.eval m=.map (some b))(s:aU w b n f)(t:n<maxLen)
  {k:K} {u:Value} (y:a.eval x=.string k) (A:k.size<=maxLen) (B:a.eval v=u)
  (C:∀d,aU d b (n+1) (λz=>if z=k then some u else f z)→O (·=b) w d→d.heap.size=w.heap.size→wpList Tryz.prog ops Q rest (a.put o.dst undef) d):
  wpList Tryz.prog ops Q (o::rest) a w:=by
 obtain⟨D,h,E⟩:=s;refine wpList_mapUpdate_in w p m x v g q 9 e kJ l RV b n D r h t _ u (jJ k) y B (iM A) (.held u) [] rfl ?_;intro d F j;refine C d ⟨_,F,λz=> ?_⟩ ((O.grown j.grown).mono (λi _ e=>(Option.some.inj e).symm)) ?_
 .simp only[vH h.isMap,E]
 .obtain⟨G,c,H,c',I,rfl⟩:=j;simp[ChangeMaps.setBlock]
theorem cO{c e:TypeId}{z:Value}(d:Tryz.prog.underlying c=some (TypeDesc.map 9 e))(g:∀w,(zeroValue e).run Tryz.prog w=.ok z w)(h:o.guard=none){m x:Operand}(i:o.op=Op.lookup c m x true){b n:Nat}{f:K→Option Value}(j:a.eval m=.map (some b))(l:aU w b n f)
  {k:K} (p:a.eval x=.string k) (q:k.size<=maxLen)
  (r:wpList Tryz.prog ops Q rest (a.put o.dst (.tuple #[(f k).getD z,.bool (f k).isSome])) w):wpList Tryz.prog ops Q (o::rest) a w:=by
 refine wpList_plain h λu s=> ?_
 have t:=lX d g l q true;unfold Oper.wp;simp only[execOp,i,j,p,Sem.run_bind,t,Result.andThen_ok,if_true];exact s _ _ r
theorem jB{g e:TypeId}(l:Tryz.prog.underlying g=some (TypeDesc.map 9 e))(p:o.guard=none){m x v:Operand}(q:o.op=Op.insert g m x v){b n:Nat}{f:K→Option Value}(r:a.eval m=.map (some b))(s:aU w b n f)(t:n<maxLen)
  {k:K} {u:Value} (y:a.eval x=.string k) (A:k.size<=maxLen) (B:a.eval v=u)
  (C:∀d,aU d b (n+1) (λz=>if z=k then some u else f z)→O (·=b) w d→d.heap.size=w.heap.size→wpList Tryz.prog ops Q rest (a.put o.dst undef) d):
  wpList Tryz.prog ops Q (o::rest) a w:=by
 refine wpList_plain p λI E=> ?_
 obtain⟨D,h,F⟩:=s;obtain⟨d,G,H,j⟩:=h.store kJ l t (iM A) (show RV u=some (.held u,[]) from rfl);unfold Oper.wp;simp[execOp,q,r,y,B,G,Result.andThen];refine E _ _ (C d ⟨_,H,λz=> ?_⟩ ((O.grown j.grown).mono (λi _ e=>(Option.some.inj e).symm)) ?_)
 .simp only[vH h.isMap,F]
 .obtain⟨J,c,L,c',M,rfl⟩:=j;simp[ChangeMaps.setBlock]
end
theorem lK(s:K)(a:s.size<1099511627776)(w:World):
  Calls Tryz.prog 154 #[.string s] w λe b=>∃v,e=.returned v∧aB b w.heap.size 9 1 v (aH (parts s 46))∧O No w b:=by
 have H:=Z (wH s ⟨#[46]⟩ 46 rfl a w);clear a;go_enter Tryz.func154,Tryz.ntmps154;go_wp2_with fail;refine H.o.mono ?_;rintro e h ⟨v,rfl,c,d⟩;have f:=Z c;have g:=Z d;clear c d;go_wp2;go_ret;exact⟨_,rfl,f.o,g.o⟩
theorem uC{v:Value}{j:J}(h:rF v j)(w:World):(Instr.typeAssert v 20 86 true).run Tryz.prog w=.ok (.tuple #[.map none,.bool false]) w:=by obtain⟨_,_,h⟩:=h;cases h<;>kernel_rfl
theorem sW(w:World):(Instr.makeMap 86 none).run Tryz.prog w=.ok (.map (some w.heap.size)) (w.alloc (.map #[] 0)):=rfl
abbrev H6(k:K):Value:=.iface 253 (.agg #[.string k])
theorem H7(k:K)(w:World):(Instr.build 253 #[(0,.string k)]).run Tryz.prog w=.ok (.agg #[.string k]) w:=by kernel_rfl
theorem xB(k:K)(w:World):(Go.binOp BinOp.neq 75 (H6 k) .nilIface).run Tryz.prog w=.ok (.bool true) w:=by kernel_rfl
theorem xC(x:Operand)(k:K)(w:World):(eqGuard BinOp.neq 75 x (.const .nilIface) (H6 k) .nilIface).run Tryz.prog w=.ok () w:=by cases x<;>kernel_rfl
def H8(ok:ae)(w:World)(o:Option T)(e:Ending)(a:World):Prop:=
 O No w a∧(∀x,o=some x→∃b,e=.returned (.tuple #[.map (some b),.nilIface])∧bC ok a (.iface 67 (.map (some b))) (.table x))∧(o=none→∃c k,e=.returned (.tuple #[.map c,H6 k]))
def H9:Option J→Option T
 |some (.table x)=>some x
 | _=>none
theorem xE{ok:ae}{w:World}{b:Nat}{t:T}(h:bC ok w (.iface 67 (.map (some b))) (.table t))(k:K)(e:k.size<=maxLen):Calls Tryz.prog 155 #[.map (some b),.string k] w (H8 ok w (H9 (get t k))):=by
 obtain⟨C,n,f,r,g⟩:=h.tab;cases r;have i:=g.map;have l:=Z g;clear h g;have p:=H7;have D:=p k;clear p;cases hg:get t k with
 |none=>
  have a:f k=none:=by
   have h:=l.o.dom k;rw[hg] at h;cases a:f k with
   |none=>rfl
   |some _=>rw[a] at h;cases h
  have c:=Z a;clear a hg;go_enter Tryz.func155,Tryz.ntmps155;go_wp2_with (first|(at_lookup;refine cO Tryz.underlying86 Tryz.zeroValue20 rfl rfl rfl i rfl e ?_;rw[c.o];go_frame));go_ret2;exact⟨O.refl _ _,λx s=>(by cases s),λ_=>⟨_,_,rfl⟩⟩
 |some j=>
  obtain⟨u,a⟩:∃u,f k=some u:=by
   have h:=l.o.dom k;rw[hg] at h;cases a:f k with
   |none=>rw[a] at h;cases h
   |some v=>exact⟨v,rfl⟩
  have d:=l.o.val k u j a hg;have q:=Z d;have c:=Z a;have m:=λz=>dP (w:=z) d.dL
  have A:=uC d.dL;clear a hg d;cases hT:dA j with
  |true=>
   obtain⟨x,rfl⟩:∃x,j=.table x:=by cases j<;>first|exact⟨_,rfl⟩|cases hT
   obtain⟨E,F,G,rfl, -⟩:=q.o.tab;rw[hT] at m;clear hT A;simp only[mapOf] at m;go_enter Tryz.func155,Tryz.ntmps155;go_wp2_with (first|(at_lookup;refine cO Tryz.underlying86 Tryz.zeroValue20 rfl rfl rfl i rfl e ?_;rw[c.o];go_frame));go_ret2;exact⟨O.refl _ _,λy o=>(by cases o;exact⟨_,rfl,q.o⟩),λh=>(by cases h)⟩
  |false=>rw[hT] at m;have H:=sW;have B:=Z hT;clear hT;go_enter Tryz.func155,Tryz.ntmps155;go_wp2_with (first|(at_lookup;refine cO Tryz.underlying86 Tryz.zeroValue20 rfl rfl rfl i rfl e ?_;rw[c.o];go_frame));go_ret2;refine⟨(O.refl _ _).alloc _,λy o=> ?_,λ_=>⟨_,_,rfl⟩⟩;have:=B.o;cases j<;>first|(cases o;done)|(cases this;done)
theorem uD{ok:ae}{w:World}{b:Nat}{t:T}(h:bC ok w (.iface 67 (.map (some b))) (.table t))(s:K)(C:s.size<1099511627776):Calls Tryz.prog 129 #[.map (some b),.string s] w (H8 ok w (bD t (parts s 46))):=by
 have D:=Z (lK s C w);have W:=Z h.dV;have af:=Z (show ∀k∈parts s 46,k.size<=maxLen from λk d=>by have:=iQ d;unfold maxLen;omega);have E:∀F v,aB F w.heap.size 9 1 v (aH (parts s 46))→(parts s 46).length<=maxLen:=λF v h=>by have:=h.rowAt.1;simpa using this
 have ai:=Z E;generalize parts s 46=P at*;clear h C E;go_enter Tryz.func129,Tryz.ntmps129;go_wp2_with fail;refine D.o.mono ?_;rintro e w1 ⟨v,rfl,f,G⟩;obtain⟨va,vc,rfl⟩:=f.Ah;have p:=Z G;have HO:=Z f.rowAt;have aj:=Z f;have ak:=ai.o _ _ f;unfold maxLen at ak;clear f G D aj;go_wp2_with fail;go_loopw [6,7,9,14] (λmt et _ q wr=>∃(n u:Nat)(c:T),mt=.map (some u)∧et=.nilIface∧q=.int .i64 n∧n<=P.length∧bD t P=bD c (P.drop n)∧bC (okB ok w) wr (.iface 67 (.map (some u))) (.table c)∧O No w1 wr) (λ_ _ _ q _=>P.length - (intOf q).toNat)
 case atStart=>exact⟨0,b,t,rfl,rfl,rfl,zL',rfl,W.o.X p.o nE,O.refl _ _⟩
 case round=>
  obtain⟨n,u,c,rfl,rfl,rfl,az,H,I,J⟩:=hrel;have y:=Z H;have L:=Z I;have m:=Z J;clear H I J;by_cases au:n<P.length
  .obtain⟨k,d⟩:=gX' P n (au);obtain⟨lb,lo,rfl, -,z⟩:=HO.o.at (i:=n) (r:=[.string k]) (by simp[aH,d]);have z:=(z.X m.o id).one;simp only[Nat.mul_one] at z;have ax:=Z (xE L.o k (af.o k (mG' d)));have ay:(n:Int)<(P.length:Int):=(by omega);have HK:=Z d;clear d;go_wp2_with fail;refine ax.o.mono ?_;rintro e w2 ⟨M,A,B⟩;have N:=Z M;have Q:P.drop n=k::P.drop (n+1):=by obtain⟨h1,h2⟩:=gS'.1 HK.o;rw[List.drop_eq_getElem_cons h1,h2]
   have R:=Z Q;clear Q M;cases a:H9 (get c k) with
   |some x=>
    obtain⟨b3,rfl,S⟩:=A x a;have H3:=Z S;have U:get c k=some (.table x):=by
     revert a
     cases get c k with
     |none=>intro a;cases a
     |some j=>cases j<;>intro a<;>first|(cases a;done)|(cases a;rfl)
    have HG:=Z U;clear A B S a U;go_wp2_with fail;go_roundw;case rel=>exact⟨n+1,b3,x,rfl,rfl,by go_num,by omega,(by rw[y.o,R.o,bD,HG.o]),H3.o,m.o.trans' N.o⟩
    case measure=>simp[intOf];omega
   |none=>
    obtain⟨mv,V,rfl⟩:=B a;have g:bD t P=none:=by
     rw[y.o,R.o,bD]
     revert a
     cases get c k with
     |none=>intro _;rfl
     |some j=>cases j<;>intro a<;>first|rfl|(cases a;done)
    have o:=Z g;have aA:=xB V;have aC:=λx=>xC x V
    clear A B a g;go_wp2;go_ret2;exact⟨p.o.trans' (m.o.trans' N.o),λx l=>(by rw[o.o] at l;cases l),λ_=>⟨_,_,rfl⟩⟩
  .have ay:¬(n:Int)<(P.length:Int):=(by omega);have g:bD t P=some c:=by rw[y.o,List.drop_of_length_le (by omega)];rfl
   have o:=Z g;clear g;go_wp2;go_ret2;exact⟨p.o.trans' m.o,λx l=>(by rw[o.o] at l;cases l;exact⟨_,rfl,L.o.mono (λb _ h=>h.1)⟩),λh=>(by rw[o.o] at h;cases h)⟩
end Go.Proofs.YtljaoopfomcaoaaGreatDoor
namespace Go.Proofs.YtljaoopfomcaoaaGreatDoor
open Go.Shelf Go.RowKit
def wI:Go.Shelf.Ren:=⟨fun|156=>213|165=>230|166=>231|169=>232|240=>250|241=>251|276=>264|277=>265|n=>n,fun|31=>23|9=>9|3=>3|4=>4|0=>0|20=>20|72=>304|76=>235|70=>301|37=>302|75=>75|127=>326|164=>334|5=>5|80=>129|n=>n,fun|n=>n⟩
theorem J5:Go.Proofs.Lays.n156 Tryz.prog wI:={
 mixed:=by kernel_rfl
 f156:=Tryz.func213.trans (congrArg some (by kernel_rfl))
 f165:=Tryz.func230.trans (congrArg some (by kernel_rfl))
 f166:=Tryz.func231.trans (congrArg some (by kernel_rfl))
 f169:=Tryz.func232.trans (congrArg some (by kernel_rfl))
 f240:=Tryz.func250.trans (congrArg some (by kernel_rfl))
 f241:=Tryz.func251.trans (congrArg some (by kernel_rfl))
 f276:=Tryz.func264.trans (congrArg some (by kernel_rfl))
 f277:=Tryz.func265.trans (congrArg some (by kernel_rfl))
 t0:=Tryz.underlying0
 a0:=Tryz.isAgg0
 z0:=Tryz.sizeOf0
 v0:=Tryz.zeroValue0
 t3:=Tryz.underlying3
 a3:=Tryz.isAgg3
 z3:=Tryz.sizeOf3
 v3:=Tryz.zeroValue3
 t4:=Tryz.underlying4
 a4:=Tryz.isAgg4
 z4:=Tryz.sizeOf4
 v4:=Tryz.zeroValue4
 t9:=Tryz.underlying9
 a9:=Tryz.isAgg9
 z9:=Tryz.sizeOf9
 v9:=Tryz.zeroValue9
 t20:=Tryz.underlying20
 a20:=Tryz.isAgg20
 z20:=Tryz.sizeOf20
 v20:=Tryz.zeroValue20
 t31:=Tryz.underlying23
 a31:=Tryz.isAgg23
 z31:=Tryz.sizeOf23
 v31:=Tryz.zeroValue23
 t37:=Tryz.underlying302
 a37:=Tryz.isAgg302
 z37:=Tryz.sizeOf302
 v37:=Tryz.zeroValue302
 t70:=Tryz.underlying301
 a70:=Tryz.isAgg301
 z70:=Tryz.sizeOf301
 v70:=Tryz.zeroValue301
 t72:=Tryz.underlying304
 a72:=Tryz.isAgg304
 z72:=Tryz.sizeOf304
 v72:=Tryz.zeroValue304
 t75:=Tryz.underlying75
 a75:=Tryz.isAgg75
 z75:=Tryz.sizeOf75
 v75:=Tryz.zeroValue75
 t76:=Tryz.underlying235
 a76:=Tryz.isAgg235
 z76:=Tryz.sizeOf235
 v76:=Tryz.zeroValue235
 t127:=Tryz.underlying326
 a127:=Tryz.isAgg326
 z127:=Tryz.sizeOf326
 v127:=Tryz.zeroValue326
 t164:=Tryz.underlying334
 a164:=Tryz.isAgg334
 z164:=Tryz.sizeOf334
 v164:=Tryz.zeroValue334}
theorem xG:Builder.Extra Tryz.prog wI:={
 sizeBuilder:=by kernel_rfl
 liesBuilder:=by kernel_rfl
 t5:=Tryz.underlying5
 a5:=Tryz.isAgg5
 z5:=Tryz.sizeOf5
 v5:=Tryz.zeroValue5
 infoByte:=by kernel_rfl
 cellsByte:=by kernel_rfl
 sizeByte:=by kernel_rfl
 neB5:=by decide}
def fQ(c:Nat):List UInt8→List (List UInt8)
 |[]=> [[]]
 |x::r=>if x.toNat=c then []::fQ c r else match fQ c r with
  |h::t=>(x::h)::t
  |[]=> [[x]]
theorem lY(c:Nat):∀l,fQ c l≠ []
 |[]=>by simp[fQ]
 |x::r=>by
  unfold fQ
  split
  .simp
  .split<;>simp
theorem l9(c:Nat):∀(l x:List UInt8),x∈fQ c l→∀b∈x,b.toNat≠c
 |[],x,a,b,d=>by simp only[fQ,List.mem_singleton] at a;subst a;cases d
 |y::r,x,a,b,d=>by
  unfold fQ at a
  split at a
  .rcases List.mem_cons.1 a with rfl|a
   .cases d
   .exact l9 c r x a b d
  .rename_i hy
   split at a
   .rename_i h t he
    rcases List.mem_cons.1 a with rfl|a
    .rcases List.mem_cons.1 d with rfl|d
     .exact hy
     .exact l9 c r h (by rw[he];simp) b d
    .exact l9 c r x (by rw[he];simp[a]) b d
   .rename_i he
    exact absurd he (lY c r)
theorem sZ(c:Nat):∀(p l:List UInt8),(∀b∈p,b.toNat≠c)→fQ c (p++l)=match fQ c l with|h::t=>(p++h)::t|[]=> [p]
 |[],l,_=>by
  cases he:fQ c l with
  |nil=>exact absurd he (lY c l)
  |cons h t=>simp[he]
 |x::r,l,a=>by
  rw[List.cons_append,fQ,if_neg (a x (by simp)),sZ c r l (λb d=>a b (by simp[d]))];cases he:fQ c l with
  |nil=>exact absurd he (lY c l)
  |cons h t=>simp
theorem wJ(s:UInt8):∀(L:List (List UInt8)),L≠ []→(∀x∈L,∀b∈x,b.toNat≠s.toNat)→fQ s.toNat (Lib.join L [s])=L
 |[],h,_=>absurd rfl h
 |[x],_,a=>by rw[Lib.join_one];have:=sZ s.toNat x [] (a x (by simp));simpa[fQ] using this
 |x::y::r,_,a=>by
  have c:=wJ s (y::r) (by simp) (λz d=>a z (by simp[d]));have e:Lib.join (x::y::r) [s]=x++(s::Lib.join (y::r) [s]):=by rw[Lib.join_cons,Lib.join_cons];simp[Lib.joinTail]
  rw[e,sZ s.toNat x _ (a x (by simp)),fQ,if_pos rfl,c];simp
abbrev Bi(l:List UInt8):K:=⟨l.toArray⟩
theorem Cj(s:K):Bi s.data.toList=s:=by cases s;simp[Bi]
theorem extract_data(s:K)(b e:Nat):(s.extract b e).data.toList=(s.data.toList.drop b).take (e - b):=by simp only[ByteArray.data_extract,Array.toList_extract,List.extract_eq_take_drop]
theorem mW(s:K)(c:Nat):∀(m i b:Nat),i+m=s.size→b<=i→(∀j,b<=j→j<i→cutAt s c j=false)→dE s c (m+1) i b=match fQ c (s.data.toList.drop i) with|h::t=>Bi ((s.extract b i).data.toList++h)::t.map Bi|[]=> []
 |0,i,b,h,o,f=>by
  have a:i=s.size:=(by omega);have hcut:cutAt s c i=true:=by unfold cutAt;rw[dif_neg (by omega)]
  rw[dE,if_pos hcut,dE,List.drop_of_length_le (by simp;omega)];simp only[fQ,List.append_nil,List.map_nil,Cj]
 |m+1,i,b,h,o,f=>by
  have a:i<s.size:=(by omega);have g:i<s.data.toList.length:=(by simpa using a);rw[List.drop_eq_getElem_cons g,fQ,dE];have k:s.data.toList[i]=s[i]:=by simp;rfl
  rw[k,nY a];by_cases d:s[i].toNat=c
  .rw[if_pos (decide_eq_true d),if_pos d,mW s c m (i+1) (i+1) (by omega) lR' (λj l p=>by omega)];cases he:fQ c (s.data.toList.drop (i+1)) with
   |nil=>exact absurd he (lY c _)
   |cons x t=>simp[extract_data];rw[←extract_data]
  .have n:decide (s[i].toNat=c)=false:=decide_eq_false d;rw[n,if_neg (by decide),if_neg d,mW s c m (i+1) b (by omega) (by omega) (λj l p=>by
    by_cases e:j=i
    .subst e;rw[nY a];exact n
    .exact f j l (by omega))]
   cases he:fQ c (s.data.toList.drop (i+1)) with
   |nil=>exact absurd he (lY c _)
   |cons x t=>
    have q:(s.extract b (i+1)).data.toList=(s.extract b i).data.toList++[s[i]]:=by
     rw[extract_data,extract_data,show i+1 - b=(i - b)+1 by omega,List.take_add_one]
     congr 1
     rw[List.getElem?_drop,show b+(i - b)=i by omega,List.getElem?_eq_getElem g,k]
     rfl
    show Bi ((s.extract b (i+1)).data.toList++x)::t.map Bi=Bi ((s.extract b i).data.toList++s[i]::x)::t.map Bi
    rw[q,List.append_assoc,List.singleton_append]
theorem uF(s:K)(c:Nat):parts s c=(fQ c s.data.toList).map Bi:=by
 unfold parts;rw[mW s c s.size 0 0 (by omega) lR' (λj a b=>by omega)];rw[List.drop_zero];cases he:fQ c s.data.toList with
 |nil=>exact absurd he (lY c _)
 |cons x t=>
  have:(s.extract 0 0).data.toList=[]:=by rw[extract_data];simp
  simp[this]
def Ea(xs:List K):K:=⟨(Lib.join (xs.map (·.data.toList)) (⟨#[46]⟩:K).data.toList).toArray⟩
theorem Eb(s:K):∀x∈parts s 46,∀b∈x.data.toList,b.toNat≠46:=by intro x a;rw[uF] at a;obtain⟨l,c,rfl⟩:=List.mem_map.1 a;intro b d;exact l9 46 _ l c b (by simpa[Bi] using d)
theorem Ec(xs:List K)(c:xs≠ [])(h:∀x∈xs,∀b∈x.data.toList,b.toNat≠46):parts (Ea xs) 46=xs:=by
 rw[uF];have a:=wJ 46 (xs.map (·.data.toList)) (by simpa using c) (λx d b f=>by obtain⟨k,g,rfl⟩:=List.mem_map.1 d;exact h k g b f);have e:(Ea xs).data.toList=Lib.join (xs.map (·.data.toList)) [46]:=(by simp[Ea]);rw[e];have i:(46:UInt8).toNat=46:=rfl;rw[i] at a;rw[a,List.map_map]
 conv=>rhs;rw[←List.map_id xs]
 exact List.map_congr_left (λx _=>Cj x)
theorem G6(xs:List K)(m n:Nat)(a:xs.length<=n)(d:∀x∈xs,x.size<=m):(Lib.join (xs.map (·.data.toList)) (⟨#[46]⟩:K).data.toList).length<=n*(m+1):=by
 cases xs with
 |nil=>simp[Lib.join_nil]
 |cons x r=>
  rw[List.map_cons,Lib.join_length];have f:∀(l:List K),(∀x∈l,x.size<=m)→Lib.lens (l.map (·.data.toList))<=l.length*m:=by
   intro l b;induction l with
   |nil=>simp[Lib.lens]
   |cons y t g=>have:=g (λx h=>b x (by simp[h]));have j:=b y (by simp);simp only[Lib.lens,List.map_cons,List.sum_cons,List.length_cons] at this⊢;have e:y.data.toList.length=y.size:=(by simp);rw[e,Nat.add_mul];omega
  have c:=f (x::r) d;simp only[List.map_cons] at c;have e:((⟨#[46]⟩:K).data.toList).length=1:=rfl;rw[e];simp only[List.length_map,List.length_cons] at c a⊢;have i:(r.length+1)*(m+1)<=n*(m+1):=Nat.mul_le_mul_right _ a;rw[Nat.mul_add] at i;omega
theorem Bj(xs:List K)(m:xs≠ [])(p:xs.length<=140737488355328){ok:ae}{w:World}{v:Value}(q:aC ok w v 1 (aH xs))(d:∀a n c,v=.slice a n c→n<=c)(r:∀b,ok b→b<w.heap.size)(g:(Lib.join (xs.map (·.data.toList)) (⟨#[46]⟩:K).data.toList).length<=140737488355328):
  Calls Tryz.prog 196 #[v] w λe s=>e=.returned (.string (Ea xs))∧O No w s:=by
 obtain⟨t,u,a,c,rfl,y,h⟩:=q;have i:(aH xs).length=xs.length:=(by simp[aH]);obtain⟨b,o,z,f,k⟩:=h (λe=>m (by rw[aH,List.map_eq_nil_iff] at e;exact e));subst z;rw[i] at t⊢;have d:=d _ _ _ rfl;rw[i] at d;have l:=Any.strings_Join J5 xG b o c xs ⟨#[46]⟩ w (λj x A=>by have:=k j [.string x] (by simp[aH,A]) 0 (.string x) rfl;simpa using this) (r b f) p d g;have B:=Z l;clear k d g y u h l;go_enter Tryz.func196,Tryz.ntmps196;go_wp2_with fail;refine B.o.mono ?_;rintro e D ⟨rfl,f⟩;have C:=Z f;clear f;go_wp2;go_ret;exact⟨rfl,O.Jp C.o⟩
end Go.Proofs.YtljaoopfomcaoaaGreatDoor
namespace Go.Proofs.YtljaoopfomcaoaaGreatDoor
open Go.RowKit
section
variable {w:World} {ops:Array Oper} {rest:List Oper} {o:Oper} {a:Act} {Q:ah}
theorem oO{c e:TypeId}{z:Value}(d:Tryz.prog.underlying c=some (TypeDesc.map 9 e))(g:∀w,(zeroValue e).run Tryz.prog w=.ok z w)(h:Region.wanted o (yielded ops a.tmps)=true){m x:Operand}(i:o.op=Op.lookup c m x false){b n:Nat}{f:K→Option Value}(j:a.eval m=.map (some b))(l:aU w b n f)
  {k:K} (p:a.eval x=.string k) (q:k.size<=maxLen)
  (r:wpList Tryz.prog ops Q rest (a.put o.dst ((f k).getD z)) w):wpList Tryz.prog ops Q (o::rest) a w:=by
 refine BigFrame.wpList_want h λu s=> ?_
 have t:=lX d g l q false;unfold Oper.wp;simp only[execOp,i,j,p,Sem.run_bind,t,Result.andThen_ok,if_false,Bool.false_eq_true];exact s _ _ r
end
def J6(a:Value):Prop:=(∃k,a=.iface 256 (.agg #[.string k]))∨∃b,a=.iface 175 (.pointer (some ⟨b,0,none⟩))
def FD(ok:ae)(w:World)(o:Option J)(e:Ending)(a:World):Prop:=
 O No w a∧(∀j,o=some j→∃v,e=.returned (.tuple #[v,.nilIface])∧bC ok a v j)∧(o=none→∃b,e=.returned (.tuple #[.nilIface,b])∧J6 b)
theorem Lr(k:K)(w:World):(Instr.build 256 #[(0,.string k)]).run Tryz.prog w=.ok (.agg #[.string k]) w:=by kernel_rfl
def Ed:Option J→Option J
 |some (.table _)=>none
 |r=>r
theorem uZ(t:T)(k:K):iZ t [k]=Ed (get t k):=by
 simp only[iZ,Ed];cases get t k with
 |none=>rfl
 |some j=>cases j<;>rfl
theorem yj{last:K}:∀{L:List K}{t:T},L≠ []→iZ t (L++[last])=match bD t L with|some x=>Ed (get x last)|none=>none
 |[],t,h=>absurd rfl h
 |[k],t,_=>by
  simp only[List.cons_append,List.nil_append,iZ,bD];cases get t k with
  |none=>rfl
  |some j=>cases j<;>rfl
 |k::b::r,t,_=>by
  have a:=λx=>yj (last:=last) (L:=b::r) (t:=x) (by simp)
  simp only[List.cons_append] at a⊢;rw[bD];simp only[iZ];cases hg:get t k with
  |none=>rfl
  |some j=>cases j<;>first|rfl|(exact a _)
theorem xH{ok:ae}{w:World}{b n:Nat}{f:K→Option Value}{kvs:T}(h:rH ok w b n f kvs)(k:K):(f k=none∧get kvs k=none)∨∃u j,f k=some u∧get kvs k=some j∧bC ok w u j:=by
 cases hf:f k with
 |none=>exact .inl ⟨rfl,h.none hf⟩
 |some u=>obtain⟨x,a,c⟩:=h.some hf;exact .inr ⟨u,x,rfl,a,c⟩
theorem wK{ok:ae}{w:World}{b:Nat}{t:T}(h:bC ok w (.iface 67 (.map (some b))) (.table t))(P:List K){ax:ae}{v:Value}(hv:aC ax w v 1 (aH P))(aV:∀b,ax b→b<w.heap.size)(q:∀a n c,v=.slice a n c→n<=c∧(n=0∨a≠none))(C:P≠ [])(hl:P.length<=500001)(y:∀k∈P,k.size<=500000)(I:∀x∈P,∀b∈x.data.toList,b.toNat≠46):
  Calls Tryz.prog 160 #[.map (some b),v] w (FD ok w (iZ t P)):=by
 obtain⟨b2,n,f,aW,D⟩:=h.tab;cases aW;have HH:=Z h;have HT:=Z D;have R:=Z hv;obtain⟨-, -,va,vc,rfl, -, -⟩:=hv;have ai:(aH P).length=P.length:=(by simp[aH]);have q:=q _ _ _ rfl;rw[ai] at R q⊢;obtain⟨M,hM⟩:∃M,P.length=M+1:=⟨P.length - 1,by have:=List.length_pos_iff.2 C;omega⟩;have bn:=q.1;have E:=D.map;have HS:=Z y;have bu:=Z I;have J:=Lr;by_cases aX:M=0
 .subst aX;obtain⟨k,rfl⟩:∃k,P=[k]:=by
   match P,hM with
   |[k],_=>exact⟨k,rfl⟩
  have L:k.size<=maxLen:=by have:=y k (by simp);unfold maxLen;omega
  have aY:=J k;obtain⟨lb,lo,ay, -,F⟩:=R.o.at (i:=0) (r:=[.string k]) rfl;subst ay;have F:=F.one;simp only[Nat.mul_one,Nat.add_zero] at F;simp only[List.length_singleton] at R q⊢;rcases xH D k with⟨g,l⟩|⟨u,j,g,l,A⟩
  .have m:=Z g;have N:=Z (show iZ t [k]=none by rw[uZ,l];rfl);clear h D y I J C g l q hl;go_enter Tryz.func160,Tryz.ntmps160;go_wp2_with (first|(at_lookup;refine cO Tryz.underlying86 Tryz.zeroValue20 rfl rfl rfl E rfl L ?_;rw[m.o];go_frame))
   go_quiet (fail)
   have s:=Z (O.drewN w nq);generalize w.drewN nq=w6 at s⊢;go_wp2;go_ret2;exact⟨s.o,λj d=>(by rw[N.o] at d;cases d),λ_=>⟨_,rfl,.inl ⟨_,rfl⟩⟩⟩
  .have p:=λz=>aZ A.dL z
   cases hT:dA j with
   |true=>
    rw[hT] at p;have G:=Z p;have m:=Z g;have N:=Z (show iZ t [k]=none by rw[uZ,l];cases j<;>first|rfl|cases hT);clear h D y I J C g l q hl p hT;go_enter Tryz.func160,Tryz.ntmps160;go_wp2_with (first|(at_lookup;refine cO Tryz.underlying86 Tryz.zeroValue20 rfl rfl rfl E rfl L ?_;rw[m.o];go_frame)|(refine oO Tryz.underlying86 Tryz.zeroValue20 rfl rfl rfl E rfl L ?_;rw[m.o];go_frame));refine(G.o w).mono ?_;rintro e wt ⟨rfl,H⟩;obtain rfl:=H.symm;go_wp2_with fail
    go_quiet (fail)
    have s:=Z (O.drewN w nq);generalize w.drewN nq=w6 at s⊢;go_wp2;go_ret2;exact⟨s.o,λj d=>(by rw[N.o] at d;cases d),λ_=>⟨_,rfl,.inl ⟨_,rfl⟩⟩⟩
   |false=>rw[hT] at p;have G:=Z p;have m:=Z g;have HU:=Z A;have N:=Z (show iZ t [k]=some j by rw[uZ,l];cases j<;>first|rfl|cases hT);clear h D y I J C g l q hl p hT A;go_enter Tryz.func160,Tryz.ntmps160;go_wp2_with (first|(at_lookup;refine cO Tryz.underlying86 Tryz.zeroValue20 rfl rfl rfl E rfl L ?_;rw[m.o];go_frame)|(refine oO Tryz.underlying86 Tryz.zeroValue20 rfl rfl rfl E rfl L ?_;rw[m.o];go_frame));refine(G.o w).mono ?_;rintro e wt ⟨rfl,H⟩;obtain rfl:=H.symm;go_wp2_with (first|(refine oO Tryz.underlying86 Tryz.zeroValue20 rfl rfl rfl E rfl L ?_;rw[m.o];go_frame));go_ret2;exact⟨O.refl _ _,λj d=>(by rw[N.o] at d;cases d;exact⟨_,rfl,HU.o⟩),λd=>(by rw[N.o] at d;cases d)⟩
 .obtain⟨last,aj⟩:∃k,P[M]?=some k:=⟨_,List.getElem?_eq_getElem (by omega)⟩;have aJ:P=P.take M++[last]:=by
   have:=List.take_append_drop M P;obtain⟨h1,h2⟩:=gS'.1 aj;rw[List.drop_eq_getElem_cons h1,h2,List.drop_of_length_le (by omega)] at this;exact this.symm
  have ak:P.take M≠ []:=by intro e;have:=congrArg List.length e;rw[List.length_take,List.length_nil] at this;omega
  have az:(P.take M).length=M:=by simp;omega
  have aA:=yj (last:=last) (t:=t) ak;rw[←aJ] at aA;have aK:=Z aA;have aB:last.size<=maxLen:=by have:=y last (mG' aj);unfold maxLen;omega
  have aY:=J last;obtain⟨lb,lo,ay, -,F⟩:=R.o.at (i:=M) (r:=[.string last]) (by simp[aH,aj]);subst ay;have F:=F.one;simp only[Nat.mul_one] at F;have aF:=R.o;rw[←ai] at aF;have aG:=aC.init (c':=vc) aF (λe=>by cases e);rw[ai,hM,Nat.add_sub_cancel] at aG;have aN:aC ax w (.slice (some ⟨lb,lo,none⟩) M vc) 1 (aH (P.take M)):=by have e:aH (P.take M)=(aH P).take M:=(by simp[aH,List.map_take]);rw[e];exact aG
  have bf:=G6 (P.take M) 500000 500001 (by rw[az];omega) (λx B=>y x (List.mem_of_mem_take B));have HJ:=Z (λW (hc:O No w W)=>Bj (P.take M) ak (by rw[az];omega) (aN.X hc nE) (λa n c e=>by cases e;omega) (λb hb=>Nat.lt_of_lt_of_le (aV b hb) hc.size) (by omega));have aO:(Ea (P.take M)).size<1099511627776:=by have e:(Ea (P.take M)).size=(Lib.join ((P.take M).map (·.data.toList)) (⟨#[46]⟩:K).data.toList).length:=(by simp[Ea,ByteArray.size]);rw[e];omega
  have aP:=Ec (P.take M) ak (λx B=>I x (List.mem_of_mem_take B));have aQ:=Z (λW (hc:O No w W)=>uD (h.X hc nE) (Ea (P.take M)) aO);rw[aP] at aQ;have bz:(M:Int)<=(vc:Int):=(by omega);have bF:((M+1:Nat):Int) - 1=(M:Int):=(by omega);have bG:¬((M+1:Nat):Int)=1:=(by omega);have bH:M<=500001:=(by omega);rw[hM];generalize iZ t P=o at*;generalize bD t (P.take M)=o2 at*;generalize Ea (P.take M)=jk at*;clear h D y I J C q hl aJ ak az aA aF aG aN bf aO aP hM ai aj E;go_enter Tryz.func160,Tryz.ntmps160;go_wp2_with fail
  go_quiet (fail)
  have s:=Z (O.drewN w nq);generalize w.drewN nq=w6 at s⊢;go_wp2_with fail;refine(HJ.o w6 s.o).mono ?_;rintro e w7 ⟨rfl,aS⟩;have aT:=Z (s.o.trans' aS);clear aS;go_wp2_with fail;refine(aQ.o w7 aT.o).mono ?_;rintro e w8 ⟨aU,S,U⟩;have au:=Z (aT.o.trans' aU);clear aU;cases FH:o2 with
  |none=>
   obtain⟨mv,kk,rfl⟩:=U FH;have V:=Z (show o=none by have:=aK.o;rw[FH] at this;exact this);have C:=xB kk;have bI:=λx=>xC x kk
   clear S U FH;go_wp2;go_ret2;exact⟨au.o,λj d=>(by rw[V.o] at d;cases d),λ_=>⟨_,rfl,.inl ⟨_,rfl⟩⟩⟩
  |some x=>
   obtain⟨bx,rfl,B⟩:=S x FH;obtain⟨b3,n3,f3,bg,af⟩:=B.tab;cases bg;have aI:=af.map;have V:=Z (show o=Ed (get x last) by have:=aK.o;rw[FH] at this;exact this);have C:=eY;have bJ:=dO;rcases xH af last with⟨g,l⟩|⟨u,j,g,l,A⟩
   .have m:=Z g;have Q:=Z (show o=none by rw[V.o,l];rfl);clear S U FH B af g l;go_wp2_with (first|(at_lookup;refine cO Tryz.underlying86 Tryz.zeroValue20 rfl rfl rfl aI rfl aB ?_;rw[m.o];go_frame));go_ret2;exact⟨au.o,λj d=>(by rw[Q.o] at d;cases d),λ_=>⟨_,rfl,.inl ⟨_,rfl⟩⟩⟩
   .have p:=λz=>aZ A.dL z
    cases hT:dA j with
    |true=>rw[hT] at p;have G:=Z p;have m:=Z g;have Q:=Z (show o=none by rw[V.o,l];cases j<;>first|rfl|cases hT);clear S U FH B af g l p hT A;go_wp2_with (first|(at_lookup;refine cO Tryz.underlying86 Tryz.zeroValue20 rfl rfl rfl aI rfl aB ?_;rw[m.o];go_frame));refine(G.o _).mono ?_;rintro e wt ⟨rfl,H⟩;obtain rfl:=H.symm;go_wp2;go_ret2;exact⟨au.o,λj d=>(by rw[Q.o] at d;cases d),λ_=>⟨_,rfl,.inl ⟨_,rfl⟩⟩⟩
    |false=>rw[hT] at p;have G:=Z p;have m:=Z g;have HU:=Z A;have Q:=Z (show o=some j by rw[V.o,l];cases j<;>first|rfl|cases hT);clear S U FH B af g l p hT A;go_wp2_with (first|(at_lookup;refine cO Tryz.underlying86 Tryz.zeroValue20 rfl rfl rfl aI rfl aB ?_;rw[m.o];go_frame));refine(G.o _).mono ?_;rintro e wt ⟨rfl,H⟩;obtain rfl:=H.symm;go_wp2;go_ret2;exact⟨au.o,λj d=>(by rw[Q.o] at d;cases d;exact⟨_,rfl,HU.o⟩),λd=>(by rw[Q.o] at d;cases d)⟩
theorem yO{ok:ae}{w:World}{b:Nat}{t:T}(h:bC ok w (.iface 67 (.map (some b))) (.table t))(s:K)(p:s.size<=500000):Calls Tryz.prog 132 #[.map (some b),.string s] w (FD ok w (iG t s)):=by
 by_cases f:s=ByteArray.empty
 .have J:(ByteArray.toList s).isEmpty=true:=by rw[←decide_eq_emptyBytes];exact decide_eq_true f
  have r:=Z (show iG t s=none by unfold iG;rw[if_pos f]);have L:=Z xY;clear h f p;go_enter Tryz.func132,Tryz.ntmps132;go_wp2_with fail;refine(L.o _ w).mono ?_;rintro e A ⟨⟨q,rfl⟩,g⟩;have x:=Z g;clear g;go_wp2;go_ret2;exact⟨x.o,λj d=>(by rw[r.o] at d;cases d),λ_=>⟨_,rfl,.inr ⟨_,rfl⟩⟩⟩
 .have J:(ByteArray.toList s).isEmpty=false:=by rw[←decide_eq_emptyBytes];exact decide_eq_false f
  have r:=Z (show iG t s=iZ t (parts s 46) by unfold iG;rw[if_neg f]);have M:=Z (lK s (by omega) w);have N:=Z h;have O:=Z (And.intro (Ce s 46) (And.intro (ik s 46) (And.intro p (And.intro (λk (y:k∈parts s 46)=>iQ y) (Eb s)))));clear h f p;go_enter Tryz.func132,Tryz.ntmps132;go_wp2_with fail;refine M.o.mono ?_;rintro e A ⟨v,rfl,i,g⟩;obtain⟨B,P,C,D,E⟩:=O.o;have Q:=Z (wK (N.o.X g nE) (parts s 46) (i.rowAt.mono (ok':=λb=>b<A.heap.size) (λb _ z=>(i.elem z).2.1) (by decide)) (λb z=>z) (λa n c e=>by subst e;exact i.JS) B (by omega) (λk y=>Nat.le_trans (D k y) C) E);have x:=Z g;clear i g B P C D E;go_wp2_with fail;refine Q.o.mono ?_;rintro e w2 ⟨F,l,m⟩;have G:=Z (x.o.trans' F);rw[←r.o] at l m;clear F;cases ho:iG t s with
  |none=>obtain⟨U,rfl,H⟩:=m ho;have o:=Z ho;have R:=Z H;clear l m ho H;go_wp2;go_ret2;exact⟨G.o,λj d=>(by rw[o.o] at d;cases d),λ_=>⟨_,rfl,R.o⟩⟩
  |some j=>obtain⟨u,rfl,I⟩:=l j ho;have o:=Z ho;have S:=Z I;clear l m ho I;go_wp2;go_ret2;exact⟨G.o,λj d=>(by rw[o.o] at d;cases d;exact⟨_,rfl,S.o⟩),λd=>(by rw[o.o] at d;cases d)⟩
theorem iF.open{ok:ae}{w:World}{q:Nat}{x:Want}(h:iF ok w q x):∃(e:K)(a:Option Addr)(d c:Nat)(f:Option Addr)(g j:Nat),ay w q (jc x e (.slice a d c) (.slice f g j)) 154∧aC ok w (.slice a d c) 1 (aH x.tags)∧
  ∀(k:World)(y:Want)(S:ae),y.tags=x.tags→y.imports=x.imports→ay k q (jc y e (.slice a d c) (.slice f g j)) 154→O S w k→(∀b,ok b→¬S b)→iF ok k q y:=by
 obtain⟨e,t,v,z,A,l,p,B,C⟩:=h;obtain⟨a,d,c,rfl⟩:∃a d c,t=.slice a d c:=by obtain⟨-, -,a,c,rfl, -⟩:=l;exact⟨_,_,_,rfl⟩
 obtain⟨f,g,j,rfl⟩:∃a d c,v=.slice a d c:=by obtain⟨-, -,a,c,rfl, -⟩:=p;exact⟨_,_,_,rfl⟩
 refine⟨e,a,d,c,f,g,j,A,l,λk y S D r E m o=>⟨e,_,_,z,E,by rw[D];exact l.X m o,p.X m o,by rw[r];exact B,λn u i F s=> ?_⟩⟩;rw[r] at s;exact(C n u i F s).X m o
structure WZ (ok:ae) (w:World) (qs:List Nat) (xs:List Want) (f:Want→Want) (n:Nat) (wr:World):Prop where
 le:n<=xs.length
 len:qs.length=xs.length
 nd:qs.Nodup
 o:∀b,ok b→b∉qs
 done:∀(i q:Nat)(x:Want),i<n→qs[i]?=some q→xs[i]?=some x→iF ok wr q (f x)
 rest:∀(i q:Nat)(x:Want),n<=i→qs[i]?=some q→xs[i]?=some x→iF ok wr q x
 X:O (λk=>k∈qs) w wr
theorem ve{l:List Nat}(h:l.Nodup){i j q:Nat}(g:l[i]?=some q)(k:l[j]?=some q):i=j:=by
 obtain⟨a,b⟩:=gS'.1 g;obtain⟨c,d⟩:=gS'.1 k;have f:=List.pairwise_iff_getElem.1 h;rcases Nat.lt_trichotomy i j with e|e|e
 .exact absurd (b.trans d.symm) (f i j a c e)
 .exact e
 .exact absurd (d.trans b.symm) (f j i c a e)
theorem WZ.keep{ok:ae}{w:World}{e:List Nat}{xs:List Want}{f:Want→Want}{n:Nat}{wr w2:World}(h:WZ ok w e xs f n wr)(a:O No wr w2):WZ ok w e xs f n w2:=
 ⟨h.le,h.len,h.nd,h.o,λi q x b c d=>(h.done i q x b c d).X a nE id,λi q x b c d=>(h.rest i q x b c d).X a nE id,h.X.trans' a⟩
theorem WZ.step{ok:ae}{w:World}{d:List Nat}{xs:List Want}{f:Want→Want}{n q:Nat}{x:Want}{wr w2:World}(h:WZ ok w d xs f n wr)(g:d[n]?=some q)(o:xs[n]?=some x)(j:O (·=q) wr w2)(s:iF ok w2 q (f x)):WZ ok w d xs f (n+1) w2:=by
 have p:q∈d:=mG' g;have r:∀b,ok b→¬b=q:=λb t e=>h.o b t (e▸p)
 refine⟨(gS'.1 o).1,h.len,h.nd,h.o,λi k l u a c=> ?_,λi k l u a c=> ?_,h.X.trans j (λi _ e=>e▸p)⟩
 .by_cases e:i=n
  .subst e;rw[g] at a;cases a;rw[o] at c;cases c;exact s
  .exact(h.done i k l (by omega) a c).X j r (λm=>e (ve h.nd (m▸a) g))
 .exact(h.rest i k l (by omega) a c).X j r (λm=>by have:=ve h.nd (m▸a) g;omega)
theorem WZ.same{ok:ae}{w:World}{a:List Nat}{xs:List Want}{f:Want→Want}{n q:Nat}{x:Want}{wr:World}(h:WZ ok w a xs f n wr)(b:a[n]?=some q)(c:xs[n]?=some x)(e:f x=x):WZ ok w a xs f (n+1) wr:=
 h.step b c (O.refl _ _) (e.symm▸h.rest n q x lR' b c)
theorem qN(a:Addr)(n c:Nat)(w:World):(Go.binOp BinOp.eql 117 (.slice (some a) n c) (.slice none 0 0)).run Tryz.prog w=.ok (.bool false) w:=by kernel_rfl
def J7:J→Bool
 | .bool _=>true
 | _=>false
def Nb:J→Bool
 | .bool b=>b
 | _=>false
theorem wL{v:Value}{j:J}(h:rF v j)(w:World):(Instr.typeAssert v 20 4 true).run Tryz.prog w=.ok (.tuple #[.bool (Nb j),.bool (J7 j)]) w:=by obtain⟨_,_,h⟩:=h;cases h<;>kernel_rfl
theorem zf{ok:ae}{w:World}{e:Value}{d:List Nat}(h:aC ok w e 1 (aF d))(f:d≠ []):∃a c,e=.slice (some a) d.length c:=by obtain⟨-, -,a,c,rfl, -,g⟩:=h;obtain⟨b,o,rfl, -⟩:=g (by simpa using f);exact⟨⟨b,o,none⟩,c,by rw[aF,List.length_map]⟩
theorem Ee{ok:ae}{w:World}{wv:Value}{a:List Nat}{xs:List Want}{b:Nat}{all:T}(N:aC ok w wv 1 (aF a))(P:a≠ [])(H:a.length=xs.length)(aG:a.Nodup)(Q:∀b,ok b→b∉a)(d:∀(i q:Nat)(x:Want),a[i]?=some q→xs[i]?=some x→iF ok w q x)
  (R:bC ok w (.iface 67 (.map (some b))) (.table all)) (aI:∀x∈xs,∀k∈x.tags,k.size<=1048576) (di:xs.length<=1048576) (aJ:∀x∈xs,x.tags.length<=1048576):
  Calls Tryz.prog 113 #[wv,.map (some b)] w λe w'=>e=.returned (.tuple #[])∧WZ ok w a xs (jL all) xs.length w':=by
 obtain⟨ra,rc,rfl⟩:=zf N P;have HW:=Z N;have aY:=Z H;have aZ:=Z (show WZ ok w a xs (jL all) 0 w from⟨zL',H,aG,Q,λi q x h=>by omega,λi q x _ g bf=>d i q x g bf,O.refl _ _⟩);have S:=Z Q;have bn:=Z aI;have bu:=Z aJ;have HA:=Z R;have bz:=Z (uD R tK (by decide));rw[H] at HW⊢;have bF:=qN ra xs.length rc;clear N P H aG Q d R aI aJ;go_enter Tryz.func113,Tryz.ntmps113;go_wp2_with fail;have aK:(⟨#[116,97,103,115]⟩:K)=tK:=rfl;rw[aK];clear aK;refine bz.o.mono ?_;rintro e w1 ⟨U,V,af⟩;have aN:=Z (aZ.o.keep U);have dm:=Z U;clear U bF;cases iU:bD all (parts tK 46) with
 |none=>
  obtain⟨mv,kk,rfl⟩:=af iU;have P:=xB kk;have dn:=λx=>xC x kk
  have ai:=Z iU;clear V af iU;go_wp2;refine bodyPost_ret (results_none rfl _ _ _) rfl ⟨rfl,?_⟩;have bG:∀x:Want,jL all x=x:=λx=>by unfold jL qI;rw[ai.o]
  have h:=aN.o;exact⟨lR',h.len,h.nd,h.o,λi q x hi g d=>by rw[bG];exact h.rest i q x zL' g d,λi q x hi g d=>h.rest i q x zL' g d,h.X⟩
 |some f=>
  obtain⟨bg,rfl,aO⟩:=V f iU;obtain⟨b3,n3,f3,bH,aP⟩:=aO.tab;cases bH;have ai:=Z iU;have HG:=Z aP;have dw:=eY;have dA:=dO;clear V af iU aO aP;go_wp2_with fail;go_loopw [27] (λp wr=>∃n:Nat,p=.int .i64 n∧WZ ok w a xs (jL all) n wr∧O (λk=>k∈a) w1 wr) (λp _=>xs.length - (intOf p).toNat)
  case atStart=>exact⟨0,rfl,aN.o,O.refl _ _⟩
  case round=>
   obtain⟨n,rfl,hz,aQ⟩:=hrel;obtain⟨v,rfl⟩:∃v,v=wr:=⟨_,rfl⟩;have C:=Z hz;have aS:=Z aQ;clear hz aQ;by_cases aj:n<xs.length
   .obtain⟨q,g⟩:=gX' a n ((by rw[aY.o];exact aj));obtain⟨x,d⟩:=gX' xs n (aj);obtain⟨lb,lo,bI,bJ,ak⟩:=HW.o.at (i:=n) (r:=[ptr q]) (by simp[g]);cases bI;have ak:=(ak.X C.o.X (S.o _ bJ)).one;simp only[Nat.mul_one] at ak;have hd:=C.o.rest n q x lR' g d;obtain⟨dB,ta,tn,tc,ia,jn,jc,D,au,aT⟩:=hd.open;have bK:=Z aT;have bM:=Z D;have bP:=Z au;have bQ:tn=x.tags.length:=by obtain⟨-, -,_,_,h, -⟩:=au;cases h;simp[aH]
    subst bQ;have k4:v.cell? ⟨q,4,none⟩=some (.slice ta x.tags.length tc):=D.cell 4;have k5:v.cell? ⟨q,5,none⟩=some (.bool x.enabled):=D.cell 5;have f5:=D.frozen 5;have bT:=Z (bu.o x (mG' d));have bU:=Z (bn.o x (mG' d));have HX:=Z d;have HQ:=Z g;have bV:(n:Int)<(xs.length:Int):=(by omega);have bW:=bT.o;clear g d hd aT D au;go_wp2_with fail;go_loopw [8,9,36] (λyv nv p w2=>∃k:Nat,p=.int .i64 k∧k<=x.tags.length∧yv=.bool ((x.tags.take k).any (dK f true))∧nv=.bool ((x.tags.take k).any (dK f false))∧v=w2) (λ_ _ p _=>x.tags.length - (intOf p).toNat)
    case atStart=>exact⟨0,rfl,zL',rfl,rfl,rfl⟩
    case round=>
     obtain⟨k,rfl,hk,rfl,rfl,bY⟩:=hrel;subst bY;obtain⟨m,ax⟩:∃m,m=(x.tags.take k).any (dK f true):=⟨_,rfl⟩;obtain⟨o,ay⟩:∃o,o=(x.tags.take k).any (dK f false):=⟨_,rfl⟩;rw[←ax,←ay];have I:=Z ax;have J:=Z ay;clear ax ay;by_cases bZ:k<x.tags.length
     .obtain⟨y,L⟩:=gX' x.tags k (bZ);obtain⟨dC,dD,rfl, -,az⟩:=bP.o.at (i:=k) (r:=[.string y]) (by simp[aH,L]);have az:=az.one;simp only[Nat.mul_one] at az;have A:=Z L;have cu:(k:Int)<(x.tags.length:Int):=(by omega);have aA:y.size<=maxLen:=by have:=bU.o y (mG' L);unfold maxLen;omega
      have aB:=HG.o.map.X aS.o (S.o _ HG.o.own);clear L;rcases xH HG.o y with⟨B,l⟩|⟨u,j,B,l,hu⟩
      .have M:=Z B;have E:=Z (show m=(x.tags.take (k+1)).any (dK f true) by rw[iI A.o,←I.o];unfold dK;rw[l];simp);have F:=Z (show o=(x.tags.take (k+1)).any (dK f false) by rw[iI A.o,←J.o];unfold dK;rw[l];simp);clear B l;go_wp2_with (first|(at_lookup;refine cO Tryz.underlying86 Tryz.zeroValue20 rfl rfl rfl aB rfl aA ?_;rw[M.o];go_frame));go_roundw;case rel=>exact⟨k+1,by go_num,by omega,by rw[←E.o],by rw[←F.o],trivial⟩
       case measure=>simp[intOf];omega
      .have M:=Z B;have aU:=λz=>wL hu.dL z
       cases hB:J7 j with
       |true=>
        obtain⟨s,rfl⟩:∃s,j=.bool s:=by cases j<;>first|exact⟨_,rfl⟩|cases hB
        have E:=Z (show(m||s)=(x.tags.take (k+1)).any (dK f true) by rw[iI A.o,←I.o];unfold dK;rw[l];cases s<;>simp);have F:=Z (show(o|| !s)=(x.tags.take (k+1)).any (dK f false) by rw[iI A.o,←J.o];unfold dK;rw[l];cases s<;>simp);simp only[J7,Nb] at aU;clear B l hB hu;cases s<;>(
         go_wp2_with (first|(at_lookup;refine cO Tryz.underlying86 Tryz.zeroValue20 rfl rfl rfl aB rfl aA ?_;rw[M.o];go_frame))
         go_roundw;case rel=>exact⟨k+1,by go_num,by omega,by rw[←E.o];simp,by rw[←F.o];simp,trivial⟩
         case measure=>simp[intOf];omega)
       |false=>
        have aV:=Z (show ∀c,get f y≠some (.bool c) from λc h=>by rw[l] at h;cases h;cases hB);have E:=Z (show m=(x.tags.take (k+1)).any (dK f true) by rw[iI A.o,←I.o];unfold dK;split;(rename_i c hc;exact absurd hc (aV.o c));simp);have F:=Z (show o=(x.tags.take (k+1)).any (dK f false) by rw[iI A.o,←J.o];unfold dK;split;(rename_i c hc;exact absurd hc (aV.o c));simp);rw[hB] at aU;clear B l hB hu;go_wp2_with (first|(at_lookup;refine cO Tryz.underlying86 Tryz.zeroValue20 rfl rfl rfl aB rfl aA ?_;rw[M.o];go_frame));go_roundw;case rel=>exact⟨k+1,by go_num,by omega,by rw[←E.o],by rw[←F.o],trivial⟩
        case measure=>simp[intOf];omega
     .have dE:k=x.tags.length:=(by omega);have cZ:=Z (show qI all x=(m|| !o) by
       have G:=I.o;have t:=J.o;rw[List.take_of_length_le (by omega)] at G t;unfold qI;rw[ai.o,G,t])
      have cu:¬(k:Int)<(x.tags.length:Int):=(by omega);have df:=Z (λ(W:World)(e:Bool) (he:e=(m|| !o)) (hW:W=v.setCell ⟨q,5,none⟩ (.bool e))=>show WZ ok w a xs (jL all) (n+1) W∧O (λk=>k∈a) w1 W by obtain⟨G,t, -⟩:=bM.o.setCell 5 (.bool e);rw[←hW] at G t;have aW:q∈a:=mG' HQ.o;have h3:iF ok W q (jL all x):=bK.o W (jL all x) (·=q) rfl rfl (by unfold jL;rw[cZ.o,←he];exact G) t (λb hb e=>S.o b hb (e▸aW));exact⟨C.o.step HQ.o HX.o t h3,aS.o.trans t (λi _ e=>e▸aW)⟩);clear k4 bW;cases m<;>cases o<;>(
       go_upto_region 22 with fail
       generalize aX:World.setCell _ _ _=W;have HH:=Z (df.o W _ rfl aX.symm);clear aX k5 f5;go_wp2_with fail;go_roundw;case rel=>exact⟨n+1,by go_num,HH.o.1,HH.o.2⟩
       case measure=>simp[intOf];omega)
   .have dh:n=xs.length:=Nat.le_antisymm C.o.le (Nat.not_lt.1 aj);subst dh;have bV:¬((xs.length:Nat):Int)<(xs.length:Int):=(by omega);go_wp2;go_end0;exact⟨rfl,C.o⟩
theorem wM(r:Int)(a:32<r)(b:r<127)(w:World):Calls Tryz.prog 158 #[.int .i32 r] w λe c=>e=.returned (.bool false)∧c=w:=by
 have f:(r==9)=false:=by simp;omega
 have g:(r==10)=false:=by simp;omega
 have h:(r==11)=false:=by simp;omega
 have i:(r==12)=false:=by simp;omega
 have j:(r==13)=false:=by simp;omega
 have k:(r==32)=false:=by simp;omega
 have l:(r==133)=false:=by simp;omega
 have m:(r==160)=false:=by simp;omega
 have n:(r==5760)=false:=by simp;omega
 have o:(r==8232)=false:=by simp;omega
 have p:(r==8233)=false:=by simp;omega
 have q:(r==8239)=false:=by simp;omega
 have s:(r==8287)=false:=by simp;omega
 have t:(r==12288)=false:=by simp;omega
 have d:¬(8192:Int)<=r:=(by omega);have u:decide ((8192:Int)<=r)=false:=decide_eq_false d;clear a b;go_enter Tryz.func158,Tryz.ntmps158;go_wp2;go_ret;exact⟨rfl,rfl⟩
theorem yP(s:K)(h:0<s.size)(a:s[0].toNat<127)(w:World):Calls Tryz.prog 157 #[.string s] w λe b=>e=.returned (.tuple #[.int .i32 (s[0].toNat:Int),.int .i64 1])∧b=w:=by
 have c:(ByteArray.toList s).isEmpty=false:=by rw[←decide_eq_emptyBytes];exact decide_eq_false (λe=>by rw[e] at h;exact absurd h (by decide))
 have d:(s[0].toNat:Int)<128:=(by omega);have f:=a;go_enter Tryz.func157,Tryz.ntmps157;go_wp2;go_ret2;exact⟨rfl,rfl⟩
theorem yQ(s:K)(n:Nat)(c:s.size=n+1)(d:s.size<1099511627776)(a:s[n].toNat<127)(w:World):Calls Tryz.prog 159 #[.string s] w λe b=>e=.returned (.tuple #[.int .i32 (s[n].toNat:Int),.int .i64 1])∧b=w:=by have f:(s[n].toNat:Int)<128:=(by omega);have g:=a;go_enter Tryz.func159,Tryz.ntmps159;go_wp2;go_ret2;exact⟨rfl,rfl⟩
theorem Ai(s:K)(g:s.size<1099511627776)(b:∀(i:Nat)(h:i<s.size),32<s[i].toNat∧s[i].toNat<127)(w:World):Calls Tryz.prog 131 #[.string s] w λe q=>e=.returned (.string s)∧q=w:=by
 by_cases f:s=ByteArray.empty
 .subst f;have r:(ByteArray.toList ByteArray.empty).isEmpty=true:=by rw[←decide_eq_emptyBytes];exact decide_eq_true rfl
  clear b g;go_enter Tryz.func131,Tryz.ntmps131;go_wp2_with fail;go_loopw [0] (λc wr=>c=.string ByteArray.empty∧wr=w) (λ_ _=>0)
  case atStart=>exact⟨rfl,rfl⟩
  case round=>
   obtain⟨rfl,a⟩:=hrel;subst a;go_wp2_with fail;go_loopw [0] (λc j=>c=.string ByteArray.empty∧j=wr) (λ_ _=>0)
   case atStart=>exact⟨rfl,rfl⟩
   case round=>obtain⟨rfl,a⟩:=hrel;subst a;go_wp2;go_ret;exact⟨rfl,rfl⟩
 .have d:0<s.size:=by
   rcases Nat.eq_zero_or_pos s.size with h|h
   .exact absurd (ByteArray.ext (Array.eq_empty_of_size_eq_zero h)) f
   .exact h
  obtain⟨n,k⟩:∃n,s.size=n+1:=⟨s.size - 1,by omega⟩;have r:(ByteArray.toList s).isEmpty=false:=by rw[←decide_eq_emptyBytes];exact decide_eq_false f
  have l:=Z (yP s d (b 0 d).2 w);have m:=Z (yQ s n k g (b n (by omega)).2 w);have o:=Z (wM s[0].toNat (by have:=(b 0 d).1;omega) (by have:=(b 0 d).2;omega) w);have p:=Z (wM s[n].toNat (by have:=(b n (by omega)).1;omega) (by have:=(b n (by omega)).2;omega) w);generalize (s[0].toNat:Int)=t at l o;generalize (s[n].toNat:Int)=u at m p;clear b g d k f;go_enter Tryz.func131,Tryz.ntmps131;go_wp2_with fail;go_loopw [0,3,4] (λc _ _ wr=>c=.string s∧wr=w) (λ_ _ _ _=>0)
  case atStart=>exact⟨rfl,rfl⟩
  case round=>
   obtain⟨rfl,a⟩:=hrel;subst a;go_wp2_with fail;refine l.o.mono ?_;rintro e w2 ⟨rfl,a⟩;obtain rfl:=a.symm;go_wp2_with fail;refine o.o.mono ?_;rintro e w2 ⟨rfl,a⟩;obtain rfl:=a.symm;go_wp2_with fail;go_loopw [0,5,6] (λc _ _ j=>c=.string s∧j=wr) (λ_ _ _ _=>0)
   case atStart=>exact⟨rfl,rfl⟩
   case round=>obtain⟨rfl,a⟩:=hrel;subst a;go_wp2_with fail;refine m.o.mono ?_;rintro e w2 ⟨rfl,a⟩;obtain rfl:=a.symm;go_wp2_with fail;refine p.o.mono ?_;rintro e w2 ⟨rfl,a⟩;obtain rfl:=a.symm;go_wp2;go_ret;exact⟨rfl,rfl⟩
theorem Ls(w:World):(Go.binOp BinOp.eql 75 .nilIface .nilIface).run Tryz.prog w=.ok (.bool true) w:=by kernel_rfl
theorem Lt(x:Operand)(w:World):(eqGuard BinOp.eql 75 x (.const .nilIface) .nilIface .nilIface).run Tryz.prog w=.ok () w:=by cases x<;>kernel_rfl
theorem Lu{a:Value}(h:J6 a)(w:World):(Go.binOp BinOp.eql 75 a .nilIface).run Tryz.prog w=.ok (.bool false) w:=by rcases h with⟨k,rfl⟩|⟨b,rfl⟩<;>kernel_rfl
theorem LC{a:Value}(h:J6 a)(x:Operand)(w:World):(eqGuard BinOp.eql 75 x (.const .nilIface) a .nilIface).run Tryz.prog w=.ok () w:=by rcases h with⟨k,rfl⟩|⟨b,rfl⟩<;>cases x<;>kernel_rfl
theorem Bl{ok:ae}{w:World}{wv:Value}{d:List Nat}{xs:List Want}{b:Nat}{all:T}(a:K)(N:aC ok w wv 1 (aF d))(C:d≠ [])(D:d.length=xs.length)(ay:d.Nodup)(Q:∀b,ok b→b∉d)(f:∀(i q:Nat)(x:Want),d[i]?=some q→xs[i]?=some x→iF ok w q x)
  (ha:bC ok w (.iface 67 (.map (some b))) (.table all)) (l:a.size<=100000) (az:∀x∈xs,x.condition.size<=100) (aA:∀x∈xs,∀(i:Nat)(h:i<x.condition.size),32<x.condition[i].toNat∧x.condition[i].toNat<127) (cO:xs.length<=1048576):
  Calls Tryz.prog 114 #[wv,.map (some b),.string a] w λe w'=>e=.returned (.tuple #[])∧WZ ok w d xs (gG all a) xs.length w':=by
 obtain⟨ra,rc,rfl⟩:=zf N C;have HW:=Z N;have aV:=Z D;have aW:=Z (show WZ ok w d xs (gG all a) 0 w from⟨zL',D,ay,Q,λi q x h=>by omega,λi q x _ m aX=>f i q x m aX,O.refl _ _⟩);have R:=Z Q;have aY:=Z az;have aZ:=Z aA;have aB:=Z l;have HA:=Z ha;rw[D] at HW⊢;have cZ:=qN ra xs.length rc;clear N C D ay Q f ha az aA l;go_enter Tryz.func114,Tryz.ntmps114;go_wp2_with fail;go_loopw [18] (λg wr=>∃n:Nat,g=.int .i64 n∧WZ ok w d xs (gG all a) n wr) (λg _=>xs.length - (intOf g).toNat)
 case atStart=>exact⟨0,rfl,aW.o⟩
 case round=>
  obtain⟨n,rfl,hz⟩:=hrel;obtain⟨E,rfl⟩:∃E,E=wr:=⟨_,rfl⟩;have j:=Z hz;clear hz;by_cases S:n<xs.length
  .obtain⟨q,m⟩:=gX' d n ((by rw[aV.o];exact S));obtain⟨x,f⟩:=gX' xs n (S);obtain⟨lb,lo,bf,bg,U⟩:=HW.o.at (i:=n) (r:=[ptr q]) (by simp[m]);cases bf;have U:=(U.X j.o.X (R.o _ bg)).one;simp only[Nat.mul_one] at U;have hd:=j.o.rest n q x lR' m f;obtain⟨df,ta,tn,tc,ia,jn,jc,V,bn,aG⟩:=hd.open;have bu:=Z aG;have bz:=Z V;have k3:E.cell? ⟨q,3,none⟩=some (.string x.condition):=V.cell 3;have HX:=Z f;have HQ:=Z m;have af:=mG' f;have dh:=aY.o x af;have bD:=Z (Ai x.condition (by omega) (aZ.o x af));have bF:=Z (wH x.condition ⟨#[44]⟩ 44 rfl (by omega));have bG:(n:Int)<(xs.length:Int):=(by omega);clear m f hd aG V bn af;go_wp2_with fail;refine(bD.o _).mono ?_;rintro e wt ⟨rfl,bH⟩;obtain rfl:=bH.symm;go_wp2_with fail;refine(bF.o _).mono ?_;rintro e wz ⟨pv,rfl,ai,aI⟩;have F:=Z ai.rowAt;have G:=Z aI;obtain⟨pa,pc,rfl⟩:=ai.dY;have aJ:(44:UInt8).toNat=44:=rfl;rw[aJ] at F⊢;simp only[aH,List.length_map] at F⊢;obtain⟨P,hP⟩:∃P,P=parts x.condition 44:=⟨_,rfl⟩;have bI:=oK x.condition 44;have l:=λy (o:y∈parts x.condition 44)=>iQ o
   rw[←hP] at F bI l⊢;have aK:=Z hP;have bJ:=Z l;clear ai aI hP l k3 aJ;go_wp2_with fail;go_loopw [29] (λg wr=>∃k:Nat,g=.int .i64 k∧k<=P.length∧jT all a P=jT all a (P.drop k)∧O No wz wr) (λg _=>P.length - (intOf g).toNat)
   case atStart=>exact⟨0,rfl,zL',rfl,O.refl _ _⟩
   case round=>
    obtain⟨k,rfl,hk,aN,aO⟩:=hrel;obtain⟨aP,rfl⟩:∃aP,aP=wr:=⟨_,rfl⟩;have t:=Z aN;have v:=Z aO;clear aN aO;by_cases bK:k<P.length
    .obtain⟨y,o⟩:=gX' P k (bK);obtain⟨di,dm,rfl, -,aj⟩:=F.o.at (i:=k) (r:=[.string y]) (by simp[o]);have aj:=(aj.X v.o id).one;simp only[Nat.mul_one] at aj;have H:=Z o;have bM:(k:Int)<(P.length:Int):=(by omega);have bP:=bJ.o y (mG' o);clear o;by_cases p:y=ByteArray.empty
     .have bQ:¬(0:Int)<(y.size:Int):=by rw[p];decide
      have A:=Z (show P[k]?=some ByteArray.empty by rw[H.o,p]);clear p bP;go_wp2_with fail;go_roundw;case rel=>exact⟨k+1,by go_num,by omega,by rw[t.o,wo A.o],v.o⟩
      case measure=>simp[intOf];omega
     .have bQ:(0:Int)<(y.size:Int):=by
       rcases Nat.eq_zero_or_pos y.size with h|h
       .exact absurd (ByteArray.ext (Array.eq_empty_of_size_eq_zero h)) p
       .omega
      have A:=Z p;have bT:=Z (yO ((HA.o.X j.o.X R.o).X (G.o.trans' v.o) nE) (a++y) (by rw[ByteArray.size_append];have:=aB.o;omega));have dn:=aB.o;clear p;go_wp2_with fail;refine bT.o.mono ?_;rintro e w3 ⟨aQ,ak,au⟩;have I:=Z (v.o.trans' aQ);clear aQ;cases ho:iG all (a++y) with
      |none=>
       obtain⟨er,rfl,ax⟩:=au ho;have J:=Z ho;have f1:=Lu ax;have f2:=λx=>LC ax x
       clear ho ak au ax;go_wp2_with fail;go_roundw;case rel=>exact⟨k+1,by go_num,by omega,by rw[t.o,o7 H.o A.o (λb h=>by rw[J.o] at h;cases h)],I.o⟩
       case measure=>simp[intOf];omega
      |some L=>
       obtain⟨u,rfl,hu⟩:=ak L ho;have J:=Z ho;have f1:=Ls;have f2:=Lt;have aS:=λz=>wL hu.dL z
       clear ho ak au;cases hB:J7 L with
       |true=>
        obtain⟨s,rfl⟩:∃s,L=.bool s:=by cases L<;>first|exact⟨_,rfl⟩|cases hB
        have bU:=Z (show jT all a P=some s by rw[t.o];exact wB H.o A.o J.o);have M:=(bz.o.X (G.o.trans' I.o) id);have k5:w3.cell? ⟨q,5,none⟩=some (.bool x.enabled):=M.cell 5;have f5:=M.frozen 5;have bV:=Z (λ(W:World) (hW:W=World.setCell w3 ⟨q,5,none⟩ (.bool s))=>show WZ ok w d xs (gG all a) (n+1) W by
         obtain⟨B,h2, -⟩:=M.setCell 5 (.bool s);rw[←hW] at B h2;have bW:q∈d:=mG' HQ.o;have C:∀b,ok b→¬b=q:=λb hb e=>R.o b hb (e▸bW)
         have aT:O (·=q) E W:=((G.o.trans' I.o).mono (λ_ _ e=>e.elim)).trans h2 nE;have e1:o6 all a x=s:=by unfold o6;rw[←aK.o,bU.o];rfl
         exact j.o.step HQ.o HX.o aT (bu.o W (gG all a x) (·=q) rfl rfl (by unfold gG;rw[e1];exact B) aT C))
        simp only[J7,Nb] at aS;clear hB hu M;go_upto_region 14 with fail
        generalize aU:World.setCell _ _ _=W;have HH:=Z (bV.o W aU.symm);clear aU k5 f5;go_wp2_with fail;go_roundw;case rel=>exact⟨n+1,by go_num,HH.o⟩
        case measure=>simp[intOf];omega
       |false=>
        have bY:=Z (show ∀b,iG all (a++y)≠some (.bool b) from λc h=>by rw[J.o] at h;cases h;cases hB);rw[hB] at aS;clear hB hu;go_wp2_with fail;go_roundw;case rel=>exact⟨k+1,by go_num,by omega,by rw[t.o,o7 H.o A.o bY.o],I.o⟩
        case measure=>simp[intOf];omega
    .have bZ:=Z (show gG all a x=x by
      have B:=t.o;rw[List.drop_of_length_le (by omega)] at B;unfold gG o6;rw[←aK.o,B]
      rfl)
     have bM:¬(k:Int)<(P.length:Int):=(by omega);have HH:=Z ((j.o.keep (G.o.trans' v.o)).same HQ.o HX.o bZ.o);go_wp2_with fail;go_roundw;case rel=>exact⟨n+1,by go_num,HH.o⟩
     case measure=>simp[intOf];omega
  .have cu:n=xs.length:=Nat.le_antisymm j.o.le (Nat.not_lt.1 S);subst cu;have bG:¬((xs.length:Nat):Int)<(xs.length:Int):=(by omega);go_wp2;go_end0;exact⟨rfl,j.o⟩
def Ia(w:World)(c:Ch)(e:Ending)(a:World):Prop:=
 ∃cs:Y,e=.returned (.agg cs.toArray)∧dU (λx=>w.heap.size<=x) a cs c∧O No w a
end Go.Proofs.YtljaoopfomcaoaaGreatDoor
