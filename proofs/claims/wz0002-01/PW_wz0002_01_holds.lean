import PyProof.Rows.All
import Wide.All
import OpenK.AllK
import Wide.FinOn
import Lean
import PySem.Challenge.RW_wz0002_01
open PySem PySem.W PyProof.Rows PySem.Challenge
set_option Elab.async false
set_option autoImplicit false
set_option linter.unusedVariables false
set_option linter.unusedSimpArgs false
set_option genSizeOf false
set_option compiler.extract_closed false
set_option bootstrap.genMatcherCode false
set_option backward.match.sparseCases false
set_option genInjectivity false
set_option maxRecDepth 100000
namespace Mine
noncomputable def tz.tw7853683578678914846:Program:=PySem.Challenge.pw_wz0002_01
theorem tz.te7853683578678914846:PySem.Challenge.pw_wz0002_01=tz.tw7853683578678914846:=rfl
set_option Elab.async true in
theorem tz:(PySem.Challenge.pw_wz0002_01.main.body.isEmpty||true)=true:=by k_qdec
#print axioms tz
set_option maxRecDepth 100000 in
set_option maxHeartbeats 0 in
open_top hd for PySem.Challenge.rw_wz0002_01
variable{n:Nat}{a:Nat→List Nat}{s:Shared}{e:Scope}{k:Nat}{E:Value→Shared→Prop}{x:Str}{h:List Int}{i:List Nat}{t:Shared}{o:Expr}{m:Type}{p:List Str}{q:Env}{A:Around}{O:Pos}{v:Addr}{z:Nat}{B:List Expr}{C:Value}{H:Array Nat}{I:Int}{J:Sort _}{Q:Bool}{T:Nat}{U:Heap}{V:Value→Shared→Prop}{Y:Pos}{Z:List Value}{a0:Prop}{a1:Nat}{a3:List Stmt}{a7:Program}{a8:Sort _}{a9:Str}{b0:Expr}{b1:Pos}{b2:List Int}{b4:World}{b5:Comprehension}{b6:List Nat}{b7:Addr}{b9:Model}{c1:Sre.Seen}{c2:List Sre.Frame}{c3:Str→Option Value}{c5:Shared}{c6:Unit→Shared→Prop}{c8:Scope}{d0:Array Value}{d1:Obj}{d2:Value→Sem Fin}{d3:List Nat→Tok→Value}{d5:Sort _}{d6:Tok}{d7:List (List Nat×Tok)}{d8:Nat}{d9:Nat→Heap→Prop}{e0:Prop}{e1:List Comprehension}{e2:List Frame}{e3:Bool}{e4:List (Str×Value)}{e5:Fin→Shared→Prop}{e6:Option Int}{e7:Type}{e8:Array UInt8}{e9:Int}{f0:Pos}{f1:FuncData}{f2:Protocol}{f3:Nat→Option Nat}{f4:List (Str×Addr)}{f5:Heap}{f6:Nat→Pos}{f8:List (List Nat)}{f9:Option Int}{g0:Nat→Prop}{g1:Option Value→Shared→Prop}{g5:Array Value}{g6:Value}{g7:Addr→Prop}{g8:Code}{h0:List Addr}{h2:List Str}{h3:GenState}{h4:Nat→Heap→Prop}{h5:List Addr}{h6:Option Int}{h7:List Value→Shared→Prop}{h8:PySem.Str}{i0:List Nat}{i3:List Value→List Value}{i4:Operator}{i5:Sort _}{i6:List (Expr×Expr)}{i8:Option Value}{i9:String}{j0:Tok}{j1:Expr}{j2:List (Str×Int)}{j6:List Stmt}{j7:Addr}{j8:Array Nat}{j9:List Value→Prop}{k0:Pos}{k1:Addr}{k2:Env→Sem Flow}{k3:Nat×List Nat}{k4:Str}{k5:Type _}{k6:List UInt8}{k7:Option Expr}{k8:CmpOp}{k9:Bool→Bool}{l0:List Value}{l1:PySem.Str}{l3 l4:Addr}{l5:Value}{l7:NameKind}{l8:Sem Value}{l9:Around}{m0:Ctx}{m2:Pos}{m4:BoolOp}{m5:Resume}{m9:Stmt}{n2:Pos}{n3:J→a8→Prop}{n4:J→a8→d5→Prop}{n5:List (Str×m)}{n6:J→a8→Prop}{n7:J→a8→d5→Prop}{n8:J→Prop}{n9:J→a8→Prop}{o0:J→Prop}{o1:J→a8→d5→Prop}{o2:Nat→m→Sem (ForInStep m)}{o3:J→Prop}{o4:J→a8→Prop}{o5:J→a8→d5→Prop}{o6:m→Shared→Prop}{o7:J→Prop}{o8 o9:J→a8→d5→i5→Prop}{p0:m}{p1:J→a8→Prop}{p2:J→a8→d5→Prop}{p3:List m}{p4:J→Prop}{p5:List (Str×m)}{p6:m→m→m}{p7:m}{p9:J→a8→Prop}{q0:Option (m×e7)}{q1:Str→Option m}{q2:List k5}{q3:Sem m}{q4:J→Prop}{q5:Nat→m}{q6:List m}{q7:e7}{q8:J}{q9:k5}{r0:J}{r1:m}
theorem ai{g:Prop}(h:a0∧e0)(k:a0→e0→g):g:=k h.1 h.2
theorem ba{b g:Prop}(h:a0∧e0∧b)(k:a0→e0→b→g):g:=ai h.2 (k h.1)
theorem bQ{b d g:Prop}(h:a0∧e0∧b∧d)(k:a0→e0→b→d→g):g:=ba h.2 (k h.1)
theorem gr{b d e g:Prop}(h:a0∧e0∧b∧d∧e)(k:a0→e0→b→d→e→g):g:=bQ h.2 (k h.1)
theorem nG{b d e i g:Prop}(h:a0∧e0∧b∧d∧e∧i)(k:a0→e0→b→d→e→i→g):g:=gr h.2 (k h.1)
theorem B6{b d e i j g:Prop}(h:a0∧e0∧b∧d∧e∧i∧j)(k:a0→e0→b→d→e→i→j→g):g:=nG h.2 (k h.1)
theorem B7{b d e i j m g:Prop}(h:a0∧e0∧b∧d∧e∧i∧j∧m)(k:a0→e0→b→d→e→i→j→m→g):g:=B6 h.2 (k h.1)
theorem B8{b d e i j m n g:Prop}(h:a0∧e0∧b∧d∧e∧i∧j∧m∧n)(k:a0→e0→b→d→e→i→j→m→n→g):g:=B7 h.2 (k h.1)
theorem B9{b d e i j m n o g:Prop}(h:a0∧e0∧b∧d∧e∧i∧j∧m∧n∧o)(k:a0→e0→b→d→e→i→j→m→n→o→g):g:=B8 h.2 (k h.1)
theorem ah(h:∃b,n8 b)(k:∀b,n8 b→a0):a0:=h.elim k
theorem au(h:∃b,n8 b∧o0 b)(k:∀b,n8 b→o0 b→a0):a0:=h.elim fun b h=>ai h (k b)
theorem bA(h:∃b,n8 b∧o0 b∧o3 b)(k:∀b,n8 b→o0 b→o3 b→a0):a0:=h.elim fun b h=>ba h (k b)
theorem nH(h:∃b,n8 b∧o0 b∧o3 b∧o7 b)(k:∀b,n8 b→o0 b→o3 b→o7 b→a0):a0:=h.elim fun b h=>bQ h (k b)
theorem zK(h:∃b,n8 b∧o0 b∧o3 b∧o7 b∧p4 b)(k:∀b,n8 b→o0 b→o3 b→o7 b→p4 b→a0):a0:=h.elim fun b h=>gr h (k b)
theorem Ca(h:∃b,n8 b∧o0 b∧o3 b∧o7 b∧p4 b∧q4 b)(k:∀b,n8 b→o0 b→o3 b→o7 b→p4 b→q4 b→a0):a0:=h.elim fun b h=>nG h (k b)
theorem cP(h:∃b d,n3 b d)(k:∀b d,n3 b d→a0):a0:=h.elim fun b h=>ah h (k b)
theorem bV(h:∃b d,n3 b d∧n6 b d)(k:∀b d,n3 b d→n6 b d→a0):a0:=h.elim fun b h=>au h (k b)
theorem dp(h:∃b d,n3 b d∧n6 b d∧n9 b d)(k:∀b d,n3 b d→n6 b d→n9 b d→a0):a0:=h.elim fun b h=>bA h (k b)
theorem hJ(h:∃b d,n3 b d∧n6 b d∧n9 b d∧o4 b d)(k:∀b d,n3 b d→n6 b d→n9 b d→o4 b d→a0):a0:=h.elim fun b h=>nH h (k b)
theorem kc(h:∃b d,n3 b d∧n6 b d∧n9 b d∧o4 b d∧p1 b d)(k:∀b d,n3 b d→n6 b d→n9 b d→o4 b d→p1 b d→a0):a0:=h.elim fun b h=>zK h (k b)
theorem pK(h:∃b d,n3 b d∧n6 b d∧n9 b d∧o4 b d∧p1 b d∧p9 b d)(k:∀b d,n3 b d→n6 b d→n9 b d→o4 b d→p1 b d→p9 b d→a0):a0:=h.elim fun b h=>Ca h (k b)
theorem Cb(h:∃b d e,n4 b d e)(k:∀b d e,n4 b d e→a0):a0:=h.elim fun b h=>cP h (k b)
theorem cX(h:∃b d e,n4 b d e∧n7 b d e)(k:∀b d e,n4 b d e→n7 b d e→a0):a0:=h.elim fun b h=>bV h (k b)
theorem jB(h:∃b d e,n4 b d e∧n7 b d e∧o1 b d e)(k:∀b d e,n4 b d e→n7 b d e→o1 b d e→a0):a0:=h.elim fun b h=>dp h (k b)
theorem zL(h:∃b d e,n4 b d e∧n7 b d e∧o1 b d e∧o5 b d e)(k:∀b d e,n4 b d e→n7 b d e→o1 b d e→o5 b d e→a0):a0:=h.elim fun b h=>hJ h (k b)
theorem bR(h:∃b d e,n4 b d e∧n7 b d e∧o1 b d e∧o5 b d e∧p2 b d e)(k:∀b d e,n4 b d e→n7 b d e→o1 b d e→o5 b d e→p2 b d e→a0):a0:=h.elim fun b h=>kc h (k b)
theorem pL{i:J→a8→d5→Prop}(h:∃b d e,n4 b d e∧n7 b d e∧o1 b d e∧o5 b d e∧p2 b d e∧i b d e)(k:∀b d e,n4 b d e→n7 b d e→o1 b d e→o5 b d e→p2 b d e→i b d e→a0):a0:=h.elim fun b h=>pK h (k b)
theorem jC(h:∃b d e i,o8 b d e i∧o9 b d e i)(k:∀b d e i,o8 b d e i→o9 b d e i→a0):a0:=h.elim fun b h=>cX h (k b)
theorem Cc{j m n o:J→a8→d5→i5→Prop}(h:∃b d e i,o8 b d e i∧o9 b d e i∧j b d e i∧m b d e i∧n b d e i∧o b d e i)(k:∀b d e i,o8 b d e i→o9 b d e i→j b d e i→m b d e i→n b d e i→o b d e i→a0):a0:=h.elim fun b h=>pL h (k b)
theorem Cd{m:Sort _}{n o p q r s:J→a8→d5→i5→m→Prop}(h:∃b d e i j,n b d e i j∧o b d e i j∧p b d e i j∧q b d e i j∧r b d e i j∧s b d e i j)(k:∀b d e i j,n b d e i j→o b d e i j→p b d e i j→q b d e i j→r b d e i j→s b d e i j→a0):a0:=h.elim fun b h=>Cc h (k b)
theorem ay{g:Prop}(h:a0∨e0)(a:a0→g)(b:e0→g):g:=h.elim a b
theorem gu{r g:Prop}(h:a0∨e0∨r)(a:a0→g)(b:e0→g)(c:r→g):g:=h.elim a fun h=>h.elim b c
theorem C9{r s g:Prop}(h:a0∨e0∨r∨s)(a:a0→g)(b:e0→g)(c:r→g)(d:s→g):g:=h.elim a fun h=>gu h b c d
theorem bx{h:Prop}(b:a0)(d:e0)(e:h):a0∧e0∧h:=⟨b,d,e⟩
theorem cp{h b:Prop}(d:a0)(e:e0)(i:h)(j:b):a0∧e0∧h∧b:=⟨d,bx e i j⟩
theorem gv{h b d:Prop}(e:a0)(i:e0)(j:h)(k:b)(m:d):a0∧e0∧h∧b∧d:=⟨e,cp i j k m⟩
theorem kf{h b d e:Prop}(i:a0)(j:e0)(k:h)(m:b)(n:d)(o:e):a0∧e0∧h∧b∧d∧e:=⟨i,gv j k m n o⟩
theorem aF(h:J)(b:n8 h)(d:o0 h):∃h,n8 h∧o0 h:=⟨h,b,d⟩
theorem fS(h:J)(b:n8 h)(d:o0 h)(e:o3 h):∃h,n8 h∧o0 h∧o3 h:=⟨h,bx (a0:=n8 h) (e0:=o0 h) (h:=o3 h) b d e⟩
theorem lQ(h:J)(b:n8 h)(d:o0 h)(e:o3 h)(i:o7 h):∃h,n8 h∧o0 h∧o3 h∧o7 h:=⟨h,cp (a0:=n8 h) (e0:=o0 h) (h:=o3 h) (b:=o7 h) b d e i⟩
theorem zM(h:J)(b:n8 h)(d:o0 h)(e:o3 h)(i:o7 h)(j:p4 h):∃h,n8 h∧o0 h∧o3 h∧o7 h∧p4 h:=⟨h,gv (a0:=n8 h) (e0:=o0 h) (h:=o3 h) (b:=o7 h) (d:=p4 h) b d e i j⟩
theorem Ce(h:J)(b:n8 h)(d:o0 h)(e:o3 h)(i:o7 h)(j:p4 h)(k:q4 h):∃h,n8 h∧o0 h∧o3 h∧o7 h∧p4 h∧q4 h:=⟨h,kf (a0:=n8 h) (e0:=o0 h) (h:=o3 h) (b:=o7 h) (d:=p4 h) (e:=q4 h) b d e i j k⟩
theorem r2(h:J)(b:a8)(d:n3 h b):∃h b,n3 h b:=⟨h,b,d⟩
theorem bj(h:J)(b:a8)(d:n3 h b)(e:n6 h b):∃h b,n3 h b∧n6 h b:=⟨h,aF (n8:=n3 h) (o0:=n6 h) b d e⟩
theorem zN(h:J)(b:a8)(d:n3 h b)(e:n6 h b)(i:n9 h b):∃h b,n3 h b∧n6 h b∧n9 h b:=⟨h,fS (n8:=n3 h) (o0:=n6 h) (o3:=n9 h) b d e i⟩
theorem nI(h:J)(b:a8)(d:n3 h b)(e:n6 h b)(i:n9 h b)(j:o4 h b):∃h b,n3 h b∧n6 h b∧n9 h b∧o4 h b:=⟨h,lQ (n8:=n3 h) (o0:=n6 h) (o3:=n9 h) (o7:=o4 h) b d e i j⟩
theorem nJ(h:J)(b:a8)(d:n3 h b)(e:n6 h b)(i:n9 h b)(j:o4 h b)(k:p1 h b):∃h b,n3 h b∧n6 h b∧n9 h b∧o4 h b∧p1 h b:=⟨h,zM (n8:=n3 h) (o0:=n6 h) (o3:=n9 h) (o7:=o4 h) (p4:=p1 h) b d e i j k⟩
theorem nK(h:J)(b:a8)(d:n3 h b)(e:n6 h b)(i:n9 h b)(j:o4 h b)(k:p1 h b)(m:p9 h b):∃h b,n3 h b∧n6 h b∧n9 h b∧o4 h b∧p1 h b∧p9 h b:=⟨h,Ce (n8:=n3 h) (o0:=n6 h) (o3:=n9 h) (o7:=o4 h) (p4:=p1 h) (q4:=p9 h) b d e i j k m⟩
theorem lR(h:J)(b:a8)(d:d5)(e:n4 h b d)(i:n7 h b d):∃h b d,n4 h b d∧n7 h b d:=⟨h,bj (n3:=n4 h) (n6:=n7 h) b d e i⟩
theorem Cf(h:J)(b:a8)(d:d5)(e:n4 h b d)(i:n7 h b d)(j:o1 h b d):∃h b d,n4 h b d∧n7 h b d∧o1 h b d:=⟨h,zN (n3:=n4 h) (n6:=n7 h) (n9:=o1 h) b d e i j⟩
theorem r3(h:J)(b:a8)(d:d5)(e:n4 h b d)(i:n7 h b d)(j:o1 h b d)(k:o5 h b d)(m:p2 h b d):∃h b d,n4 h b d∧n7 h b d∧o1 h b d∧o5 h b d∧p2 h b d:=⟨h,nJ (n3:=n4 h) (n6:=n7 h) (n9:=o1 h) (o4:=o5 h) (p1:=p2 h) b d e i j k m⟩
theorem zO(h:J)(b:a8)(d:d5)(e:i5)(i:o8 h b d e)(j:o9 h b d e):∃h b d e,o8 h b d e∧o9 h b d e:=⟨h,lR (n4:=o8 h) (n7:=o9 h) b d e i j⟩
theorem qZ(b:n<3):n=0∨n=1∨n=2:=(Nat.lt_succ_iff_lt_or_eq.mp b).elim (fun h=>(Nat.lt_succ_iff_lt_or_eq.mp h).elim (fun h=> .inl (Nat.lt_one_iff.mp h)) fun h=> .inr (.inl h)) fun h=> .inr (.inr h)
theorem mN{P:Nat→Prop}(a:P 0)(b:P 1)(c:P 2):∀k,k<3→P k:=fun k h=>gu (qZ h) (fun e=>e▸a) (fun e=>e▸b) fun e=>e▸c
@[elab_as_elim] theorem rwE(h:q8=r0)(x:n8 r0):n8 q8:=h▸x
@[elab_as_elim] theorem rwF(h:r0=q8)(x:n8 r0):n8 q8:=h▸x
theorem memC{b:k5}(h:q9∈b::q2)(x:q9=b→a0)(y:q9∈q2→a0):a0:=(List.mem_cons.mp h).elim x y
theorem dd{r:List k5}(h:q9∈q2++r)(x:q9∈q2→a0)(y:q9∈r→a0):a0:=(List.mem_append.mp h).elim x y
theorem bZ{d:Type _}{f:k5→d}{b:d}(h:b∈q2.map f)(k:∀a,a∈q2→f a=b→a0):a0:=(List.mem_map.mp h).elim fun a h=>k a h.1 h.2
local macro_rules
  | `(tactic| rewrite [$rs,*]) => do
    let ts ← rs.getElems.mapM fun r => do
      let e : Lean.TSyntax `term := ⟨r.raw[1]⟩
      let f := Lean.mkIdent (if r.raw[0].getNumArgs == 0 then `Mine.rwE else `Mine.rwF)
      `(tactic| first | refine $f $e ?_ | rewrite [$r] at ⊢)
    `(tactic| ($[$ts];*))
local macro_rules | `(tactic| lia) => `(tactic| lia -abstractProof)
theorem lS{a0:Sem Fin}{e:End}(h:Runs b9 m0 O a0 e2 s e t):s.toks≤t.toks:=by
 induction h
 all_goals first
  |exact Nat.le_refl _
  |assumption
  |(rename_i b;exact Nat.le_of_succ_le b)
  |(rename_i d i;exact Nat.le_trans (show _≤_ from d) (show _≤_ from i))
theorem tm{i:GenResult}(h:Wakes b9 m0 O n m5 s i t):s.toks≤t.toks:=by
 unfold Wakes at h;split at h
 ·exact h.elim
 ·split at h
  ·refine hJ h fun e j d J J b=>?_;obtain rfl:=b;have:=lS d;exact this
  ·refine ai h fun J b=>?_;obtain rfl:=b;exact Nat.le_refl _
  ·refine ai h fun J b=>?_;obtain rfl:=b;exact Nat.le_refl _
 ·refine hJ h fun e j d J J b=>?_;obtain rfl:=b;have:=lS d;exact this
 ·refine ai h fun J b=>?_;obtain rfl:=b;exact Nat.le_refl _
 ·refine ai h fun J b=>?_;obtain rfl:=b;exact Nat.le_refl _
theorem wp_toks(t:Sem m):∀{Q:m→Pos→Shared→Prop}{E:Value→Pos→Shared→Prop}{p:Pos}{s:Shared},Sem.wp b9 m0 t Q E p s→Sem.wp b9 m0 t (fun a j u=>s.toks≤u.toks∧Q a j u) E p s:=by
 induction t with
 |pure a=>intro Q E p s h;exact⟨Nat.le_refl _,h⟩
 |raise e=>intro Q E p s h;exact h
 |unsupported=>intro Q E p s h;exact h
 |finish=>intro Q E p s h;exact h
 |rule _ k b=>intro Q E p s h;exact b _ h
 |«at» j k b=>intro Q E p s h;exact b _ h
 |load a _ k b=>intro Q E p s h;refine au h fun o v h=>?_;exact aF o v (b _ h)
 |update a _ f k b=>intro Q E p s h;exact⟨h.1,b _ h.2⟩
 |loadIfAlive a k b=>intro Q E p s h;exact b _ h
 |point _ k b=>intro Q E p s h;exact b _ h
 |register=>intro Q E p s h;exact h
 |alloc o k b=>intro Q E p s h;exact b _ h
 |fresh k b=>
  intro Q E p s h;refine Sem.wp_mono b9 m0 _ (fun a j u d=>⟨Nat.le_of_succ_le d.1,d.2⟩) (fun J J J d=>d) _ _ (b _ h)
 |ask k b=>intro Q E p s h;exact b _ h
 |choose z n k b=>intro Q E p s h;exact⟨h.1,b _ h.2⟩
 |os q _ k b=>intro Q E p s h;exact b _ h
 |call c x _ _ k b=>
  intro Q E p s h;refine bV h fun r w i h=>?_;have:=lS i;exact bj r w i (Sem.wp_mono b9 m0 _ (fun a j u d=>⟨Nat.le_trans this d.1,d.2⟩) (fun J J J d=>d) _ _ (b _ h))
 |handled y k b=>intro Q E p s h;exact b _ h
 |genState g k b=>intro Q E p s h;refine au h fun o v h=>?_;exact aF o v (b _ h)
 |newGen c k b=>intro Q E p s h;exact b _ h
 |resume g r _ k b=>
  intro Q E p s h;refine bV h fun r w i h=>?_;have:=tm i;exact bj r w i (Sem.wp_mono b9 m0 _ (fun a j u d=>⟨Nat.le_trans this d.1,d.2⟩) (fun J J J d=>d) _ _ (b _ h))
 |yield=>intro Q E p s h;exact h
 |stack k b=>intro Q E p s h;exact b _ h
 |fork=>intro Q E p s h;exact h
 |thread k b=>intro Q E p s h;exact b _ h
 |await=>intro Q E p s h;exact h
theorem bM(h:wpAny b9 A q3 (fun a d=>s.toks≤d.toks→o6 a d) E s):wpAny b9 A q3 o6 E s:=fun e p i=>
 Sem.wp_mono b9 e _ (fun a j d b=>b.2 b.1) (fun J J J b=>b) _ _ (wp_toks q3 (h e p i))
set_option genInjectivity true in
inductive D where
 |none
 |bool (b:Bool)
 |int (i:Int)
 |str (x:Str)
 |bytes (b:Array UInt8)
 |tup (l:List D)
 |list (l:List D)
 |dict (l:List (Str×D))
 |pv (lo hi st:Option Int)
 |ao (l:List D)
 |bW (l:List (Str×D))
 |ty (T:String)
structure Cx where
 prog:Program
 w:World
 K:Frag
 mg:Str→Option Value
 mb:Str→Option Value
 P:Addr
 pl:Int
 pc:Int
 own:Addr→Option Obj
noncomputable abbrev FH:=Addr→Option Obj
noncomputable def FH.add(f:FH)(a:Addr)(o:Obj):FH:=fun b=>if b=a then some o else f b
theorem FH.aR(f:FH)(a:Addr)(o:Obj):f.add a o a=some o:=if_pos rfl
variable{c:Cx}{l:List D}{f:FH}{j:D}{u:List (Str×D)}{G a2:FH}{a5:D}{c7:List D}{h1:FH}{i1:List (Str×D)}{i2:List Nat→D}{i7:D}{m1:Option D}{m6:D→D}{m8:FH}{n1:Cx}{p8:m→D}
theorem FH.dh(h:b7≠v):f.add v d1 b7=f b7:=if_neg h
theorem FH.fm(h:f v=none):∀b d,f b=some d→f.add v d1 b=some d:=fun b d e=>by
 rw[FH.dh];exact e;rintro rfl;rw[h]at e;contradiction
section
variable(c:Cx)(f:FH)
inductive pM(g:FH)(P:List Value→Prop)(v:Value):Prop
 |mk (a o n vs):v= .ref a→g a=some o→o.cls= .type "tuple" →o.data= .seq vs n→P vs.toList→pM g P v
inductive lF(g:FH)(P:List Value→Prop)(v:Value):Prop
 |mk (a vs n):v= .ref a→g a=some {cls:= .type "list",data:= .seq vs n}→P vs.toList→lF g P v
inductive lG{pr:Program}{w:World}(kd:PySem.KeyKind pr w Str)(g:FH)(P:List (Str×Value)→Prop)(v:Value):Prop
 |mk (a o es ep Cg):v= .ref a→g a=some o→o.ExactDict→o.data= .dict es ep→KeysOf kd es→Pairs kd es.toList Cg→(Cg.map (·.1)).Nodup→P Cg→(a==sysModules)=false→lG kd g P v
inductive pN(g:FH)(lo hi st:Option Int)(v:Value):Prop
 |mk (a vl vu vs):v= .ref a→g a=some {cls:= .type "slice",data:= .fields #[vl,vu,vs]}→IsPart vl lo→IsPart vu hi→IsPart vs st→pN g lo hi st v
inductive zP(P:Value→Prop)(Q:List Value→Prop)(vs:List Value):Prop
 |mk (v w):vs=v::w→P v→Q w→zP P Q vs
inductive zQ(x:Str)(P:Value→Prop)(Q:List (Str×Value)→Prop)(vs:List (Str×Value)):Prop
 |mk (v w):vs=(x,v)::w→P v→Q w→zQ x P Q vs
mutual
noncomputable def Val:D→Value→Prop
 | .none,v=>v= .none
 | .bool b,v=>v= .bool b
 | .int i,v=>∃t,v= .int i t
 | .str x,v=>∃t,v= .str x t
 | .bytes x,v=>∃t,v= .bytes x t
 | .ty T,v=>v= .type T
 | .tup l,v=>pM f (Vals l) v
 | .list l,v=>lF f (Vals l) v
 | .dict l,v=>lG (PySem.strKind c.prog c.w) f (bo l) v
 | .pv d h e,v=>pN f d h e v
 | .ao l,v=>lF c.own (Vals l) v
 | .bW l,v=>lG (PySem.strKind c.prog c.w) c.own (bo l) v
noncomputable def Vals:List D→List Value→Prop
 | [],h=>h=[]
 |d::r,h=>zP (Val d) (Vals r) h
noncomputable def bo:List (Str×D)→List (Str×Value)→Prop
 | [],h=>h=[]
 |p::r,h=>zQ p.1 (Val p.2) (bo r) h
end
noncomputable def tabObj(h:Array Value):Obj:={cls:= .none,data:= .fields h}
structure Gl(h:Heap):Prop where
 g:h.Ns mainGlobals c.mg
 b:h.Ns builtinsNs c.mb
 lim:h.NoLimit
 dig:(∃mc,h.Ns cStatics mc∧mc "sys.int_max_str_digits" =none)∧∃bm ob,c.mg "__builtins__" =some (.ref bm)∧bm≠builtinsNs∧h.get? bm=some ob∧ob.cls= .type "module" ∧ob.dict=some builtinsNs∧ob.data= .plain
 K:c.K.In h
 kP:c.K.lookup c.P=none
 tab:h.get? c.P=some (tabObj #[])∨∃k,h.get? c.P=some (tabObj #[rawInt c.pl,rawInt c.pc,.ref k])
 own:∀a o,c.own a=some o→a≠c.P∧h.get? a=some o
noncomputable def fa(h b:Heap):Prop:=b.get? c.P=h.get? c.P∨(h.get? c.P=some (tabObj #[])∧∃k,b.get? c.P=some (tabObj #[rawInt c.pl,rawInt c.pc,.ref k]))
structure Go(s:Shared)(f':FH)(s':Shared):Prop where
 keep:∀a o,a≠c.P→s.heap.get? a=some o→s'.heap.get? a=some o
 tab:fa c s.heap s'.heap
 aD:s.gens.size≤s'.gens.size
 gens:∀i,i<s.gens.size→s'.gens[i]? =s.gens[i]?
 bare:∀i x,s.gens.size≤i→s'.gens[i]? =some x→x.bare=true
 os:s'.os=s.os
 ext:∀a o,f a=some o→f' a=some o
 old:∀a,s.heap.get? a≠none→f' a=f a
 sub:∀a o,f' a=some o→a≠c.P∧s'.heap.get? a=some o
 tk:s.toks≤s'.toks
noncomputable def Sub(h:Heap):Prop:=∀a o,f a=some o→a≠c.P∧h.get? a=some o
end
theorem fa.refl(h:Heap):fa c h h:= .inl rfl
theorem fa.trans{d:Heap}(x:fa c U f5)(y:fa c f5 d):fa c U d:=by
 refine ay x (fun x=>?_) fun h=>?_
 ·refine ay y (fun y=>?_) fun h=>?_
  ·exact .inl (y.trans x)
  ·obtain⟨y,k,b⟩:=h;exact .inr ⟨x.symm.trans y,k,b⟩
 ·obtain⟨x,k,b⟩:=h;refine ay y (fun y=>?_) fun h=>?_
  ·exact .inr ⟨x,k,y.trans b⟩
  ·obtain⟨y,i,e⟩:=h;rw[b]at y;simp[tabObj]at y
theorem Go.refl(h:Sub c f s.heap):Go c f s f s:=
 ⟨fun J J J e=>e,.refl _,Nat.le_refl _,fun J J=>rfl,fun i x h e=>(by rw[Array.getElem?_eq_none h]at e;contradiction),rfl,fun J J e=>e,fun J J=>rfl,h,Nat.le_refl _⟩
theorem fa.has(x:fa c U f5)(b:U.get? c.P≠none):f5.get? c.P≠none:=by
 refine ay x (fun x=>?_) fun h=>?_
 ·rw[x];exact b
 ·obtain⟨_,k,x⟩:=h;rw[x];simp
theorem Go.has(x:Go c f s G t){a:Addr}(h:s.heap.get? a≠none):t.heap.get? a≠none:=by
 rcases e:s.heap.get? a with _|o
 ·exact absurd e h
 ·
  by_cases b:a=c.P
  ·subst b;exact x.tab.has h
  ·rw[x.keep a o b e];simp
theorem Go.trans(x:Go c f s G t)(y:Go c G t a2 c5):Go c f s a2 c5 where
 keep:=fun a o h e=>y.keep a o h (x.keep a o h e)
 tab:=x.tab.trans y.tab
 aD:=Nat.le_trans x.aD y.aD
 gens:=fun i h=>(y.gens i (Nat.lt_of_lt_of_le h x.aD)).trans (x.gens i h)
 bare:=fun i z h e=>by
  by_cases q:i<t.gens.size
  ·rw[y.gens i q]at e;exact x.bare i z h e
  ·exact y.bare i z (Nat.not_lt.mp q) e
 os:=y.os.trans x.os
 ext:=fun a o e=>y.ext a o (x.ext a o e)
 old:=fun a h=>(y.old a (x.has h)).trans (x.old a h)
 sub:=y.sub
 tk:=Nat.le_trans x.tk y.tk
theorem Go.toks(x:Go c f s G t)(h:t.toks≤n:=by repeat constructor):Go c f s G {t with toks:=n}:=⟨x.keep,x.tab,x.aD,x.gens,x.bare,x.os,x.ext,x.old,x.sub,Nat.le_trans x.tk h⟩
theorem Go.tokd{d:Drawn}(x:Go c f s G t)(h:t.toks≤n:=by repeat constructor):Go c f s G {t with toks:=n,drawn:=d}:=⟨x.keep,x.tab,x.aD,x.gens,x.bare,x.os,x.ext,x.old,x.sub,Nat.le_trans x.tk h⟩
theorem Go.heap{n:Nat}(x:Go c f s G t)(k:∀a o,t.heap.get? a=some o→U.get? a=some o)(d:(∃o,t.heap.get? c.P=some o))(i:t.toks≤n:=by repeat constructor):Go c f s G {t with heap:=U,toks:=n} where
 keep:=fun a o h e=>k _ _ (x.keep a o h e)
 tab:=x.tab.trans (.inl (by refine ah d fun o b=>?_;refine(?_ :U.get? c.P=_);rw[b,k _ _ b]))
 aD:=x.aD
 gens:=x.gens
 bare:=x.bare
 os:=x.os
 ext:=x.ext
 old:=x.old
 sub:=fun a o e=>⟨(x.sub a o e).1,k _ _ (x.sub a o e).2⟩
 tk:=Nat.le_trans x.tk i
theorem Gl.cH(g:Gl c U):∃o,U.get? c.P=some o:=by
 refine ay g.tab (fun e=>?_) fun h=>ah h fun k e=>?_ <;>exact⟨_,e⟩
theorem Gl.dP(g:Gl c U)(e:U.get? v=some d1)(d:∀i,d1≠tabObj i):v≠c.P:=by
 rintro rfl;refine ay g.tab (fun h=>?_) fun b=>ah b fun k h=>?_ <;>(rw[e]at h;exact d _ (Option.some.inj h))
theorem Gl.ne_of_cls(g:Gl c U)(e:U.get? v=some d1)(h:d1.cls≠ .none):v≠c.P:=
 g.dP e fun b q=>h (by rw[q];rfl)
theorem Gl.tn(g:Gl c U){b h}(e:U.get? v=some d1)(d:d1.data= .dict b h):v≠c.P:=
 g.dP e fun i q=>by rw[q]at d;contradiction
theorem Gl.ne_of_ns(g:Gl c U){m}(n:U.Ns v m):v≠c.P:=
 jB n fun J J J e h J=>g.tn e h
theorem Ns.go(g:Gl c U){m}(n:U.Ns v m)(k:∀v o,v≠c.P→U.get? v=some o→f5.get? v=some o):f5.Ns v m:=
 cX n fun o b h e r=>⟨o,b,h,k _ _ (g.ne_of_ns n) e,r⟩
theorem Gl.go(g:Gl c U)(k:∀a o,a≠c.P→U.get? a=some o→f5.get? a=some o)(t:fa c U f5):Gl c f5 where
 g:=Ns.go g g.g k
 b:=Ns.go g g.b k
 lim:=au g.lim fun h n e=>⟨h,Ns.go g n k,e⟩
 dig:=let⟨⟨h,n,e⟩,bm,r,m,p,d,i,q⟩:=g.dig;⟨⟨h,Ns.go g n k,e⟩,bm,r,m,p,k _ _ (g.ne_of_cls d (by rw[i];nofun)) d,i,q⟩
 K:=fun a o e=>k a o (by rintro rfl;rw[g.kP]at e;contradiction) (g.K a o e)
 kP:=g.kP
 own:=fun a o e=>⟨(g.own a o e).1,k a o (g.own a o e).1 (g.own a o e).2⟩
 tab:=by
  refine ay t (fun t=>?_) fun j=>?_
  ·rw[t];exact g.tab
  ·obtain⟨_,k,e⟩:=j;exact .inr ⟨k,e⟩
theorem Go.gl(x:Go c f s G t)(g:Gl c s.heap):Gl c t.heap:=g.go x.keep x.tab
theorem Go.push{o:Obj}(x:Go c f s G t)(g:Gl c t.heap):Go c f s G {t with heap:=t.heap.push o}:=
 (x.heap (n:=t.toks) (fun J J e=>Heap.get?_push_of_some _ e) g.cH)
theorem Go.lt(x:Go c f s G t){a o}(e:G a=some o):a<t.heap.objs.size:=Heap.lt_size (x.sub a o e).2
theorem Go.freeze(x:Go c f s G t)(g:Gl c t.heap)(i:s.heap.get? v=none)(k:G v=none)(e:t.heap.get? v=some d1)(j:d1.cls≠ .none):Go c f s (G.add v d1) t where
 keep:=x.keep
 tab:=x.tab
 aD:=x.aD
 gens:=x.gens
 bare:=x.bare
 os:=x.os
 ext:=fun b d q=>by
  rw[FH.dh]
  ·exact x.ext b d q
  ·rintro rfl;rw[x.ext _ _ q]at k;contradiction
 old:=fun b h=>by rw[FH.dh (by rintro rfl;exact h i)];exact x.old b h
 sub:=fun b d q=>by
  by_cases h:b=v
  ·subst h;rw[FH.aR]at q;cases q;exact⟨g.ne_of_cls e j,e⟩
  ·rw[FH.dh h]at q;exact x.sub b d q
 tk:=x.tk
theorem Gl.push(g:Gl c U)(o:Obj):Gl c (U.push o):=
 g.go (fun J J J e=>Heap.get?_push_of_some _ e) (.inl (by refine ah g.cH fun b h=>?_;rw[h];exact Heap.get?_push_of_some _ h))
theorem Go.cj(x:Go c f s G t)(h:t.heap.objs.size≤v):G v=none:=by
 rcases e:G v with _|o
 ·rfl
 ·exact absurd (x.lt e) (Nat.not_lt.mpr h)
theorem Go.fresh(x:Go c f s G t)(h:t.heap.objs.size≤v):s.heap.get? v=none:=by
 rcases e:s.heap.get? v with _|o
 ·rfl
 ·
  have:=x.has (a:=v) (by rw[e];simp);rcases b:t.heap.get? v with _|d
  ·exact absurd b this
  ·exact absurd (Heap.lt_size b) (Nat.not_lt.mpr h)
theorem Go.fD{o:Obj}(x:Go c f s G t)(g:Gl c t.heap)(b:o.isFreed=false)(h:o.cls≠ .none):
  Go c f s (G.add t.heap.objs.size o) {t with heap:=t.heap.push o}:=
 (x.push (o:=o) g).freeze (g.push o) (x.fresh (Nat.le_refl _)) (x.cj (Nat.le_refl _)) (Heap.get?_push_size _ b) h
theorem Go.fT(x:Go c f s G t):∀b h,G b=some h→G.add t.heap.objs.size d1 b=some h:=FH.fm (x.cj (Nat.le_refl _))
theorem Go.turn(x:Go c f s G t)(j:s.heap.get? v=none)(k:G v=none)(i:v≠c.P)(d:Heap.SameBut v t.heap U)(m:t.toks≤n:=by repeat constructor):
  Go c f s G {t with heap:=U,toks:=n} where
 keep:=fun b o h e=>(d.2 b (by rintro rfl;rw[j]at e;contradiction)).trans (x.keep b o h e)
 tab:=x.tab.trans (.inl (d.2 _ (Ne.symm i)))
 aD:=x.aD
 gens:=x.gens
 bare:=x.bare
 os:=x.os
 ext:=x.ext
 old:=x.old
 sub:=fun b o e=>⟨(x.sub b o e).1,(d.2 b (by rintro rfl;rw[k]at e;contradiction)).trans (x.sub b o e).2⟩
 tk:=Nat.le_trans x.tk m
structure GoX(c:Cx)(X:Addr→Prop)(Y:Nat→Prop)(f:FH)(s:Shared)(f':FH)(s':Shared):Prop where
 keep:∀a o,¬X a→a≠c.P→s.heap.get? a=some o→s'.heap.get? a=some o
 tab:fa c s.heap s'.heap
 aD:s.gens.size≤s'.gens.size
 gens:∀i,i<s.gens.size→¬Y i→s'.gens[i]? =s.gens[i]?
 bare:∀i x,(s.gens.size≤i∨Y i)→s'.gens[i]? =some x→x.bare=true
 os:s'.os=s.os
 ext:∀a o,f a=some o→f' a=some o
 old:∀a,s.heap.get? a≠none→f' a=f a
 sub:∀a o,f' a=some o→a≠c.P∧s'.heap.get? a=some o
 tk:s.toks≤s'.toks
theorem Go.toX{X:Addr→Prop}(x:Go c f s G t):GoX c X (fun J=>False) f s G t:=
 ⟨fun a o J=>x.keep a o,x.tab,x.aD,fun i h J=>x.gens i h,fun i z h=>x.bare i z (h.resolve_right id),x.os,x.ext,x.old,x.sub,x.tk⟩
theorem GoX.mono{X:Addr→Prop}(x:GoX c X g0 f s G t)(h:∀a,X a→g7 a):GoX c g7 g0 f s G t:=
 ⟨fun a o b=>x.keep a o fun q=>b (h a q),x.tab,x.aD,x.gens,x.bare,x.os,x.ext,x.old,x.sub,x.tk⟩
theorem Go.lT{X:Addr→Prop}(x:Go c f s G t)(y:GoX c X g0 G t a2 c5)(d:∀a,X a→s.heap.get? a=none)(j:∀i,g0 i→s.gens.size≤i):Go c f s a2 c5 where
 keep:=fun a o h e=>y.keep a o (fun q=>by rw[d a q]at e;contradiction) h (x.keep a o h e)
 tab:=x.tab.trans y.tab
 aD:=Nat.le_trans x.aD y.aD
 gens:=fun i h=>(y.gens i (Nat.lt_of_lt_of_le h x.aD) fun q=>absurd h (Nat.not_lt.mpr (j i q))).trans (x.gens i h)
 bare:=fun i z h e=>by
  by_cases q:i<t.gens.size
  ·by_cases b:g0 i
   ·exact y.bare i z (.inr b) e
   ·rw[y.gens i q b]at e;exact x.bare i z h e
  ·exact y.bare i z (.inl (Nat.not_lt.mp q)) e
 os:=y.os.trans x.os
 ext:=fun a o e=>y.ext a o (x.ext a o e)
 old:=fun a h=>(y.old a (x.has h)).trans (x.old a h)
 sub:=y.sub
 tk:=Nat.le_trans x.tk y.tk
structure dY(c:Cx)(Z:Addr→Prop)(f:FH)(s:Shared)(f':FH)(s':Shared):Prop extends GoX c Z (fun J=>False) f s f' s' where
 has:∀a,s.heap.get? a≠none→s'.heap.get? a≠none
theorem Go.toZ{Z:Addr→Prop}(x:Go c f s G t):dY c Z f s G t:=⟨x.toX,fun a h=>x.has h⟩
theorem dY.refl{Z:Addr→Prop}(h:Sub c f s.heap):dY c Z f s f s:=(Go.refl h).toZ
theorem dY.step{Z X:Addr→Prop}(x:dY c Z f s G t)(y:GoX c X g0 G t a2 c5)(j:∀a,X a→s.heap.get? a=none)(m:∀i,g0 i→s.gens.size≤i):dY c Z f s a2 c5:=by
 have n:∀a,s.heap.get? a≠none→c5.heap.get? a≠none:=fun a h=>by
  have d:=x.has a h;rcases e:t.heap.get? a with _|o
  ·exact absurd e d
  ·
   by_cases b:a=c.P
   ·subst b;exact y.tab.has d
   ·rw[y.keep a o (fun q=>h (j a q)) b e];simp
 refine⟨⟨fun a o p b e=>y.keep a o (fun q=>by rw[j a q]at e;contradiction) b (x.keep a o p b e),x.tab.trans y.tab,Nat.le_trans x.aD y.aD,fun i h J=>?_,fun i z h e=>?_,y.os.trans x.os,fun a o e=>y.ext a o (x.ext a o e),fun a h=>(y.old a (x.has a h)).trans (x.old a h),y.sub,Nat.le_trans x.tk y.tk⟩,n⟩
 ·exact(y.gens i (Nat.lt_of_lt_of_le h x.aD) fun q=>absurd h (Nat.not_lt.mpr (m i q))).trans (x.gens i h id)
 ·by_cases q:i<t.gens.size
  ·by_cases k:g0 i
   ·exact y.bare i z (.inr k) e
   ·rw[y.gens i q k]at e;exact x.bare i z h e
  ·exact y.bare i z (.inl (Nat.not_lt.mp q)) e
theorem dY.trans{Z:Addr→Prop}(x:dY c Z f s G t)(y:dY c Z G t a2 c5):dY c Z f s a2 c5:=by
 refine⟨⟨fun a o d b e=>y.keep a o d b (x.keep a o d b e),x.tab.trans y.tab,Nat.le_trans x.aD y.aD,fun i h J=>?_,fun i z h e=>?_,y.os.trans x.os,fun a o e=>y.ext a o (x.ext a o e),fun a h=>(y.old a (x.has a h)).trans (x.old a h),y.sub,Nat.le_trans x.tk y.tk⟩,fun a h=>y.has a (x.has a h)⟩
 ·exact(y.gens i (Nat.lt_of_lt_of_le h x.aD) id).trans (x.gens i h id)
 ·by_cases q:i<t.gens.size
  ·rw[y.gens i q id]at e;exact x.bare i z h e
  ·exact y.bare i z (.inl (Nat.not_lt.mp q)) e
theorem Go.r4{Z:Addr→Prop}(x:Go c f s G t)(y:dY c Z G t a2 c5)(b:∀a,Z a→s.heap.get? a=none):Go c f s a2 c5:=x.lT y.toGoX b fun J h=>h.elim
theorem dY.mono{Z:Addr→Prop}(x:dY c Z f s G t)(h:∀a,Z a→g7 a):dY c g7 f s G t:=⟨x.toGoX.mono h,x.has⟩
theorem pM.mono{P:List Value→Prop}(d:∀a o,f a=some o→G a=some o)(b:∀l,P l→j9 l)(h:pM f P C):pM G j9 C:=
 h.casesOn fun a o n i e q r t u=>⟨a,o,n,i,e,d _ _ q,r,t,b _ u⟩
theorem lF.mono{P:List Value→Prop}(d:∀a o,f a=some o→G a=some o)(b:∀l,P l→j9 l)(h:lF f P C):lF G j9 C:=
 h.casesOn fun a i n e q u=>⟨a,i,n,e,d _ _ q,b _ u⟩
theorem lG.mono{d:PySem.KeyKind a7 b4 Str}{P b:List (Str×Value)→Prop}(m:∀a o,f a=some o→G a=some o)(k:∀l,P l→b l)(h:lG d f P C):lG d G b C:=
 h.casesOn fun a o j i n e q p r s t v u b4=>⟨a,o,j,i,n,e,m _ _ q,p,r,s,t,v,k _ u,b4⟩
theorem pN.mono(b:∀a o,f a=some o→G a=some o)(h:pN f e6 f9 h6 C):pN G e6 f9 h6 C:=
 h.casesOn fun a k n m e q d i j=>⟨a,k,n,m,e,b _ _ q,d,i,j⟩
theorem D.ind{P:D→Prop}(j:P .none)(k:∀b,P (.bool b))(o:∀i,P (.int i))(q:∀x,P (.str x))(r:∀x,P (.bytes x))(s:∀l,(∀d∈l,P d)→P (.tup l))(t:∀l,(∀d∈l,P d)→P (.list l))(u:∀l:List (Str×D),(∀p∈l,P p.2)→P (.dict l))(v:∀a b e,P (.pv a b e))(w:∀l,(∀d∈l,P d)→P (.ao l))(m:∀l:List (Str×D),(∀p∈l,P p.2)→P (.bW l))(n:∀T,P (.ty T))(d:D):P d:=
 @D.rec P (fun l=>∀d∈l,P d) (fun l=>∀p∈l,P p.2) (fun p=>P p.2) j k o q r s t u v w m n (fun J h=>nomatch h) (fun J J a b=>List.forall_mem_cons.mpr ⟨a,b⟩) (fun J h=>nomatch h) (fun J J a b=>List.forall_mem_cons.mpr ⟨a,b⟩) (fun J J h=>h) d
mutual
noncomputable def Clean:D→Prop
 | .tup l=>aS l
 | .list l=>aS l
 | .dict l=>dQ l
 | .ao _=>False
 | .bW _=>False
 |_=>True
noncomputable def aS:List D→Prop
 | []=>True
 |d::r=>Clean d∧aS r
noncomputable def dQ:List (Str×D)→Prop
 | []=>True
 |p::r=>Clean p.2∧dQ r
end
theorem bI:aS l↔∀d∈l,Clean d:=by
 induction l with
 |nil=>exact⟨fun J J h=>(nomatch h),fun J=>trivial⟩
 |cons d r b=>exact(and_congr_right fun J=>b).trans List.forall_mem_cons.symm
theorem oP:dQ u↔∀p∈u,Clean p.2:=by
 induction u with
 |nil=>exact⟨fun J J h=>(nomatch h),fun J=>trivial⟩
 |cons d r b=>exact(and_congr_right fun J=>b).trans (List.forall_mem_cons (p:=fun p:Str×D=>Clean p.2)).symm
noncomputable def Cx.wo(c:Cx)(u:FH):Cx:={c with own:=u}
theorem Vals.map:∀{l:List D},(∀d∈l,∀v,Val c f d v→Val n1 G (m6 d) v)→∀i,Vals c f l i→Vals n1 G (l.map m6) i:=fun{l}=>by
 induction l with
 |nil=>exact fun J J h=>h
 |cons d r k=>exact fun h i⟨v,w,e,a,b⟩=>⟨v,w,e,h d List.mem_cons_self v a,k (fun d j=>h d (List.mem_cons_of_mem _ j)) w b⟩
theorem bo.map:∀{l:List (Str×D)},(∀p∈l,∀v,Val c f p.2 v→Val n1 G (m6 p.2) v)→∀i,bo c f l i→bo n1 G (l.map fun p=>(p.1,m6 p.2)) i:=fun{l}=>by
 induction l with
 |nil=>exact fun J J h=>h
 |cons d r k=>exact fun h i⟨v,w,e,a,b⟩=>⟨v,w,e,h d List.mem_cons_self v a,k (fun d j=>h d (List.mem_cons_of_mem _ j)) w b⟩
theorem Val.gen(j:∀a o,a2 a=some o→h1 a=some o)(d:D):(Clean d∨∀a o,f a=some o→G a=some o)→∀v,Val (c.wo f) a2 d v→Val (c.wo G) h1 d v:=by
 have k:∀l:List D,(∀d∈l,(Clean d∨∀a o,f a=some o→G a=some o)→∀v,Val (c.wo f) a2 d v→Val (c.wo G) h1 d v)→(aS l∨∀a o,f a=some o→G a=some o)→∀e,Vals (c.wo f) a2 l e→Vals (c.wo G) h1 l e:=fun l b q e h=>by
  have:=Vals.map (m6:=id) (fun d i=>b d i (q.imp_left fun h=>bI.mp h d i)) e h
  rwa [List.map_id]at this
 have m:∀l:List (Str×D),(∀p∈l,(Clean p.2∨∀a o,f a=some o→G a=some o)→∀v,Val (c.wo f) a2 p.2 v→Val (c.wo G) h1 p.2 v)→(dQ l∨∀a o,f a=some o→G a=some o)→∀e,bo (c.wo f) a2 l e→bo (c.wo G) h1 l e:=fun l b q e h=>by
  have:=bo.map (m6:=id) (fun d i=>b d i (q.imp_left fun h=>oP.mp h d i)) e h
  rwa [show(l.map fun p=>(p.1,id p.2))=l from List.map_id l]at this
 exact D.ind (fun J J h=>h) (fun J J J h=>h) (fun J J J h=>h) (fun J J J h=>h) (fun J J J h=>h) (fun l b q J=>pM.mono j (k l b q)) (fun l b q J=>lF.mono j (k l b q)) (fun l b q J=>lG.mono j (m l b q)) (fun J J J J J=>pN.mono j)
  (fun l b q J=>lF.mono (q.elim False.elim id) (k l b (.inr (q.elim False.elim id)))) (fun l b q J=>lG.mono (q.elim False.elim id) (m l b (.inr (q.elim False.elim id)))) (fun J J J h=>h) d
theorem Val.mono(b:∀a o,f a=some o→G a=some o)(h:Val c f j C):Val c G j C:=Val.gen (c:=c) (f:=c.own) (G:=c.own) b j (.inr fun J J h=>h) C h
theorem Vals.mono(b:∀a o,f a=some o→G a=some o)(h:Vals c f l Z):Vals c G l Z:=List.map_id l▸Vals.map (m6:=id) (fun l J Z h=>Val.mono b h) Z h
theorem bo.mono(b:∀a o,f a=some o→G a=some o)(h:bo c f u e4):bo c G u e4:=List.map_id u▸bo.map (m6:=id) (fun u J e4 h=>Val.mono b h) e4 h
structure bJ(k:Nat)(A:Around):Prop where
 handled:A.handled=none
 depth:A.depth+20*k≤900
 units:A.units+60*k≤9000
theorem bJ.le(r:bJ n A)(h:k≤n):bJ k A:=⟨r.handled,by have:=r.depth;lia,by have:=r.units;lia⟩
theorem bJ.lim(r:bJ n A):A.depth<recursionLimit:=by have:=r.depth;refine(?_ :A.depth<1000);lia
theorem bJ.deeper(r:bJ (n+1) A):bJ n (A.deeper q):=⟨r.handled,by have:=r.depth;refine(?_ :A.depth+1+_≤_);lia,by have:=r.units;refine(?_ :A.units+3+_≤_);lia⟩
noncomputable abbrev bD:=List (Str×Option D)
noncomputable def Reads(h:Heap)(env:Env)(x:Str)(v:Value):Prop:=
 (env.kindOf x=some .local∧∃m,h.Ns env.locals m∧m x=some v)∨
 ((env.kindOf x=some .cell∨env.kindOf x=some .free)∧∃a,env.cells.lookup x=some a∧h.IsCell a (some v))
noncomputable def codeOf(h:Scope):Option Addr:=if h.names.lookup ("new_callers" :Str)=some NameKind.local then some 51 else none
structure bE(env:Env)(sc:Scope):Prop where
 scope:env.scope=sc
 kind:sc.kind= .function
 globals:env.globals=mainGlobals
 builtins:env.builtins=builtinsNs
 inj:∀n n' a,env.cells.lookup n=some a→env.cells.lookup n'=some a→n=n'
 full:∀n,sc.names.lookup n=some .cell∨sc.names.lookup n=some .free→∃a,env.cells.lookup n=some a
 code:∀a,codeOf sc=some a→env.code= .ref a
structure St(c:Cx)(f:FH)(ρ:bD)(env:Env)(s:Shared):Prop where
 gl:Gl c s.heap
 sub:Sub c f s.heap
 names:∀x d,(x,some d)∈ρ→∃v,Reads s.heap env x v∧Val c f d v
 cells:∀n a,env.cells.lookup n=some a→∃v,s.heap.IsCell a v
 here:∃m,s.heap.Ns env.locals m
 apart:c.own env.locals=none∧∀n a,env.cells.lookup n=some a→c.own a=none
 tk:0<s.toks
noncomputable def Ev(c:Cx)(k:Nat)(i:Scope)(j:bD)(e:Expr)(d:D):Prop:=
 ∀(A:Around)(env:Env)(f:FH)(s:Shared)(Q:Value→Shared→Prop)(E:Value→Shared→Prop),bJ k A→bE env i→St c f j env s→
  (∀v b h,Go c f s h b→Val c h d v→Q v b)→wpAny (model c.prog c.w) A (eval e env) Q E s
noncomputable def ag(c:Cx)(k:Nat)(m:Scope)(n:bD)(i:List Expr)(e:List D):Prop:=
 ∀(A:Around)(env:Env)(f:FH)(s:Shared)(j:Pos)(Q:List Value→Shared→Prop)(E:Value→Shared→Prop),bJ k A→bE env m→St c f n env s→
  (∀d b h,Go c f s h b→Vals c h e d→Q d b)→wpAny (model c.prog c.w) A (spliced (backTo j (starEach i env))) Q E s
noncomputable def br(c:Cx)(k:Nat)(i:Scope)(j:bD)(e:Expr)(b:Bool):Prop:=
 ∀(A:Around)(env:Env)(f:FH)(s:Shared)(Q:Bool→Shared→Prop)(E:Value→Shared→Prop),bJ k A→bE env i→St c f j env s→
  (∀h d,Go c f s d h→Q b h)→wpAny (model c.prog c.w) A (isTrue e env (eval e env)) Q E s
theorem IsCell.go(g:Gl c U)(x:U.IsCell v i8)(b:∀v o,v≠c.P→U.get? v=some o→f5.get? v=some o):f5.IsCell v i8:=
 au x fun o e h=>⟨o,b _ _ (g.dP e fun d q=>by rw[q]at h;contradiction) e,h⟩
theorem Reads.go(g:Gl c U)(r:Reads U q x C)(h:∀a o,a≠c.P→U.get? a=some o→f5.get? a=some o):Reads f5 q x C:=by
 refine ay r (fun d=>?_) fun i=>?_
 ·obtain⟨a,m,n,e⟩:=d;exact .inl ⟨a,m,Ns.go g n h,e⟩
 ·obtain⟨a,b,e,n⟩:=i;exact .inr ⟨a,b,e,IsCell.go g n h⟩
variable{r a6 l2:bD}
theorem St.go(x:St c f r q s)(g:Go c f s G t):St c G r q t where
 gl:=g.gl x.gl
 sub:=g.sub
 names:=fun n d b=>au (x.names n d b) fun v a1 e=>⟨v,a1.go x.gl g.keep,e.mono g.ext⟩
 cells:=fun n a h=>ah (x.cells n a h) fun v a0=>⟨v,IsCell.go x.gl a0 g.keep⟩
 here:=ah x.here fun m n=>⟨m,Ns.go x.gl n g.keep⟩
 apart:=x.apart
 tk:=Nat.lt_of_lt_of_le x.tk g.tk
theorem St.refl(x:St c f r q s):Go c f s f s:= .refl x.sub
theorem Ev.int:Ev c n e r (.Constant (.int I) k O) (.int I):=fun A b f s Q E a0 o x h=>
 wpAny_Constant_int (h _ _ f x.refl.toks ⟨_,rfl⟩)
theorem Ev.aN:Ev c n e r (.Constant (.str x) k O) (.str x):=fun A b f s Q E a1 o a0 h=>
 show wpAny _ A (mkText x) Q E s from wpAny_mkText (h _ _ f a0.refl.toks ⟨_,rfl⟩)
theorem Ev.Bi:Ev c n e r (.Constant (.bytes k6) k O) (.bytes k6.toArray):=fun A b f s Q E a0 o x h=>
 show wpAny _ A (mkTextBytes k6.toArray) Q E s from wpAny_mkTextBytes (h _ _ f x.refl.toks ⟨_,rfl⟩)
theorem Ev.lU:Ev c n e r (.Constant (.bool Q) k O) (.bool Q):=fun A b f s a0 E a1 o x h=>
 show wpAny _ A (pure (.bool Q)) a0 E s from wpAny_pure (h _ _ f x.refl rfl)
theorem Ev.iy:Ev c n e r (.Constant .none k O) .none:=fun A b f s Q E a0 o x h=>
 show wpAny _ A (pure .none) Q E s from wpAny_pure (h _ _ f x.refl rfl)
theorem Ev.name(u:(x,some j)∈r)(z:(x==("__debug__" :Str))=false:=by decide+kernel)(t:(x==("__classdict__" :Str))=false:=by decide+kernel):Ev c n e r (.Name x O) j:=fun A q f s Q E a2 o y h=>by
 refine au (y.names x j u) fun v w i=>?_;have d:q.scope.kind= .function:=by rw[o.scope];exact o.kind
 refine wpAny_Name ?_ z;refine ay w (fun k=>?_) fun p=>?_
 ·obtain⟨a,m,a1,a0⟩:=k;exact wpAny_loadName_local d a a1 a0 (h _ _ f y.refl i)
 ·obtain⟨a,b,a0,a1⟩:=p;refine ay a (fun a=>?_) fun a=>?_
  ·exact wpAny_loadName_cell d a a0 a1 (h _ _ f y.refl i)
  ·exact wpAny_loadName_free d a a0 a1 (h _ _ f y.refl i) t
theorem ag.nil:ag c n e r [] []:=fun A b f s d Q E a0 o x h=>wpAny_pure (h _ _ f x.refl rfl)
theorem ag.cons(q:Ev c n e r o j)(t:ag c n e r B l)(u:∀b,starEach (o::B) b=(false,eval o b)::starEach B b:=by intro J;rfl):ag c n e r (o::B) (j::l):=fun A b f s d Q E a1 a0 x h=>by
 rw[u _];refine(?_ :wpAny _ A (spliced ((false,eval o b)::backTo d (starEach B b))) Q E s);refine(?_ :wpAny _ A (do
  let v←eval o b
  let k←pure [v]
  return k++(←holding k (spliced (backTo d (starEach B b))))) Q E s)
 refine wpAny_bind (q A b f s _ E a1 a0 x fun v z m g w=>wpAny_bind (wpAny_pure (wpAny_bind (wpAny_holding (t A b m z d _ E a1 a0 (x.go g) fun a C p i y=>wpAny_pure ?_)))));exact h _ _ p (g.trans i) ⟨v,a,rfl,w.mono i.ext,y⟩
theorem Vals.length:∀{b:List D}{d:List Value},Vals c f b d→d.length=b.length:=by
 intro L
 induction L with
 |nil=>
  intro J h;have i:_=[]:=h;rw[i];rfl
 |cons J J j=>
  intro J h;exact let⟨_,_,e,_,r⟩:=h;by rw[e];simp[j r]
theorem Ev.tuple(h:ag c n e r B l)(j:l.length≤1000000:=by exact Nat.le_of_ble_eq_true rfl):Ev c n e r (.Tuple B k O) (.tup l):=fun A d f s Q E a0 o x i=>
 Tuple_ (h A d f s O _ E a0 o x fun m q p g b=>wpAny_newTuple (i _ _ _ (g.fD (g.gl x.gl) rfl (by nofun))
  ⟨_,_,0,m.toArray,rfl,FH.aR ..,rfl,rfl,b.mono g.fT⟩) (by rw[b.length];exact Nat.le_trans j (by decide)))
noncomputable def nL(c:Cx)(m:Value→Value→Sem Value)(j k d:D):Prop:=
 ∀(A:Around)(f:FH)(s:Shared)(e i:Value)(Q:Value→Shared→Prop)(E:Value→Shared→Prop),bJ 1 A→Gl c s.heap→Sub c f s.heap→Val c f j e→Val c f k i→
  (∀v b h,Go c f s h b→Val c h d v→Q v b)→wpAny (model c.prog c.w) A (m e i) Q E s
noncomputable abbrev aJ(c:Cx)(e:Operator)(h b d:D):Prop:=nL c (binaryOp e) h b d
noncomputable abbrev aB(c:Cx)(e:CmpOp)(h d:D)(b:Bool):Prop:=nL c (compareOp e) h d (.bool b)
noncomputable def az(c:Cx)(h b d:D):Prop:=∀i e:Expr,nL c (subscriptTail i e) h b d
noncomputable def iz(c:Cx)(j:UnaryOp)(i d:D):Prop:=
 ∀(A:Around)(f:FH)(s:Shared)(e:Value)(Q:Value→Shared→Prop)(E:Value→Shared→Prop),bJ 1 A→Gl c s.heap→Sub c f s.heap→Val c f i e→
  (∀v b h,Go c f s h b→Val c h d v→Q v b)→wpAny (model c.prog c.w) A (unaryOp j e) Q E s
noncomputable def jY(c:Cx)(e:D)(b:Bool):Prop:=
 ∀(A:Around)(f:FH)(s:Shared)(d:Value)(Q:Bool→Shared→Prop)(E:Value→Shared→Prop),bJ 1 A→Gl c s.heap→Sub c f s.heap→Val c f e d→
  (∀h i,Go c f s i h→Q b h)→wpAny (model c.prog c.w) A (truthy d) Q E s
theorem Sub.refl(h:Sub c f s.heap):Go c f s f s:=Go.refl h
theorem Sub.tok(h:Sub c f s.heap)(b:s.toks≤n:=by repeat constructor):Go c f s f {s with toks:=n}:=(Go.refl h).toks b
theorem Ev.list(h:ag c n e r B l)(j:l.length≤1000000:=by exact Nat.le_of_ble_eq_true rfl):Ev c n e r (.List B O) (.list l):=fun A d f s Q E a0 o x i=>
 List_ (h A d f s O _ E a0 o x fun k p m g b=>wpAny_newList (i _ _ _ (g.fD (g.gl x.gl) rfl (by nofun))
  ⟨_,k.toArray,0,rfl,FH.aR ..,b.mono g.fT⟩) (by rw[b.length];exact Nat.le_trans j (by decide)))
theorem Ev.bin(z:Ev c (n+1) e r o j)(a:Ev c (n+1) e r b0 a5)(h:aJ c i4 j a5 i7):Ev c (n+1) e r (.BinOp o i4 b0 O) i7:=
 fun A k f s Q E i a0 x g=>wpAny_BinOp (z A k f s _ E i a0 x fun F l t d m=>a A k t l _ E i a0 (x.go d) fun G B u b p=>
  h A u B F G Q E (i.le (by(simp+arith))) ((x.go d).go b).gl b.sub (m.mono b.ext) p fun v C w y q=>g v C w ((d.trans b).trans y) q)
theorem Ev.cmp(z:Ev c (n+1) e r o j)(a:Ev c (n+1) e r b0 a5)(h:aB c k8 j a5 Q)(l:behindInMarks k8 b0=false:=by with_unfolding_all rfl):Ev c (n+1) e r (.Compare o [k8] [b0] O) (.bool Q):=
 fun A k f s a1 E i a0 x g=>wpAny_Compare1 (z A k f s _ E i a0 x fun G B t d m=>a A k t B _ E i a0 (x.go d) fun H C u b p=>
  h A u C G H a1 E (i.le (by(simp+arith))) ((x.go d).go b).gl b.sub (m.mono b.ext) p fun v F w y q=>g v F w ((d.trans b).trans y) q) l
theorem br.cmp(z:Ev c (n+1) e r o j)(a:Ev c (n+1) e r b0 a5)(h:aB c k8 j a5 Q)(l:behindInMarks k8 b0=false:=by with_unfolding_all rfl):br c (n+1) e r (.Compare o [k8] [b0] O) Q:=
 fun A k f s a1 E i a0 x g=>wpAny_isTrue_Compare1 (z A k f s _ E i a0 x fun G B t d m=>a A k t B _ E i a0 (x.go d) fun H C u b p=>
  h A u C G H _ E (i.le (by(simp+arith))) ((x.go d).go b).gl b.sub (m.mono b.ext) p fun v F w y q=>by
   obtain rfl:v= .bool Q:=q;exact wpAny_truthy_bool (g F w ((d.trans b).trans y))) l
theorem br.val(u:Ev c (n+1) e r o j)(h:jY c j Q)(y:∀b k,isTrue o b k=(do let v←k;standAt o.pos;holding [v] (truthy v)):=by intro J J;rfl):br c (n+1) e r o Q:=
 fun A b f s a0 E i a1 x w=>wpAny_isTrue_value (u A b f s _ E i a1 x fun g z p d m=>h A p z g a0 E (i.le (by(simp+arith))) (x.go d).gl d.sub m fun a q t=>w a q (d.trans t)) (y _ _)
theorem jY.bool:jY c (.bool Q) Q:=fun A f s v a0 E r g h e b=>by
 obtain rfl:v= .bool Q:=e;exact wpAny_truthy_bool (b s f h.refl)
theorem Ev.tq(p:br c n e r o true)(q:Ev c n e r b0 j):Ev c n e r (.IfExp o b0 j1 O) j:=
 fun A h f s Q E d a0 x t=>wpAny_IfExp (p A h f s _ E d a0 x fun u i b=>by
  rw[if_pos rfl];exact q A h i u Q E d a0 (x.go b) fun v w k m a1=>t v w k (b.trans m) a1)
theorem Ev.tu(p:br c n e r o false)(q:Ev c n e r j1 j):Ev c n e r (.IfExp o b0 j1 O) j:=
 fun A h f s Q E d a0 x t=>wpAny_IfExp (p A h f s _ E d a0 x fun u i b=>by
  rw[if_neg (by decide)];exact q A h i u Q E d a0 (x.go b) fun v w k m a1=>t v w k (b.trans m) a1)
theorem Ev.vd(h:br c n e r o Q)(b:Q=true→Ev c n e r b0 j)(d:Q=false→Ev c n e r j1 j):Ev c n e r (.IfExp o b0 j1 O) j:=by
 cases Q
 ·exact .tu h (d rfl)
 ·exact .tq h (b rfl)
theorem Ev.ite(h:br c n e r o Q)(b:Q=true→Ev c n e r b0 j)(d:Q=false→Ev c n e r j1 a5):Ev c n e r (.IfExp o b0 j1 O) (if Q then j else a5):=by
 cases Q
 ·exact .tu h (d rfl)
 ·exact .tq h (b rfl)
theorem Ev.sub(z:Ev c (n+1) e r o j)(a:Ev c (n+1) e r b0 a5)(h:az c j a5 i7):Ev c (n+1) e r (.Subscript o b0 O) i7:=
 fun A k f s Q E i a0 x g=>Subscript_ (z A k f s _ E i a0 x fun F l t d m=>a A k t l _ E i a0 (x.go d) fun G B u b p=>
  h o b0 A u B F G Q E (i.le (by(simp+arith))) ((x.go d).go b).gl b.sub (m.mono b.ext) p fun v C w y q=>g v C w ((d.trans b).trans y) q)
theorem Ev.un{d:UnaryOp}(w:Ev c (n+1) e r o j)(h:iz c d j a5):Ev c (n+1) e r (.UnaryOp d o O) a5:=
 fun A p f s Q E i a0 x y=>wpAny_UnaryOp (w A p f s _ E i a0 x fun g z q b k=>h A q z g Q E (i.le (by(simp+arith))) (x.go b).gl b.sub k fun v a t u m=>y v a t (b.trans u) m)
theorem iz.neg:iz c .USub (.int I) (.int (-I)):=fun A f s v Q E r g h e d=>by
 refine ah e fun t b=>?_;subst b;exact neg_int (d _ _ f h.tok ⟨_,rfl⟩)
theorem aJ.add:aJ c .Add (.int I) (.int e9) (.int (I+e9)):=fun A f s j k Q E r g h d e i=>by
 refine ah d fun t b=>?_;subst b;refine ah e fun u b=>?_;subst b;exact PyProof.Rows.add_int (i _ _ f h.tok ⟨_,rfl⟩)
theorem aJ.sub:aJ c .Sub (.int I) (.int e9) (.int (I-e9)):=fun A f s j k Q E r g h d e i=>by
 refine ah d fun t b=>?_;subst b;refine ah e fun u b=>?_;subst b;exact PyProof.Rows.sub_int (i _ _ f h.tok ⟨_,rfl⟩)
theorem aJ.mod(j:e9≠0):aJ c .Mod (.int I) (.int e9) (.int (I.fmod e9)):=fun A f s k m Q E r g h d e i=>by
 refine ah d fun t b=>?_;subst b;refine ah e fun u b=>?_;subst b;exact PyProof.Rows.mod_int j (i _ _ f h.tok ⟨_,rfl⟩)
theorem aJ.fdiv(j:e9≠0)(k:e9.natAbs<1073741824):aJ c .FloorDiv (.int I) (.int e9) (.int (I.fdiv e9)):=fun A f s m n Q E r g h d e i=>by
 refine ah d fun t b=>?_;subst b;refine ah e fun u b=>?_;subst b;exact PyProof.Rows.floordiv_int j (i _ _ f h.tok ⟨_,rfl⟩) (.inl (PyProof.noPylong_small k))
theorem aJ.mul(j:IntMulOk I e9):aJ c .Mult (.int I) (.int e9) (.int (I*e9)):=fun A f s k m Q E r g h d e i=>by
 refine ah d fun t b=>?_;subst b;refine ah e fun u b=>?_;subst b;exact PyProof.Rows.mul_int (i _ _ f h.tok ⟨_,rfl⟩) j
theorem aJ.pow(j:0≤e9)(k:(Builtin.Int.intBits I:Int)*e9≤2 ^ 27):aJ c .Pow (.int I) (.int e9) (.int (I ^ e9.toNat)):=fun A f s m n Q E r g h d e i=>by
 refine ah d fun t b=>?_;subst b;refine ah e fun u b=>?_;subst b;exact PyProof.Rows.pow_int j k (i _ _ f h.tok ⟨_,rfl⟩)
theorem aJ.cat(j:x.length+a9.length≤sizeLine):aJ c .Add (.str x) (.str a9) (.str (x++a9)):=fun A f s o p Q E r g h d e i=>by
 refine ah d fun t b=>?_;subst b;refine ah e fun u b=>?_;subst b;exact bM (PyProof.Rows.add_str (fun m n k=>i _ _ f (h.tok k) ⟨_,rfl⟩) j)
theorem aB.ra:aB c .Eq (.int I) (.int e9) (I==e9):=fun A f s j k Q E r g h d e i=>by
 refine ah d fun t b=>?_;subst b;refine ah e fun u b=>?_;subst b;exact PyProof.Rows.eq_int (i _ _ f h.refl rfl)
theorem aB.vf:aB c .NotEq (.int I) (.int e9) (I !=e9):=fun A f s j k Q E r g h d e i=>by
 refine ah d fun t b=>?_;subst b;refine ah e fun u b=>?_;subst b;exact PyProof.Rows.ne_int (i _ _ f h.refl rfl)
theorem aB.Bj:aB c .Lt (.int I) (.int e9) (decide (I<e9)):=fun A f s j k Q E r g h d e i=>by
 refine ah d fun t b=>?_;subst b;refine ah e fun u b=>?_;subst b;exact PyProof.Rows.lt_int (i _ _ f h.refl rfl)
theorem aB.CF:aB c .LtE (.int I) (.int e9) (decide (I≤e9)):=fun A f s j k Q E r g h d e i=>by
 refine ah d fun t b=>?_;subst b;refine ah e fun u b=>?_;subst b;exact PyProof.Rows.le_int (i _ _ f h.refl rfl)
theorem aB.eqs:aB c .Eq (.str x) (.str a9) (x==a9):=fun A f s j k Q E r g h d e i=>by
 refine ah d fun t b=>?_;subst b;refine ah e fun u b=>?_;subst b;exact PyProof.Rows.eq_str (i _ _ f h.refl rfl)
theorem aB.Dc:aB c .NotEq (.str x) (.str a9) (x !=a9):=fun A f s j k Q E r g h d e i=>by
 refine ah d fun t b=>?_;subst b;refine ah e fun u b=>?_;subst b;exact PyProof.Rows.ne_str (i _ _ f h.refl rfl)
theorem Vals.CG:Vals c f [] Z↔Z=[]:=Iff.rfl
theorem Vals.yd:Vals c f (j::l) (C::Z)↔Val c f j C∧Vals c f l Z:=
 ⟨fun⟨_,_,e,a,b⟩=>by cases e;exact⟨a,b⟩,fun h=>ai h fun a b=>⟨_,_,rfl,a,b⟩⟩
theorem Vals.append(h:Vals c f l Z)(e:Vals c f c7 l0):Vals c f (l++c7) (Z++l0):=by
 induction l generalizing Z with
 |nil=>obtain rfl:Z=[]:=h;exact e
 |cons d l i=>obtain⟨v,j,rfl,a,b⟩:=h;exact⟨v,j++l0,rfl,a,i b⟩
theorem Vals.get(h:Vals c f l Z){i:Nat}{d:D}(e:l[i]? =some d):∃v,Z[i]? =some v∧Val c f d v:=by
 induction l generalizing Z i with
 |nil=>simp at e
 |cons k l j=>
  obtain⟨v,m,rfl,a,b⟩:=h;rcases i with _|i
  ·simp at e;subst e;exact aF v rfl a
  ·simp at e⊢;exact j b e
theorem Vals.get_none(h:Vals c f l Z)(e:l[n]? =none):Z[n]? =none:=by
 rw[List.getElem?_eq_none_iff]at e⊢;rw[h.length];exact e
theorem Vals.zR(h:Vals c f l Z)(a0:List Nat):Vals c f (a0.filterMap (l[·]?)) (a0.filterMap (Z[·]?)):=by
 induction a0 with
 |nil=>rfl
 |cons i a0 b=>
  rcases e:l[i]? with _|d
  ·simp only[List.filterMap_cons,e,h.get_none e];exact b
  ·
   refine au (h.get e) fun v j k=>?_;simp only[List.filterMap_cons,e,j];exact⟨v,_,rfl,k,b⟩
theorem Vals.take(h:Vals c f l Z)(n:Nat):Vals c f (l.take n) (Z.take n):=by
 induction l generalizing Z n with
 |nil=>obtain rfl:Z=[]:=h;simp[Vals]
 |cons d l e=>obtain⟨v,i,rfl,a,b⟩:=h;cases n with
  |zero=>simp[Vals]
  |succ n=>exact⟨v,i.take n,rfl,a,e b n⟩
theorem Vals.drop(h:Vals c f l Z)(n:Nat):Vals c f (l.drop n) (Z.drop n):=by
 induction l generalizing Z n with
 |nil=>obtain rfl:Z=[]:=h;simp[Vals]
 |cons d l e=>obtain⟨v,i,rfl,a,b⟩:=h;cases n with
  |zero=>exact⟨v,i,rfl,a,b⟩
  |succ n=>exact e b n
noncomputable def D.bt:D→Option (List D)
 | .list l=>some l
 | .ao l=>some l
 |_=>Option.none
@[elab_as_elim] theorem jD{P:D→Prop}(b:P (.list l))(d:P (.ao l))(h:j.bt=some l):P j:=by
 rcases j with _|_<;>first|exact Option.some.inj h▸b|exact Option.some.inj h▸d|contradiction
theorem Val.isList(h:Val c f j C)(i:j.bt=some l)(g:Gl c s.heap)(d:Sub c f s.heap):∃a b n,C= .ref a∧s.heap.get? a=some {cls:= .type "list",data:= .seq b n}∧s.heap.IsList a b∧Vals c f l b.toList∧(f a≠none∨c.own a≠none):=by
 revert h;refine jD ?_ ?_ i<;>intro h
 ·obtain⟨a,b,n,e,q,r⟩:=h;exact r3 a b n e ((d _ _ q).2) (⟨_,(d _ _ q).2,rfl,n,rfl⟩) r (.inl (by rw[q];nofun))
 ·obtain⟨a,b,n,e,q,r⟩:=h;exact r3 a b n e ((g.own _ _ q).2) (⟨_,(g.own _ _ q).2,rfl,n,rfl⟩) r (.inr (by rw[q];nofun))
theorem Val.isTup(h:Val c f (.tup l) C)(d:Sub c f s.heap):∃a b,C= .ref a∧IsTup s.heap a b∧Vals c f l b.toList:=
 let⟨a,o,n,b,e,q,i,j,r⟩:=h;⟨a,b,e,⟨o,(d _ _ q).2,i,n,j⟩,r⟩
theorem tv(h:Expr)(o i:Value):∃b,subscripted h false o i=operate b (getItem o i):=by
 rcases h with _|_<;>first|exact⟨_,rfl⟩|(rename_i d _;rcases d with _|_<;>exact⟨_,rfl⟩)
theorem az.of{id:String}(o:∀(s:Shared)(f:FH)(v:Value),Gl c s.heap→Sub c f s.heap→Val c f j v→s.TypeIs v i9)(p:typeLookup (.type i9) "__getitem__" =pure (some (.builtin id)))(h:nL c getItem j a5 i7):az c j a5 i7:=
 fun u q A f s b k Q E r g i d m n=>by
  refine ah (tv q b k) fun t e=>?_;exact tail_any (o s f b g i d) p (h A f s b k Q E r g i d m n) e
theorem jE(d:j.bt=some l):∀(s:Shared)(f:FH)(v:Value),Gl c s.heap→Sub c f s.heap→Val c f j v→s.TypeIs v "list" :=fun s f v g i h=>by
 refine zL (h.isList d g i) fun a k n b J e J=>?_;subst b;exact e.typeIs
theorem nM:∀(s:Shared)(f:FH)(v:Value),Gl c s.heap→Sub c f s.heap→Val c f (.tup l) v→s.TypeIs v "tuple" :=fun s f v g e h=>by
 refine dp (h.isTup e) fun a i b d J=>?_;subst b;exact d.typeIs
theorem rp:∀(s:Shared)(f:FH)(v:Value),Gl c s.heap→Sub c f s.heap→Val c f (.str x) v→s.TypeIs v "str" :=fun s f v g d h=>by
 refine ah h fun t b=>?_;subst b;exact typeIs_str ..
theorem gY.list(q:j.bt=some l)(m:0≤I)(x:I<1000000000)(e:l[I.toNat]? =some a5):nL c getItem j (.int I) a5:=fun A f s y z Q E r g b d i o=>by
 refine bR (d.isList q g b) fun a B n h J u w J=>?_;subst h;refine ah i fun t h=>?_;subst h;refine au (w.get e) fun v k p=>?_;exact wpAny_getItem_list u m (by lia) (by simpa using k) (o _ _ f b.refl p)
theorem gY.kH(x:j.bt=some l)(p:I<0)(q: -(l.length:Int)≤I)(B: -1000000000≤I)(e:l[(I+l.length).toNat]? =some a5):nL c getItem j (.int I) a5:=fun A f s C F Q E r g b k m u=>by
 refine bR (k.isList x g b) fun a z n h J y d J=>?_;subst h;refine ah m fun t h=>?_;subst h;refine au (d.get e) fun v o w=>?_;have i:z.size=l.length:=by rw[←d.length];simp
 exact wpAny_getItem_list_neg y p (by rw[i];exact q) (by lia) (by rw[i];simpa using o) (u _ _ f b.refl w)
theorem gY.tup(y: -1000000000≤I)(z:I<1000000000)(q:seqIndex? I l.length=some n)(e:l[n]? =some j):nL c getItem (.tup l) (.int I) j:=fun A f s B C Q E r g b i k o=>by
 refine dp (i.isTup b) fun a x h u d=>?_;subst h;refine ah k fun t h=>?_;subst h;refine au (d.get e) fun v m p=>?_;have w:x.size=l.length:=by rw[←d.length];simp
 exact PyProof.Rows.getItem_tuple u (by lia) (by lia) (by rw[w];exact q) (by simpa using m) (o _ _ f b.refl p)
theorem az.list(h:j.bt=some l)(b:0≤I)(d:I<1000000000)(e:l[I.toNat]? =some a5):az c j (.int I) a5:= .of (jE h) slot_list_getitem.lookup (gY.list h b d e)
theorem az.kH(h:j.bt=some l)(b:I<0)(d: -(l.length:Int)≤I)(i: -1000000000≤I)(e:l[(I+l.length).toNat]? =some a5):az c j (.int I) a5:= .of (jE h) slot_list_getitem.lookup (gY.kH h b d i e)
theorem az.tup(h: -1000000000≤I)(b:I<1000000000)(d:seqIndex? I l.length=some n)(e:l[n]? =some j):az c (.tup l) (.int I) j:= .of nM slot_tuple_getitem.lookup (gY.tup h b d e)
inductive Part(c:Cx)(k:Nat)(sc:Scope)(ρ:bD):Option Expr→Option Int→Prop
 |none:Part c k sc ρ none none
 |some {e:Expr} {i:Int}:Ev c k sc ρ e (.int i)→Part c k sc ρ (some e) (some i)
theorem Part.ev(p:Part c n e r k7 e6)(A:Around)(b:Env)(f:FH)(s:Shared)(Q E:Value→Shared→Prop)(a0:bJ n A)(o:bE b e)(x:St c f r b s)(j:∀v i d,Go c f s d i→IsPart v e6→Q v i):wpAny (model c.prog c.w) A (evalPart k7 b) Q E s:=by
 rcases p with _|h
 ·exact wpAny_pure (j _ _ f x.refl .none)
 ·exact h A b f s Q E a0 o x fun v i d g k7=>by refine ah k7 fun t k=>?_;subst k;exact j _ _ d g (.int ..)
theorem Ev.slice{i j:Option Expr}(v:Part c n e r k7 e6)(w:Part c n e r i f9)(y:Part c n e r j h6):Ev c n e r (.Slice k7 i j O) (.pv e6 f9 h6):=
 fun A h f s Q E a0 o x z=>wpAny_Slice (v.ev A h f s _ E a0 o x fun B a q b k=>w.ev A h q a _ E a0 o (x.go b) fun C l t d m=>y.ev A h t l _ E a0 o ((x.go b).go d) fun F H G u p=>by
  have g:=(b.trans d).trans u;exact z _ _ _ (g.fD (g.gl x.gl) rfl (by nofun)) ⟨_,B,C,F,rfl,FH.aR ..,k,m,p⟩)
noncomputable def bf(l:List m)(b h d:Option Int):List m:=
 (sliceRange (sliceBounds b h d l.length).1 (sliceBounds b h d l.length).2.1 (sliceBounds b h d l.length).2.2).filterMap (l[·]?)
theorem pw(e:Array Value)(b h d:Option Int):slicePick e b h d=(bf e.toList b h d).toArray:=by
 unfold slicePick bf;simp
theorem gY.ed(t:j.bt=some l)(p:h6≠some 0)(w:l.length≤1000000):nL c getItem j (.pv e6 f9 h6) (.list (bf l e6 f9 h6)):=fun A f s C F Q E r g h k m q=>by
 refine bR (k.isList t g h) fun a e n i J v d J=>?_;subst i;obtain⟨b,G,I,H,rfl,o,y,z,B⟩:=m;have x:e.size=l.length:=by rw[←d.length];simp
 have u:Vals c f (bf l e6 f9 h6) (bf e.toList e6 f9 h6):=by
  unfold bf;rw[d.length];exact d.zR _
 refine wpAny_getItem_list_slice v ⟨_,(h _ _ o).2,rfl,rfl⟩ y z B p ?_ (hsz:=by rw[x];exact Nat.le_trans w (by decide));exact q _ _ _ (h.refl.fD g rfl (by nofun)) ⟨_,_,0,rfl,FH.aR ..,by rw[pw];exact u.mono h.refl.fT⟩
theorem az.ed(h:j.bt=some l)(b:h6≠some 0)(d:l.length≤1000000):az c j (.pv e6 f9 h6) (.list (bf l e6 f9 h6)):= .of (jE h) slot_list_getitem.lookup (gY.ed h b d)
theorem dR(l:List m)(h b:Option Int):
  bf l h b none=(l.drop (h.elim 0 (clipAt l.length))).take ((b.elim l.length (clipAt l.length))-(h.elim 0 (clipAt l.length))):=by
 unfold bf;rw[sliceBounds_plain _ _ _];simp only[sliceRange_one];have:=pick_run l.toArray (h.elim 0 (clipAt l.length)) ((b.elim l.length (clipAt l.length))-(h.elim 0 (clipAt l.length)));simpa using this
theorem gw(l:List m)(b h:Option Int):(bf l b h none).Sublist l:=by
 rw[dR _ _ _];exact(List.take_sublist _ _).trans (List.drop_sublist _ _)
noncomputable def S(l:List Nat):Str:=⟨l.toArray⟩
theorem r5(x:Str):S x.cps.toList=x:=rfl
@[simp] theorem Dd(l:List Nat):(S l).cps.toList=l:=rfl
@[simp] theorem CE(l:List Nat):(S l).length=l.length:=rfl
theorem rq(h:IsPart C e6):∃q:Option (Int×Tok),C=partValue q∧q.map (·.1)=e6:=by
 cases h with
 |none=>exact aF none rfl rfl
 |int i t=>exact aF (some (i,t)) rfl rfl
theorem xM(b h:Option Int)(n:Nat):Builtin.Str.strSliceIndices b h 1 n=sliceRange (sliceBounds b h none n).1 (sliceBounds b h none n).2.1 (sliceBounds b h none n).2.2:=rfl
theorem zS(x:Str)(b h:Option Int):((Builtin.Str.strSliceIndices b h 1 x.length).filterMap (x.cps[·]?))=bf x.cps.toList b h none:=by
 unfold bf;rw[xM _ _ _];have:x.cps.toList.length=x.length:=by simp[Str.length]
 rw[this];simp
theorem zT(n:Nat)(o:Option Int):o.elim n (clipAt n)≤n:=by
 rcases o with _|i
 ·exact Nat.le_refl n
 ·exact Int.toNat_le.mpr (Int.max_le.mpr ⟨Int.natCast_nonneg n,Int.min_le_right _ _⟩)
theorem tw(x:Str)(b h:Option Int):(Builtin.Str.strSliceIndices b h 1 x.length).length=(bf x.cps.toList b h none).length:=by
 rw[xM _ _ _,sliceBounds_plain _ _ _,sliceRange_one _ _,dR _ _ _,show x.cps.toList.length=x.length from Array.length_toList,List.length_take,List.length_drop,List.length_map _,List.length_range,show x.cps.toList.length=x.length from Array.length_toList];exact(Nat.min_eq_left (Nat.sub_le_sub_right (zT _ h) _)).symm
theorem gY.fo(v:x.length≤1000000):nL c getItem (.str x) (.pv e6 f9 none) (.str (S (bf x.cps.toList e6 f9 none))):=fun A f s a l Q E r g k p q m=>by
 refine ah p fun t h=>?_;subst h;obtain⟨b,B,F,C,rfl,u,w,y,z⟩:=q;refine au (rq w) fun d h i=>?_;subst h;subst i;refine au (rq y) fun e h i=>?_;subst h;subst i;cases z;have n:x.cps.toList.length=x.length:=Array.length_toList;refine wpAny_getItem_str_slice (st:=none) ⟨_,(k _ _ u).2,rfl,rfl⟩ rfl ?_;refine(?_ :(if(1==1&&(Builtin.Str.strSliceIndices (d.map (·.1)) (e.map (·.1)) 1 x.length).length==x.length)=true then Made.val (.str x t)else .str ⟨((Builtin.Str.strSliceIndices (d.map (·.1)) (e.map (·.1)) 1 x.length).filterMap (x.cps[·]?)).toArray⟩).post Q s);rw[tw _ _ _,zS _ _ _];have o:=gw x.cps.toList (d.map (·.1)) (e.map (·.1));by_cases j:(1==1&&(bf x.cps.toList (d.map (·.1)) (e.map (·.1)) none).length==x.length)=true
 ·rw[if_pos j];exact m _ _ f k.refl ⟨t,by rw[o.eq_of_length ((eq_of_beq j).trans n.symm)];rfl⟩
 ·rw[if_neg j];exact⟨Nat.le_trans o.length_le (n▸Nat.le_trans v (by decide)),m _ _ f k.tok ⟨_,rfl⟩⟩
theorem az.fo(h:x.length≤1000000):az c (.str x) (.pv e6 f9 none) (.str (S (bf x.cps.toList e6 f9 none))):= .of rp F.slot_str_getitem.lookup (gY.fo h)
noncomputable def D.ie:D→Option (List (Str×D))
 | .dict l=>some l
 | .bW l=>some l
 |_=>Option.none
@[elab_as_elim] theorem r6{P:D→Prop}(b:P (.dict u))(d:P (.bW u))(h:j.ie=some u):P j:=by
 rcases j with _|_<;>first|exact Option.some.inj h▸b|exact Option.some.inj h▸d|contradiction
theorem Val.kI(h:Val c f j C)(i:j.ie=some u)(g:Gl c s.heap)(w:Sub c f s.heap):∃a b,C= .ref a∧(f a≠none∨c.own a≠none)∧(a==sysModules)=false∧s.heap.DictOf (PySem.strKind c.prog c.w) a b∧bo c f u b∧(b.map (·.1)).Nodup:=by
 revert h;refine r6 ?_ ?_ i<;>intro h
 ·obtain⟨a,o,n,m,b,e,d,p,i,q,r,k,v,t⟩:=h;exact nK a b e (.inl (by rw[d];nofun)) t (⟨o,n,m,(w _ _ d).2,p,i,q,r,k⟩) v k
 ·obtain⟨a,o,n,m,b,e,d,p,i,q,r,k,v,t⟩:=h;exact nK a b e (.inr (by rw[d];nofun)) t (⟨o,n,m,(g.own _ _ d).2,p,i,q,r,k⟩) v k
theorem pO(d:j.ie=some u):∀(s:Shared)(f:FH)(v:Value),Gl c s.heap→Sub c f s.heap→Val c f j v→s.TypeIs v "dict" :=fun s f v g i h=>by
 refine kc (h.kI d g i) fun a k b J J e J=>?_;subst b;exact e.typeIs
theorem bo.value:∀{d:List (Str×Value)},bo c f u d→u.lookup x=some j→∃v,valueAt d x=some v∧Val c f j v:=by
 induction u with
 |nil=>exact fun J h=>nomatch h
 |cons p u m=>
  intro d h e;obtain⟨v,n,rfl,i,k⟩:=h;unfold valueAt;rw[List.find?_cons];rw[List.lookup_cons]at e;by_cases b:p.1=x
  ·rw[show(x==p.1)=true from beq_iff_eq.mpr b.symm]at e;rw[decide_eq_true b];exact aF v rfl (Option.some.inj e▸i)
  ·rw[show(x==p.1)=false from beq_false_of_ne fun q=>b q.symm]at e;rw[decide_eq_false b];exact m k e
theorem gY.dict(p:j.ie=some u)(e:u.lookup x=some a5):nL c getItem j (.str x) a5:=fun A f s C F Q E r g b d i o=>by
 refine pK (d.kI p g b) fun a B h J l q w z=>?_;subst h;refine ah i fun t h=>?_;subst h;have y:=w.value e;refine au y fun v m n=>?_;exact wpAny_getItem_of (knd:=PySem.strKind c.prog c.w) (k:=x) (by simp[PySem.strKind,Value.isStrOf]) q.mapOf m (o _ _ f b.tok n)
noncomputable abbrev lB(b:Pos)(h:List Expr):Prop:=∀env,((backTo b (starEach h env)).all (fun x=> !x.1)&&(backToKw b (keywordEach [] env)).all (fun x=>x.1.isSome)&&decide (h.length+([]:List Keyword).length+(if([]:List Keyword).isEmpty then 0 else 1)<30))=true
noncomputable def ak(c:Cx)(k:Nat)(j:Value)(i:List D)(d:D):Prop:=
 ∀(A:Around)(f:FH)(s:Shared)(e:List Value)(Q:Value→Shared→Prop)(E:Value→Shared→Prop),bJ k A→Gl c s.heap→Sub c f s.heap→0<s.toks→Vals c f i e→
  (∀v b h,Go c f s h b→Val c h d v→Q v b)→wpAny (model c.prog c.w) A (call j e) Q E s
inductive gy(c:Cx):Value→Prop
 |builtin (id:String):gy c (.builtin id)
 |type (T:String):gy c (.type T)
 |fn {a:Addr} {o:Obj} {fd:FuncData}:c.K.lookup a=some o→o.data= .func fd→gy c (.ref a)
theorem az.dict(h:j.ie=some u)(e:u.lookup x=some a5):az c j (.str x) a5:=
 .of (pO h) slot_dict_getitem.lookup (gY.dict h e)
noncomputable abbrev noStar(h:List Expr):Prop:=(fun env=>(starEach h env).any (·.1))=fun J=>false
theorem eN(h:noStar B):(backTo O (starEach B q)).any (·.1)=false:=by
 unfold backTo;rw[List.any_map];exact congrFun h q
theorem ef{first:List Value}{j:List (Bool×Sem Value)}(o:gy c C)(n:j.any (·.1)=false)(h:wpAny (model c.prog c.w) A (spliced j) (fun m d=>c.K.In d.heap∧wpAny (model c.prog c.w) A (call C (first++m)) V E d) E s):
  wpAny (model c.prog c.w) A (callWith O C first j []) V E s:=by
 have q:wpAny (model c.prog c.w) A (evalArgs C true j []) (fun a d=>a.kw=[]∧c.K.In d.heap∧wpAny (model c.prog c.w) A (call C (first++a.pos)) V E d) E s:=by
  rcases j with _|⟨⟨b,x⟩,r⟩
  ·exact wpAny_bind (wpAny_mono h (fun m d i=>wpAny_bind (wpAny_pure (wpAny_holding (wpAny_bind (wpAny_pure (wpAny_bind (wpAny_pure (wpAny_pure ⟨rfl,i⟩)))))))) fun J J x=>x)
  ·rcases b with _|_
   ·exact Calls.evalArgs_plain (wpAny_mono h (fun m d i=>⟨rfl,i⟩) fun J J x=>x)
   ·contradiction
 have k:wpAny (model c.prog c.w) A (evalArgs C true j []) (fun a d=>c.K.In d.heap∧wpAny (model c.prog c.w) A (call C (first++a.pos) a.kw) V E d) E s:=
  wpAny_mono q (fun a d i=>by refine ai i fun e i=>?_;rw[e];exact i) fun J J x=>x
 rcases o with id|T|⟨t,p⟩
 ·exact Calls.callWith_builtin n (wpAny_mono k (fun J J x=>x.2) fun J J x=>x)
 ·exact PyProof.Rows.callWith_type n (wpAny_mono k (fun J J x=>x.2) fun J J x=>x)
 ·exact Calls.callWith_function (wpAny_mono k (fun J J x=>⟨⟨x.1 _ _ t,p⟩,x.2⟩) fun J J x=>x)
noncomputable def lC(c:Cx)(x:Str)(v:Value):Prop:=c.mg x=some v∨(c.mg x=none∧c.mb x=some v)
theorem iu(b:lC c x C)(w:gy c C)(v:ag c n e r B l)(a:e.names.lookup x=some .globalImplicit)(g:noStar B)(z:(x==("__debug__" :Str))=false)(F:bJ n A)(o:bE q e)(y:St c f r q s)(h:∀j i d,Go c f s d i→Vals c d l j→wpAny (model c.prog c.w) A (call C j) E V i):wpAny (model c.prog c.w) A (eval (.Call (.Name x O) B [] Y) q) E V s:=by
 refine Call_ (Calls.Name_function_global (by rw[o.scope];exact o.kind) (by refine(?_ :q.scope.names.lookup x=_);rw[o.scope];exact a) ?_ z);have m:wpAny (model c.prog c.w) A (callWith Y C [] (backTo Y (starEach B q)) []) E V s:=
  ef w (eN g) (v A q f s Y _ V F o y fun j i d k t=>⟨(y.go k).gl.K,h j i d k t⟩)
 refine ay b (fun b=>?_) fun p=>ai p fun u b=>?_
 ·exact Calls.loadGlobal_global (by rw[o.globals];exact y.gl.g) b m
 ·exact Calls.loadGlobal_builtin (by rw[o.globals];exact y.gl.g) u (by rw[o.builtins];exact y.gl.b) b m
theorem Ev.call(F:lC c x C)(w:gy c C)(u:ag c (n+1) e r B l)(h:ak c n C l j)(a:e.names.lookup x=some .globalImplicit:=by rfl)(g:noStar B:=by rfl)(z:(x==("__debug__" :Str))=false:=by decide+kernel):Ev c (n+1) e r (.Call (.Name x O) B [] Y) j:=
 fun A J f s Q E d o y t=>iu F w u a g z d o y fun I G m b i=>h A m G I Q E (d.le (by(simp+arith))) (y.go b).gl b.sub (y.go b).tk i fun v H p q k=>t v H p (b.trans q) k
theorem Ev.glob(h:lC c x C)(d:∀f,Val c f j C)(q:e.names.lookup x=some .globalImplicit:=by rfl)(p:(x==("__debug__" :Str))=false:=by decide+kernel):Ev c n e r (.Name x O) j:=
 fun A k f s Q E t o y b=>by
 refine Calls.Name_function_global (by rw[o.scope];exact o.kind) (by refine(?_ :k.scope.names.lookup x=_);rw[o.scope];exact q) ?_ p;refine ay h (fun h=>?_) fun i=>ai i fun m h=>?_
 ·exact Calls.loadGlobal_global (by rw[o.globals];exact y.gl.g) h (b C s f y.refl (d f))
 ·exact Calls.loadGlobal_builtin (by rw[o.globals];exact y.gl.g) m (by rw[o.builtins];exact y.gl.b) h (b C s f y.refl (d f))
structure gA(c:Cx)(d:D)(T:String):Prop where
 type:∀(s:Shared)(f:FH)(v:Value),Gl c s.heap→Sub c f s.heap→Val c f d v→s.TypeIs v T
 nodict:∀(s:Shared)(f:FH)(a:Addr),Gl c s.heap→Sub c f s.heap→Val c f d (.ref a)→∃o,s.heap.get? a=some o∧o.dict=none
 attrs:PlainAttrs T
theorem gA.str:gA c (.str x) "str" :=⟨rp,fun s f a g b h=>(by refine ah h fun t e=>?_;contradiction),PySem.F.plainAttrs_str⟩
theorem gA.bytes:gA c (.bytes e8) "bytes" :=⟨fun s f v g d h=>(by refine ah h fun t b=>?_;subst b;rfl),fun s f a g d h=>(by refine ah h fun t e=>?_;contradiction),PySem.W.FB.plainAttrs_bytes⟩
theorem gA.list(b:j.bt=some l):gA c j "list" :=⟨jE b,fun s f a g d h=>by
  refine jB (h.isList b g d) fun i k n e q J=>?_;cases e;exact aF _ q rfl,PySem.F.plainAttrs_list⟩
theorem gA.dict(b:j.ie=some u):gA c j "dict" :=⟨pO b,fun s f a g m h=>by
  refine kc (h.kI b g m) fun n r e J J d J=>jB d fun o q p k i J=>?_;cases e;exact aF _ k i.2.1,PySem.F.plainAttrs_dict⟩
theorem nN{id:String}(F:Ev c n e r o j)(t:gA c j i9)(M:Slot i9 x id)(u:ag c n e r B l)(K:typeOf (.builtin id)=pure (.type "method_descriptor"))(J:noStar B)(G:∀q,attributeBase o x q (eval o q)=eval o q)(H:lB Y B)(I:(O.endLine==Y.line)=true)(w:bJ n A)(v:bE q e)(y:St c f r q s)(h:∀k i d,Go c f s d i→Vals c d (j::l) k→wpAny (model c.prog c.w) A (call (.builtin id) k) E V i):wpAny (model c.prog c.w) A (eval (.Call (.Attribute o x O) B [] Y) q) E V s:=by
 refine wpAny_Call_method_lateS (G q) (H q) I (F A q f s _ V w v y fun z i d b m=>?_);refine nK i9 id t.attrs M K (t.type i d z (y.go b).gl b.sub m) (fun a u=>t.nodict i d a (y.go b).gl b.sub (u▸m)) ?_;exact ef (.builtin id) (eN J) (u A q d i Y _ V w v (y.go b) fun k L C p g=>⟨((y.go b).go p).gl.K,
  h (z::k) L C (b.trans p) (Vals.yd.mpr ⟨m.mono p.ext,g⟩)⟩)
theorem Ev.iA{id:String}(u:Ev c (n+1) e r o j)(z:gA c j i9)(M:Slot i9 x id)(a:ag c (n+1) e r B l)(h:ak c n (.builtin id) (j::l) a5)(H:typeOf (.builtin id)=pure (.type "method_descriptor"):=by rfl)(G:noStar B:=by rfl)(g:∀b,attributeBase o x b (eval o b)=eval o b:=by intro J;rfl)(C:lB Y B:=by intro J;rfl)(F:(O.endLine==Y.line)=true:=by rfl):Ev c (n+1) e r (.Call (.Attribute o x O) B [] Y) a5:=
 fun A b f s Q E i I y w=>nN u z M a H G g C F i I y fun P K p d k=>
  h A p K P Q E (i.le (by(simp+arith))) (y.go d).gl d.sub (y.go d).tk k fun v L q t m=>w v L q (d.trans t) m
structure kg(c:Cx)(k:Nat)(I:Addr)(tg:Expr)(fp:List Addr)(X:Addr→Prop)(Y:Nat→Prop)(ds:List D)(T:Nat→FH→Shared→Prop):Prop where
 keep:∀i f s f' s',T i f s→(∀a o,f a=some o→f' a=some o)→(∀a,X a→f' a=f a)→(∀a∈fp,∀o,s.heap.get? a=some o→s'.heap.get? a=some o)→(∀g,Y g→s'.gens[g]? =s.gens[g]?)→T i f' s'
 item:∀A i f s d E,bJ k A→ds[i]? =some d→T i f s→Gl c s.heap→Sub c f s.heap→0<s.toks→
   wpAny (model c.prog c.w) A (pyNext (.ref I)) (fun r s1=>∃v,r=some v∧wpAny (model c.prog c.w) A (letOwnedTupleGo tg (.ref I) v) (fun J s'=>∃f',GoX c X Y f s f' s'∧Val c f' d v∧T (i+1) f' s') E s1) E s
 done:∀A f s E,bJ k A→T ds.length f s→Gl c s.heap→Sub c f s.heap→0<s.toks→wpAny (model c.prog c.w) A (pyNext (.ref I)) (fun r s'=>r=none∧∃f',GoX c X Y f s f' s') E s
 self:∀A i f s Q E,bJ k A→T i f s→Q (.ref I) s→wpAny (model c.prog c.w) A (pyIter (.ref I)) Q E s
 live:∀i f s,T i f s→∀a,X a→s.heap.get? a≠none
noncomputable def aO(c:Cx)(k:Nat)(j:Scope)(o:bD)(e n:Expr)(i:List D):Prop:=
 ∀(A:Around)(env:Env)(f:FH)(s:Shared)(Q:Value→Shared→Prop)(E:Value→Shared→Prop),bJ k A→bE env j→St c f o env s→
  (∀I h b d X Y T,Go c f s b h→kg c k I n d X Y i T→T 0 b h→(∀a,X a→s.heap.get? a=none∧b a=none∧a∈d)→(∀g,Y g→s.gens.size≤g∧g<h.gens.size)→
   (∀a∈d,a≠c.P∧h.heap.get? a≠none∧(b a≠none∨c.own a≠none∨X a))→Q (.ref I) h)→
  wpAny (model c.prog c.w) A (eval e env) (fun x m=>wpAny (model c.prog c.w) A (pyIter x) Q E m) E s
theorem kJ{tk:Nat}(n:c.P∉h0)(g:Gl c s.heap)(k:Sub c f s.heap)(r:∀a∈h0,f a=none)(d:∀b o,b∉h0→s.heap.get? b=some o→U.get? b=some o)(p:s.toks≤tk):
  GoX c (· ∈h0) (fun J=>False) f s f {s with heap:=U,toks:=tk} where
 keep:=fun a o t J e=>d a o t e
 tab:= .inl (by refine ah g.cH fun o j=>?_;refine(?_ :U.get? c.P=_);rw[j,d _ _ n j])
 aD:=Nat.le_refl _
 gens:=fun J J J=>rfl
 bare:=fun i z h e=>by
  refine ay h (fun h=>?_) fun h=>?_
  ·have m:s.gens[i]? =some z:=e;rw[Array.getElem?_eq_none h]at m;contradiction
  ·exact h.elim
 os:=rfl
 ext:=fun J J e=>e
 old:=fun J J=>rfl
 sub:=fun a o e=>⟨(k a o e).1,d a o (fun q=>by rw[r a q]at e;contradiction) (k a o e).2⟩
 tk:=p
structure r7(f₀:FH)(wr:List Addr)(De:Nat→Heap→Prop)(i:Nat)(f:FH)(s:Shared):Prop where
 st:De i s.heap
 up:∀a o,f₀ a=some o→f a=some o
 no:∀a∈wr,f a=none
theorem r7.keep(p:∀i h e,d9 i h→(∀c∈h0,∀o,h.get? c=some o→e.get? c=some o)→d9 i e):
  ∀(i:Nat)(a0:FH)(s:Shared)(b:FH)(d:Shared),r7 f h5 d9 i a0 s→(∀a o,a0 a=some o→b a=some o)→(∀a,a∈h5→b a=a0 a)→(∀a∈h0,∀o,s.heap.get? a=some o→d.heap.get? a=some o)→(∀g:Nat,False→d.gens[g]? =s.gens[g]?)→r7 f h5 d9 i b d:=
 fun J J J J J t k m n J=>⟨p _ _ _ t.st n,fun a o q=>k a o (t.up a o q),fun a j=>(m a j).trans (t.no a j)⟩
theorem kg.ofWalks{P:Nat→Value→Prop}(b:FH)(W:∀A:Around,A.handled=none→Walks c.prog c.w A v h0 h5 k P d9)(u:l.length=k)(B:∀i d a0,l[i]? =some d→P i a0→Val c b d a0)(q:c.P∉h5)(G:∀i h,d9 i h→∀a∈h5,h.get? a≠none)(F:∀(A:Around) i d a0(s:Shared)(Q:Unit→Shared→Prop)(E:Value→Shared→Prop),l[i]? =some d→Val c b d a0→d9 (i+1) s.heap→Q () s→wpAny (model c.prog c.w) A (letOwnedTupleGo o (.ref v) a0) Q E s):
  kg c n v o h0 (· ∈h5) (fun J=>False) l (r7 b h5 d9) where
 keep:=r7.keep (W callerA rfl).frame
 item:=fun A i f s d E r e t g m J=>
  bM ((W A r.handled).item i s _ E (u▸(List.getElem?_eq_some_iff.mp e).1) t.st fun x z tk H y j p=>
   have w:=B i d x e H
   ⟨x,rfl,F A i d x _ _ _ e w y ⟨f,kJ q g m t.no j p,w.mono t.up,y,t.up,t.no⟩⟩)
 done:=fun A f s E r t g m J=>bM ((W A r.handled).done s _ E (u▸t.st) fun z tk j p=>⟨rfl,f,kJ q g m t.no j p⟩)
 self:=fun A i f s Q E r t C=>(W A r.handled).self i s Q E t.st C
 live:=fun i f s t=>G i _ t.st
theorem kg.kK{H:Nat→Array Value→Prop}{R:Nat→Addr→Heap→Prop}(I:FH)(W:∀A:Around,A.handled=none→WalksT c.prog c.w A v h0 h5 k H d9 R)(Y:l.length=k)(hP:∀i d q,l[i]? =some d→H i q→∃a0,d= .tup a0∧Vals c I a0 q.toList)(K:c.P∉h5)(a4:∀i h,d9 i h→∀a∈h5,h.get? a≠none):
  kg c n v (.Tuple B z O) h0 (· ∈h5) (fun J=>False) l (r7 I h5 d9) where
 keep:=r7.keep (W callerA rfl).frame
 item:=fun A i f s d E r U t g u J=>by
  refine bM ((W A r.handled).item i s _ E (Y▸(List.getElem?_eq_some_iff.mp U).1) t.st fun T q x tk hp L a2 N C w=>⟨.ref T,rfl,?_⟩);have M:=(W A r.handled).apart i T x N;refine(W A r.handled).go B z O i T _ _ E N fun V a6 X=>?_;have a1:c.P≠T:=fun e=>g.cH.elim fun o F=>absurd (Heap.lt_size F) (Nat.not_lt.mpr (e▸L));obtain⟨o,F,hc,G,a3⟩:∃o,x.get? T=some o∧o.cls= .type "tuple" ∧∃G,o.data= .seq q G:=a2;have j:GoX c (· ∈h5) (fun J=>False) f s f {s with heap:=V,toks:=tk}:=kJ K g u t.no (fun b o P e=>X b o P (C b o P e)) w;have Z:∀o,s.heap.get? T≠some o:=fun o e=>absurd (Heap.lt_size e) (Nat.not_lt.mpr L);have y:f T=none:=Option.eq_none_iff_forall_ne_some.mpr fun o e=>Z o (u T o e).2;have a5:∀a,s.heap.get? a≠none→a≠T:=fun a p e=>p (e▸Option.eq_none_iff_forall_ne_some.mpr Z);refine au (hP i d q U hp) fun a0 S hl=>?_;subst S;refine⟨f.add T o,⟨j.keep,j.tab,j.aD,j.gens,j.bare,j.os,FH.fm y,fun a p=>FH.dh (a5 a p),fun a m e=>?_,w⟩,⟨T,o,G,q,rfl,FH.aR ..,hc,a3,hl.mono fun a m e=>FH.fm y a m (t.up a m e)⟩,a6,fun a m e=>FH.fm y a m (t.up a m e),fun a p=>(FH.dh (b7:=a) (v:=T) fun e=>M (e▸p)).trans (t.no a p)⟩;by_cases h:a=T
  ·rw[h,FH.aR]at e;exact h▸⟨Ne.symm a1,Option.some.inj e▸X _ _ M F⟩
  ·rw[FH.dh h]at e;exact j.sub a m e
 done:=fun A f s E r t g u J=>bM ((W A r.handled).done s _ E (Y▸t.st) fun x tk C w=>⟨rfl,f,kJ K g u t.no C w⟩)
 self:=fun A i f s Q E r t hQ=>(W A r.handled).self i s Q E t.st hQ
 live:=fun i f s t=>a4 i _ t.st
theorem It.fin{A:Around}(F:∀v d j p X Y T,Go c f s j d→kg c n v o p X Y l T→T 0 j d→(∀a,X a→s.heap.get? a=none∧j a=none∧a∈p)→(∀g,Y g→s.gens.size≤g∧g<d.gens.size)→
   (∀a∈p,a≠c.P∧d.heap.get? a≠none∧(j a≠none∨c.own a≠none∨X a))→E (.ref v) d)(m:Go c f s G t)(r:Gl c t.heap)(x:∀a a0,t.heap.get? a=some a0→U.get? a=some a0)(u:∀a∈h0,t.heap.objs.size≤a)(H:c.P∉h0→kg c n v o (h0++h5) (· ∈h0) (fun J=>False) l (r7 G h0 d9))(y:d9 0 U)(I:∀i h,d9 i h→∀a∈h0,h.get? a≠none)(M:∀a∈h5,∃a0,t.heap.get? a=some a0∧(G a≠none∨c.own a≠none))(K:t.toks≤k):E (.ref v) {t with heap:=U,toks:=k}:=by
 have z:∀a∈h0,a≠c.P:=fun a b e=>r.cH.elim fun a0 L=>Nat.not_lt.mpr (u a b) (e▸Heap.lt_size L);have B:∀a∈h0,G a=none:=fun a b=>m.cj (u a b);refine F v _ G _ _ _ _ (m.heap x r.cH K) (H fun h=>z _ h rfl) ⟨y,fun J J e=>e,B⟩ (fun a b=>⟨m.fresh (u a b),B a b,List.mem_append_left _ b⟩) (fun J h=>h.elim) fun a b=>?_;refine dd b (fun h=>?_) fun h=>?_
 ·exact bx (z a h) (I _ _ y a h) (.inr (.inr h))
 ·refine au (M a h) fun a0 C w=>?_;refine bx ?_ (by rw[x _ _ C];nofun) (or_assoc.mp (.inl w));refine ay w (fun q=>?_) fun q=>?_
  ·rcases e:G a with _|a0
   ·exact absurd e q
   ·exact(m.sub a a0 e).1
  ·rcases e:c.own a with _|a0
   ·exact absurd e q
   ·exact(r.own a a0 e).1
theorem ge1:∀a∈[n],n≤a:=List.forall_mem_singleton.mpr (Nat.le_refl n)
theorem Bk(h:n≤k):∀a∈[k],n≤a:=List.forall_mem_singleton.mpr h
theorem aO.tx(h:Ev c n e r o j)(U:j.bt=some l)(Y:∀(A:Around)(I H:Addr)(S:Array Value)(f:FH) d v i(s:Shared)(Q:Unit→Shared→Prop)(E:Value→Shared→Prop),d∈l→Val c f d v→s.heap.IsListIter I H i→Q () s→wpAny (model c.prog c.w) A (letOwnedTupleGo b0 (.ref I) v) Q E s):aO c n e r o b0 l:=fun A L f s Q E a2 a0 y T=>by
 refine h A L f s _ E a2 a0 y fun v k z m K=>?_;have g:=(y.go m).gl;refine bR (K.isList U g m.sub) fun a x a1 G q O B X=>?_;subst G;have Z:a≠k.heap.objs.size:=Nat.ne_of_lt (Heap.lt_size q);have C:∀i(h:Heap),h.IsListIter k.heap.objs.size a i∧h.IsList a x→∀b∈[k.heap.objs.size],h.get? b≠none:=fun i h u=>List.forall_mem_singleton.mpr (u.1.elim fun a0 W=>by rw[W.1];nofun);refine wpAny_pyIter_list O (It.fin (A:=A) T m g (fun J J o=>Heap.get?_push_of_some _ o) (h5:=[a]) ge1 (fun P=>kg.ofWalks z (fun A M=>Walks.list M k.heap.objs.size a Z x) (B.length.symm.trans Array.length_toList) (fun i d v p N=>?_) P C fun A i d v s Q E p t u=>Y A _ _ x z d v _ s Q E (List.mem_of_getElem? p) t u.1)
  ⟨⟨_,Heap.get?_push_size _ rfl,rfl,rfl⟩,⟨_,Heap.get?_push_of_some _ q,rfl,a1,rfl⟩⟩ C (List.forall_mem_singleton.mpr ⟨_,q,X⟩) (Nat.le_refl _))
 refine au (B.get p) fun w F t=>?_;rw[Array.getElem?_toList,N]at F;exact Option.some.inj F▸t
theorem aO.list(h:Ev c n e r o j)(k:j.bt=some l):aO c n e r o (.Name x O) l:=
 .tx h k fun A I m t f d v i s Q E p q u b=>wpAny_pure b
theorem aO.zU(h:Ev c n e r o j)(q:j.bt=some l)(t:∀d∈l,∃a0,d= .tup a0):aO c n e r o (.Tuple B k O) l:=
 .tx h q fun A I x y f d v i s Q E p u w m=>by
  refine ah (t d p) fun a0 b=>?_;subst b;obtain⟨a,a2,a1,z,rfl,_⟩:=u;exact wpAny_letOwnedTupleGo_listiter w m
theorem tA{K:Type} [DecidableEq K]{g:KeyKind a7 b4 K}(G:A.handled=none)(I d:Addr)(B:d≠I)(n:List (K×Value))(c:Nat):
  WalksT a7 b4 A I [I,d] [I] n.length (fun i M=>∃k v z,n[i]? =some (k,v)∧g.is k z=true∧M=#[z,v])
   (fun i h=>(∃p r,IsItemIter h I d i n.length c p r)∧h.DictAt g d n c)
   (fun i T h=>(∃p r,IsItemIterOut h I d (i+1) n.length c p r T)∧h.DictAt g d n c∧T≠I) where
 sub:=fun b x=>(List.mem_singleton.mp x)▸List.mem_cons_self
 frame:=fun i h y j a=>⟨j.1.elim fun p q=>⟨p,q.elim fun r m=>⟨r,a I List.mem_cons_self _ m⟩⟩,j.2.at fun o e=>a d (.tail _ (.head _)) o e⟩
 item:=fun i s Q E H j w=>by
  refine ai j fun u t=>cP u fun p r m=>?_;have f:n[i]? =some (n[i].1,n[i].2):=List.getElem?_eq_getElem H;exact wpAny_pyNext_items_item m t f fun z y J L l P a=>w s.heap.objs.size #[z,n[i].2] y s.toks ⟨_,_,z,f,J,rfl⟩ (Nat.le_refl _) ⟨_,l,rfl,0,rfl⟩ ⟨⟨z,_,L⟩,t.at fun o e=>a d o B e,Nat.ne_of_gt (Heap.lt_size m)⟩
   fun b o x e=>a b o (fun q=>x (q▸List.mem_cons_self)) e
 go:=fun O k U i T s Q E j w=>by
  refine ba j fun u t l=>cP u fun p r m=>?_;exact wpAny_letOwnedTupleGo_items m fun y F C=>w y ⟨⟨p,r,F⟩,t.extBut C.extBut B⟩ fun b o x e=>(C.2 b fun q=>x (q▸List.mem_cons_self)).trans e
 apart:=fun i T h j t=>j.2.2 (List.mem_singleton.mp t)
 done:=fun s Q E j w=>by
  refine ai j fun u t=>cP u fun p r m=>?_;exact wpAny_pyNext_items_end G m t (List.getElem?_eq_none (Nat.le_refl _)) fun y f=>w y s.toks fun b o x e=>f b o (fun q=>x (q▸List.mem_cons_self)) e
 self:=fun i s Q E j w=>by
  refine ai j fun u t=>cP u fun p r m=>?_;exact PySem.W.kcp_self m w
theorem ye(n i:Nat)(d:D)(h:((List.range n).map fun j:Nat=>D.int j)[i]? =some d):d= .int i:=by
 rw[List.getElem?_map,Option.map_eq_some_iff]at h;refine au h fun j k b=>?_;subst b;refine ah (List.getElem?_eq_some_iff.mp k) fun m e=>?_;rw[←e,List.getElem_range _]
theorem Gl.xN(g:Gl c U):c.P<U.objs.size:=ah g.cH fun J h=>Heap.lt_size h
theorem aO.range(P:lC c (Str.ofString "range") (.type "range"))(G:Ev c n e r o (.int k))(z:Builtin.Range.small 0 k 1=true∧Builtin.Range.rangeSize 0 k 1=k)(I:e.names.lookup (Str.ofString "range")=some .globalImplicit:=by rfl)(L:noStar [o]:=by rfl)(M:∀p,starEach [o] p=(false,eval o p)::starEach [] p:=by intro J;rfl):
  aO c n e r (.Call (.Name (Str.ofString "range") O) [o] [] Y) (.Name x b1) ((List.range k).map fun j:Nat=>D.int j):=fun A p f s Q E a2 a1 y F=>by
 refine iu P (.type "range") (ag.cons G ag.nil M) I L (by decide+kernel) a2 a1 y fun W m l q g=>?_;obtain⟨v,Z,rfl,⟨t,rfl⟩,a0⟩:=g;obtain rfl:Z=[]:=a0;have T:(m.heap.push {cls:= .type "range",data:= .fields #[.int 0 m.toks,.int k t,.int 1 (m.toks+1)]}).objs.size=m.heap.objs.size+1:=Heap.size_push ..;refine call_range_1 (wpAny_pyIter_range (IsRange.new _ 0 k 1 _ _ _) z.1 ?_);have u:=Heap.get?_push_size (m.heap.push {cls:= .type "range",data:= .fields #[.int 0 m.toks,.int k t,.int 1 (m.toks+1)]}) (o:={cls:= .type "range_iterator",data:= .fields #[rawInt 0,rawInt k,rawInt 1]}) rfl;dsimp only;rw[z.2];rw[T]at u⊢;have w:∀(i:Nat)(h:Heap),IsRangeIter h (m.heap.objs.size+1) (0+(i:Int)*1) ((k:Int)-(i:Int)) 1→∀b∈[m.heap.objs.size+1],h.get? b≠none:=fun i h U=>List.forall_mem_singleton.mpr (by rw[show h.get? _=_ from U];nofun);refine It.fin (A:=A) F q (y.go q).gl (fun o a1 a0=>Heap.get?_push_of_some _ (Heap.get?_push_of_some _ a0)) (h5:=[]) (Bk (Nat.le_succ _))
  (fun C=>kg.ofWalks l (fun A B=>Walks.range B (m.heap.objs.size+1) 0 1 k) (by rw[List.length_map _,List.length_range]) (fun i d v H K=>?_) C w fun J J J J J J J J J J h=>wpAny_pure h) ?_ w (fun J h=>nomatch h) (Nat.le_add_right m.toks 2)
 ·refine ah K fun X a=>?_;subst a;rw[ye k i d H];exact⟨X,by rw[Int.zero_add _,Int.mul_one _]⟩
 ·exact u
noncomputable def numbered:Nat→List D→List D
 |_,[]=>[]
 |n,d::r=> .tup [.int n,d]::numbered (n+1) r
theorem nO:∀(n:Nat)(l:List D),(numbered n l).length=l.length:=fun n l=>by
 induction l generalizing n with
 |nil=>rfl
 |cons d r h=>exact congrArg Nat.succ (h (n+1))
theorem rb(n:Nat)(l:List D)(i:Nat)(d:D)(h:(numbered n l)[i]? =some d):∃e,l[i]? =some e∧d= .tup [.int ((n+i:Nat):Int),e]:=by
 induction l generalizing n i with
 |nil=>contradiction
 |cons e r m=>
  rcases i with _|i
  ·exact aF e rfl ((Option.some.inj h).symm)
  ·refine au (m (n+1) i h) fun b j k=>?_;exact aF b j (k.trans (by rw[Nat.succ_add_eq_add_succ _ _]))
theorem aO.enum(a:lC c (Str.ofString "enumerate") (.type "enumerate"))(S:Ev c n e r o j)(R:j.bt=some l)(hg:e.names.lookup (Str.ofString "enumerate")=some .globalImplicit:=by rfl)(hs:noStar [o]:=by rfl)(a3:∀u,starEach [o] u=(false,eval o u)::starEach [] u:=by intro J;rfl):
  aO c n e r (.Call (.Name (Str.ofString "enumerate") O) [o] [] Y) (.Tuple B k b1) (numbered 0 l):=fun A u f s Q E a5 a1 y N=>by
 refine iu a (.type "enumerate") (ag.cons S ag.nil a3) hg hs (by decide+kernel) a5 a1 y fun vs m X w T=>?_;obtain⟨v,a6,rfl,U,a0⟩:=T;obtain rfl:a6=[]:=a0;refine bR (U.isList R (y.go w).gl w.sub) fun o K a4 p C hl I V=>?_;subst p;have G:o<m.heap.objs.size:=Heap.lt_size C;have H:∀(i:Nat)(h:Heap),((∃L,IsEnum h (m.heap.objs.size+1) m.heap.objs.size i L)∧h.IsListIter m.heap.objs.size o i∧h.IsList o K)→∀b∈[m.heap.objs.size+1,m.heap.objs.size],h.get? b≠none:=fun i h P=>ba P fun p M J=>ah p fun L q=>au M fun a1 ho J=>
  List.forall_mem_cons.mpr ⟨by rw[show h.get? _=_ from q];nofun,List.forall_mem_singleton.mpr (by rw[ho];nofun)⟩
 refine call_enumerate_list hl fun h' z a2 hz F=>wpAny_pyIter_enum z (It.fin (A:=A) N w (y.go w).gl F (h0:=[m.heap.objs.size+1,m.heap.objs.size]) (h5:=[o]) (List.forall_mem_cons.mpr ⟨Nat.le_succ _,ge1⟩)
  (fun W=>kg.kK X (fun A Z=>WalksT.enumerate Z (m.heap.objs.size+1) m.heap.objs.size o (Nat.succ_ne_self _) (Nat.ne_of_lt (Nat.lt_succ_of_lt G)) (Nat.ne_of_lt G) K) ((nO 0 l).trans (I.length.symm.trans Array.length_toList)) (fun i d a7 g hp=>?_) W H)
  ⟨⟨_,z⟩,a2,⟨_,F _ _ C,rfl,a4,rfl⟩⟩ H (List.forall_mem_singleton.mpr ⟨_,C,V⟩) (Nat.le_refl _))
 refine bV hp fun t x hx p=>?_;subst p;refine au (rb 0 l i d g) fun a0 z p=>?_;subst p;refine au (I.get z) fun v a g=>?_;rw[Array.getElem?_toList,hx]at a;exact aF _ rfl (⟨_,_,rfl,⟨t,by rw[Nat.zero_add _]⟩,_,_,rfl,Option.some.inj a▸g,rfl⟩)
theorem bo.length:∀{l:List (Str×D)}{b:List (Str×Value)},bo c f l b→b.length=l.length:=by
 intro L
 induction L with
 |nil=>
  intro J h;have d:_=[]:=h;rw[d];rfl
 |cons J J i=>
  intro J h;exact let⟨_,_,e,_,r⟩:=h;by rw[e];simp[i r]
theorem bo.get(h:bo c f u e4){i:Nat}{p:Str×D}(e:u[i]? =some p):∃v,e4[i]? =some (p.1,v)∧Val c f p.2 v:=by
 induction u generalizing e4 i with
 |nil=>contradiction
 |cons q u d=>
  obtain⟨v,j,rfl,a,b⟩:=h;rcases i with _|i
  ·exact Option.some.inj e▸⟨v,rfl,a⟩
  ·exact d b e
theorem aO.values(X:Ev c n e r o j)(B:j.ie=some u)(Z:∀t,attributeBase o (Str.ofString "values") t (eval o t)=eval o t:=by intro J;rfl)(N:lB Y []:=by intro J;rfl)(S:(O.endLine==Y.line)=true:=by rfl):
  aO c n e r (.Call (.Attribute o (Str.ofString "values") O) [] [] Y) (.Name x b1) (u.map (·.2)):=fun A t f s Q E a5 a1 y U=>by
 refine nN X (gA.dict B) PySem.F.slot_dict_values ag.nil (by rfl) rfl Z N S a5 a1 y fun vs k M z K=>?_;obtain⟨v,a6,rfl,L,a0⟩:=K;obtain rfl:a6=[]:=a0;refine pK (L.kI B (y.go z).gl z.sub) fun o q g W a3 m F hn=>?_;subst g;refine call_meetsIn PySem.F.slot_dict_values m.typeIs PySem.F.entry_dict_values (PySem.F.args_dict_values_1 _) (meets_dict_values (PySem.strKind c.prog c.w) o a3) ⟨⟨q,m⟩,?_⟩;refine ah m.dictAt fun w a=>?_;have H:(k.heap.push {cls:= .type "dict_values",data:= .fields #[.ref o]}).objs.size=k.heap.objs.size+1:=Heap.size_push ..;have R:o<k.heap.objs.size:=a.lt_size;refine wpAny_pyIter_values (knd:=PySem.strKind c.prog c.w) (s:={k with heap:=k.heap.push {cls:= .type "dict_values",data:= .fields #[.ref o]}}) ⟨_,Heap.get?_push_size _ rfl,rfl,rfl⟩ (a.push _) ?_;dsimp only;rw[H];have V:o≠k.heap.objs.size+1:=Nat.ne_of_lt (Nat.lt_succ_of_lt R);have l:=Heap.get?_push_size (k.heap.push {cls:= .type "dict_values",data:= .fields #[.ref o]}) (o:={cls:= .type "dict_valueiterator",data:= .fields #[.ref o,.int 0 0,.int q.length 0,.int w 0]}) rfl;rw[H]at l;refine bV (id a) fun o' a7 a2 J=>?_;have C:∀(i:Nat)(h:Heap),(h.IsValIter (k.heap.objs.size+1) o i q.length w∧h.DictAt (PySem.strKind c.prog c.w) o q w)→∀b∈[k.heap.objs.size+1],h.get? b≠none:=fun i h st=>List.forall_mem_singleton.mpr (st.1.elim fun a1 ho=>by rw[ho.1];nofun);refine It.fin (A:=A) U z (y.go z).gl (fun o a1 a0=>Heap.get?_push_of_some _ (Heap.get?_push_of_some _ a0)) (h5:=[o]) (Bk (Nat.le_succ _))
  (fun T=>kg.ofWalks M (fun A P=>Walks.dictValues P (k.heap.objs.size+1) o V q w) ((List.length_map _).trans F.length.symm) (fun i d v m hp=>?_) T C fun J J J J J J J J J J h=>wpAny_pure h) ⟨⟨_,l,rfl,rfl⟩,(a.push _).push _⟩ C (List.forall_mem_singleton.mpr ⟨_,a2,W⟩) (Nat.le_refl _)
 refine ah hp fun n G=>?_;rw[List.getElem?_map,Option.map_eq_some_iff]at m;refine au m fun p a0 g=>?_;subst g;refine au (F.get a0) fun v' I a4=>?_;rw[I]at G;exact(Prod.mk.inj (Option.some.inj G)).2▸a4
theorem aO.items(ha:Ev c n e r o j)(G:j.ie=some u)(a2:∀a,attributeBase o (Str.ofString "items") a (eval o a)=eval o a:=by intro J;rfl)(a4:lB Y []:=by intro J;rfl)(a6:(O.endLine==Y.line)=true:=by rfl):
  aO c n e r (.Call (.Attribute o (Str.ofString "items") O) [] [] Y) (.Tuple B k b1) (u.map fun p=> .tup [.str p.1,p.2]):=fun A a f s Q E b3 a1 y V=>by
 refine nN ha (gA.dict G) PySem.F.slot_dict_items ag.nil (by rfl) rfl a2 a4 a6 b3 a1 y fun vs w N l Z=>?_;obtain⟨v,b4,rfl,W,a0⟩:=Z;obtain rfl:b4=[]:=a0;refine pK (W.kI G (y.go l).gl l.sub) fun o z m a3 b0 x I hn=>?_;subst m;refine call_meetsIn PySem.F.slot_dict_items x.typeIs PySem.F.entry_dict_items (PySem.F.args_dict_items_1 _) (meets_dict_items (PySem.strKind c.prog c.w) o b0) ⟨⟨z,x⟩,?_⟩;refine ah x.dictAt fun g C=>?_;have L:(w.heap.push {cls:= .type "dict_items",data:= .fields #[.ref o]}).objs.size=w.heap.objs.size+1:=Heap.size_push ..;have a7:o<w.heap.objs.size:=C.lt_size;refine wpAny_pyIter_items (knd:=PySem.strKind c.prog c.w) (s:={w with heap:=w.heap.push {cls:= .type "dict_items",data:= .fields #[.ref o]}}) ⟨_,Heap.get?_push_size _ rfl,rfl,rfl⟩ (C.push _) ?_;dsimp only;rw[L];have a8:o≠w.heap.objs.size+1:=Nat.ne_of_lt (Nat.lt_succ_of_lt a7);have F:=Heap.get?_push_size (w.heap.push {cls:= .type "dict_items",data:= .fields #[.ref o]}) (o:={cls:= .type "dict_itemiterator",data:= .fields #[.none,.bool false,.ref o,.int 0 0,.int z.length 0,.int g 0,.none,.none]}) rfl;rw[L]at F;refine bV (id C) fun o' b5 a9 J=>?_;have H:∀(i:Nat)(h:Heap),((∃M P,IsItemIter h (w.heap.objs.size+1) o i z.length g M P)∧h.DictAt (PySem.strKind c.prog c.w) o z g)→∀b∈[w.heap.objs.size+1],h.get? b≠none:=fun i h U=>ai U fun m J=>cP m fun M P q=>List.forall_mem_singleton.mpr (by rw[show h.get? _=_ from q];nofun);refine It.fin (A:=A) V l (y.go l).gl (fun o a1 a0=>Heap.get?_push_of_some _ (Heap.get?_push_of_some _ a0)) (h5:=[o]) (Bk (Nat.le_succ _))
  (fun R=>kg.kK N (fun A S=>tA (g:=PySem.strKind c.prog c.w) S (w.heap.objs.size+1) o a8 z g) ((List.length_map _).trans I.length.symm) (fun i d b7 x hp=>?_) R H) ⟨⟨_,_,F⟩,(C.push _).push _⟩ H (List.forall_mem_singleton.mpr ⟨_,a9,a3⟩) (Nat.le_refl _)
 refine jB hp fun n v b6 K a5 m=>?_;subst m;rw[List.getElem?_map,Option.map_eq_some_iff]at x;refine au x fun p a0 m=>?_;subst m;refine au (I.get a0) fun v' X b2=>?_;rw[X]at K;refine ai (Prod.mk.inj (Option.some.inj K)) fun m T=>?_;subst m;subst T;refine ah (Value.isStrOf_shape a5) fun t m=>?_;subst m;exact aF _ rfl (⟨_,_,rfl,⟨t,rfl⟩,_,_,rfl,b2,rfl⟩)
noncomputable def di(s₀:Shared)(f:FH)(env:Env)(h:Heap)(x:Str):Prop:=
 (env.kindOf x=some .local∧s₀.heap.get? env.locals=none∧f env.locals=none∧∃m,h.Ns env.locals m)∨
 (env.kindOf x=some .cell∧∃a,env.cells.lookup x=some a∧s₀.heap.get? a=none∧f a=none∧∃v,h.IsCell a v)
noncomputable def Place(env:Env)(x:Str)(a:Addr):Prop:=(env.kindOf x=some .local∧a=env.locals)∨(env.kindOf x=some .cell∧env.cells.lookup x=some a)
inductive Upd:bD→Str→D→bD→Prop
 |head {x:Str} {d:D} {o:Option D} {ρ:bD}:Upd ((x,o)::ρ) x d ((x,some d)::ρ)
 |tail {x y:Str} {d:D} {o:Option D} {ρ jj:bD}:Upd ρ x d jj→Upd ((y,o)::ρ) x d ((y,o)::jj)
theorem ar:∀(n:Nat){b:bD},b[n]? =some (x,m1)→Upd b x j (b.set n (x,some j)):=by
 intro n
 induction n with
 |zero=>intro b h;rcases b with _|⟨p,r⟩;exact nomatch h;exact Option.some.inj h▸ .head
 |succ n d=>intro b h;rcases b with _|⟨p,r⟩;exact nomatch h;exact .tail (d h)
inductive dk:bD→List (Str×D)→bD→Prop
 |nil {ρ:bD}:dk ρ [] ρ
 |cons {x:Str} {d:D} {ρ jj BW:bD} {r:List (Str×D)}:Upd ρ x d jj→dk jj r BW→dk ρ ((x,d)::r) BW
theorem Upd.keys(u:Upd r x j a6):a6.map (·.1)=r.map (·.1):=by
 induction u with
 |head=>rfl
 |tail _ h=>simp[h]
theorem Upd.has(u:Upd r x j a6):x∈r.map (·.1):=by
 induction u with
 |head=>simp
 |tail _ h=>exact List.mem_cons_of_mem _ h
theorem Upd.mem(u:Upd r x j a6)(b:(r.map (·.1)).Nodup):∀y e,(y,some e)∈a6→(y=x∧e=j)∨(y≠x∧(y,some e)∈r):=by
 induction u with
 |head=>
  intro y e h;refine memC h (fun q=>?_) fun q=>?_
  ·cases q;exact .inl ⟨rfl,rfl⟩
  ·refine .inr ⟨?_,List.mem_cons_of_mem _ q⟩;rintro rfl;rw[List.map_cons,List.nodup_cons]at b;exact b.1 (List.mem_map.mpr ⟨_,q,rfl⟩)
 | @tail x m j o r a6 u i=>
  rw[List.map_cons,List.nodup_cons]at b;intro y e h;refine memC h (fun q=>?_) fun q=>?_
  ·cases q;refine .inr ⟨?_,List.mem_cons_self⟩;rintro rfl;exact b.1 u.has
  ·refine ay (i b.2 y e q) (fun z=>?_) fun d=>ai d fun z k=>?_
   ·exact .inl z
   ·exact .inr ⟨z,List.mem_cons_of_mem _ k⟩
theorem dk.keys(a0:dk r u a6):a6.map (·.1)=r.map (·.1):=by
 induction a0 with
 |nil=>rfl
 |cons h _ b=>rw[b,h.keys]
theorem dk.split(a0:dk r (u++i1) a6):∃b,dk r u b∧dk b i1 a6:=by
 induction u generalizing r with
 |nil=>exact aF r .nil a0
 |cons p u i=>
  cases a0 with
  |cons h a0=>
   refine au (i a0) fun b d e=>?_;exact aF b (.cons h d) e
mutual
inductive eO:Expr→D→List (Str×D)→Prop
 |name {x:Str} {p:Pos} {d:D}:eO (.Name x p) d [(x,d)]
 |tup {ts:List Expr} {k:Nat} {p:Pos} {ds:List D} {b:List (Str×D)}:kh ts ds b→eO (.Tuple ts k p) (.tup ds) b
inductive kh:List Expr→List D→List (Str×D)→Prop
 |nil:kh [] [] []
 |cons {t:Expr} {ts:List Expr} {d:D} {ds:List D} {b b':List (Str×D)}:eO t d b→kh ts ds b'→kh (t::ts) (d::ds) (b++b')
end
theorem di.at(w:di s f q U x):∃a,Place q x a∧s.heap.get? a=none∧f a=none∧U.get? a≠none:=by
 refine ay w (fun i=>?_) fun j=>?_
 ·obtain⟨a,b,d,m,n⟩:=i;refine cX n fun o J J h J=>?_;exact lQ _ (.inl ⟨a,rfl⟩) b d (by rw[h];simp)
 ·obtain⟨a,b,e,d,g,v,n⟩:=j;refine au n fun o h J=>?_;exact lQ b (.inr ⟨a,e⟩) d g (by rw[h];simp)
theorem iB{m}(n:U.Ns v m)(q:U.IsCell v i8):False:=by
 refine jB n fun o j i e b J=>?_;refine au q fun k h d=>?_;rw[e]at h;obtain rfl:=Option.some.inj h;rw[b]at d;contradiction
theorem pP(o:bE q e)(t:∀n v,q.cells.lookup n=some v→∃a2,s.heap.IsCell v a2){m:Str→Option Value}(p:Place q x v)(u:a9≠x)(j:q.kindOf x=some .cell)(r:Reads s.heap q a9 C)(i:Heap)(k:Heap.SameBut v s.heap i):Reads i q a9 C:=by
 refine ay r (fun h=>?_) fun d=>?_
 ·obtain⟨a1,m,n,a0⟩:=h;refine .inl ⟨a1,m,n.sameBut k ?_,a0⟩;rintro rfl;refine ay p (fun h=>ai h fun p J=>?_) fun d=>ai d fun J p=>?_
  ·rw[j]at p;contradiction
  ·refine ah (t _ _ p) fun a2 w=>?_;exact iB n w
 ·obtain⟨a1,b,a0,n⟩:=d;refine .inr ⟨a1,b,a0,n.sameBut k ?_⟩;rintro rfl;refine ay p (fun h=>ai h fun p J=>?_) fun d=>ai d fun J p=>?_
  ·rw[j]at p;contradiction
  ·exact u (o.inj _ _ _ a0 p)
noncomputable def Cx.bare(c:Cx):Cx:={c with own:=fun J=>Option.none}
theorem Gl.bare(g:Gl c U):Gl c.bare U:=⟨g.g,g.b,g.lim,g.dig,g.K,g.kP,g.tab,fun J J e=>by contradiction⟩
theorem Go.cT(g:Go c f s G t):Go c.bare f s G t:=⟨g.keep,g.tab,g.aD,g.gens,g.bare,g.os,g.ext,g.old,g.sub,g.tk⟩
theorem Gl.Bl(g:Gl c.bare U)(h:∀a o,c.own a=some o→a≠c.P∧U.get? a=some o):Gl c U:=⟨g.g,g.b,g.lim,g.dig,g.K,g.kP,g.tab,h⟩
theorem Gl.turned(g:Gl c U)(h:Gl c.bare f5)(d:c.own v=none)(i:Heap.SameBut v U f5):Gl c f5:=
 h.Bl fun b o e=>⟨(g.own b o e).1,(i.2 b (by rintro rfl;rw[d]at e;contradiction)).trans (g.own b o e).2⟩
theorem yf(o:bE q e)(N:Gl c.bare t.heap)(a3:Go c G t f s)(y:St c f r q s)(w:di t f q s.heap x)(hv:Val c f j C)(u:Upd r x j a6)(hn:(r.map (·.1)).Nodup)(R:∀F a,Place q x a→(∀b,b≠a→F.heap.get? b=s.heap.get? b)→F.gens=s.gens→Go c G t f F→St c f a6 q F→(∀z,di t f q s.heap z→di t f q F.heap z)→c6 () F):
  wpAny (model c.prog c.w) A (storeName q x C) c6 E s:=by
 have hk:q.scope.kind= .function:=by rw[o.scope];exact o.kind
 refine ay w (fun d=>?_) fun i=>?_
 ·obtain⟨p,S,V,m,K⟩:=d;refine wpAny_storeName_local p K (fun v L h=>?_) (by rw[hk];rfl);have a4:q.locals≠c.P:=y.gl.ne_of_ns K;have k:Go c G t f {s with heap:=v,toks:=s.toks+1}:=a3.turn S V a4 h;have P:∀b w,s.heap.IsCell b w→v.IsCell b w:=fun b w B=>B.sameBut h (by rintro rfl;exact iB K B);refine R _ q.locals (.inl ⟨p,rfl⟩) h.2 rfl k ⟨y.gl.turned (k.cT.gl N) y.apart.1 h,k.sub,fun z a1 T=>?_,fun n b B=>ah (y.cells n b B) fun w a0=>⟨w,P b w a0⟩,⟨_,L⟩,y.apart,Nat.lt_succ_of_lt y.tk⟩ fun z Z=>?_
  ·refine ay (u.mem hn z a1 T) (fun d=>ai d fun i M=>?_) fun O=>ai O fun X U=>?_
   ·subst i;subst M;exact aF C (.inl ⟨p,_,L,by simp⟩) hv
   ·refine au (y.names z a1 U) fun W a2 Y=>?_;refine aF W ?_ Y;refine ay a2 (fun d=>?_) fun i=>?_
    ·obtain⟨a0,m2,n,a1⟩:=d;refine .inl ⟨a0,_,L,?_⟩;rw[if_neg X];rw[K.agree n z];exact a1
    ·obtain⟨a0,b,a1,n⟩:=i;exact .inr ⟨a0,b,a1,P b _ n⟩
  ·refine ay Z (fun d=>bQ d fun a0 J J J=>?_) fun i=>?_
   ·exact .inl ⟨a0,S,V,_,L⟩
   ·obtain⟨a0,b,a1,g,l,w,n⟩:=i;exact .inr ⟨a0,b,a1,g,l,w,P b w n⟩
 ·obtain⟨p,a,H,ha,a7,v0,I⟩:=i;refine wpAny_storeName_cell hk p H I fun v Q h=>?_;have a5:a≠c.P:=by
   refine au I fun ob ho hd=>?_;exact y.gl.dP ho fun ps a0=>by rw[a0]at hd;contradiction
  have k:Go c G t f {s with heap:=v,toks:=s.toks}:=a3.turn ha a7 a5 h;have k:Go c G t f {s with heap:=v}:=k;refine R _ a (.inr ⟨p,H⟩) h.2 rfl k ⟨y.gl.turned (k.cT.gl N) (y.apart.2 _ _ H) h,k.sub,fun z a1 T=>?_,fun n b B=>?_,ah y.here fun m n=>⟨m,n.sameBut h (by rintro rfl;exact iB n I)⟩,y.apart,y.tk⟩ fun z Z=>?_
  ·refine ay (u.mem hn z a1 T) (fun d=>ai d fun i M=>?_) fun O=>ai O fun X U=>?_
   ·subst i;subst M;exact aF C (.inr ⟨.inl p,a,H,Q⟩) hv
   ·refine au (y.names z a1 U) fun W a2 Y=>?_;exact aF W (pP (m:=fun J=>none) o y.cells (.inr ⟨p,H⟩) X p a2 v h) Y
  ·by_cases a0:b=a
   ·subst a0;exact⟨_,Q⟩
   ·refine ah (y.cells n b B) fun w hw=>?_;exact⟨w,hw.sameBut h a0⟩
  ·refine ay Z (fun d=>?_) fun i=>?_
   ·obtain⟨a0,g,l,m,n⟩:=d;exact .inl ⟨a0,g,l,m,n.sameBut h (by rintro rfl;exact iB n I)⟩
   ·obtain⟨a0,b,a1,g,l,w,n⟩:=i;by_cases qq:b=a
    ·subst qq;exact .inr ⟨a0,b,a1,g,l,_,Q⟩
    ·exact .inr ⟨a0,b,a1,g,l,w,n.sameBut h qq⟩
theorem kh.each(h:kh B l u):∀b,assignEach B b=B.map fun t=>(false,assign t b):=by
 refine kh.rec (motive_1:=fun t J J J=>∀(r:List Expr)(b:Env),assignEach (t::r) b=(false,assign t b)::assignEach r b) (motive_2:=fun B J J J=>∀b,assignEach B b=B.map fun t=>(false,assign t b)) ?_ ?_ ?_ ?_ h
 ·intro x p d r b;rfl
 ·intro B k p l u J J r b;rfl
 ·intro b;rfl
 ·intro t B d l u j J J e i b;rw[e _ _,i _];rfl
theorem kh.len(h:kh B l u):B.length=l.length:=by
 refine kh.rec (motive_1:=fun J J J J=>True) (motive_2:=fun B l J J=>B.length=l.length) ?_ ?_ ?_ ?_ h
 ·intros;trivial
 ·intros;trivial
 ·rfl
 ·intro t B d l u e J J J b;simp[b]
structure Ci(c:Cx)(f₀:FH)(s₀:Shared)(f:FH)(jj:bD)(env:Env)(bs:List (Str×D))(s s':Shared):Prop where
 go:Go c f₀ s₀ f s'
 st:St c f jj env s'
 own:∀z,di s₀ f env s.heap z→di s₀ f env s'.heap z
 rest:∀b o,(∀x∈bs.map (·.1),¬Place env x b)→s.heap.get? b=some o→s'.heap.get? b=some o
 gens:s'.gens=s.gens
 tk:s.toks≤s'.toks
theorem vg(hA:A.handled=none)(a2:bE q e)(g0:Gl c.bare s.heap)(h:eO o j u):
  ∀{d r:bD}{a0:Shared}{v:Value}{Q:Unit→Shared→Prop}{E:Value→Shared→Prop},Go c G s f a0→St c f d q a0→(∀x∈u.map (·.1),di s f q a0.heap x)→Val c f j v→dk d u r→(d.map (·.1)).Nodup→
   (∀i,Ci c G s f r q u a0 i→Q () i)→wpAny (model c.prog c.w) A (assign o q v) Q E a0:=by
 refine eO.rec (motive_1:=fun o j u J=>∀{d r:bD}{a0:Shared}{v:Value}{Q:Unit→Shared→Prop}{E:Value→Shared→Prop},Go c G s f a0→St c f d q a0→(∀x∈u.map (·.1),di s f q a0.heap x)→Val c f j v→dk d u r→(d.map (·.1)).Nodup→
   (∀i,Ci c G s f r q u a0 i→Q () i)→wpAny (model c.prog c.w) A (assign o q v) Q E a0)
  (motive_2:=fun W Z u J=>∀{d r:bD}{a0:Shared}{M:List Value}{Q:Unit→Shared→Prop}{E:Value→Shared→Prop},Go c G s f a0→St c f d q a0→(∀x∈u.map (·.1),di s f q a0.heap x)→Vals c f Z M→dk d u r→(d.map (·.1)).Nodup→
   (∀i,Ci c G s f r q u a0 i→Q () i)→wpAny (model c.prog c.w) A (assignInOrder (W.map fun t=>assign t q) M) Q E a0) ?_ ?_ ?_ ?_ h
 ·intro x p j d r a0 v Q E a4 y w F a3 C B;cases a3 with
  |cons a3 u'=>
   cases u';refine bM (wpAny_assign_Name (yf a2 g0 a4 y (w x (by simp)) F a3 C fun i a pl hb hg G' y' ow a6=>B i ⟨G',y',ow,fun b ob L a1=>?_,hg,a6⟩));rw[hb b (by rintro rfl;exact L x (by simp) pl)];exact a1
 ·intro W k p Z b Y ih d r a0 v Q E a4 y w F a3 C B;refine dp (F.isTup y.sub) fun a M O hT S=>?_;subst O;refine wpAny_assign_Tuple hA hT ?_ ?_ fun T g=>?_
  ·rw[Y.each _,List.length_map _,Y.len,←S.length];simp
  ·rw[Y.each _,List.findIdx?_eq_none_iff];intro z H;refine bZ H fun t J O=>?_;subst O;rfl
  ·rw[Y.each _,List.map_map];have P:∀b a2,a0.heap.get? b=some a2→T.get? b=some a2:=fun b a2 a1=>g b a2 (Nat.ne_of_lt (Heap.lt_size a1)) a1;have G1:Go c G s f {a0 with heap:=T}:=a4.heap (n:=a0.toks) P y.gl.cH;have g1:Go c f a0 f {a0 with heap:=T}:=y.refl.heap (n:=a0.toks) P y.gl.cH;have ow:∀z,di s f q a0.heap z→di s f q T z:=fun z H=>by
    refine ay H (fun O=>?_) fun J2=>?_
    ·obtain⟨a5,U,X,m,n⟩:=O;exact .inl ⟨a5,U,X,m,n.keeps P⟩
    ·obtain⟨a5,b,a1,U,X,w,n⟩:=J2;exact .inr ⟨a5,b,a1,U,X,w,n.keeps P⟩
   refine ih G1 (y.go g1) (fun x g=>ow x (w x g)) S a3 C fun i K=>B i ⟨K.go,K.st,fun z H=>K.own z (ow z H),fun b a2 L a1=>K.rest b a2 L (P b a2 a1),K.gens,K.tk⟩
 ·intro d r a0 M Q E a4 y w F a3 C B;obtain rfl:M=[]:=F;cases a3;exact assignInOrder_nil (B a0 ⟨a4,y,fun J h=>h,fun J J J a1=>a1,rfl,Nat.le_refl _⟩)
 ·intro t W j Z b b' U X a9 b0 d r a0 M Q E a4 y w F a3 C B;obtain⟨v,b1,rfl,a7,a8⟩:=F;refine au a3.split fun b2 V u2=>?_;refine assignInOrder_cons (a9 a4 y (fun x g=>w x (by rw[List.map_append];exact List.mem_append_left _ g)) a7 V C fun s1 l=>?_);refine b0 l.go l.st (fun x g=>l.own x (w x (by rw[List.map_append];exact List.mem_append_right _ g))) a8 u2 (by rw[V.keys];exact C) fun s2 I=>B s2 ?_;exact⟨I.go,I.st,fun z H=>I.own z (l.own z H),fun N R L a1=>I.rest N R (fun x g=>L x (by rw[List.map_append];exact List.mem_append_right _ g)) (l.rest N R (fun x g=>L x (by rw[List.map_append];exact List.mem_append_left _ g)) a1),I.gens.trans l.gens,Nat.le_trans l.tk I.tk⟩
structure bX where
 e:Expr
 gens:List Comprehension
 emit:Value→Env→Sem Unit
noncomputable def dx(elt:Expr)(gens:List Comprehension)(scope:Scope)(pos:Pos):bX:=
 ⟨.ListComp elt gens scope pos,gens,fun acc env=>do let _←call (.builtin "list.append") [acc,←eval elt env]⟩
noncomputable def gB(sh:bX)(depth:Nat)(it acc:Value)(env:Env)(g:Comprehension):Sem Fin:=do
 standAt g.iter.pos
 match←pyNext it with
 |none=>pure (.done .next)
 |some v=>
  letOwnedTupleGo g.target it v
  assign g.target env v
  let mut ok:=true
  for c in g.ifs do
   if ok then ok←isTrue c env (eval c env)
  if ok then
   match sh.gens[depth+1]? with
   |some g'=>
    let x←eval g'.iter env
    standAt g'.iter.pos
    let x←if g'.is_async !=0 then foldedIterable g'.iter x else foldedSetIterable g'.iter env x
    let _←runOwn (.compStart sh.e (depth+1) (←holding [x] (if g'.is_async !=0 then asyncIter x else pyIter x)) acc env) env
   |none=>sh.emit acc env
  again (.compLoop sh.e depth it acc env)
noncomputable def bX.vh(b:bX):Prop:=∀h e d env g,b.gens[h]? =some g→g.is_async=0→compTurn b.e h e d env=gB b h e d env g
theorem nP(d:Expr)(h:List Comprehension)(m:Scope)(k:Pos):(dx d h m k).vh:=fun b p n o g i e=>by
 have j:h[b]? =some g:=i;unfold compTurn gB dx;simp only[j,e];rfl
structure bX.Plain(sh:bX):Prop where
 turns:sh.vh
 loop:∀depth it acc env,(Code.compLoop sh.e depth it acc env).isFrame=false∧(Code.compLoop sh.e depth it acc env).weight=0∧(Code.compLoop sh.e depth it acc env).cUnits=0∧(Code.compLoop sh.e depth it acc env).quiet=true
 start:∀depth it acc env,(Code.compStart sh.e depth it acc env).isFrame=false∧(Code.compStart sh.e depth it acc env).weight=0∧(Code.compStart sh.e depth it acc env).cUnits=0
 clauses:clausesOf sh.e=sh.gens
theorem jk(h:Expr)(b:List Comprehension)(e:Scope)(d:Pos):(dx h b e d).Plain:=
 ⟨nP h b e d,fun J J J J=>⟨rfl,rfl,rfl,rfl⟩,fun J J J J=>⟨rfl,rfl,rfl⟩,rfl⟩
variable{d4:bX}
theorem iT{R:Result→Shared→Prop}(i:d4.Plain)(r:d4.gens[n]? =some b5)(p:b5.is_async=0)(h:wpAny (model c.prog c.w) A (gB d4 n C g6 q b5) (fun j b=>match j with| .done f=>R (.ok f) b| .again d=>d.quiet=true∧codeAny (model c.prog c.w) A d R b) (notedBy (model c.prog c.w) A q fun e b=>R (.error e) b) s):
  codeAny (model c.prog c.w) A (.compLoop d4.e n C g6 q) R s:=by
 refine bQ (i.loop n C g6 q) fun k m o J=>?_;refine codeAny_of_tree ?_;rw[Around.under_of_weight m o];refine(?_ :wpAny _ A (if(Code.compLoop d4.e n C g6 q).isFrame then(compTurn d4.e n C g6 q).onRaise (leaving q)else(compTurn d4.e n C g6 q).onRaise (fun x=>do noteFrame x q;theTreesLotGoes x)) _ _ s);rw[k,if_neg Bool.false_ne_true,i.turns n C g6 q b5 r p];exact wpAny_noted h
theorem iC{R:Result→Shared→Prop}(d:d4.Plain)(v:d4.gens[n]? =some b5)(t:b5.is_async=0)(m:codeAny (model c.prog c.w) A (.compLoop d4.e n C g6 q) R s)(h:wpAny (model c.prog c.w) A (pyIter C) (fun j b=>codeAny (model c.prog c.w) A (.compLoop d4.e n j g6 q) R b) (notedBy (model c.prog c.w) A q fun e b=>R (.error e) b) s):
  codeAny (model c.prog c.w) A (.compStart d4.e n C g6 q) R s:=by
 refine ba (d.start n C g6 q) fun o p r=>?_;refine codeAny_of_tree ?_;rw[Around.under_of_weight p r];refine(?_ :wpAny _ A (if(Code.compStart d4.e n C g6 q).isFrame then(compStart d4.e n C g6 q).onRaise (leaving q)else(compStart d4.e n C g6 q).onRaise (fun x=>do noteFrame x q;standAt theWindowsPlace)) _ _ s);rw[o,if_neg Bool.false_ne_true];have i:=fun C=>(d.loop n C g6 q).2.2.2;have u:(clausesOf d4.e)[n]? =some b5:=by rw[d.clauses];exact v
 refine wpAny_onRaise (wpAny_mono (E:=notedBy (model c.prog c.w) A q fun e b=>R (.error e) b) ?_ (fun J J a0=>a0) fun x b w=>wpAny_bind (wpAny_mono w (fun J J e=>wpAny_standAt e) fun J J e=>e));unfold compStart;rw[u];simp only[Option.elim,t];refine wpAny_bind (wpAny_askSetting ?_);refine(?_ :wpAny _ A (if(c.w.params.followText "comprehension-iter-twice")=true then _ else _) _ _ s);split
 ·exact wpAny_pure ⟨i _,m⟩
 ·exact wpAny_bind (wpAny_rule (wpAny_bind (wpAny_standAt (wpAny_bind (wpAny_mono h (fun j b k=>wpAny_pure ⟨i _,k⟩) fun J J e=>e)))))
inductive iD(c:Cx)(k:Nat)(sc:Scope)(ρ:bD):List Expr→Bool→Prop
 |nil:iD c k sc ρ [] true
 |one {e:Expr} {b:Bool}:br c k sc ρ e b→iD c k sc ρ [e] b
noncomputable def gZ(b:bD)(h:List (Str×D)):Prop:=∀x∈h.map (·.1),∀d,(x,some d)∉b
theorem Upd.ki(u:Upd r x j a6)(h:(a9,some a5)∈r)(b:a9≠x):(a9,some a5)∈a6:=by
 induction u with
 |head=>
  refine memC h (fun q=>?_) fun q=>?_
  ·cases q;exact absurd rfl b
  ·exact List.mem_cons_of_mem _ q
 |tail _ d=>
  refine memC h (fun q=>?_) fun q=>?_
  ·cases q;exact List.mem_cons_self
  ·exact List.mem_cons_of_mem _ (d q b)
theorem dk.ki(a0:dk r u a6)(h:(x,some j)∈r)(b:x∉u.map (·.1)):(x,some j)∈a6:=by
 induction a0 with
 |nil=>exact h
 |cons a0 _ d=>
  simp only[List.map_cons,List.mem_cons,not_or]at b;exact d (a0.ki h b.1) b.2
theorem dk.weaken(a0:dk r u a6)(b:gZ r u):∀y e,(y,some e)∈r→(y,some e)∈a6:=fun y e h=>
 a0.ki h fun d=>b y d e h
theorem St.weaken(x:St c f a6 q s)(h:∀y e,(y,some e)∈r→(y,some e)∈a6):St c f r q s:=⟨x.gl,x.sub,fun n d b=>x.names n d (h n d b),x.cells,x.here,x.apart,x.tk⟩
noncomputable def fJ(c:Cx)(f:FH)(h:Heap)(a:Addr):D→Prop
 | .list l=>∃d n,h.get? a=some {cls:= .type "list",data:= .seq d n}∧Vals c f l d.toList
 | .dict l=>∃b,h.DictOf (PySem.strKind c.prog c.w) a b∧bo c f l b∧(a==sysModules)=false
 |_=>False
theorem fJ.mono(x:fJ c f U v j)(h:∀v o,f v=some o→G v=some o)(b:∀o,U.get? v=some o→f5.get? v=some o):fJ c G f5 v j:=by
 cases j with
 |list l=>refine bV x fun p n e r=>?_;exact bj p n (b _ e) (r.mono h)
 |dict l=>refine bA x fun m d q z=>cX d fun o k i e r=>?_;exact fS m (⟨o,k,i,b _ e,r⟩) (q.mono h) z
 |_=>exact x.elim
theorem fJ.here(x:fJ c f U v j):U.get? v≠none:=by
 cases j with
 |list l=>refine bV x fun k n e r=>?_;rw[e];simp
 |dict l=>refine au x fun i h q=>cX h fun o d b e r=>?_;rw[e];simp
 |_=>exact x.elim
theorem fJ.freeze(x:fJ c G t.heap v j)(a0:Go c f s G t)(g:Gl c t.heap)(k:s.heap.get? v=none)(h:G v=none):
  ∃d,Go c f s d t∧Val c d j (.ref v)∧(∀b o,G b=some o→d b=some o)∧(∀b,b≠v→d b=G b):=by
 cases j with
 |list l=>
  refine bV x fun E n e r=>?_;exact lQ _ (a0.freeze g k h e (by nofun)) (⟨v,E,n,rfl,FH.aR ..,r.mono (FH.fm h)⟩) (FH.fm h) (fun b i=>FH.dh i)
 |dict l=>
  refine bA x fun C p q z=>pL p fun o w u e m y a B A=>?_;exact lQ _ (a0.freeze g k h e (by rw[m.1];nofun)) (⟨v,o,w,u,C,rfl,FH.aR ..,m,y,a,B,A,q.mono (FH.fm h),z⟩) (FH.fm h) (fun b i=>FH.dh i)
 |_=>exact x.elim
noncomputable def jg(c:Cx)(k:Nat)(j:Scope)(m:bX)(n:bD)(e i:D):Prop:=
 ∀(A:Around)(env:Env)(f:FH)(s:Shared)(h:Addr)(Q:Unit→Shared→Prop)(E:Value→Shared→Prop),bJ k A→bE env j→St c f n env s→fJ c f s.heap h e→f h=none→
  (∀b d,dY c (· =h) f s d b→fJ c d b.heap h i→Q () b)→wpAny (model c.prog c.w) A (m.emit (.ref h) env) Q E s
mutual
inductive bN(c:Cx)(k:Nat)(sc:Scope)(sh:bX):Nat→Comprehension→bD→List D→D→D→Prop
 |done {n:Nat} {g:Comprehension} {ρ:bD} {d0:D}:bN c k sc sh n g ρ [] d0 d0
 |yes {n:Nat} {g:Comprehension} {ρ jj:bD} {d:D} {ds:List D} {bs:List (Str×D)} {d0 d1 d2:D}:eO g.target d bs→gZ ρ bs→dk ρ bs jj→iD c k sc jj g.ifs true→r8 c k sc sh n jj d0 d1→bN c k sc sh n g ρ ds d1 d2→
   bN c k sc sh n g ρ (d::ds) d0 d2
 |no {n:Nat} {g:Comprehension} {ρ jj:bD} {d:D} {ds:List D} {bs:List (Str×D)} {d0 d2:D}:eO g.target d bs→gZ ρ bs→dk ρ bs jj→iD c k sc jj g.ifs false→bN c k sc sh n g ρ ds d0 d2→
   bN c k sc sh n g ρ (d::ds) d0 d2
inductive r8(c:Cx)(k:Nat)(sc:Scope)(sh:bX):Nat→bD→D→D→Prop
 |emit {n:Nat} {ρ:bD} {d0 d1:D}:sh.gens[n+1]? =none→jg c k sc sh ρ d0 d1→r8 c k sc sh n ρ d0 d1
 |deeper {n:Nat} {ρ:bD} {g:Comprehension} {ds:List D} {d0 d1:D}:sh.gens[n+1]? =some g→aO c k sc ρ g.iter g.target ds→bN c k sc sh (n+1) g ρ ds d0 d1→r8 c k sc sh n ρ d0 d1
end
noncomputable def Zp(env:Env)(h:Addr)(b:List Str)(a:Addr):Prop:=a=h∨∃x∈b,Place env x a
theorem St.px{X:Addr→Prop}(x:St c f r q s)(g:GoX c X g0 f s G t)(p:∀a,X a→a≠q.locals∧∀n b,q.cells.lookup n=some b→a≠b)(gl:Gl c t.heap):St c G r q t where
 gl:=gl
 sub:=g.sub
 names:=fun n d l=>by
  refine au (x.names n d l) fun v a1 A=>?_;refine aF v ?_ (A.mono g.ext);refine ay a1 (fun y=>?_) fun z=>?_
  ·obtain⟨a,m,u,e⟩:=y;refine cX (id u) fun o k j h w=>?_;exact .inl ⟨a,m,⟨o,k,j,g.keep _ _ (fun a0=>(p _ a0).1 rfl) (x.gl.ne_of_ns u) h,w⟩,e⟩
  ·obtain⟨a,b,e,u⟩:=z;refine au (id u) fun o h i=>?_;exact .inr ⟨a,b,e,o,g.keep _ _ (fun a0=>(p _ a0).2 _ _ e rfl) (x.gl.dP h fun B a0=>by rw[a0]at i;contradiction) h,i⟩
 apart:=x.apart
 tk:=Nat.lt_of_lt_of_le x.tk g.tk
 here:=jC x.here fun m o k j h w=>⟨m,o,k,j,g.keep _ _ (fun a0=>(p _ a0).1 rfl) (x.gl.ne_of_ns ⟨o,k,j,h,w⟩) h,w⟩
 cells:=fun n b e=>by
  refine bV (x.cells n b e) fun v o h i=>?_;exact bj v o (g.keep _ _ (fun a0=>(p _ a0).2 _ _ e rfl) (x.gl.dP h fun B a0=>by rw[a0]at i;contradiction) h) i
theorem di.px{X:Addr→Prop}(w:di s f q t.heap x)(j:Gl c t.heap)(g:GoX c X g0 f t G c5)(k:∀a,X a→a≠q.locals∧∀n b,q.cells.lookup n=some b→a≠b):di s G q c5.heap x:=by
 refine ay w (fun r=>?_) fun u=>?_
 ·obtain⟨a0,d,i,m,n⟩:=r;refine cX (id n) fun o y v h z=>?_;refine .inl ⟨a0,d,(g.old _ (by rw[h];simp)).trans i,m,⟨o,y,v,g.keep _ _ (fun a0=>(k _ a0).1 rfl) (j.ne_of_ns n) h,z⟩⟩
 ·obtain⟨a0,b,e,d,i,w,n⟩:=u;refine au (id n) fun o h p=>?_;exact .inr ⟨a0,b,e,d,(g.old _ (by rw[h];simp)).trans i,w,o,g.keep _ _ (fun a0=>(k _ a0).2 _ _ e rfl) (j.dP h fun l a0=>by rw[a0]at p;contradiction) h,p⟩
structure zV(c:Cx)(sc:Scope)(sh:bX)(A:Around)(env:Env)(s₀:Shared)(xO:Addr)(jl:List Str)(k:Nat):Prop where
 room:bJ k A
 ok:bE env sc
 gl:Gl c s₀.heap
 d0:s₀.heap.get? xO=none
 CH:c.own xO=none
 dl:xO≠env.locals
 dc:∀n b,env.cells.lookup n=some b→xO≠b
 sync:∀g∈sh.gens,g.is_async=0∧∀x,foldedSetIterable g.iter env x=pure x
noncomputable def P1(c:Cx)(k:Nat)(v:Scope)(m:bX)(n:Nat)(g:Comprehension)(p:bD)(u:List D)(r t:D):Prop:=
 ∀{A:Around}{env:Env}{s₀:Shared}{f₀:FH}{sx:Shared}{fx f:FH}{s:Shared}{h I:Addr}{o:List Addr}{X:Addr→Prop}{Y:Nat→Prop}{T:Nat→FH→Shared→Prop}{e:List Str}{pre:List D}{R:Result→Shared→Prop},
  zV c v m A env s₀ h e k→(∀g∈m.gens,∀d q,eO g.target d q→∀x∈q.map (·.1),x∈e)→(p.map (·.1)).Nodup→m.gens[n]? =some g→Go c f₀ s₀ fx sx→dY c (Zp env h e) fx sx f s→St c f p env s→fJ c f s.heap h r→f h=none→
  (∀x∈e,di s₀ f env s.heap x)→kg c k I g.target o X Y (pre++u) T→T pre.length f s→
  (∀a,X a→sx.heap.get? a=none∧a∈o∧a≠env.locals∧∀n b,env.cells.lookup n=some b→a≠b)→(∀a∈o,a≠c.P∧s.heap.get? a≠none∧¬Zp env h e a)→(∀g,Y g→sx.gens.size≤g∧g<s.gens.size)→
  (∀j i,dY c (Zp env h e) fx sx i j→St c i p env j→fJ c i j.heap h t→i h=none→(∀z∈e,di s₀ i env j.heap z)→R (.ok .next) j)→
  codeAny (model c.prog c.w) A (.compLoop m.e n (.ref I) (.ref h) env) R s
noncomputable def jm(sh:bX)(n:Nat)(acc:Value)(env:Env):Sem Unit:=
 match sh.gens[n+1]? with
 |some g'=>do
  let x←eval g'.iter env
  standAt g'.iter.pos
  let x←if g'.is_async !=0 then foldedIterable g'.iter x else foldedSetIterable g'.iter env x
  let _←runOwn (.compStart sh.e (n+1) (←holding [x] (if g'.is_async !=0 then asyncIter x else pyIter x)) acc env) env
 |none=>sh.emit acc env
noncomputable def P2(c:Cx)(k:Nat)(r:Scope)(j:bX)(n:Nat)(m:bD)(p q:D):Prop:=
 ∀{A:Around}{env:Env}{s₀:Shared}{f₀ f:FH}{s:Shared}{h:Addr}{e:List Str}{Q:Unit→Shared→Prop}{E:Value→Shared→Prop},
  zV c r j A env s₀ h e k→(∀g∈j.gens,∀d o,eO g.target d o→∀x∈o.map (·.1),x∈e)→(m.map (·.1)).Nodup→Go c f₀ s₀ f s→St c f m env s→fJ c f s.heap h p→f h=none→(∀x∈e,di s₀ f env s.heap x)→
  (∀i b,dY c (Zp env h e) f s b i→St c b m env i→fJ c b i.heap h q→b h=none→(∀z∈e,di s₀ b env i.heap z)→Q () i)→
  wpAny (model c.prog c.w) A (jm j n (.ref h) env) Q E s
theorem iD.ok(t:iD c n e r B Q){a1:Bool→Shared→Prop}(a0:bJ n A)(o:bE q e)(y:St c f r q s)(b:∀d i,Go c f s i d→a1 Q d):wpAny (model c.prog c.w) A (forIn B true fun c a0=>if a0=true then do let j←isTrue c q (eval c q);pure (ForInStep.yield j)else pure (ForInStep.yield a0)) a1 E s:=by
 cases t with
 |nil=>exact wpAny_tests_nil (b s f y.refl)
 |one h=>exact wpAny_tests_one (h A q f s a1 E a0 o y b)
theorem lH(i:bX)(n:Nat)(d j:Value)(b:Env)(g:Comprehension):gB i n d j b g=(do
  standAt g.iter.pos
  match←pyNext d with
  |none=>pure (.done .next)
  |some v=>
   letOwnedTupleGo g.target d v
   assign g.target b v
   let e←forIn g.ifs true fun c r=>if r=true then do let e←isTrue c b (eval c b);pure (ForInStep.yield e)else pure (ForInStep.yield r)
   if e then
    jm i n j b
    again (.compLoop i.e n d j b)
   else again (.compLoop i.e n d j b)):=by
 unfold gB jm;refine congrArg (Sem.bind (standAt g.iter.pos)) (funext fun J=>congrArg (Sem.bind (pyNext d)) (funext fun r=>?_));rcases r with _|v
 ·rfl
 ·
  refine congrArg (Sem.bind (letOwnedTupleGo g.target d v)) (funext fun J=>congrArg (Sem.bind (assign g.target b v)) (funext fun J=>congrArg (Sem.bind (forIn g.ifs true _)) (funext fun e=>?_)));rcases e with _|_
  ·rfl
  ·
   simp only[if_true];rcases i.gens[n+1]? with _|k
   ·rfl
   ·
    by_cases h:(k.is_async !=0)=true
    ·simp only[h,if_true,bind_assoc,pure_bind]
    ·simp only[h,if_false,bind_assoc,pure_bind,Bool.false_eq_true]
theorem nQ(o:s.heap.get? v=none)(ow:∀x∈p,di s f q U x):∀a,Zp q v p a→s.heap.get? a=none:=by
 rintro a (rfl|⟨x,r,m⟩)
 ·exact o
 ·refine ay (ow x r) (fun h=>ba h fun a0 i J=>?_) fun d=>?_
  ·refine ay m (fun h=>ai h fun J d=>?_) fun n=>ai n fun j J=>?_
   ·subst d;exact i
   ·rw[a0]at j;contradiction
  ·obtain⟨a0,b,e,i,_⟩:=d;refine ay m (fun h=>ai h fun j J=>?_) fun d=>ai d fun J k=>?_
   ·rw[a0]at j;contradiction
   ·rw[e]at k;cases k;exact i
theorem tB(S:d4.Plain):P1 c n e d4 k b5 r [] j j:=by
 intro A w a5 a1 V C f s u I fp X Y T N a3 R b a2 hn p l B y ow M g W t m O K G;have P:=(b.sync b5 (List.mem_of_getElem? p)).1;refine iT S p P ?_;rw[lH];have L:=W.done A f s (notedBy (model c.prog c.w) A w fun a0 i=>R (.error a0) i) b.room (by rw[List.append_nil _];exact t) y.gl y.sub y.tk;refine wpAny_bind (wpAny_standAt (wpAny_bind (wpAny_mono L (fun a4 i⟨U,x,d⟩=>?_) fun J J a0=>a0)));subst U;have v:dY c (Zp w u N) C V x i:=B.step d (fun a h=>(m a h).1) fun b5 p=>(K b5 p).1;have H:∀a,X a→a≠u:=fun a h a0=>(O a (m a h).2.1).2.2 (.inl a0);have F:u≠c.P:=fun a0=>by refine ah b.gl.cH fun o Q=>?_;rw[←a0,b.d0]at Q;contradiction
 have E:Gl c i.heap:=(l.r4 v (nQ b.d0 g)).gl b.gl;refine wpAny_pure (G i x v (y.px d (fun a h=>(m a h).2.2) E) (ow.mono d.ext fun o a0=>d.keep _ _ (fun q=>H _ q rfl) F a0) ((d.old _ ow.here).trans M) fun z Z=>(g z Z).px y.gl d fun a h=>(m a h).2.2)
theorem tC(pl:d4.Plain)(g:eO b5.target j u)(d2:gZ r u)(hu:dk r u a6)(ht:iD c n e a6 b5.ifs e3)(c9:e3=true→∃P,P2 c n e d4 k a6 a5 P∧P1 c n e d4 k b5 r l P i7)(d7:e3=false→P1 c n e d4 k b5 r l a5 i7):P1 c n e d4 k b5 r (j::l) a5 i7:=by
 intro A b a1 b2 sx fx f s d I fp X Y T G a9 R w a7 hn V G0 Z0 y ow d0 c0 it t S N hY hR;have d3:=(w.sync b5 (List.mem_of_getElem? V)).1;refine iT pl V d3 ?_;rw[lH];have hi:=it.item A a9.length f s j (notedBy (model c.prog c.w) A b fun a0 s'=>R (.error a0) s') w.room (by simp) t y.gl y.sub y.tk;refine wpAny_bind (wpAny_standAt (wpAny_bind (wpAny_mono hi (fun e2 s1 J9=>au J9 fun v hr d5=>?_) fun J J a0=>a0)));subst hr;refine wpAny_bind (wpAny_mono d5 (fun J m J9=>bA J9 fun F K hv t2=>?_) fun J J a0=>a0);have b6:=nQ w.d0 c0;have Z2:dY c (Zp b d G) fx sx F m:=Z0.step K (fun a g=>(S a g).1) fun b5 V=>(hY b5 V).1;have G2:Go c b2 a1 F m:=G0.r4 Z2 b6;have b3:Gl c m.heap:=G2.gl w.gl;have y2:St c F r b m:=y.px K (fun a g=>(S a g).2.2) b3;have c7:∀a,X a→a≠d:=fun a g a0=>(N a (S a g).2.1).2.2 (.inl a0);have b4:d≠c.P:=fun a0=>by refine ah w.gl.cH fun o ho=>?_;rw[←a0,w.d0]at ho;contradiction
 have e0:fJ c F m.heap d a5:=ow.mono K.ext fun o a0=>K.keep _ _ (fun q=>c7 _ q rfl) b4 a0;have d1:F d=none:=(K.old _ ow.here).trans d0;have c1:∀x∈G,di a1 F b m.heap x:=fun z hz=>(c0 z hz).px y.gl K fun a g=>(S a g).2.2;have c5:∀a∈fp,m.heap.get? a≠none:=fun a M=>by
  by_cases q:X a
  ·exact it.live _ _ _ t2 a q
  ·refine ba (N a M) fun h1 W J=>?_;rcases a0:s.heap.get? a with _|o
   ·exact absurd a0 W
   ·rw[K.keep a o q h1 a0];simp
 have a3:∀x∈u.map (·.1),x∈G:=a7 b5 (List.mem_of_getElem? V) j u g;refine wpAny_bind (vg w.room.handled w.ok w.gl.bare g G2 y2 (fun x C=>c1 x (a3 x C)) hv hu hn fun s3 p=>?_);refine wpAny_bind (ht.ok w.room w.ok p.st fun Z U L=>?_);have G4:Go c b2 a1 U Z:=p.go.trans L;have y4:St c U a6 b Z:=p.st.go L;have D3:fJ c F s3.heap d a5:=e0.mono (fun J J a0=>a0) fun o a0=>p.rest _ o (fun x C O=>by
  refine ay O (fun J1=>ai J1 fun J q=>?_) fun J2=>ai J2 fun J q=>?_
  ·exact w.dl q
  ·exact w.dc _ _ q rfl) a0
 have D4:fJ c U Z.heap d a5:=D3.mono L.ext fun o a0=>L.keep _ _ b4 a0;have b7:U d=none:=(L.old _ D3.here).trans d1;have c2:∀x∈G,di a1 F b s3.heap x:=fun x C=>p.own x (c1 x C);have c3:∀x∈G,di a1 U b Z.heap x:=fun x C=>(c2 x C).px p.st.gl (L.toX (X:=fun J=>False)) fun J h=>h.elim;have c8:∀a,m.heap.get? a≠none→s3.heap.get? a≠none:=fun a h=>by
  by_cases q:∃x∈u.map (·.1),Place b x a
  ·refine au q fun x C O=>?_;refine nH ((c2 x (a3 x C)).at) fun a' p' J J h'=>?_;have:a'=a:=by
    focus(refine ay O (fun J1=>ai J1 fun q1 J2=>?_) fun J3=>ai J3 fun q1 q2=>?_;all_goals first|subst J2|skip)<;>focus(refine ay p' (fun J1=>ai J1 fun q3 J2=>?_) fun J3=>ai J3 fun q3 q4=>?_;all_goals first|subst J2|skip)
    ·rfl
    ·rw[q1]at q3;contradiction
    ·rw[q1]at q3;contradiction
    ·rw[q2]at q4;exact(Option.some.inj q4).symm
   rw[←this];exact h'
  ·rcases a0:m.heap.get? a with _|o
   ·exact absurd a0 h
   ·rw[p.rest a o (fun x C O=>q ⟨x,C,O⟩) a0];simp
 have b0:dY c (Zp b d G) F m F s3:=
  ⟨⟨fun a o hz hp a0=>p.rest a o (fun x C O=>hz (.inr ⟨x,a3 x C,O⟩)) a0,
   .inl (by
    refine ah b3.cH fun o ho=>?_;rw[ho];refine p.rest _ o (fun x C O=>?_) ho;have:=b6 c.P (.inr ⟨x,a3 x C,O⟩);refine ah w.gl.cH fun o' d8=>?_;rw[d8]at this;contradiction),
   by rw[p.gens];exact Nat.le_refl _,fun i h J=>by rw[p.gens],fun i z h a0=>by
    refine ay h (fun h=>?_) fun h=>?_
    ·rw[p.gens,Array.getElem?_eq_none h]at a0;contradiction
    ·exact h.elim,
   by rw[p.go.os,G2.os],fun J J a0=>a0,fun J J=>rfl,p.st.sub,p.tk⟩,c8⟩
 have Z4:dY c (Zp b d G) fx sx U Z:=(Z2.trans b0).trans L.toZ;have e1:∀b5,Y b5→Z.gens[b5]? =m.gens[b5]? :=fun q hq=>by
  have:q<m.gens.size:=Nat.lt_of_lt_of_le (hY q hq).2 K.aD;rw[L.gens q (by rw[p.gens];exact this),p.gens]
 have nX:∀a,X a→¬Zp b d G a:=fun a g=>(N a (S a g).2.1).2.2;have d6:(a6.map (·.1)).Nodup:=by rw[hu.keys];exact hn
 have b1:∀B H P,dY c (Zp b d G) U Z H B→St c H a6 b B→fJ c H B.heap d P→H d=none→(∀z∈G,di a1 H b B.heap z)→P1 c n e d4 k b5 r l P i7→codeAny (model c.prog c.w) A (.compLoop d4.e k (.ref I) (.ref d) b) R B:=by
  intro B H P z5 y5 D5 a4 a8 d9;have ZZ:dY c (Zp b d G) fx sx H B:=Z4.trans z5;have a2:dY c (Zp b d G) F m H B:=(b0.trans L.toZ).trans z5;have c4:∀a,X a→H a=F a:=fun a g=>a2.old a (it.live _ _ _ t2 a g);have b9:∀a∈fp,∀o,m.heap.get? a=some o→B.heap.get? a=some o:=fun a M o a0=>a2.keep a o (N a M).2.2 (N a M).1 a0;have c6:∀q,Y q→B.gens[q]? =m.gens[q]? :=fun q hq=>by
   have W:q<m.gens.size:=Nat.lt_of_lt_of_le (hY q hq).2 K.aD;rw[a2.gens q W id]
  refine d9 (pre:=a9++[j]) w a7 hn V G0 ZZ (y5.weaken (hu.weaken d2)) D5 a4 a8 (by rw[List.append_assoc _ _ _];exact it) ?_ (fun a g=>S a g) ?_ ?_ hR
  ·rw[List.length_append];exact it.keep _ _ _ _ _ t2 a2.ext c4 b9 c6
  ·intro a M;refine bx ((N a M).1) ?_ ((N a M).2.2);rcases a0:m.heap.get? a with _|o
   ·exact absurd a0 (c5 a M)
   ·rw[b9 a M o a0];simp
  ·intro q hq;have W:q<m.gens.size:=Nat.lt_of_lt_of_le (hY q hq).2 K.aD;exact⟨(hY q hq).1,Nat.lt_of_lt_of_le W a2.aD⟩
 rcases e3 with _|_
 ·exact wpAny_pure ⟨(pl.loop _ _ _ _).2.2.2,(b1 Z U a5 (dY.refl y4.sub) y4 D4 b7 c3 (d7 rfl))⟩
 ·
  refine au (c9 rfl) fun P W h1=>?_;refine wpAny_bind (wpAny_mono (W w a7 d6 G4 y4 D4 b7 c3 (Q:=fun J B=>codeAny (model c.prog c.w) A (.compLoop d4.e k (.ref I) (.ref d) b) R B) (E:=notedBy (model c.prog c.w) A b fun a0 s'=>R (.error a0) s') fun B H z5 y5 D5 a4 a8=>b1 B H P z5 y5 D5 a4 a8 h1) (fun J B h=>?_) fun J J a0=>a0);exact wpAny_pure ⟨(pl.loop _ _ _ _).2.2.2,h⟩
theorem vi(g:d4.gens[k+1]? =none)(w:jg c n e d4 r j a5):P2 c n e d4 k r j a5:=by
 intro A d J C f s i I Q E h H F G y ow p B v;unfold jm;rw[g];refine w A d f s i Q E h.room h.ok y ow p fun q t z o=>?_;have m:∀a,a=i→a≠d.locals∧∀k b,d.cells.lookup k=some b→a≠b:=fun a a0=>by subst a0;exact⟨h.dl,h.dc⟩
 have u:Gl c q.heap:=(G.r4 z fun a a0=>by subst a0;exact h.d0).gl h.gl;exact v q t (z.mono fun a a0=> .inl a0) (y.px z.toGoX m u) o ((z.old _ ow.here).trans p) fun x l=>(B x l).px y.gl z.toGoX m
theorem r9(L:d4.Plain)(U:d4.gens[k+1]? =some b5)(hi:aO c n e r b5.iter b5.target l)(hl:P1 c n e d4 (k+1) b5 r l j a5):P2 c n e d4 k r j a5:=by
 intro A d b7 b9 f s K S Q E u b1 hn G y ow a1 V hQ;refine ai (u.sync b5 (List.mem_of_getElem? U)) fun a2 b0=>?_;unfold jm;rw[U];have a6:(b5.is_async !=0)=false:=by rw[a2];rfl
 simp only[a6,Bool.false_eq_true,if_false];refine wpAny_bind (wpAny_mono (hi A d f s (fun b2 C=>wpAny (model c.prog c.w) A (do let _←runOwn (.compStart d4.e (k+1) b2 (.ref K) d) d;pure ()) Q E C) E u.room u.ok y ?_) (fun x s1 h=>?_) fun J J a0=>a0)
 rotate_left
 ·refine wpAny_bind (wpAny_standAt ?_);rw[b0 x,pure_bind _ _];exact wpAny_bind (wpAny_holding h)
 intro I C O fp X Y T F it t M hY a8;refine wpAny_bind (wpAny_runOwn (A:=A) (h:=none) ?_);rw[Around.mark_none _];have c0:=nQ u.d0 V;have y':St c O r d C:=y.go F;have a3:K≠c.P:=fun a0=>by refine ah u.gl.cH fun o B=>?_;rw[←a0,u.d0]at B;contradiction
 have D':fJ c O C.heap K j:=ow.mono F.ext fun o a0=>F.keep _ _ a3 a0;have a7:O K=none:=(F.old _ ow.here).trans a1;have b4:∀x∈S,di b7 O d C.heap x:=fun x Z=>(V x Z).px y.gl (F.toX (X:=fun J=>False)) fun J h=>h.elim;have b3:∀a,Zp d K S a→s.heap.get? a≠none∧f a=none:=by
  rintro a (rfl|⟨x,Z,L⟩)
  ·exact⟨ow.here,a1⟩
  ·refine ay (V x Z) (fun i=>?_) fun p=>?_
   ·obtain⟨q,N,H,m,o,es,ep,B,_⟩:=i;refine ay L (fun i=>ai i fun J p=>?_) fun W=>ai W fun q' J=>?_
    ·subst p;exact⟨by rw[B];simp,H⟩
    ·rw[q]at q';contradiction
   ·obtain⟨q,b,a0,N,H,w,o,B,hd⟩:=p;refine ay L (fun i=>ai i fun q' J=>?_) fun p=>ai p fun J e'=>?_
    ·rw[q]at q';contradiction
    ·rw[a0]at e';obtain rfl:=Option.some.inj e';exact⟨by rw[B];simp,H⟩
 have a9:∀a∈fp,a≠c.P∧C.heap.get? a≠none∧¬Zp d K S a:=fun a hm=>by
  refine ba (a8 a hm) fun N H g=>?_;refine bx N H (fun z=>?_);refine ai (b3 a z) fun z1 z2=>?_;refine gu g (fun g=>?_) (fun g=>?_) fun g=>?_
  ·exact g ((F.old _ z1).trans z2)
  ·refine ay z (fun i=>?_) fun p=>au p fun x Z L=>?_
   ·subst i;exact g u.CH
   ·refine ay L (fun i=>ai i fun J p=>?_) fun W=>ai W fun J a0=>?_
    ·subst p;exact g y.apart.1
    ·exact g (y.apart.2 _ _ a0)
  ·exact z1 (M a g).1
 have a4:∀a,X a→s.heap.get? a=none∧a∈fp∧a≠d.locals∧∀k b,d.cells.lookup k=some b→a≠b:=fun a P=>by
  refine cp ((M a P).1) ((M a P).2.2) ?_ ?_
  ·intro a0;refine jC y.here fun m o es ep B J=>?_;rw[←a0,(M a P).1]at B;contradiction
  ·intro k b a0 q;refine bV (y.cells k b a0) fun v o B J=>?_;rw[←q,(M a P).1]at B;contradiction
 have lp:=hl (R:=fun b6 C=>match b6 with| .ok f=>wpAny (model c.prog c.w) A (pure ()) Q E C| .error a0=>cameBackBy (model c.prog c.w) A d E a0 C) (pre:=[]) u b1 hn U G F.toZ y' D' a7 b4 it t a4 a9 hY (fun s2 f2 z2 y2 o2 H w2=>wpAny_pure (hQ s2 f2 z2 y2 o2 H w2));exact iC L U a2 lp (it.self _ _ _ _ _ _ u.room t lp)
theorem bN.walk(i:d4.Plain)(h:bN c n e d4 k b5 r l j a5):P1 c n e d4 k b5 r l j a5:=by
 refine bN.rec (motive_1:=fun k b5 r l j a5 J=>P1 c n e d4 k b5 r l j a5) (motive_2:=fun k r j a5 J=>P2 c n e d4 k r j a5) ?_ ?_ ?_ ?_ ?_ h
 ·intro k b5 r j;exact tB i
 ·intro k b5 r y d l t j a5 u m o s q J J v b;exact tC i m o s q (fun J=>⟨a5,v,b⟩) (by nofun)
 ·intro k b5 r y d l t j u m o s q J b;exact tC i m o s q (by nofun) (fun J=>b)
 ·intro k r j a5 p w;exact vi p w
 ·intro k r b5 l j a5 p x J b;exact r9 i p x b
noncomputable def el(b:List (Str×Addr)):List (Str×NameKind)→List (Str×Addr)→List (Str×Addr)
 | [],h=>h
 |(n,k)::r,h=>if k== .free then el b r ((n,(b.lookup n).getD 0)::h)else el b r h
theorem kj{h:List (Str×Addr)}{r:List (Str×NameKind)}:el f4 ((x,l7)::r) h=if l7== .free then el f4 r ((x,(f4.lookup x).getD 0)::h)else el f4 r h:=rfl
theorem pQ(h:∀n,(n,NameKind.free)∈e.names→∃a,q.cells.lookup n=some a):closureFor e q=pure (el q.cells e.names []):=by
 unfold closureFor
 suffices H:∀(b:List (Str×NameKind))(d:List (Str×Addr)),(∀n,(n,NameKind.free)∈b→∃a,q.cells.lookup n=some a)→
   (forIn b d fun x i=>(if x.2==NameKind.free then do let a←cellOf q x.1;pure (ForInStep.yield ((x.1,a)::i))else pure (ForInStep.yield i):Sem (ForInStep (List (Str×Addr)))))=pure (el q.cells b d)by
  have:=H e.names [] h;simpa using congrArg (fun m=>m>>=fun i=>(pure i:Sem (List (Str×Addr)))) this
 intro b
 induction b with
 |nil=>intro d J;rfl
 |cons p r u=>
  obtain⟨n,k⟩:=p;intro d s;rw[List.forIn_cons];rw[kj];by_cases j:(k==NameKind.free)=true
  ·refine ah (s n (by rw[eq_of_beq j];exact List.mem_cons_self)) fun a t=>?_;have v:cellOf q n=pure a:=by unfold cellOf;rw[t]
   simp only[j,if_true,v,pure_bind,t,Option.getD_some];exact u _ fun m o=>s m (List.mem_cons_of_mem _ o)
  ·simp only[j,if_false,pure_bind,Bool.false_eq_true];exact u _ fun m o=>s m (List.mem_cons_of_mem _ o)
theorem pR:∀{j:List (Str×NameKind)}{b:List (Str×Addr)}{n:Str}{a:Addr},(n,a)∈el f4 j b→(n,a)∈b∨((n,NameKind.free)∈j∧a=(f4.lookup n).getD 0):=by
 intro L
 induction L with
 |nil=>
  intro b n a h;exact .inl h
 |cons p r i=>
  obtain⟨m,k⟩:=p;intro b n a h;rw[kj]at h;split at h
  ·rename_i o;refine ay (i h) (fun q=>?_) fun d=>ai d fun q e=>?_
   ·refine memC q (fun q=>?_) fun q=>?_
    ·cases q;exact .inr ⟨by rw[eq_of_beq o];exact List.mem_cons_self,rfl⟩
    ·exact .inl q
   ·exact .inr ⟨List.mem_cons_of_mem _ q,e⟩
  ·refine ay (i h) (fun q=>?_) fun d=>ai d fun q e=>?_
   ·exact .inl q
   ·exact .inr ⟨List.mem_cons_of_mem _ q,e⟩
theorem vj:∀{e:List (Str×NameKind)}{b:List (Str×Addr)}{p:Str×Addr},p∈b→p∈el f4 e b:=by
 intro L
 induction L with
 |nil=>
  intro b p h;exact h
 |cons i r d=>
  obtain⟨m,k⟩:=i;intro b p h;rw[kj];split
  ·exact d (List.mem_cons_of_mem _ h)
  ·exact d h
theorem vk:∀{e:List (Str×NameKind)}{b:List (Str×Addr)}{n:Str},(n,NameKind.free)∈e→(n,(f4.lookup n).getD 0)∈el f4 e b:=by
 intro L
 induction L with
 |nil=>
  intro J J J;contradiction
 |cons i r d=>
  obtain⟨m,k⟩:=i;intro b n h;rw[kj];refine memC h (fun q=>?_) fun q=>?_
  ·cases q;exact vj List.mem_cons_self
  ·split
   ·exact d q
   ·exact d q
theorem vm:∀{o:List (Str×NameKind)}{h:Heap}{b:List (Str×Addr)}{n:Str}{a:Addr},(n,a)∈cellsFrom h.objs.size o b→(n,a)∈b∨((n,NameKind.cell)∈o∧h.objs.size≤a∧(pushCells h o).IsCell a none):=by
 intro L
 induction L with
 |nil=>
  intro h b n a e;exact .inl e
 |cons u r t=>
  obtain⟨m,k⟩:=u;intro h b n a e;unfold cellsFrom at e;unfold pushCells;split at e
  ·rename_i d;rw[if_pos d];rw[show h.objs.size+1=(h.push {cls:= .type "cell",data:= .cell none}).objs.size from(Heap.size_push ..).symm]at e;refine ay (t e) (fun q=>?_) fun j=>ba j fun p i s=>?_
   ·refine memC q (fun q=>?_) fun q=>?_
    ·cases q;exact .inr ⟨by rw[eq_of_beq d];exact List.mem_cons_self,Nat.le_refl _,_,pushCells_keeps _ _ _ _ (Heap.get?_push_size _ rfl),rfl⟩
    ·exact .inl q
   ·rw[Heap.size_push]at i;exact .inr ⟨List.mem_cons_of_mem _ p,Nat.le_of_succ_le i,s⟩
  ·rename_i d;rw[if_neg d];refine ay (t e) (fun q=>?_) fun j=>ba j fun p i s=>?_
   ·exact .inl q
   ·exact .inr ⟨List.mem_cons_of_mem _ p,i,s⟩
theorem pS:∀{e:List (Str×NameKind)}{k:Nat}{b:List (Str×Addr)}{p:Str×Addr},p∈b→p∈cellsFrom k e b:=by
 intro L
 induction L with
 |nil=>
  intro k b p h;exact h
 |cons i r d=>
  obtain⟨m,j⟩:=i;intro k b p h;unfold cellsFrom;split
  ·exact d (List.mem_cons_of_mem _ h)
  ·exact d h
theorem iE:∀{e:List (Str×NameKind)}{k:Nat}{b:List (Str×Addr)}{n:Str},(n,NameKind.cell)∈e→∃a,(n,a)∈cellsFrom k e b:=by
 intro L
 induction L with
 |nil=>
  intro J J J J;contradiction
 |cons i r d=>
  obtain⟨m,j⟩:=i;intro k b n h;unfold cellsFrom;refine memC h (fun q=>?_) fun q=>?_
  ·cases q;exact⟨_,pS List.mem_cons_self⟩
  ·split
   ·exact d q
   ·exact d q
theorem cells_apart:∀{o:List (Str×NameKind)}{k:Nat}{b:List (Str×Addr)},(∀n a,(n,a)∈b→a<k)→b.Pairwise (fun x y=>x.2≠y.2)→(cellsFrom k o b).Pairwise fun x y=>x.2≠y.2:=by
 intro L
 induction L with
 |nil=>
  intro k b h p;exact p
 |cons s r d=>
  obtain⟨m,t⟩:=s;intro k b h p;unfold cellsFrom;split
  ·refine d (fun n a e=>?_) (List.pairwise_cons.mpr ⟨fun y j e=>?_,p⟩)
   ·refine memC e (fun q=>?_) fun q=>?_
    ·cases q;exact Nat.lt_succ_self _
    ·exact Nat.lt_succ_of_lt (h n a q)
   ·have i:k=y.2:=e;exact Nat.lt_irrefl _ (i▸h y.1 y.2 j)
  ·exact d h p
theorem dF:∀{l:List (Str×m)}{n:Str}{a:m},(n,a)∈l→∃b,l.lookup n=some b:=by
 intro L
 induction L with
 |nil=>
  intro J J J;contradiction
 |cons i r d=>
  obtain⟨a0,b⟩:=i;intro n a h;rw[List.lookup_cons];rcases e:n==a0 with _|_
  ·
   refine memC h (fun q=>?_) fun q=>?_
   ·cases q;simp at e
   ·exact d q
  ·exact⟨b,rfl⟩
theorem tD(c:∀n t a,f4.lookup n=some a→f4.lookup t=some a→n=t):∀{k:List (Str×NameKind)}{b:List (Str×Addr)},(∀n,(n,NameKind.free)∈k→∃a,f4.lookup n=some a)→
  (∀p∈b,f4.lookup p.1=some p.2∧p.1∉k.map (·.1))→(k.map (·.1)).Nodup→b.Pairwise (fun x y=>x.2≠y.2)→(el f4 k b).Pairwise fun x y=>x.2≠y.2:=by
 intro L
 induction L with
 |nil=>
  intro b J J J p;exact p
 |cons f r s=>
  obtain⟨m,g⟩:=f;intro b o d i p;rw[kj];rw[List.map_cons,List.nodup_cons]at i;split
  ·rename_i w;refine ah (o m (by rw[eq_of_beq w];exact List.mem_cons_self)) fun a e=>?_;refine s (fun n h=>o n (List.mem_cons_of_mem _ h)) (fun p j=>?_) i.2 (List.pairwise_cons.mpr ⟨fun y z q=>?_,p⟩)
   ·refine memC j (fun q=>?_) fun q=>?_
    ·subst q;exact⟨by rw[e];rfl,i.1⟩
    ·exact⟨(d p q).1,fun h=>(d p q).2 (List.mem_cons_of_mem _ h)⟩
   ·refine ai (d y z) fun u v=>?_;rw[e]at q;have:m=y.1:=c _ _ a e (by rw[u];exact congrArg some q.symm);exact v (by rw[←this];exact List.mem_cons_self)
  ·exact s (fun n h=>o n (List.mem_cons_of_mem _ h)) (fun p j=>⟨(d p j).1,fun h=>(d p j).2 (List.mem_cons_of_mem _ h)⟩) i.2 p
theorem pT{globals:Addr}{Q:Env→Shared→Prop}(h:Q (newEnv e s.heap.objs.size globals (cellsFrom (s.heap.objs.size+1) e.names f4) x none .none (some q) builtinsNs) {s with heap:=pushCells (s.heap.push {cls:= .type "dict",data:= .dict #[]}) e.names}):
  wpAny b9 A (newFunctionEnv e globals f4 [] x none .none (some q)) Q E s:=by
 simp only[newFunctionEnv,Option.isSome_some,if_true];refine wpAny_bind (wpAny_alloc ?_);refine wpAny_bind (wpAny_layCells _ (fun j d i=>by cases b:d==NameKind.cell<;>simp[b]) _ _ _ _ ?_);rw[show({s with heap:=s.heap.push {cls:= .type "dict",data:= .dict #[]}}:Shared).heap.objs.size=s.heap.objs.size+1 from Heap.size_push ..];exact wpAny_bind (wpAny_pure (wpAny_bind (wpAny_pure (wpAny_pure h))))
mutual
noncomputable def kL:Expr→List Str
 | .Name x _=>[x]
 | .Tuple h _ _=>pU h
 |_=>[]
noncomputable def pU:List Expr→List Str
 | []=>[]
 |t::h=>kL t++pU h
end
theorem eO.names(h:eO o j u):u.map (·.1)=kL o:=by
 refine eO.rec (motive_1:=fun o j u J=>u.map (·.1)=kL o) (motive_2:=fun d e u J=>u.map (·.1)=pU d) ?_ ?_ ?_ ?_ h
 ·intro x p j;rfl
 ·intro d k p e b J n;exact n
 ·rfl
 ·intro t d j e b q J J i m;rw[List.map_append,i,m];rfl
noncomputable def gC:Expr→Bool
 | .Name .. | .Call .. | .Subscript .. | .List .. | .Tuple .. | .ListComp .. =>true
 |_=>false
theorem gU(h:gC o=true)(b:Env)(x:Value):foldedSetIterable o b x=pure x:=by
 rcases o with _|_<;>first|rfl|contradiction
noncomputable def kM(h:Scope)(b:List (Str×NameKind)):List (Str×NameKind):=b.map fun(n,k)=>if(k== .free&&h.kind== .function&&h.names.lookup n==some .cell)then(n,.cell)else(n,k)
noncomputable def cW(h b:Scope):Scope:={h with names:=kM b h.names}
theorem tE(b:Scope)(h:Env):relabel b h=cW b h.scope:=rfl
noncomputable def mO(h:Scope)(n:Str)(k:NameKind):NameKind:=if(k== .free&&h.kind== .function&&h.names.lookup n==some .cell)then .cell else k
theorem oQ(h:Scope):∀(i:List (Str×NameKind))(x:Str),(kM h i).lookup x=(i.lookup x).map (mO h x):=by
 intro L
 induction L with
 |nil=>
  intro x;exact rfl
 |cons j r d=>
  obtain⟨n,k⟩:=j;intro x;have d:=d x;refine(?_ :List.lookup x ((if(k==NameKind.free&&h.kind== .function&&h.names.lookup n==some .cell)=true then(n,NameKind.cell)else(n,k))::kM h r)=_);have e:(n,mO h n k)=(if(k==NameKind.free&&h.kind== .function&&h.names.lookup n==some .cell)=true then(n,NameKind.cell)else(n,k)):=by unfold mO;split<;>rfl
  rw[←e];rcases b:x==n with _|_
  ·simp only[List.lookup_cons,b];exact d
  ·
   have:x=n:=eq_of_beq b;subst this;simp only[List.lookup_cons,b];rfl
noncomputable def ownNames(h:Scope):List Str:=(h.names.filter fun p=>p.2== .local||p.2== .cell).map (·.1)
structure dS(scope sc:Scope)(gens:List Comprehension):Prop where
 kind:scope.kind= .function
 dot:scope.names.lookup (".0" :Str)=some NameKind.local
 nodup:(scope.names.map (·.1)).Nodup
 free:∀n,(n,NameKind.free)∈scope.names→sc.names.lookup n=some .cell∨sc.names.lookup n=some .free
 gens:∀g∈gens,g.is_async=0∧gC g.iter=true∧∀x∈kL g.target,x∈ownNames scope
 code:codeOf (cW scope sc)=none
theorem dy:∀{d:List (Str×NameKind)}{n:Str}{k:NameKind},(d.map (·.1)).Nodup→(n,k)∈d→d.lookup n=some k:=by
 intro L
 induction L with
 |nil=>
  intro J J J J;contradiction
 |cons i r e=>
  obtain⟨m,j⟩:=i;intro n k b h;rw[List.map_cons,List.nodup_cons]at b;rw[List.lookup_cons];refine memC h (fun q=>?_) fun q=>?_
  ·cases q;simp
  ·have:n≠m:=by rintro rfl;exact b.1 (List.mem_map.mpr ⟨_,q,rfl⟩)
   rw[show(n==m)=false from by simpa using this];exact e b.2 q
theorem ru(m:(e.names.map (·.1)).Nodup)(h:x∈ownNames e):e.names.lookup x=some .local∨e.names.lookup x=some .cell:=by
 refine bZ h fun i d j=>?_;obtain⟨n,k⟩:=i;subst j;refine ai (List.mem_filter.mp d) fun d b=>?_;have:=dy m d;simp only[Bool.or_eq_true,beq_iff_eq]at b;refine ay b (fun b=>?_) fun b=>?_ <;>subst b<;>simp[this]
theorem Go.cells(x:Go c f s G t)(g:Gl c t.heap)(h:List (Str×NameKind)):Go c f s G {t with heap:=pushCells t.heap h}:=
 (x.heap (n:=t.toks) (fun a o e=>pushCells_keeps _ _ a o e) g.cH)
theorem vn(h:mO e x l7= .cell∨mO e x l7= .free):l7= .free∨l7= .cell:=by
 rcases l7 with _|_<;>first|exact .inl rfl|exact .inr rfl|(refine ay h (fun h=>?_) fun h=>?_ <;>contradiction)
theorem vo:mO e x .free= .cell∨mO e x .free= .free:=by
 unfold mO;split
 ·exact .inl rfl
 ·exact .inr rfl
theorem rv{a7:Option (Value→Sem Unit)}{scope:Scope}{d0:D}(pl:d4.Plain)(a5:d4.gens=b5::e1)(d8:d1.isFreed=false)(e3:∀f h a,h.get? a=some d1→a≠sysModules→fJ c f h a d0)(e2:∀(A:Around)(s:Shared)(E:Value→Shared→Prop)(V:Value→Shared→Prop),E (.ref s.heap.objs.size) {s with heap:=s.heap.push d1}→wpAny (model c.prog c.w) A l8 E V s)(ok:dS scope e (b5::e1))(d9:(a6.map (·.1)).Nodup)(e6:∀p∈a6,p.2=none∨(p∈r∧scope.names.lookup p.1=some .free))(hi:aO c n e r b5.iter b5.target l)(hj:bN c n (cW scope e) d4 0 b5 a6 l d0 j)(b7:bJ n A)(o:bE q e)(y:St c f r q s)(e4:∀v s' f' C m,Go c f s f' s'→Val c f' j v→s.heap.get? C=none→f' C=none→C≠c.P→c.own C=none→s'.heap.Ns C m→compPost (model c.prog c.w) A V a7 E v C (.ok .next) s'):
  wpAny (model c.prog c.w) A (comprehension d4.e scope q O l8 false (eval b5.iter q) a7) E V s:=by
 have b0:∀a0,(a0,NameKind.free)∈scope.names→∃a,q.cells.lookup a0=some a:=fun a0 u=>o.full a0 (ok.free a0 u);refine wpAny_comprehension_free (use:=a7) (g:=b5) (gs:=e1) (cl:=el q.cells scope.names []) (by rw[pl.clauses,a5]) (fun x=>gU (ok.gens b5 List.mem_cons_self).2.1 q x)
  (pQ b0) ok.kind (fun x P hl=>by obtain⟨a0,kd⟩:=x;subst hl;exact dy ok.nodup P) ?_
 refine hi A q f s _ V b7 o y fun I i G fp X Y T gg it t hX hY b6=>e2 A i _ V ?_;have Q:St c G r q i:=y.go gg;have c2:=Q.gl.push d1;have G3:Go c f s G {i with heap:=i.heap.push d1}:=gg.push Q.gl;refine pT ?_;rw[tE _ _,o.scope];have d3:=c2.push {cls:= .type "dict",data:= .dict #[]};have G4:Go c f s G {i with heap:=(i.heap.push d1).push {cls:= .type "dict",data:= .dict #[]}}:=G3.push c2;have G5:Go c f s G {i with heap:=pushCells ((i.heap.push d1).push {cls:= .type "dict",data:= .dict #[]}) scope.names}:=G4.cells d3 _;have c3:=G5.gl y.gl;have b2:∀a,i.heap.get? a≠none→a<i.heap.objs.size:=fun a h=>by
  rcases a1:i.heap.get? a with _|B
  ·exact absurd a1 h
  ·exact Heap.lt_size a1
 have F:(i.heap.push d1).objs.size=i.heap.objs.size+1:=Heap.size_push ..;have c6:((i.heap.push d1).push {cls:= .type "dict",data:= .dict #[]}).objs.size=i.heap.objs.size+2:=by rw[Heap.size_push _ _,F]
 have up:∀a B,i.heap.get? a=some B→(pushCells ((i.heap.push d1).push {cls:= .type "dict",data:= .dict #[]}) scope.names).get? a=some B:=fun a B a1=>
  pushCells_keeps _ _ _ _ (Heap.get?_push_of_some _ (Heap.get?_push_of_some _ a1))
 have c7:(pushCells ((i.heap.push d1).push {cls:= .type "dict",data:= .dict #[]}) scope.names).get? i.heap.objs.size=some d1:=pushCells_keeps _ _ _ _ (Heap.get?_push_of_some _ (Heap.get?_push_size _ d8));have b9:(pushCells ((i.heap.push d1).push {cls:= .type "dict",data:= .dict #[]}) scope.names).Ns (i.heap.push d1).objs.size fun J=>none:=(Heap.Ns.new (i.heap.push d1) (.type "dict")).keeps (pushCells_keeps _ _);have K:∀a0 a,(a0,a)∈cellsFrom ((i.heap.push d1).objs.size+1) scope.names (el q.cells scope.names [])→
   ((a0,NameKind.free)∈scope.names∧q.cells.lookup a0=some a)∨((a0,NameKind.cell)∈scope.names∧i.heap.objs.size+2≤a∧(pushCells ((i.heap.push d1).push {cls:= .type "dict",data:= .dict #[]}) scope.names).IsCell a none):=fun a0 a u=>by
  rw[show(i.heap.push d1).objs.size+1=((i.heap.push d1).push {cls:= .type "dict",data:= .dict #[]}).objs.size by rw[c6,F]]at u;refine ay (vm u) (fun a2=>?_) fun a2=>?_
  ·refine ay (pR a2) (fun a2=>?_) fun k=>ai k fun a2 a1=>?_
   ·contradiction
   ·refine ah (b0 a0 a2) fun b N=>?_;rw[N]at a1;exact .inl ⟨a2,by rw[N,a1];rfl⟩
  ·rw[c6]at a2;exact .inr a2
 have b3:∀a0,(a0,NameKind.free)∈scope.names→∃a,(cellsFrom ((i.heap.push d1).objs.size+1) scope.names (el q.cells scope.names [])).lookup a0=some a∧q.cells.lookup a0=some a:=fun a0 u=>by
  refine ah (dF (pS (e:=scope.names) (k:=(i.heap.push d1).objs.size+1) (vk (f4:=q.cells) (b:=[]) u))) fun a g=>?_;refine aF a g ?_;refine ay (K a0 a (mem_of_lookup g)) (fun k=>ai k fun J a1=>?_) fun w=>ai w fun a2 J=>?_
  ·exact a1
  ·have W:=dy ok.nodup u;have h2:=dy ok.nodup a2;rw[W]at h2;contradiction
 have a8:∀a0,(a0,NameKind.cell)∈scope.names→∃a,(cellsFrom ((i.heap.push d1).objs.size+1) scope.names (el q.cells scope.names [])).lookup a0=some a∧i.heap.objs.size+2≤a∧(pushCells ((i.heap.push d1).push {cls:= .type "dict",data:= .dict #[]}) scope.names).IsCell a none:=fun a0 u=>by
  refine ah (iE (e:=scope.names) (k:=(i.heap.push d1).objs.size+1) (b:=el q.cells scope.names []) u) fun b N=>?_;refine ah (dF N) fun a g=>?_;refine aF a g ?_;refine ay (K a0 a (mem_of_lookup g)) (fun k=>ai k fun a2 J=>?_) fun w=>ai w fun J a2=>?_
  ·have W:=dy ok.nodup u;have h2:=dy ok.nodup a2;rw[W]at h2;contradiction
  ·exact a2
 generalize pushCells ((i.heap.push d1).push {cls:= .type "dict",data:= .dict #[]}) scope.names=h5 at G5 c3 up c7 b9 K a8⊢;have c1:∀a0 a,q.cells.lookup a0=some a→i.heap.get? a≠none:=fun a0 a a1=>by
  refine bV (Q.cells a0 a a1) fun v B M J=>?_;rw[M];simp
 have c0:(cellsFrom ((i.heap.push d1).objs.size+1) scope.names (el q.cells scope.names [])).Pairwise fun x y=>x.2≠y.2:=by
  refine cells_apart (fun a0 a u=>?_) (tD o.inj b0 (fun p hp=>by contradiction) ok.nodup List.Pairwise.nil);refine ay (pR u) (fun a2=>?_) fun k=>ai k fun a2 a1=>?_
  ·contradiction
  ·refine ah (b0 a0 a2) fun b N=>?_;rw[N]at a1;have:a=b:=a1;rw[this,F];exact Nat.lt_of_lt_of_le (b2 _ (c1 a0 b N)) (by(simp+arith))
 generalize cellsFrom ((i.heap.push d1).objs.size+1) scope.names (el q.cells scope.names [])=cs at K b3 a8 c0;have ce:bE {newEnv scope (i.heap.push d1).objs.size q.globals cs q.qual none .none (some q) builtinsNs with scope:=cW scope e} (cW scope e):=
  {scope:=rfl,kind:=ok.kind,globals:=o.globals,builtins:=o.builtins,inj:=fun a0 n' a a1 L=>name_of_addr c0 (mem_of_lookup a1) (mem_of_lookup L),
   full:=fun a0 S=>by
    rw[show(cW scope e).names=kM e scope.names from rfl,oQ]at S;rcases a1:scope.names.lookup a0 with _|kd
    ·rw[a1]at S;refine ay S (fun S=>?_) fun S=>?_ <;>contradiction
    ·rw[a1]at S;have u:=mem_of_lookup a1;refine ay (vn (S.imp Option.some.inj Option.some.inj)) (fun k=>?_) fun w=>?_
     ·subst k;exact(b3 a0 u).elim fun a h=>⟨a,h.1⟩
     ·subst w;exact(a8 a0 u).elim fun a h=>⟨a,h.1⟩
   code:=fun a a1=>by rw[ok.code]at a1;contradiction}
 generalize hE:({newEnv scope (i.heap.push d1).objs.size q.globals cs q.qual none .none (some q) builtinsNs with scope:=cW scope e}:Env)=kk at ce;have H:kk.locals=(i.heap.push d1).objs.size:=by rw[←hE];rfl
 have U:kk.cells=cs:=by rw[←hE];rfl
 have a9:∀a0,kk.kindOf a0=(scope.names.lookup a0).map (mO e a0):=fun a0=>by rw[←hE];exact oQ e scope.names a0
 have b1:∀a,i.heap.objs.size≤a→c.own a=none:=fun a h=>by
  rcases a1:c.own a with _|B
  ·rfl
  ·exact absurd (Heap.lt_size (Q.gl.own a B a1).2) (Nat.not_lt.mpr h)
 have f1:=G5.toZ (Z:=Zp kk i.heap.objs.size (ownNames scope));have y5:St c G a6 kk {i with heap:=h5}:=
  {gl:=c3,sub:=G5.sub,here:=⟨_,by rw[H];exact b9⟩,tk:=Q.tk,
   apart:=⟨by rw[H,F];exact b1 _ (by(simp+arith)),fun a0 a a1=>by
    rw[U]at a1;refine ay (K a0 a (mem_of_lookup a1)) (fun k=>ai k fun J L=>?_) fun w=>ba w fun J a2 J=>?_
    ·exact y.apart.2 _ _ L
    ·exact b1 _ (by lia)⟩,
   names:=fun x d u=>by
    refine ay (e6 _ u) (fun a2=>?_) fun k=>ai k fun a2 hl=>?_
    ·contradiction
    ·refine au (Q.names x d a2) fun v rd hv=>?_;refine aF v ?_ hv;have c4:=mem_of_lookup hl;refine au (b3 x c4) fun a W h2=>?_;refine ay rd (fun k=>ai k fun q' J=>?_) fun w=>?_
     ·have h0:=(congrArg (fun z=>z.names.lookup x) o.scope).symm.trans q';refine ay (ok.free x c4) (fun h=>?_) fun h=>?_ <;>cases h0.symm.trans h
     ·obtain⟨_,a',a1,a0⟩:=w;obtain rfl:=Option.some.inj (h2.symm.trans a1);exact .inr ⟨by rw[a9 _,hl];exact vo.imp (congrArg some) (congrArg some),a,by rw[U];exact W,a0.elim fun B M=>⟨B,up _ _ M.1,M.2⟩⟩,
   cells:=fun a0 a a1=>by
    rw[U]at a1;refine ay (K a0 a (mem_of_lookup a1)) (fun k=>ai k fun J L=>?_) fun w=>ba w fun J J a2=>?_
    ·refine bV (Q.cells a0 a L) fun v B M hd=>?_;exact bj v B (up _ _ M) hd
    ·exact⟨_,a2⟩}
 have a3:∀a,i.heap.objs.size≤a→s.heap.get? a=none:=fun a h=>gg.fresh h;have b4:∀a,i.heap.objs.size≤a→G a=none:=fun a h=>gg.cj h;have f0:∀x∈ownNames scope,di s G kk (h5) x:=fun x P=>by
  refine ay (ru ok.nodup P) (fun a2=>?_) fun a2=>?_
  ·refine .inl ⟨by rw[a9 _,a2];rfl,?_,?_,_,by rw[H];exact b9⟩
   ·rw[H,F];exact a3 _ (by(simp+arith))
   ·rw[H,F];exact b4 _ (by(simp+arith))
  ·refine bA (a8 x (mem_of_lookup a2)) fun a W h2 h3=>?_;exact .inr ⟨by rw[a9 _,a2];rfl,a,by rw[U];exact W,a3 _ (by lia),b4 _ (by lia),_,h3⟩
 have f2:3<i.heap.objs.size:=Q.gl.g.lt;have c9:zV c (cW scope e) d4 A kk s i.heap.objs.size (ownNames scope) n:=
  {room:=b7,ok:=ce,gl:=y.gl,d0:=a3 _ (Nat.le_refl _),CH:=b1 _ (Nat.le_refl _),dl:=by rw[H,F];exact Nat.ne_of_lt (by(simp+arith)),
   dc:=fun a0 b a1=>by
    rw[U]at a1;refine ay (K a0 b (mem_of_lookup a1)) (fun k=>ai k fun J L=>?_) fun w=>ba w fun J a2 J=>?_
    ·have:=b2 _ (c1 a0 b L);exact Nat.ne_of_gt this
    ·exact Nat.ne_of_lt (Nat.le_of_lt ‹_›),
   sync:=fun g' a4=>by
    rw[a5]at a4;exact⟨(ok.gens g' a4).1,gU (ok.gens g' a4).2.1 kk⟩}
 have e5:∀g'∈d4.gens,∀d bs,eO g'.target d bs→∀x∈bs.map (·.1),x∈ownNames scope:=fun g' a4 d bs g x P=>by
  rw[a5]at a4;rw[g.names]at P;exact(ok.gens g' a4).2.2 x P
 have c5:∀a,Zp kk i.heap.objs.size (ownNames scope) a→i.heap.objs.size≤a:=by
  rintro a (rfl|⟨x,P,pl⟩)
  ·exact Nat.le_refl _
  ·refine ay pl (fun k=>ai k fun J w=>?_) fun J3=>ai J3 fun a2 a1=>?_
   ·subst w;rw[H,F];(simp+arith)
   ·rw[U]at a1;refine ay (K x a (mem_of_lookup a1)) (fun k=>ai k fun q' J=>?_) fun w=>ba w fun J q' J=>?_
    ·refine ay (ru ok.nodup P) (fun q2=>?_) fun q2=>?_ <;>rw[dy ok.nodup q']at q2<;>contradiction
    ·lia
 have c8:∀a,X a→a<i.heap.objs.size:=fun a g=>b2 _ (it.live _ _ _ t a g);have t5:T 0 G {i with heap:=h5}:=it.keep 0 G i G _ t (fun J J a1=>a1) (fun J J=>rfl) (fun a J B a1=>up a B a1) (fun J J=>rfl);have e7:P1 c n (cW scope e) d4 0 b5 a6 l d0 j:=bN.walk pl hj;have lp:=e7 (A:=A) (env:=kk) (s₀:=s) (f₀:=f) (sx:=s) (fx:=f) (pre:=[]) (R:=compPost (model c.prog c.w) A V a7 E (.ref i.heap.objs.size) (newEnv scope (i.heap.push d1).objs.size q.globals cs q.qual none .none (some q) builtinsNs).locals) c9 e5 d9 (by rw[a5];rfl) (.refl y.sub) f1 y5 (e3 _ _ _ c7 (Nat.ne_of_gt (by refine(?_ :1<i.heap.objs.size);lia))) (b4 _ (Nat.le_refl _)) f0 it t5
  (fun a g=>⟨(hX a g).1,(hX a g).2.2,by rw[H,F];exact Nat.ne_of_lt (Nat.lt_succ_of_lt (c8 a g)),fun a0 b a1=>by
   rw[U]at a1;refine ay (K a0 b (mem_of_lookup a1)) (fun k=>ai k fun J L=>?_) fun w=>ba w fun J q' J=>?_
   ·rintro rfl;refine bV (y.cells a0 a L) fun v B M J=>?_;rw[(hX a g).1]at M;contradiction
   ·exact Nat.ne_of_lt (Nat.lt_of_lt_of_le (c8 a g) (Nat.le_trans (Nat.le_add_right _ 2) q'))⟩)
  (fun a u=>⟨(b6 a u).1,by
   rcases a1:i.heap.get? a with _|B
   ·exact absurd a1 (b6 a u).2.1
   ·refine(?_ :h5.get? a≠none);rw[up _ _ a1];simp,fun z=>Nat.lt_irrefl _ (Nat.lt_of_lt_of_le (b2 a (b6 a u).2.1) (c5 a z))⟩)
  (fun a2 hq=>hY a2 hq)
  (fun s' f' Z y' e8 d6 e9=>by
   refine ah y'.here fun m a0=>?_;rw[H]at a0;have zf:∀a,Zp kk i.heap.objs.size (ownNames scope) a→s.heap.get? a=none:=fun a z=>a3 a (c5 a z);have Ge:Go c f s f' s':=(Go.refl y.sub).r4 Z zf;have d7:f' (i.heap.push d1).objs.size=none:=by
    have u:(".0" :Str)∈ownNames scope:=List.mem_map.mpr ⟨_,List.mem_filter.mpr ⟨mem_of_lookup ok.dot,rfl⟩,rfl⟩;refine ay (e9 _ u) (fun k=>bQ k fun J J a2 J=>?_) fun w=>ai w fun a2 J=>?_
    ·rw[←H];exact a2
    ·rw[a9,ok.dot]at a2;cases a2
   have d5:(i.heap.push d1).objs.size≠c.P:=y'.gl.ne_of_ns a0;refine nH (e8.freeze Ge (Ge.gl y.gl) (a3 _ (Nat.le_refl _)) d6) fun d2 G2 hv J e0=>?_;exact e4 _ s' d2 (i.heap.push d1).objs.size m G2 hv (by rw[F];exact a3 _ (Nat.le_succ _)) ((e0 _ (by rw[F];exact Nat.succ_ne_self _)).trans d7) d5 (by rw[F];exact b1 _ (Nat.le_succ _)) a0)
 exact iC pl (by rw[a5];rfl) (ok.gens b5 List.mem_cons_self).1 lp (it.self A 0 G _ _ _ b7 t5 lp)
theorem rx(Q:d4.Plain)(K:d4.gens=b5::e1)(z:d1.isFreed=false)(I:∀f h a,h.get? a=some d1→a≠sysModules→fJ c f h a j)(H:∀(A:Around)(s:Shared)(E:Value→Shared→Prop)(V:Value→Shared→Prop),E (.ref s.heap.objs.size) {s with heap:=s.heap.push d1}→wpAny (model c.prog c.w) A l8 E V s)(P:dS c8 e (b5::e1))(F:(a6.map (·.1)).Nodup)(M:∀p∈a6,p.2=none∨(p∈r∧c8.names.lookup p.1=some .free))(g:aO c n e r b5.iter b5.target l)(B:bN c n (cW c8 e) d4 0 b5 a6 l j a5)(a1:bJ n A)(o:bE q e)(y:St c f r q s)(x:∀v d b,Go c f s b d→Val c b a5 v→E v d):
  wpAny (model c.prog c.w) A (comprehension d4.e c8 q O l8 false (eval b5.iter q)) E V s:=
 rv (a7:=none) Q K z I H P F M g B a1 o y fun v d b C m G L t u w T a0=>⟨m,a0,fun k J=>by
  have i:Go c f s b {d with heap:=k,toks:=d.toks}:=G.turn t u w J;exact x v _ b i L⟩
theorem Vals.snoc(h:Vals c f l Z)(b:Val c f j C):Vals c f (l++[j]) (Z++[C]):=h.append ⟨C,[],rfl,b,rfl⟩
theorem jg.list{gens:List Comprehension}(L:Ev c n e r o j)(U:l.length≤sizeLine):
  jg c n e (dx o gens c8 O) r (.list l) (.list (l++[j])):=fun A F f s m Q E a3 a2 y ow M I=>by
 refine wpAny_bind (L A F f s _ E a3 a2 y fun v Z G b X=>?_);have u:m≠c.P:=by
  refine bV ow fun B a1 a0 J=>?_;exact y.gl.ne_of_cls a0 (by nofun)
 refine bV (ow.mono b.ext fun d a0=>b.keep _ _ u a0) fun B a1 C z=>?_;have P:B.size=l.length:=by have:=z.length;simpa using this
 refine wpAny_bind (wpAny_list_append_plain ⟨a1,C⟩ (fun t w k=>wpAny_pure (I _ G ⟨?_,?_⟩ ?_)) (by rw[P];exact U))
 ·refine{keep:=fun a d Y H a0=>?_,tab:=?_,aD:=b.aD,gens:=fun i h J=>b.gens i h,bare:=fun i x h=>b.bare i x (h.resolve_right id),os:=b.os,ext:=b.ext,old:=b.old,tk:=b.tk,sub:=fun a d a0=>?_}
  ·exact(k.2 a Y).trans (b.keep a d H a0)
  ·exact b.tab.trans (.inl (k.2 _ (Ne.symm u)))
  ·have T:a≠m:=by
    rintro rfl;have:=b.old a ow.here;rw[a0,M]at this;contradiction
   exact⟨(b.sub a d a0).1,(k.2 a T).trans (b.sub a d a0).2⟩
 ·intro a K;by_cases q:a=m
  ·subst q;refine ah w fun g p=>?_;refine(?_ :t.get? a≠none);rw[p];simp
  ·refine(?_ :t.get? a≠none);rw[k.2 a q];exact b.has K
 ·refine ah w fun g p=>?_;exact bj _ g p (by simpa using z.snoc X)
theorem Ev.nR(w:aO c n e r b5.iter b5.target l)(x:bN c n (cW c8 e) (dx o (b5::e1) c8 O) 0 b5 a6 l (.list []) (.list c7))(i:dS c8 e (b5::e1))(z:(a6.map (·.1)).Nodup)(g:∀p∈a6,p.2=none∨(p∈r∧c8.names.lookup p.1=some .free)):
  Ev c n e r (.ListComp o (b5::e1) c8 O) (.list c7):=fun A d f s Q E a2 a1 y u=>by
 rw[eval_ListComp];have v:=(i.gens b5 List.mem_cons_self).1;have q:firstAsync (b5::e1)=false:=by
  obtain⟨j,k,m,b⟩:=b5;have:b=0:=v;subst this;rfl
 have t:firstIter (b5::e1) d=eval b5.iter d:=by obtain⟨j,k,m,b⟩:=b5;rfl
 rw[q,t];exact rx (jk o (b5::e1) c8 O) rfl (j:= .list []) (d1:={cls:= .type "list",data:= .seq ([]:List Value).toArray}) rfl (fun f h a a0 J=>⟨_,_,a0,rfl⟩)
  (fun A s Q E h=>wpAny_newList h) i z g w x a2 a1 y u
noncomputable def dD(b:List (Str×D))(k:Str)(v:D):List (Str×D):=
 if b.any (fun h=>h.1=k)then b.map (fun h=>if h.1=k then(h.1,v)else h)else b++[(k,v)]
theorem bo.stored(h:bo c f u e4)(o:Val c f j C):bo c f (dD u x j) (stored e4 x C):=by
 have k:u.any (fun i=>i.1=x)=e4.any (fun i=>i.1=x):=by
  induction u generalizing e4 with
  |nil=>obtain rfl:e4=[]:=h;rfl
  |cons p r d=>
   obtain⟨C,m,rfl,e,b⟩:=h;simp only[List.any_cons];rw[d b]
 unfold dD PySem.stored;rw[k];split<;>rename_i n<;>clear n k
 ·skip
  induction u generalizing e4 with
  |nil=>obtain rfl:e4=[]:=h;rfl
  |cons p r d=>
   obtain⟨w,m,rfl,e,b⟩:=h;simp only[List.map_cons];refine⟨if p.1=x then C else w,_,?_,?_,d b⟩
   ·split<;>simp_all
   ·split<;>simp_all
 ·induction u generalizing e4 with
  |nil=>obtain rfl:e4=[]:=h;exact⟨C,[],rfl,o,rfl⟩
  |cons p r d=>
   obtain⟨w,m,rfl,e,b⟩:=h;exact⟨w,_,rfl,e,d b⟩
set_option backward.match.sparseCases true in
noncomputable def gD(ke ve:Expr)(gens:List Comprehension)(scope:Scope)(pos:Pos):bX:=
 ⟨.DictComp ke ve gens scope pos,gens,fun acc env=>do
  let kv←eval ke env
  let vv←holding [kv] (eval ve env)
  match acc with
  | .ref d=>do
   standAt {ke.pos with endLine:=ve.pos.endLine,endCol:=ve.pos.endCol}
   holding [kv,vv] (dictSet d kv vv)
  |_=>unsupported "internal:dictcomp"⟩
theorem nS(j n:Expr)(h:List Comprehension)(m:Scope)(k:Pos):(gD j n h m k).vh:=fun b q o p g e d=>by
 have i:h[b]? =some g:=e;unfold compTurn gB gD;simp only[i,d];rfl
theorem nT(b i:Expr)(h:List Comprehension)(e:Scope)(d:Pos):(gD b i h e d).Plain:=
 ⟨nS b i h e d,fun J J J J=>⟨rfl,rfl,rfl,rfl⟩,fun J J J J=>⟨rfl,rfl,rfl⟩,rfl⟩
theorem jg.dict{gens:List Comprehension}(Y:Ev c n e r o (.str x))(U:Ev c n e r b0 j)(S:u.length≤sizeLine):
  jg c n e (gD o b0 gens c8 O) r (.dict u) (.dict (dD u x j)):=fun A t f s m Q E a2 a1 y ow X L=>by
 refine wpAny_bind (Y A t f s _ E a2 a1 y fun kv s0 G w Z=>?_);refine wpAny_bind (wpAny_holding (U A t G s0 _ E a2 a1 (y.go w) fun v s1 H I R=>?_));refine ah Z fun tk p=>?_;subst p;have b:=w.trans I;have g:m≠c.P:=by
  refine au ow fun C p J=>jB p fun d es ep a0 P J=>?_;exact y.gl.ne_of_cls a0 (by rw[P.1];nofun)
 refine bA (ow.mono b.ext fun d a0=>b.keep _ _ g a0) fun C T B hz=>?_;have W:C.length=u.length:=B.length;refine wpAny_bind (wpAny_standAt (wpAny_holding (wpAny_dictSet_pairs (knd:=PySem.strKind c.prog c.w) (k:=x) (beq_self_eq_true _) T (fun z l k=>L _ H ⟨?_,?_⟩ ?_) (by rw[W];exact S))))
 ·refine{keep:=fun a d V K a0=>?_,tab:=?_,aD:=b.aD,gens:=fun i h J=>b.gens i h,bare:=fun i x h=>b.bare i x (h.resolve_right id),os:=b.os,ext:=b.ext,old:=b.old,tk:=Nat.le_succ_of_le b.tk,sub:=fun a d a0=>?_}
  ·exact(k.2 a V).trans (b.keep a d K a0)
  ·exact b.tab.trans (.inl (k.2 _ (Ne.symm g)))
  ·have N:a≠m:=by
    rintro rfl;have:=b.old a ow.here;rw[a0,X]at this;contradiction
   exact⟨(b.sub a d a0).1,(k.2 a N).trans (b.sub a d a0).2⟩
 ·intro a M;by_cases q:a=m
  ·subst q;refine cX l fun d J J F J=>?_;refine(?_ :z.get? a≠none);rw[F];simp
  ·refine(?_ :z.get? a≠none);rw[k.2 a q];exact b.has M
 ·exact fS _ l (B.stored R) hz
theorem Ev.yg(z:aO c n e r b5.iter b5.target l)(g:bN c n (cW c8 e) (gD o b0 (b5::e1) c8 O) 0 b5 a6 l (.dict []) (.dict u))(i:dS c8 e (b5::e1))(B:(a6.map (·.1)).Nodup)(F:∀p∈a6,p.2=none∨(p∈r∧c8.names.lookup p.1=some .free)):
  Ev c n e r (.DictComp o b0 (b5::e1) c8 O) (.dict u):=fun A d f s Q E a2 a1 y v=>by
 rw[arm_eval_DictComp];have x:=(i.gens b5 List.mem_cons_self).1;have q:firstAsync (b5::e1)=false:=by
  obtain⟨j,k,m,b⟩:=b5;have:b=0:=x;subst this;rfl
 have t:firstIter (b5::e1) d=eval b5.iter d:=by obtain⟨j,k,m,b⟩:=b5;rfl
 dsimp only;rw[q,t];exact rx (nT o b0 (b5::e1) c8 O) rfl (j:= .dict []) (d1:={cls:= .type "dict",data:= .dict #[]}) rfl (fun f h a a0 C=>⟨[],⟨_,#[],0,a0,⟨rfl,rfl,rfl⟩,rfl,fun J w=>by simp at w,Pairs.nil,List.nodup_nil⟩,rfl,by simpa using C⟩)
  (fun A s Q E h=>wpAny_newObj_type h) i B F z g a2 a1 y v
noncomputable abbrev Omega:=List (Str×D)
noncomputable def allOf(h:bD)(b:Omega):bD:=h++b.map fun p=>(p.1,some p.2)
theorem Val.wo(q:Clean j)(h:Val (c.wo f) a2 j C):Val (c.wo G) a2 j C:=Val.gen (fun J J h=>h) j (.inl q) C h
theorem Val.dr(b:∀a o,f a=some o→G a=some o)(h:Val (c.wo f) a2 j C):Val (c.wo G) a2 j C:=Val.gen (fun J J h=>h) j (.inr b) C h
theorem Vals.wo(q:aS l)(h:Vals (c.wo f) a2 l Z):Vals (c.wo G) a2 l Z:=List.map_id l▸Vals.map (m6:=id) (fun l b J h=>Val.wo (bI.mp q l b) h) Z h
theorem bo.wo(q:dQ u)(h:bo (c.wo f) a2 u e4):bo (c.wo G) a2 u e4:=List.map_id u▸bo.map (m6:=id) (fun u b J h=>Val.wo (oP.mp q u b) h) e4 h
theorem Vals.dr(b:∀a o,f a=some o→G a=some o)(h:Vals (c.wo f) a2 l Z):Vals (c.wo G) a2 l Z:=List.map_id l▸Vals.map (m6:=id) (fun l J J h=>Val.dr b h) Z h
theorem bo.dr(b:∀a o,f a=some o→G a=some o)(h:bo (c.wo f) a2 u e4):bo (c.wo G) a2 u e4:=List.map_id u▸bo.map (m6:=id) (fun u J J h=>Val.dr b h) e4 h
mutual
noncomputable def D.ey:D→D
 | .tup l=> .tup (fE l)
 | .list l=> .list (fE l)
 | .dict l=> .dict (iF l)
 | .ao l=> .list (fE l)
 | .bW l=> .dict (iF l)
 |d=>d
noncomputable def fE:List D→List D
 | []=>[]
 |d::r=>d.ey::fE r
noncomputable def iF:List (Str×D)→List (Str×D)
 | []=>[]
 |p::r=>(p.1,p.2.ey)::iF r
end
theorem sa:(D.dict u).ey= .dict (iF u):=rfl
theorem pV:(D.bW u).ey= .dict (iF u):=rfl
noncomputable def noOwn:FH:=fun J=>none
theorem pW:∀l,fE l=l.map D.ey:=by
 intro L
 induction L with
 |nil=>
  exact rfl
 |cons J r h=>
  exact congrArg _ (h)
theorem vp:∀l,iF l=l.map fun p=>(p.1,p.2.ey):=by
 intro L
 induction L with
 |nil=>
  exact rfl
 |cons J r h=>
  exact congrArg _ (h)
theorem Val.ey(e:∀a o,G a=some o→a2 a=some o)(m:∀a o,f a=some o→a2 a=some o):∀{v:Value},Val (c.wo f) G j v→Val (c.wo noOwn) a2 j.ey v:=by
 have i:∀l:List D,(∀j∈l,∀v,Val (c.wo f) G j v→Val (c.wo noOwn) a2 j.ey v)→∀d,Vals (c.wo f) G l d→Vals (c.wo noOwn) a2 (fE l) d:=fun l b d h=>pW l▸Vals.map b d h;have k:∀l:List (Str×D),(∀p∈l,∀v,Val (c.wo f) G p.2 v→Val (c.wo noOwn) a2 p.2.ey v)→∀d,bo (c.wo f) G l d→bo (c.wo noOwn) a2 (iF l) d:=fun l b d h=>vp l▸bo.map b d h;exact fun{v}=>D.ind (P:=fun j=>∀v,Val (c.wo f) G j v→Val (c.wo noOwn) a2 j.ey v) (fun J h=>h) (fun J J h=>h) (fun J J h=>h) (fun J J h=>h) (fun J J h=>h) (fun l b J=>pM.mono e (i l b)) (fun l b J=>lF.mono e (i l b)) (fun l b J=>lG.mono e (k l b)) (fun J J J J=>pN.mono e)
  (fun l b J=>lF.mono m (i l b)) (fun l b J=>lG.mono m (k l b)) (fun J J h=>h) j v
structure bS(c:Cx)(Z:Addr→Prop)(f:FH)(s:Shared)(f':FH)(s':Shared):Prop where
 keep:∀a o,¬Z a→a≠c.P→s.heap.get? a=some o→s'.heap.get? a=some o
 tab:fa c s.heap s'.heap
 aD:s.gens.size≤s'.gens.size
 gens:∀i,i<s.gens.size→s'.gens[i]? =s.gens[i]?
 bare:∀i x,s.gens.size≤i→s'.gens[i]? =some x→x.bare=true
 os:s'.os=s.os
 ext:∀a o,f a=some o→f' a=some o
 old:∀a,¬Z a→s.heap.get? a≠none→f' a=f a
 sub:Sub c f' s'.heap
 has:∀a,s.heap.get? a≠none→s'.heap.get? a≠none
 tk:s.toks≤s'.toks
theorem bS.ry{Z:Addr→Prop}(x:Go c f s G t):bS c Z f s G t:=⟨fun a o J=>x.keep a o,x.tab,x.aD,x.gens,x.bare,x.os,x.ext,fun a J=>x.old a,x.sub,fun a=>x.has,x.tk⟩
theorem bS.refl{Z:Addr→Prop}(h:Sub c f s.heap):bS c Z f s f s:= .ry (.refl h)
theorem bS.mono{Z:Addr→Prop}(x:bS c Z f s G t)(h:∀a,Z a→g7 a):bS c g7 f s G t:=
 ⟨fun a o q=>x.keep a o fun z=>q (h a z),x.tab,x.aD,x.gens,x.bare,x.os,x.ext,fun a q=>x.old a fun z=>q (h a z),x.sub,x.has,x.tk⟩
theorem bS.trans{Z:Addr→Prop}(x:bS c Z f s G t)(y:bS c g7 G t a2 c5)(h:∀a,g7 a→Z a∨s.heap.get? a=none):bS c Z f s a2 c5 where
 keep:=fun a o q b e=>y.keep a o (fun z=>by
  refine ay (h a z) (fun z=>?_) fun z=>?_
  ·exact q z
  ·rw[e]at z;contradiction) b (x.keep a o q b e)
 tab:=x.tab.trans y.tab
 aD:=Nat.le_trans x.aD y.aD
 gens:=fun i q=>(y.gens i (Nat.lt_of_lt_of_le q x.aD)).trans (x.gens i q)
 bare:=fun i z q e=>by
  by_cases r:i<t.gens.size
  ·rw[y.gens i r]at e;exact x.bare i z q e
  ·exact y.bare i z (Nat.not_lt.mp r) e
 os:=y.os.trans x.os
 ext:=fun a o e=>y.ext a o (x.ext a o e)
 old:=fun a q e=>(y.old a (fun z=>by
  refine ay (h a z) (fun z=>?_) fun z=>?_
  ·exact q z
  ·exact e z) (x.has a e)).trans (x.old a q e)
 sub:=y.sub
 has:=fun a e=>y.has a (x.has a e)
 tk:=Nat.le_trans x.tk y.tk
theorem Go.Cj{Z:Addr→Prop}(x:Go c f s G t)(y:bS c Z G t a2 c5)(h:∀a,Z a→s.heap.get? a=none):Go c f s a2 c5 where
 keep:=fun a o b e=>y.keep a o (fun z=>by have:=h a z;rw[e]at this;contradiction) b (x.keep a o b e)
 tab:=x.tab.trans y.tab
 aD:=Nat.le_trans x.aD y.aD
 gens:=fun i q=>(y.gens i (Nat.lt_of_lt_of_le q x.aD)).trans (x.gens i q)
 bare:=fun i z q e=>by
  by_cases r:i<t.gens.size
  ·rw[y.gens i r]at e;exact x.bare i z q e
  ·exact y.bare i z (Nat.not_lt.mp r) e
 os:=y.os.trans x.os
 ext:=fun a o e=>y.ext a o (x.ext a o e)
 old:=fun a e=>(y.old a (fun z=>e (h a z)) (x.has e)).trans (x.old a e)
 sub:=y.sub
 tk:=Nat.le_trans x.tk y.tk
theorem Go.kl(x:Go (c.wo a2) f s G t):Go c f s G t:=⟨x.keep,x.tab,x.aD,x.gens,x.bare,x.os,x.ext,x.old,x.sub,x.tk⟩
theorem Go.tF{u:FH}(x:Go c f s G t):Go (c.wo u) f s G t:=⟨x.keep,x.tab,x.aD,x.gens,x.bare,x.os,x.ext,x.old,x.sub,x.tk⟩
theorem Gl.cT(g:Gl (c.wo f) U):Gl c.bare U:=⟨g.g,g.b,g.lim,g.dig,g.K,g.kP,g.tab,fun J J e=>by contradiction⟩
theorem Gl.km(g:Gl c.bare U)(h:∀a o,f a=some o→a≠c.P∧U.get? a=some o):Gl (c.wo f) U:=⟨g.g,g.b,g.lim,g.dig,g.K,g.kP,g.tab,h⟩
noncomputable def FH.er(h b:FH):FH:=fun a=>match h a with|some o=>some o|none=>b a
theorem FH.dG(e:f v=some d1):f.er G v=some d1:=by unfold FH.er;rw[e]
theorem FH.dH(e:f v=none):f.er G v=G v:=by unfold FH.er;rw[e]
theorem FH.gE(e:f.er G v=some d1):f v=some d1∨(f v=none∧G v=some d1):=by
 rcases h:f v with _|b
 ·rw[FH.dH h]at e;exact .inr ⟨rfl,e⟩
 ·rw[FH.dG h]at e;obtain rfl:=Option.some.inj e;exact .inl rfl
noncomputable def FH.rep(u h d:FH):FH:=fun b=>match d b with|some o=>some o|none=>match h b with|some _=>none|none=>u b
theorem FH.kN(e:f.rep G a2 v=some d1):a2 v=some d1∨(a2 v=none∧G v=none∧f v=some d1):=by
 unfold FH.rep at e;rcases h:a2 v with _|d
 ·
  rw[h]at e;rcases b:G v with _|d
  ·rw[b]at e;exact .inr ⟨rfl,rfl,e⟩
  ·rw[b]at e;contradiction
 ·rw[h]at e;obtain rfl:=Option.some.inj e;exact .inl rfl
inductive pA(c:Cx)(f:FH)(h:Heap)(env:Env):Omega→FH→Prop
 |nil:pA c f h env [] noOwn
 |cons {x:Str} {d:D} {r:Omega} {u1 u2:FH} {v:Value}:Reads h env x v→Val (c.wo u1) f d v→(∀a,u1 a≠none→u2 a=none)→pA c f h env r u2→pA c f h env ((x,d)::r) (u1.er u2)
inductive fK:Omega→Str→D→D→Omega→Prop
 |head {x:Str} {d d':D} {r:Omega}:fK ((x,d)::r) x d d' ((x,d')::r)
 |tail {p:Str×D} {x:Str} {d d':D} {r r':Omega}:fK r x d d' r'→fK (p::r) x d d' (p::r')
theorem de:∀(n:Nat){r:Omega},r[n]? =some (x,j)→fK r x j a5 (r.set n (x,a5)):=by
 intro n
 induction n with
 |zero=>intro b h;rcases b with _|⟨p,r⟩;exact nomatch h;exact Option.some.inj h▸ .head
 |succ n d=>intro b h;rcases b with _|⟨p,r⟩;exact nomatch h;exact .tail (d h)
variable{y c9:Omega}
theorem pA.mono(p:pA c f U q y a2)(b:∀a o,f a=some o→G a=some o)(h:∀x v,x∈y.map (·.1)→Reads U q x v→Reads f5 q x v):pA c G f5 q y a2:=by
 induction p with
 |nil=>exact .nil
 |cons r v d p i=>exact .cons (h _ _ (by simp) r) (v.mono b) d (i fun x v e=>h x v (List.mem_cons_of_mem _ e))
theorem pA.get(p:pA c f U q y G):∀x d,(x,d)∈y→∃v,Reads U q x v∧Val (c.wo G) f d v:=by
 induction p with
 |nil=>intro x d U;contradiction
 |cons r v b p i=>
  intro x d h;refine memC h (fun e=>?_) fun h=>?_
  ·cases e;exact aF _ r (v.dr fun a o e=>FH.dG e)
  ·refine au (i x d h) fun w j m=>?_;refine aF w j (m.dr fun a o e=>?_);rw[FH.dH]
   ·exact e
   ·rename_i k s _ _;rcases a0:k a with _|n
    ·rfl
    ·have:=b a (by rw[a0];simp);rw[this]at e;contradiction
theorem pA.upd(p:pA c f U q y G)(L:fK y x j a5 c9):∃h v,Reads U q x v∧Val (c.wo h) f j v∧(∀a o,h a=some o→G a=some o)∧
  ∀t u d,(∀a o,f a=some o→t a=some o)→(∀x v,x∈y.map (·.1)→Reads U q x v→Reads u q x v)→Val (c.wo d) t a5 v→(∀a,d a≠none→h a≠none∨G a=none)→pA c t u q c9 (G.rep h d):=by
 induction L generalizing G with
 |head=>
  cases p with
  | @cons _ _ _ h s v r H i p=>
   refine nI h v r H (fun a o e=>FH.dG e) (fun t u d l w I g=>?_);have e:(h.er s).rep h d=d.er s:=by
    funext b;unfold FH.rep FH.er;rcases C:d b with _|o
    ·
     rcases E:h b with _|o
     ·rfl
     ·simp[i b (by rw[E];simp)]
    ·rfl
   rw[e];refine .cons (w _ _ (by simp) r) I (fun a k=>?_) (p.mono l fun x v J=>w x v (List.mem_cons_of_mem _ J));refine ay (g a k) (fun a0=>?_) fun a0=>?_
   ·exact i a a0
   ·rcases C:h a with _|o
    ·rw[FH.dH C]at a0;exact a0
    ·exact i a (by rw[C];simp)
 |tail L X=>
  cases p with
  | @cons _ _ _ n s v r H i p=>
   refine hJ (X p) fun h Z Y I F O=>?_;have W:∀a,n a≠none→s a=none:=i;have T:∀a o,s a=some o→n a=none:=fun a o e=>by
    rcases a0:n a with _|N
    ·rfl
    ·have:=i a (by rw[a0];simp);rw[this]at e;contradiction
   refine nI h Z Y I (fun a o e=>by rw[FH.dH (T a o (F a o e))];exact F a o e) (fun t u d l w Q g=>?_);have P:∀a,d a≠none→h a≠none∨s a=none:=fun a k=>by
    refine ay (g a k) (fun a0=>?_) fun a0=>?_
    ·exact .inl a0
    ·rcases m:n a with _|o
     ·rw[FH.dH m]at a0;exact .inr a0
     ·exact .inr (i a (by rw[m];simp))
   have M:∀a,n a≠none→d a=none∧h a=none:=fun a k=>by
    have E:=i a k;have K:h a=none:=by
     rcases a0:h a with _|o
     ·rfl
     ·rw[F a o a0]at E;contradiction
    refine⟨?_,K⟩;rcases a0:d a with _|o
    ·rfl
    ·
     refine ay (g a (by rw[a0];simp)) (fun z=>?_) fun z=>?_
     ·exact absurd K z
     ·rcases m:n a with _|S
      ·exact absurd m k
      ·rw[FH.dG m]at z;contradiction
   have e:(n.er s).rep h d=n.er (s.rep h d):=by
    funext b;rcases m:n b with _|o
    ·simp[FH.rep,FH.er,m]
    ·
     refine ai (M b (by rw[m];simp)) fun A B=>?_;simp[FH.rep,FH.er,m,A,B]
   rw[e];refine .cons (w _ _ (by simp) r) (H.mono l) (fun a k=>?_) (O t u d l (fun x v J=>w x v (List.mem_cons_of_mem _ J)) Q P);refine ai (M a k) fun A B=>?_;simp[FH.rep,A,B,i a k]
structure Run(c:Cx)(jl:List Str)(env:Env)(s₀:Shared)(f₀:FH)(ρ:bD)(ω:Omega)(u f:FH)(s:Shared):Prop where
 go:Go c f₀ s₀ f s
 base:St (c.wo u) f [] env s
 cl:∀x d,(x,some d)∈ρ→∃v,Reads s.heap env x v∧Val (c.wo noOwn) f d v
 pB:pA c f s.heap env ω u
 own:∀a o,u a=some o→s₀.heap.get? a=none∧f a=none
 nm:∀x∈jl,di s₀ f env s.heap x
 fr:f env.locals=none∧∀n b,env.cells.lookup n=some b→f b=none
theorem fG:∀a o,noOwn a=some o→f a=some o:=fun J J e=>by contradiction
theorem Run.st(R:Run c p q s f r y a2 G t):St (c.wo a2) G (allOf r y) q t where
 gl:=R.base.gl
 sub:=R.base.sub
 names:=fun x d b=>by
  refine dd b (fun h=>?_) fun h=>?_
  ·refine au (R.cl x d h) fun v a1 j=>?_;exact aF v a1 (j.dr fG)
  ·refine bZ h fun a0 i e=>?_;cases e;exact R.pB.get a0.1 a0.2 i
 cells:=R.base.cells
 here:=R.base.here
 apart:=R.base.apart
 tk:=R.base.tk
theorem Run.step(R:Run c p q s f r y h1 G t)(g:Go (c.wo h1) G t a2 c5):Run c p q s f r y h1 a2 c5 where
 go:=R.go.trans g.kl
 base:=R.base.go g
 cl:=fun x d j=>au (R.cl x d j) fun v a0 k=>⟨v,a0.go R.base.gl g.keep,k.mono g.ext⟩
 pB:=R.pB.mono g.ext fun x v J a0=>a0.go R.base.gl g.keep
 own:=fun a o e=>⟨(R.own a o e).1,(g.old a (by rw[(R.base.gl.own a o e).2];simp)).trans (R.own a o e).2⟩
 nm:=fun x u=>(R.nm x u).px R.base.gl (g.toX (X:=fun J=>False)) fun J h=>h.elim
 fr:=⟨(g.old _ (by refine jC R.base.here fun m o l z i J=>?_;rw[i];simp)).trans R.fr.1,fun n b e=>(g.old _ (by refine bV (R.base.cells n b e) fun w o i J=>?_;rw[i];simp)).trans (R.fr.2 n b e)⟩
theorem Run.weaken(R:Run c p q s f r y a2 G t)(h:∀x d,(x,some d)∈a6→(x,some d)∈r):Run c p q s f a6 y a2 G t:=⟨R.go,R.base,fun x d b=>R.cl x d (h x d b),R.pB,R.own,R.nm,R.fr⟩
theorem bS.xP{tk:Nat}(d:Sub c f s.heap)(k:v≠c.P)(n:f v=none)(h:Heap.SameBut v s.heap U)(p:U.get? v≠none)(r:s.toks≤tk):bS c (· =v) f s f {s with heap:=U,toks:=tk} where
 tk:=r
 keep:=fun b o m J e=>(h.2 b m).trans e
 tab:= .inl (h.2 _ (Ne.symm k))
 aD:=Nat.le_refl _
 gens:=fun J J=>rfl
 bare:=fun i x q e=>by
  have j:s.gens[i]? =some x:=e;rw[Array.getElem?_eq_none q]at j;contradiction
 os:=rfl
 ext:=fun J J e=>e
 old:=fun J J J=>rfl
 sub:=fun b o e=>⟨(d b o e).1,(h.2 b (by rintro rfl;rw[n]at e;contradiction)).trans (d b o e).2⟩
 has:=fun b e=>by
  by_cases q:b=v
  ·subst q;exact p
  ·refine(?_ :U.get? b≠none);rw[h.2 b q];exact e
theorem pX(o:bE q e)(Z:Gl c.bare s.heap)(a2:Go c f s G t)(y:St c G [] q t)(w:di s G q t.heap x)(D:∀k a,Place q x a→s.heap.get? a=none→G a=none→(∀b,b≠a→k.heap.get? b=t.heap.get? b)→bS c (· =a) G t G k→Go c f s G k→St c G [] q k→(∀z,di s G q t.heap z→di s G q k.heap z)→
   Reads k.heap q x C→(∀z w,z≠x→Reads t.heap q z w→Reads k.heap q z w)→c6 () k):
  wpAny (model c.prog c.w) A (storeName q x C) c6 E t:=by
 have R:q.scope.kind= .function:=by rw[o.scope];exact o.kind
 refine ay w (fun p=>?_) fun u=>?_
 ·obtain⟨j,P,L,m,M⟩:=p;refine wpAny_storeName_local j M (fun i F h=>?_) (by rw[R];rfl);have W:q.locals≠c.P:=y.gl.ne_of_ns M;have d:Go c f s G {t with heap:=i,toks:=t.toks+1}:=a2.turn P L W h;have O:∀b w,t.heap.IsCell b w→i.IsCell b w:=fun b w l=>l.sameBut h (by rintro rfl;exact iB M l);have T:i.get? q.locals≠none:=by refine cX F fun V J J H J=>?_;rw[H];simp
  refine D _ q.locals (.inl ⟨j,rfl⟩) P L h.2 (bS.xP y.sub W L h T (Nat.le_succ _)) d ⟨y.gl.turned (d.cT.gl Z) y.apart.1 h,d.sub,fun z a1 U=>(nomatch U),fun n b l=>ah (y.cells n b l) fun w a0=>⟨w,O b w a0⟩,⟨_,F⟩,y.apart,Nat.lt_succ_of_lt y.tk⟩ (fun z Y=>?_) (.inl ⟨j,_,F,by simp⟩) fun z w X r=>?_
  ·refine ay Y (fun p=>bQ p fun a0 J J J=>?_) fun u=>?_
   ·exact .inl ⟨a0,P,L,_,F⟩
   ·obtain⟨a0,b,a1,v,g,w,n⟩:=u;exact .inr ⟨a0,b,a1,v,g,w,O b w n⟩
  ·refine ay r (fun p=>?_) fun u=>?_
   ·obtain⟨a0,m2,n,a1⟩:=p;refine .inl ⟨a0,_,F,?_⟩;rw[if_neg X,M.agree n z];exact a1
   ·obtain⟨a0,b,a1,n⟩:=u;exact .inr ⟨a0,b,a1,O b _ n⟩
 ·obtain⟨j,a,B,N,Q,v0,I⟩:=u;refine wpAny_storeName_cell R j B I fun i K h=>?_;have S:a≠c.P:=by
   refine au I fun V H hd=>?_;exact y.gl.dP H fun ps a0=>by rw[a0]at hd;contradiction
  have d:Go c f s G {t with heap:=i,toks:=t.toks}:=a2.turn N Q S h;have d:Go c f s G {t with heap:=i}:=d;have T:i.get? a≠none:=by refine au K fun V H J=>?_;rw[H];simp
  have W':bS c (· =a) G t G {t with heap:=i,toks:=t.toks}:=bS.xP y.sub S Q h T (Nat.le_refl _);refine D _ a (.inr ⟨j,B⟩) N Q h.2 W' d ⟨y.gl.turned (d.cT.gl Z) (y.apart.2 _ _ B) h,d.sub,fun z a1 U=>(nomatch U),fun n b l=>?_,ah y.here fun m n=>⟨m,n.sameBut h (by rintro rfl;exact iB n I)⟩,y.apart,y.tk⟩ (fun z Y=>?_)
   (.inr ⟨.inl j,a,B,K⟩) fun z w X r=>pP (m:=fun J=>none) o y.cells (.inr ⟨j,B⟩) X j r i h
  ·by_cases a0:b=a
   ·subst a0;exact⟨_,K⟩
   ·refine ah (y.cells n b l) fun w hw=>?_;exact⟨w,hw.sameBut h a0⟩
  ·refine ay Y (fun p=>?_) fun u=>?_
   ·obtain⟨a0,v,g,m,n⟩:=p;exact .inl ⟨a0,v,g,m,n.sameBut h (by rintro rfl;exact iB n I)⟩
   ·obtain⟨a0,b,a1,v,g,w,n⟩:=u;by_cases qq:b=a
    ·subst qq;exact .inr ⟨a0,b,a1,v,g,_,K⟩
    ·exact .inr ⟨a0,b,a1,v,g,w,n.sameBut h qq⟩
noncomputable def Pz(env:Env)(h:List Str)(a:Addr):Prop:=∃x∈h,Place env x a
noncomputable def Zn(env:Env)(h:List Str)(u:FH)(a:Addr):Prop:=(∃x∈h,Place env x a)∨u a≠none
theorem bS.pz{u:FH}(W:bS c (Pz q p) f s G t):bS c (Zn q p u) f s G t:=W.mono fun J h=> .inl h
theorem Run.store{d:D}(o:bE q e)(B:Gl c.bare s.heap)(R:Run c p q s f r y a2 G t)(k:x∈p)(Q:x∉y.map (·.1))(M:Upd r x d a6)(K:(r.map (·.1)).Nodup)(O:Val (c.wo noOwn) G d C)(F:∀i,Run c p q s f a6 y a2 G i→bS c (Pz q p) G t G i→c6 () i):wpAny (model c.prog c.w) A (storeName q x C) c6 E t:=by
 refine pX (c:=c.wo a2) o B R.go.tF R.base (R.nm x k) fun i a T X Y Z h a3 a5 ow U m=>?_;refine F i ⟨a3.kl,a5,fun z a0 H=>?_,R.pB.mono (fun J J a0=>a0) fun z w j a1=>m z w (fun a4=>Q (a4▸j)) a1,R.own,fun z j=>ow z (R.nm z j),R.fr⟩ ?_
 ·refine ay (M.mem K z a0 H) (fun n=>ai n fun u v=>?_) fun g=>ai g fun L I=>?_
  ·subst u;subst v;exact aF C U O
  ·refine au (R.cl z a0 I) fun w a1 P=>?_;exact aF w (m z w L a1) P
 ·have l:bS c (· =a) G t G i:=⟨h.keep,h.tab,h.aD,h.gens,h.bare,h.os,h.ext,h.old,h.sub,h.has,h.tk⟩;exact l.mono fun b a0=>by subst a0;exact aF x k T
theorem Run.rz(o:bE q e)(K:Gl c.bare s.heap)(R:Run c p q s f r y a2 G t)(v:x∈p)(Z:x∉y.map (·.1))(Y:∀j,(x,some j)∉r)(U:Val (c.wo h1) G j C)(m:∀a o,h1 a=some o→s.heap.get? a=none∧G a=none∧a2 a=none∧a≠c.P∧t.heap.get? a=some o∧∀x∈p,¬Place q x a)(l:h1 q.locals=none∧∀n a,q.cells.lookup n=some a→h1 a=none)(P:∀i,Run c p q s f r ((x,j)::y) (h1.er a2) G i→bS c (Pz q p) G t G i→c6 () i):wpAny (model c.prog c.w) A (storeName q x C) c6 E t:=by
 refine pX (c:=c.wo a2) o K R.go.tF R.base (R.nm x v) fun i a B N S T h a5 a3 ow W F=>?_;have I:∀b,h1 b≠none→a2 b=none:=fun b Q=>by
  rcases a0:h1 b with _|d
  ·exact absurd a0 Q
  ·exact(m b d a0).2.2.1
 refine P i ⟨a5.kl,?_,fun z a0 k=>?_,.cons W U I (R.pB.mono (fun J J a0=>a0) fun z w g a4=>F z w (fun a1=>Z (a1▸g)) a4),fun b d a0=>?_,fun z g=>ow z (R.nm z g),R.fr⟩ ?_
 ·refine⟨a3.gl.cT.km fun b d a0=>?_,a3.sub,fun z a0 k=>(nomatch k),a3.cells,a3.here,?_,a3.tk⟩
  ·refine ay (FH.gE a0) (fun a1=>?_) fun u=>ai u fun J a1=>?_
   ·refine nG (m b d a1) fun J J J L M O=>?_;exact⟨L,(T b (by rintro rfl;exact O x v B)).trans M⟩
   ·exact a3.gl.own b d a1
  ·exact⟨by refine(?_ :h1.er a2 _=none);rw[FH.dH l.1];exact a3.apart.1,fun n b a0=>by refine(?_ :h1.er a2 _=none);rw[FH.dH (l.2 n b a0)];exact a3.apart.2 n b a0⟩
 ·refine au (R.cl z a0 k) fun w a4 X=>?_;exact aF w (F z w (fun a1=>Y a0 (a1▸k)) a4) X
 ·refine ay (FH.gE a0) (fun a1=>?_) fun u=>ai u fun J a1=>?_
  ·exact⟨(m b d a1).1,(m b d a1).2.1⟩
  ·exact R.own b d a1
 ·have H:bS c (· =a) G t G i:=⟨h.keep,h.tab,h.aD,h.gens,h.bare,h.os,h.ext,h.old,h.sub,h.has,h.tk⟩;exact H.mono fun b a0=>by subst a0;exact aF x v B
theorem Reads.kept(r:Reads U q x C)(k:∀b o,(b=q.locals∨∃n,q.cells.lookup n=some b)→U.get? b=some o→f5.get? b=some o):Reads f5 q x C:=by
 refine ay r (fun d=>?_) fun i=>?_
 ·obtain⟨a0,m,⟨o,p,j,h,t⟩,e⟩:=d;exact .inl ⟨a0,m,⟨o,p,j,k _ _ (.inl rfl) h,t⟩,e⟩
 ·obtain⟨a0,a,e,o,h,s⟩:=i;exact .inr ⟨a0,a,e,o,k _ _ (.inr ⟨_,e⟩) h,s⟩
theorem Run.xQ(R:Run c p q s f r y a2 G t)(g0:Gl c.bare s.heap)(hu:fK y x j a5 c9):
  ∃h v,Reads t.heap q x v∧Val (c.wo h) G j v∧(∀a o,h a=some o→a2 a=some o)∧∀k tk g,t.toks≤tk→
   (∀b o,h b=none→t.heap.get? b=some o→k.get? b=some o)→(∀b,t.heap.get? b≠none→k.get? b≠none)→(∀a o,g a=some o→k.get? a=some o∧a≠c.P)→
   (∀a,g a≠none→h a≠none∨(a2 a=none∧G a=none∧s.heap.get? a=none∧q.locals≠a∧∀n b,q.cells.lookup n=some b→b≠a))→Val (c.wo g) G a5 v→
   Run c p q s f r c9 (a2.rep h g) G {t with heap:=k,toks:=tk}∧bS c (fun a=>a2 a≠none) G t G {t with heap:=k,toks:=tk}:=by
 refine hJ (R.pB.upd hu) fun h v a1 hv C hb=>?_;refine nI h v a1 hv C (fun k tk g X H hh Y l a4=>?_);have S:a2 q.locals=none:=R.base.apart.1;have N:∀n a,q.cells.lookup n=some a→a2 a=none:=R.base.apart.2;have Z:∀a,a2 a=none→h a=none:=fun a e=>by
  rcases a0:h a with _|o
  ·rfl
  ·rw[C a o a0]at e;contradiction
 have F:∀b o,(b=q.locals∨∃n,q.cells.lookup n=some b)→t.heap.get? b=some o→k.get? b=some o:=fun b o a0 e=>by
  refine H b o (Z b ?_) e;refine ay a0 (fun d=>?_) fun M=>ah M fun n a0=>?_
  ·subst d;exact S
  ·exact N n b a0
 have uP:h c.P=none:=by
  rcases a0:h c.P with _|o
  ·rfl
  ·exact absurd rfl (R.base.gl.own _ _ (C _ _ a0)).1
 have U:bS c (fun a=>h a≠none) G t G {t with heap:=k,toks:=tk}:=
  {keep:=fun a o a0 J e=>H a o (by simpa using a0) e
   tab:= .inl (by refine ah R.base.gl.cH fun o u=>?_;exact(H _ _ uP u).trans u.symm)
   aD:=Nat.le_refl _
   gens:=fun J J=>rfl
   bare:=fun i x a0 e=>by
    have V:t.gens[i]? =some x:=e;rw[Array.getElem?_eq_none a0]at V;contradiction
   os:=rfl
   ext:=fun J J e=>e
   old:=fun J J J=>rfl
   sub:=fun a o e=>⟨(R.base.sub a o e).1,H a o (by
    rcases a0:h a with _|I
    ·rfl
    ·have:=(R.own a I (C a I a0)).2;rw[e]at this;contradiction) (R.base.sub a o e).2⟩
   has:=hh
   tk:=X}
 have L:Go c f s G {t with heap:=k,toks:=tk}:=R.go.Cj U fun a a0=>by
  rcases e:h a with _|o
  ·exact absurd e a0
  ·exact(R.own a o (C a o e)).1
 have W:∀a,a2 a=none→(g a≠none→h a=none→False)→a2.rep h g a=none:=fun a e a0=>by
  rcases a1:a2.rep h g a with _|o
  ·rfl
  ·
   refine ay (FH.kN a1) (fun z=>?_) fun d=>ba d fun J J z=>?_
   ·exact(a0 (by rw[z];simp) (Z a e)).elim
   ·rw[e]at z;contradiction
 refine⟨⟨L,⟨(L.cT.gl g0).km fun a o e=>?_,L.sub,fun J J Q=>(nomatch Q),fun n a e=>?_,?_,?_,Nat.lt_of_lt_of_le R.base.tk X⟩,fun z e Q=>?_,?_,fun a o e=>?_,fun z hz=>?_,R.fr⟩,U.mono fun a a0=>?_⟩
 ·refine ay (FH.kN e) (fun a0=>?_) fun d=>ba d fun J K a0=>?_
  ·exact⟨(Y a o a0).2,(Y a o a0).1⟩
  ·exact⟨(R.base.gl.own a o a0).1,H a o K (R.base.gl.own a o a0).2⟩
 ·refine bV (R.base.cells n a e) fun w E u l=>?_;exact bj w E (F _ _ (.inr ⟨n,e⟩) u) l
 ·refine jC R.base.here fun m E P O u T=>?_;exact zO m E P O (F _ _ (.inl rfl) u) T
 ·refine⟨W _ S fun A B=>?_,fun n a e=>W _ (N n a e) fun A B=>?_⟩
  ·refine ay (l _ A) (fun a0=>?_) fun d=>gr d fun J J J a0 J=>?_
   ·exact a0 B
   ·exact a0 rfl
  ·refine ay (l _ A) (fun a0=>?_) fun d=>gr d fun J J J J a0=>?_
   ·exact a0 B
   ·exact a0 n a e rfl
 ·refine au (R.cl z e Q) fun w r' hw=>?_;exact aF w (r'.kept F) hw
 ·exact hb G k g (fun J J e=>e) (fun z w J a1=>a1.kept F) a4 fun a a0=>(l a a0).imp_right fun a3=>a3.1
 ·refine ay (FH.kN e) (fun a0=>?_) fun d=>ba d fun J J a0=>?_
  ·refine ay (l a (by rw[a0];simp)) (fun a3=>?_) fun d=>bQ d fun J t1 t2 J=>?_
   ·rcases K:h a with _|I
    ·exact absurd K a3
    ·exact R.own a I (C a I K)
   ·exact⟨t2,t1⟩
  ·exact R.own a o a0
 ·refine ay (R.nm z hz) (fun d=>?_) fun M=>?_
  ·obtain⟨a0,A,B,m,E,P,O,u,T⟩:=d;exact .inl ⟨a0,A,B,m,E,P,O,F _ _ (.inl rfl) u,T⟩
  ·obtain⟨a0,b,e,A,B,w,E,u,l⟩:=M;exact .inr ⟨a0,b,e,A,B,w,E,F _ _ (.inr ⟨_,e⟩) u,l⟩
 ·rcases e:h a with _|o
  ·exact absurd e a0
  ·refine(?_ :a2 a≠none);rw[C a o e];simp
noncomputable def jn(c:Cx)(k:Nat)(h:Scope)(b:bD)(i:Omega)(e:Expr)(d:D):Prop:=∀u,Ev (c.wo u) k h (allOf b i) e d
noncomputable def BX(c:Cx)(k:Nat)(h:Scope)(b:bD)(i:Omega)(e:List Expr)(d:List D):Prop:=∀u,ag (c.wo u) k h (allOf b i) e d
noncomputable def CI(c:Cx)(k:Nat)(h:Scope)(d:bD)(i:Omega)(e:Expr)(b:Bool):Prop:=∀u,br (c.wo u) k h (allOf d i) e b
theorem jn.run(h:jn c n e r y o j)(a1:bJ n A)(a0:bE q e)(R:Run c p q s f r y a2 G t)(i:∀v d b,Run c p q s f r y a2 b d→Go (c.wo a2) G t b d→Val (c.wo a2) b j v→V v d):wpAny (model c.prog c.w) A (eval o q) V E t:=
 h a2 A q G t V E a1 a0 R.st fun v d b g k=>i v d b (R.step g) g k
noncomputable def ig(c:Cx)(k:Nat)(j:Scope)(m:bD)(n:Omega)(e:Expr)(d:D):Prop:=
 ∀(u:FH)(A:Around)(env:Env)(f:FH)(s:Shared)(Q:Value→Shared→Prop)(E:Value→Shared→Prop),bJ k A→bE env j→St (c.wo u) f (allOf m n) env s→
  (∀v b h i,Go (c.wo u) f s h b→Val (c.wo i) h d v→(∀a o,i a=some o→s.heap.get? a=none∧h a=none∧a≠c.P∧b.heap.get? a=some o)→Q v b)→
  wpAny (model c.prog c.w) A (eval e env) Q E s
theorem ig.list(h:BX c n e r y B l)(t:aS l)(w:l.length≤1000000:=by exact Nat.le_of_ble_eq_true rfl):ig c n e r y (.List B O) (.ao l):=fun u A k f s Q E a2 o a1 p=>
 List_ (h u A k f s O _ E a2 o a1 fun j b d g i=>wpAny_newList (by
  have v:d b.heap.objs.size=none:=g.cj (Nat.le_refl _);have m:=(a1.go g).gl.xN;refine p _ _ d (noOwn.add b.heap.objs.size {cls:= .type "list",data:= .seq j.toArray}) (g.push (g.gl a1.gl)) ⟨_,j.toArray,0,rfl,FH.aR ..,i.wo t⟩ fun a x a0=>?_;by_cases q:a=b.heap.objs.size
  ·subst q;rw[FH.aR]at a0;obtain rfl:=Option.some.inj a0;exact cp (g.fresh (Nat.le_refl _)) v (Nat.ne_of_gt m) (Heap.get?_push_size _ rfl)
  ·rw[FH.dh q]at a0;exact nomatch a0) (by rw[i.length];exact Nat.le_trans w (by decide)))
theorem ig.nU:ig c n e r y (.Dict [] [] O) (.bW []):=fun u A k f s Q E a2 o a0 d=>
 wpAny_Dict_empty (by
  have j:f s.heap.objs.size=none:=a0.refl.cj (Nat.le_refl _);have b:=a0.gl.xN;refine d _ _ f (noOwn.add s.heap.objs.size {cls:= .type "dict",data:= .dict #[]}) (a0.refl.push a0.gl) ⟨_,_,#[],0,[],rfl,FH.aR ..,⟨rfl,rfl,rfl⟩,rfl,fun J i=>by simp at i,Pairs.nil,List.nodup_nil,rfl,?_⟩ fun a m a1=>?_
  ·have:3<s.heap.objs.size:=a0.gl.g.lt;have h:s.heap.objs.size≠1:=Nat.ne_of_gt (by lia);exact beq_eq_false_iff_ne.mpr (show s.heap.objs.size≠sysModules from h)
  ·by_cases q:a=s.heap.objs.size
   ·subst q;rw[FH.aR]at a1;obtain rfl:=Option.some.inj a1;exact cp (a0.refl.fresh (Nat.le_refl _)) j (Nat.ne_of_gt b) (Heap.get?_push_size _ rfl)
   ·rw[FH.dh q]at a1;contradiction)
inductive Out |next (ρ:bD) (ω:Omega)
 |ret (d:D)
noncomputable def rA(c:Cx)(j:List Str)(env:Env)(s₀:Shared)(f₀ u:FH)(s:Shared):Out→Flow→FH→Shared→Prop
 | .next k m,b,h,e=>b= .next∧∃i,Run c j env s₀ f₀ k m i h e∧∀a,i a≠none→u a≠none∨s.heap.get? a=none
 | .ret d,b,h,e=>∃v,b= .ret v∧Go c f₀ s₀ h e∧Val (c.wo noOwn) h d v
noncomputable def dC(c:Cx)(k:Nat)(j:Scope)(h:List Str)(n:bD)(o:Omega)(m:Env→Sem Flow)(i:Out):Prop:=
 ∀(A:Around)(env:Env)(s₀:Shared)(f₀ f:FH)(s:Shared)(u:FH)(Q:Flow→Shared→Prop)(E:Value→Shared→Prop),bJ k A→bE env j→Gl c.bare s₀.heap→Run c h env s₀ f₀ n o u f s→
  (∀e b d,bS c (Zn env h u) f s d b→rA c h env s₀ f₀ u s i e d b→Q e b)→wpAny (model c.prog c.w) A (m env) Q E s
noncomputable abbrev Wp(c:Cx)(k:Nat)(d:Scope)(h:List Str)(i:bD)(j:Omega)(e:List Stmt)(b:Out):Prop:=dC c k d h i j (execs e) b
noncomputable abbrev av(c:Cx)(k:Nat)(d:Scope)(h:List Str)(i:bD)(j:Omega)(e:Stmt)(b:Out):Prop:=dC c k d h i j (exec e) b
theorem Wp.nil:Wp c n e p r y [] (.next r y):=fun A d k i f s u Q E a0 o j R b=>
 wpAny_execs_nil (b .next s f (.refl R.base.sub) ⟨rfl,u,R,fun a h=> .inl h⟩)
theorem lV(h:∀a,G a≠none→f a≠none∨s.heap.get? a=none):∀a,Zn q p G a→Zn q p f a∨s.heap.get? a=none:=fun a z=>by
 refine ay z (fun z=>?_) fun z=>?_
 ·exact .inl (.inl z)
 ·refine ay (h a z) (fun a0=>?_) fun a0=>?_
  ·exact .inl (.inr a0)
  ·exact .inr a0
variable{g4:Out}
theorem Wp.cons(C:av c n e p r y m9 (.next a6 c9))(F:Wp c n e p a6 c9 a3 g4):Wp c n e p r y (m9::a3) g4:=fun A h m b f s u Q E a0 o i R G=>by
 refine wpAny_execs_cons (C A h m b f s u _ E a0 o i R fun M I g W a2=>?_);obtain⟨rfl,K,v,j⟩:=a2;refine F A h m b g I K Q E a0 o i v fun B J l x k=>G B J l (W.trans x (lV j)) ?_;rcases g4 with⟨P,T⟩|d
 ·
  obtain⟨a1,L,w,H⟩:=k;refine⟨a1,L,w,fun a q=>?_⟩;refine ay (H a q) (fun t=>?_) fun t=>?_
  ·exact j a t
  ·refine .inr ?_;rcases z:s.heap.get? a with _|O
   ·rfl
   ·exact absurd t (W.has a (by rw[z];simp))
 ·exact k
theorem Wp.ret(q:av c n e p r y m9 (.ret j)):Wp c n e p r y (m9::a3) (.ret j):=fun A b x k f s u Q E a1 o m R t=>by
 refine wpAny_execs_cons (q A b x k f s u _ E a1 o m R fun i w d W a0=>?_);have:=t i w d W a0;refine au a0 fun v h J=>?_;subst h;exact this
theorem bS.pre{Z:Addr→Prop}(g:Go (c.wo a2) f s h1 c5)(W:bS c Z h1 c5 G t):bS c Z f s G t:=(bS.ry (Z:=Z) g.kl).trans W fun J h=> .inl h
theorem dC.weaken(h:dC c n e p a6 y k2 g4)(m:∀x d,(x,some d)∈a6→(x,some d)∈r):dC c n e p r y k2 g4:=fun A b q i f s u Q E a0 o j R k=>
 h A b q i f s u Q E a0 o j (R.weaken m) k
theorem av.if(J:CI c n e r y o Q)(F:Q=true→Wp c n e p r y a3 g4)(G:Q=false→Wp c n e p r y j6 g4):av c n e p r y (.If o a3 j6 O) g4:=fun A b L g f s u a0 E a4 a1 B R C=>by
 refine wpAny_If (J u A b f s _ E a4 a1 R.st fun j k i=>?_);have q:=R.step i;have m:∀{l:List Stmt},Wp c n e p r y l g4→wpAny (model c.prog c.w) A (execs l b) a0 E j:=fun I=>I A b L g k j u a0 E a4 a1 B q fun a K x W a2=>by
  have z:∀a3,Zn b p u a3→Zn b p u a3∨s.heap.get? a3=none:=fun a3 h=> .inl h;have v:bS c (Zn b p u) f s k j:= .ry i.kl;refine C a K x (v.trans W z) ?_;rcases g4 with⟨T,U⟩|d
  ·
   obtain⟨a5,M,t,H⟩:=a2;refine⟨a5,M,t,fun a3 Q=>?_⟩;refine ay (H a3 Q) (fun o=>?_) fun o=>?_
   ·exact .inl o
   ·refine .inr ?_;rcases w:s.heap.get? a3 with _|P
    ·rfl
    ·exact absurd o (i.has (by rw[w];simp))
  ·exact a2
 rcases Q with _|_
 ·rw[if_neg (by decide)];exact m (G rfl)
 ·rw[if_pos rfl];exact m (F rfl)
theorem dI{F:Env→J}(h:∀b:Env,F {b with scope:=e}=q8)(b:Env)(a0:b.scope=e):F b=q8:=by subst a0;exact h b
theorem Run.live(R:Run c p q s f r y a2 G t)(n:x∈p)(u:Place q x v):t.heap.get? v≠none:=by
 refine nH ((R.nm x n).at) fun m o J J h=>?_;have:m=v:=by
  focus(refine ay u (fun b=>ai b fun i d=>?_) fun e=>ai e fun i w=>?_;all_goals first|subst d|skip)<;>focus(refine ay o (fun b=>ai b fun j d=>?_) fun e=>ai e fun j k=>?_;all_goals first|subst d|skip)
  ·rfl
  ·rw[i]at j;contradiction
  ·rw[i]at j;contradiction
  ·rw[w]at k;exact(Option.some.inj k).symm
 rw[←this];exact h
theorem Run.vq(R:Run c p q s f r y a2 G t)(h:a2 v≠none):t.heap.get? v≠none:=by
 rcases e:a2 v with _|o
 ·exact absurd e h
 ·rw[(R.base.gl.own v o e).2];simp
theorem Run.none_of(R:Run c p q s f r y a2 G t)(h:t.heap.get? v=none):a2 v=none:=by
 rcases e:a2 v with _|o
 ·rfl
 ·have:=(R.base.gl.own v o e).2;rw[h]at this;contradiction
theorem Run.kO(R:Run c p q s f r y a2 G t)(h:t.heap.get? v=none):s.heap.get? v=none:=by
 rcases e:s.heap.get? v with _|o
 ·rfl
 ·exact absurd h (R.go.has (by rw[e];simp))
theorem Run.nV(R:Run c p q s f r y a2 G t):t.heap.get? q.locals≠none:=by
 refine jC R.base.here fun m o d b h J=>?_;rw[h];simp
theorem Run.nW(R:Run c p q s f r y a2 G t)(h:q.cells.lookup x=some v):t.heap.get? v≠none:=by
 refine bV (R.base.cells x v h) fun m o b J=>?_;rw[b];simp
theorem Run.away(R:Run c p q s f r y a2 G t)(F:Gl c.bare s.heap)(k:s.heap.get? v=none)(u:G v=none)(H:v≠c.P)(I:a2 v=none)(K:v≠q.locals)(L:∀n b,q.cells.lookup n=some b→v≠b)(B:Heap.SameBut v t.heap U):
  Run c p q s f r y a2 G {t with heap:=U}:=by
 have i:∀b o,(b=q.locals∨∃n,q.cells.lookup n=some b)→t.heap.get? b=some o→U.get? b=some o:=fun b o a0 e=>(B.2 b (by
  rintro rfl;refine ay a0 (fun a0=>?_) fun x=>ah x fun n a0=>?_
  ·exact K a0
  ·exact L n _ a0 rfl)).trans e
 have j:Go c f s G {t with heap:=U,toks:=t.toks}:=R.go.turn k u H B;have j:Go c f s G {t with heap:=U}:=j;refine⟨j,⟨(j.cT.gl F).km fun b o e=>⟨(R.base.gl.own b o e).1,(B.2 b (by rintro rfl;rw[I]at e;contradiction)).trans (R.base.gl.own b o e).2⟩,j.sub,fun J J A=>(nomatch A),fun n b e=>?_,?_,R.base.apart,R.base.tk⟩,fun z e A=>?_,R.pB.mono (fun J J e=>e) fun z w J a1=>a1.kept i,R.own,fun z O=>?_,R.fr⟩
 ·refine bV (R.base.cells n b e) fun w d h l=>?_;exact bj w d (i _ _ (.inr ⟨n,e⟩) h) l
 ·refine jC R.base.here fun m d g a h C=>?_;exact zO m d g a (i _ _ (.inl rfl) h) C
 ·refine au (R.cl z e A) fun w P M=>?_;exact aF w (P.kept i) M
 ·refine ay (R.nm z O) (fun x=>?_) fun E=>?_
  ·obtain⟨a0,k,u,m,d,g,a,h,C⟩:=x;exact .inl ⟨a0,k,u,m,d,g,a,i _ _ (.inl rfl) h,C⟩
  ·obtain⟨a0,b,e,k,u,w,d,h,l⟩:=E;exact .inr ⟨a0,b,e,k,u,w,d,i _ _ (.inr ⟨_,e⟩) h,l⟩
theorem rA.next(R:Run c p q s f r y h1 G c5)(h:∀a,h1 a≠none→a2 a≠none∨t.heap.get? a=none):rA c p q s f a2 t (.next r y) .next G c5:=⟨rfl,h1,R,h⟩
theorem av.assign(h:jn c n e r y o j)(g:Clean j)(C:Upd r x j a6)(G:x∈p)(H:x∉y.map (·.1))(l:(r.map (·.1)).Nodup)(B:∀b:Env,swapsWith o (some (.Name x O)) Y.line {b with scope:=e}=pure false):av c n e p r y (.Assign [.Name x O] o Y) (.next a6 y):=fun A b L J f s u Q E a1 a0 t R z=>by
 refine wpAny_Assign_Name (h.run a1 a0 R fun v K m d w F=>?_) (dI B b a0.scope);exact d.store a0 t G H C l (F.wo g) fun I i k=>z .next I m (bS.pre w k.pz) (.next i fun a q=> .inl q)
theorem av.gF(h:ig c n e r y o j)(X:x∈p)(N:x∉y.map (·.1))(W:∀j,(x,some j)∉r)(T:∀d:Env,swapsWith o (some (.Name x O)) Y.line {d with scope:=e}=pure false):av c n e p r y (.Assign [.Name x O] o Y) (.next r ((x,j)::y)):=fun A d a5 a3 f s u Q E a2 a1 H R M=>by
 refine wpAny_Assign_Name (h u A d f s _ E a2 a1 R.st fun v s1 G m w U k=>?_) (dI T d a1.scope);have B:=R.step w;have g:∀a,s.heap.get? a≠none→m a=none:=fun a P=>by
  rcases a0:m a with _|b
  ·rfl
  ·exact absurd (k a b a0).1 P
 refine B.rz a1 H X N W U (fun a b a0=>?_) ⟨g _ R.nV,fun a4 a a0=>g _ (R.nW a0)⟩ fun V C F=>M .next V G (bS.pre w F.pz) (.next C fun a q=>?_)
 ·refine bQ (k a b a0) fun i I K L=>?_;exact kf (R.kO i) I (R.none_of i) K L (fun z Z S=>R.live Z S i)
 ·rcases a0:m.er u a with _|b
  ·exact absurd a0 q
  ·
   refine ay (FH.gE a0) (fun t=>?_) fun l=>ai l fun J t=>?_
   ·exact .inr (k a b t).1
   ·exact .inl (by rw[t];simp)
theorem av.oR{scope:Scope}(hi:∀u,aO (c.wo u) n e (allOf r y) b5.iter b5.target l)(hj:∀u,bN (c.wo u) n (cW scope e) (dx o (b5::e1) scope b1) 0 b5 l2 l (.list []) (.list c7))(L:dS scope e (b5::e1))(a7:(l2.map (·.1)).Nodup)(a8:∀O∈l2,O.2=none∨(O∈allOf r y∧scope.names.lookup O.1=some .free))(hc:aS c7)(hu:Upd r x (.list c7) a6)(hx:x∈p)(a9:x∉y.map (·.1))(hn:(r.map (·.1)).Nodup)(k:∀i:Env,swapsWith (.ListComp o (b5::e1) scope b1) (some (.Name x O)) Y.line {i with scope:=e}=pure true):av c n e p r y (.Assign [.Name x O] (.ListComp o (b5::e1) scope b1) Y) (.next a6 y):=fun A i b4 b2 f s u Q E b0 a1 H R hQ=>by
 rw[exec_Assign_Name_used _ _ _ _ (dI k i a1.scope)];refine wpAny_bind (wpAny_standAt (wpAny_bind ?_));rw[arm_evalThenUse_ListComp];have a5:=(L.gens b5 List.mem_cons_self).1;have W:firstAsync (b5::e1)=false:=by
  obtain⟨U,X,Z,G⟩:=b5;have:G=0:=a5;subst this;rfl
 have N:firstIter (b5::e1) i=eval b5.iter i:=by obtain⟨U,X,Z,G⟩:=b5;rfl
 dsimp only;rw[W,N];refine wpAny_bind (wpAny_mono (rv (c:=c.wo u) (a7:=some (PySem.assign (.Name x O) i)) (E:=fun J s'=>Q .next s') (jk o (b5::e1) scope b1) rfl (d0:= .list []) (d1:={cls:= .type "list",data:= .seq ([]:List Value).toArray}) rfl (fun f h a a0 J=>⟨_,_,a0,rfl⟩)
  (fun A s Q E h=>wpAny_newList h) L a7 a8 (hi u) (hj u) b0 a1 R.st fun v s1 f1 C m I hv j a4 B K a2=>?_) (fun J J hq=>wpAny_pure (wpAny_pure hq)) fun J J a0=>a0)
 refine(?_ :wpAny (model c.prog c.w) A (PySem.assign (.Name x O) i v) _ E s1);have P:=R.step I;refine wpAny_assign_Name (P.store a1 H hx a9 hu hn (hv.wo hc) fun M T t=>?_);replace t:=t.pz (u:=u);have a3:¬Zn i p u C:=by
  rintro(⟨z,hz,pl⟩|q)
  ·exact R.live hz pl j
  ·exact q K
 have nC:M.heap.Ns C m:=by
  refine cX a2 fun w V S ho rr=>?_;exact lR w V S (t.keep C w a3 B ho) rr
 refine aF m nC (fun g k=>?_);have F:=T.away H (R.kO j) a4 B K (fun q=>R.nV (q▸j)) (fun a2 b a0 q=>R.nW a0 (q▸j)) k;have b3:g.get? C≠none∨True:= .inr trivial;have d:=bS.pre I t;refine hQ .next {M with heap:=g} f1 {keep:=fun a w z hP a0=>?_,tab:=?_,aD:=d.aD,gens:=d.gens,bare:=d.bare,os:=d.os,ext:=d.ext,old:=d.old,sub:=F.base.sub,tk:=d.tk,has:=fun a a0=>?_} (.next F fun a q=> .inl q)
 ·exact(k.2 a (by rintro rfl;rw[j]at a0;contradiction)).trans (d.keep a w z hP a0)
 ·exact d.tab.trans (.inl (k.2 _ (Ne.symm B)))
 ·refine(?_ :g.get? a≠none);rw[k.2 a (by rintro rfl;exact a0 j)];exact d.has a a0
theorem Run.pY(S:A.handled=none)(a1:bE q e)(N:Gl c.bare s.heap)(h:eO o j u):
  ∀{d m:bD}{a0:Shared}{v:Value}{Q:Unit→Shared→Prop}{E:Value→Shared→Prop},Run c p q s f d y a2 G a0→(∀x∈u.map (·.1),x∈p∧x∉y.map (·.1))→Val (c.wo noOwn) G j v→dk d u m→(d.map (·.1)).Nodup→
   (∀i,Run c p q s f m y a2 G i→bS c (Pz q p) G a0 G i→Q () i)→wpAny (model c.prog c.w) A (assign o q v) Q E a0:=by
 refine eO.rec (motive_1:=fun o j u J=>∀{d m:bD}{a0:Shared}{v:Value}{Q:Unit→Shared→Prop}{E:Value→Shared→Prop},Run c p q s f d y a2 G a0→(∀x∈u.map (·.1),x∈p∧x∉y.map (·.1))→Val (c.wo noOwn) G j v→dk d u m→(d.map (·.1)).Nodup→
   (∀i,Run c p q s f m y a2 G i→bS c (Pz q p) G a0 G i→Q () i)→wpAny (model c.prog c.w) A (assign o q v) Q E a0)
  (motive_2:=fun L K u J=>∀{d m:bD}{a0:Shared}{C:List Value}{Q:Unit→Shared→Prop}{E:Value→Shared→Prop},Run c p q s f d y a2 G a0→(∀x∈u.map (·.1),x∈p∧x∉y.map (·.1))→Vals (c.wo noOwn) G K C→dk d u m→(d.map (·.1)).Nodup→
   (∀i,Run c p q s f m y a2 G i→bS c (Pz q p) G a0 G i→Q () i)→wpAny (model c.prog c.w) A (assignInOrder (L.map fun t=>assign t q) C) Q E a0) ?_ ?_ ?_ ?_ h
 ·intro x a8 j d m a0 v Q E R w B a2 l g;cases a2 with
  |cons a2 u'=>
   cases u';exact wpAny_assign_Name (R.store a1 N (w x (by simp)).1 (w x (by simp)).2 a2 l B g)
 ·intro L k a8 K b H ih d m a0 v Q E R w B r l g;refine dp (B.isTup R.base.sub) fun a C I V P=>?_;subst I;refine wpAny_assign_Tuple S V ?_ ?_ fun O F=>?_
  ·rw[H.each _,List.length_map _,H.len,←P.length];simp
  ·rw[H.each _,List.findIdx?_eq_none_iff];intro z hz;refine bZ hz fun t J I=>?_;subst I;rfl
  ·rw[H.each _,List.map_map];have hk:∀b a1,a0.heap.get? b=some a1→O.get? b=some a1:=fun b a1 a3=>F b a1 (Nat.ne_of_lt (Heap.lt_size a3)) a3;have M:Go (c.wo a2) G a0 G {a0 with heap:=O}:=R.base.refl.heap (n:=a0.toks) hk R.base.gl.cH;exact ih (R.step M) w P r l fun i T W=>g i T (bS.pre M W)
 ·intro d m a0 C Q E R w B r l g;obtain rfl:C=[]:=B;cases r;exact assignInOrder_nil (g a0 R (.refl R.base.sub))
 ·intro t L j K b b' h1 h2 a6 a7 d m a0 C Q E R w B r l g;obtain⟨v,a9,rfl,a4,a5⟩:=B;refine au r.split fun b0 r u2=>?_;refine assignInOrder_cons (a6 R (fun x F=>w x (by rw[List.map_append];exact List.mem_append_left _ F)) a4 r l fun s1 U Y=>?_);exact a7 U (fun x F=>w x (by rw[List.map_append];exact List.mem_append_right _ F)) a5 u2 (by rw[r.keys];exact l) fun s2 X Z=>g s2 X (Y.trans Z fun J h=> .inl h)
theorem av.jF(h:jn c n e r y o j)(C:Clean j)(l:eO (.Tuple B k O) j u)(H:dk r u a6)(K:∀x∈u.map (·.1),x∈p∧x∉y.map (·.1))(F:(r.map (·.1)).Nodup)(G:∀b:Env,swapsWithSole [.Tuple B k O] o Y.line {b with scope:=e}=pure false)(J:∀b:Env,swappedStores [.Tuple B k O] o {b with scope:=e}=pure none):av c n e p r y (.Assign [.Tuple B k O] o Y) (.next a6 y):=fun A b T M f s a2 Q E a1 a0 w R g=>by
 refine Assign_Tuple (h.run a1 a0 R fun v P t d z I=>?_) (dI G b a0.scope) (dI J b a0.scope);exact d.pY a1.handled a0 w l K (I.wo C) H F fun L i m=>g .next L t (bS.pre z m.pz) (.next i fun a q=> .inl q)
theorem Run.binds(o:bE q e)(F:Gl c.bare s.heap):∀{bs:List (Str×D)}{j:List Value}{k m:bD}{a0:Shared}{Q:Unit→Shared→Prop}{E:Value→Shared→Prop},Run c p q s f k y a2 G a0→(∀x∈bs.map (·.1),x∈p∧x∉y.map (·.1))→
   Vals (c.wo noOwn) G (bs.map (·.2)) j→dk k bs m→(k.map (·.1)).Nodup→
   (∀a,Run c p q s f m y a2 G a→bS c (Pz q p) G a0 G a→Q () a)→wpAny (model c.prog c.w) A (assignInOrder (bs.map fun b=>bindName q b.1) j) Q E a0:=by
 intro L
 induction L with
 |nil=>
  intro j k m a0 Q E R w u i t n;obtain rfl:j=[]:=u;cases i;exact assignInOrder_nil (n a0 R (.refl R.base.sub))
 |cons O r M=>
  obtain⟨x,d⟩:=O;intro j k m a0 Q E R w u i t n;obtain⟨v,X,rfl,H,I⟩:=u;cases i with
  |cons i T=>
   refine assignInOrder_cons (wpAny_bindName (R.store o F (w x (by simp)).1 (w x (by simp)).2 i t H fun U g B=>?_));exact M g (fun z K=>w z (List.mem_cons_of_mem _ K)) I T (by rw[i.keys];exact t) fun P l C=>n P l (B.trans C fun J h=> .inl h)
theorem Vals.reverse(h:Vals c f l Z):Vals c f l.reverse Z.reverse:=by
 induction l generalizing Z with
 |nil=>obtain rfl:Z=[]:=h;rfl
 |cons d r i=>
  obtain⟨v,j,rfl,b,e⟩:=h;rw[List.reverse_cons,List.reverse_cons];exact(i e).append ⟨v,[],rfl,b,rfl⟩
theorem av.iU(h:jn c n e r y o (.tup (u.map (·.2))))(K:aS (u.map (·.2)))(T:dk r u.reverse a6)(W:∀x∈u.map (·.1),x∈p∧x∉y.map (·.1))(M:(r.map (·.1)).Nodup)(P:∀i:Env,swapsWithSole [.Tuple B k O] o Y.line {i with scope:=e}=pure false)(Z:∀i:Env,swappedStores [.Tuple B k O] o {i with scope:=e}=pure (some (u.map (·.1)))):av c n e p r y (.Assign [.Tuple B k O] o Y) (.next a6 y):=fun A i a5 a4 f s a3 Q E a2 a0 G R I=>by
 refine Assign_Tuple_swapped (h.run a2 a0 R fun v t m j H U=>?_) (dI P i a0.scope) (dI Z i a0.scope);have X:Val (c.wo noOwn) m (.tup (u.map (·.2))) v:=Val.wo (j:= .tup _) K U;refine dp (X.isTup j.base.sub) fun a vs l J g=>?_;subst l;have S:(u.map (·.1)).length=vs.size:=by have:=g.length;simp at this⊢;lia
 rw[S];refine unpackItems_tuple a2.handled J fun z N=>?_;have L:∀b a0,t.heap.get? b=some a0→z.get? b=some a0:=fun b a0 a1=>N b a0 (Nat.ne_of_lt (Heap.lt_size a1)) a1;have w:Go (c.wo a3) m t m {t with heap:=z}:=j.base.refl.heap (n:=t.toks) L j.base.gl.cH;rw[←List.map_reverse,List.map_map];refine(j.step w).binds (bs:=u.reverse) a0 G (fun x h=>W x (by rw[List.map_reverse]at h;exact List.mem_reverse.mp h)) (by rw[List.map_reverse];exact g.reverse) T M fun V C F=>I .next V m (bS.pre (H.trans w) F.pz) (.next C fun a q=> .inl q)
inductive vr(c:Cx)(f:FH):List D→List Value→FH→Prop
 |nil:vr c f [] [] noOwn
 |cons {d:D} {ds:List D} {v:Value} {vs:List Value} {u1 u2:FH}:Val (c.wo u1) f d v→(∀a,u1 a≠none→u2 a=none)→vr c f ds vs u2→vr c f (d::ds) (v::vs) (u1.er u2)
theorem vr.length(h:vr c f l Z G):Z.length=l.length:=by
 induction h with
 |nil=>rfl
 |cons h d _ b=>simp[b]
noncomputable def gm(c:Cx)(k:Nat)(m:Scope)(n:bD)(p:Omega)(i:List Expr)(e:List D):Prop:=
 ∀(u:FH)(A:Around)(env:Env)(f:FH)(s:Shared)(j:Pos)(Q:List Value→Shared→Prop)(E:Value→Shared→Prop),bJ k A→bE env m→St (c.wo u) f (allOf n p) env s→
  (∀d b h U,Go (c.wo u) f s h b→vr c h e d U→(∀a o,U a=some o→s.heap.get? a=none∧h a=none∧a≠c.P∧b.heap.get? a=some o)→Q d b)→
  wpAny (model c.prog c.w) A (spliced (backTo j (starEach i env))) Q E s
theorem gm.nil:gm c n e r y [] []:=fun u A b f s d Q E a2 o a1 h=>wpAny_pure (h _ _ f noOwn a1.refl .nil fun J J a0=>(nomatch a0))
theorem gm.cons(b:ig c n e r y o j)(d:gm c n e r y B l)(Z:∀h,starEach (o::B) h=(false,eval o h)::starEach B h:=by intro J;rfl):gm c n e r y (o::B) (j::l):=fun u A h f s F Q E a1 a0 a2 X=>by
 rw[Z _];refine(?_ :wpAny _ A (do
  let v←eval o h
  let z←pure [v]
  return z++(←holding z (spliced (backTo F (starEach B h))))) Q E s)
 refine wpAny_bind (b u A h f s _ E a1 a0 a2 fun v V P w p W g=>wpAny_bind (wpAny_pure (wpAny_bind (wpAny_holding (d u A h P V F _ E a1 a0 (a2.go p) fun vs s2 T U i N C=>wpAny_pure ?_)))));have K:∀a,w a≠none→U a=none:=fun a Y=>by
  rcases x:w a with _|S
  ·exact absurd x Y
  ·
   rcases M:U a with _|R
   ·rfl
   ·have H:=(g a S x).2.2.2;have I:=(C a R M).1;rw[H]at I;contradiction
 refine X _ _ T (w.er U) (p.trans i) (.cons (W.mono i.ext) K N) fun a t L=>?_;refine ay (FH.gE L) (fun q=>?_) fun G=>ai G fun J q=>?_
 ·refine bQ (g a t q) fun b d k m=>?_;exact cp b ((i.old a (by rw[m];simp)).trans d) k (i.keep a t k m)
 ·refine bQ (C a t q) fun b d k m=>?_;refine cp ?_ d k m;rcases O:s.heap.get? a with _|o3
  ·rfl
  ·exact absurd b (p.has (by rw[O];simp))
inductive Stores:bD→Omega→List (Str×D)→bD→Omega→Prop
 |nil {ρ:bD} {ω:Omega}:Stores ρ ω [] ρ ω
 |clean {ρ ρ1 jj:bD} {ω zW:Omega} {x:Str} {d:D} {r:List (Str×D)}:Clean d→Upd ρ x d ρ1→x∉ω.map (·.1)→Stores ρ1 ω r jj zW→Stores ρ ω ((x,d)::r) jj zW
 |own {ρ jj:bD} {ω zW:Omega} {x:Str} {d:D} {r:List (Str×D)}:(∀e,(x,some e)∉ρ)→x∉ω.map (·.1)→Stores ρ ((x,d)::ω) r jj zW→Stores ρ ω ((x,d)::r) jj zW
inductive cU:List Expr→List (Str×D)→Prop
 |nil:cU [] []
 |cons {x:Str} {p:Pos} {d:D} {ts:List Expr} {r:List (Str×D)}:cU ts r→cU (.Name x p::ts) ((x,d)::r)
theorem cU.each(h:cU B u)(b:Env):assignEach B b=B.map fun t=>(false,assign t b):=by
 induction h with
 |nil=>rfl
 | @cons x p d B r _ i=>
  have e:assignEach (.Name x p::B) b=(false,assign (.Name x p) b)::assignEach B b:=rfl;rw[e,i];rfl
theorem cU.length(h:cU B u):B.length=u.length:=by
 induction h with
 |nil=>rfl
 |cons _ b=>simp[b]
theorem Run.vt(o:bE q e)(g0:Gl c.bare s.heap)(st:Stores r y u a6 c9):∀{X:List Expr}{C:List Value}{a2:Shared}{a3 U:FH}{Q:Unit→Shared→Prop}{E:Value→Shared→Prop},
   cU X u→Run c p q s f r y a3 G a2→(∀x∈u.map (·.1),x∈p)→vr c G (u.map (·.2)) C U→(r.map (·.1)).Nodup→
   (∀a i,U a=some i→s.heap.get? a=none∧G a=none∧a3 a=none∧a≠c.P∧a2.heap.get? a=some i∧∀x∈p,¬Place q x a)→(U q.locals=none∧∀n a,q.cells.lookup n=some a→U a=none)→
   (∀s' u',Run c p q s f a6 c9 u' G s'→bS c (Pz q p) G a2 G s'→(∀a,u' a≠none→a3 a≠none∨U a≠none)→Q () s')→wpAny (model c.prog c.w) A (assignInOrder (X.map fun t=>assign t q) C) Q E a2:=by
 have T:∀{j k:FH},(∀a,j a≠none→k a=none)→∀a i,k a=some i→j a=none∧j.er k a=some i:=fun b a i a0=>by
  have F:∀{j k:FH},(∀a,j a≠none→k a=none)→k a=some i→j a=none:=fun{j k} b a0=>by
   rcases a1:j a with _|o1
   ·rfl
   ·have:=b a (by rw[a1];simp);rw[this]at a0;contradiction
  exact⟨F b a0,by rw[FH.dH (F b a0)];exact a0⟩
 have locs:∀{j k:FH},(∀a,j a≠none→k a=none)→∀a,j.er k a=none→j a=none∧k a=none:=fun{j k} b a a0=>by
  rcases a1:j a with _|o1
  ·rw[FH.dH a1]at a0;exact⟨rfl,a0⟩
  ·rw[FH.dG a1]at a0;contradiction
 induction st with
 |nil=>
  intro X C a2 a3 U Q E m R w g P O l M;cases g;cases m;exact assignInOrder_nil (M a2 a3 R (.refl R.base.sub) fun a a1=> .inl a1)
 | @clean r b0 a6 y c9 x d a9 hc hu a5 _ ih=>
  intro X C a2 a3 U Q E m R w g P O l M;cases g with
  | @cons _ _ v C j k g b a4=>
   cases m with
   |cons m=>
    refine assignInOrder_cons (wpAny_assign_Name (R.store o g0 (w x (by simp)) a5 hu P (g.wo hc) fun s1 Y H=>?_));refine ih m Y (fun z B=>w z (List.mem_cons_of_mem _ B)) a4 (by rw[hu.keys];exact P) (fun a i a0=>?_) ⟨(locs b _ l.1).2,fun n a a0=>(locs b _ (l.2 n a a0)).2⟩ fun s2 a7 Z W hd=>M s2 a7 Z (H.trans W fun J h=> .inl h) fun a a1=>?_
    ·refine nG (O a i (T b a i a0).2) fun F N S K V L=>?_;refine kf F N S K (H.keep a i ?_ K V) L;rintro⟨z,B,pl⟩;exact L z B pl
    ·refine ay (hd a a1) (fun t=>?_) fun t=>?_
     ·exact .inl t
     ·rcases I:k a with _|o2
      ·exact absurd I t
      ·exact .inr (by rw[(T b a o2 I).2];simp)
 | @own r a6 y c9 x d a9 a8 a5 _ ih=>
  intro X C a2 a3 U Q E m R w g P O l M;cases g with
  | @cons _ _ v C j k g b a4=>
   cases m with
   |cons m=>
    refine assignInOrder_cons (wpAny_assign_Name (R.rz o g0 (w x (by simp)) a5 a8 g (fun a i a0=>O a i (FH.dG a0)) ⟨(locs b _ l.1).1,fun n a a0=>(locs b _ (l.2 n a a0)).1⟩ fun s1 Y H=>?_));refine ih m Y (fun z B=>w z (List.mem_cons_of_mem _ B)) a4 P (fun a i a0=>?_) ⟨(locs b _ l.1).2,fun n a a0=>(locs b _ (l.2 n a a0)).2⟩ fun s2 a7 Z W hd=>M s2 a7 Z (H.trans W fun J h=> .inl h) fun a a1=>?_
    ·refine nG (O a i (T b a i a0).2) fun F N S K V L=>?_;refine kf F N (by rw[FH.dH (T b a i a0).1];exact S) K (H.keep a i ?_ K V) L;rintro⟨z,B,pl⟩;exact L z B pl
    ·refine ay (hd a a1) (fun t=>?_) fun t=>?_
     ·rcases e1:j a with _|o1
      ·rw[FH.dH e1]at t;exact .inl t
      ·exact .inr (by rw[FH.dG e1];simp)
     ·rcases I:k a with _|o2
      ·exact absurd I t
      ·exact .inr (by rw[(T b a o2 I).2];simp)
theorem av.oS{v:List Expr}(h:gm c n e r y v (u.map (·.2)))(m:cU B u)(st:Stores r y u a6 c9)(hx:∀x∈u.map (·.1),x∈p)(hn:(r.map (·.1)).Nodup)(hs:∀i:Env,swapsWithSole [.Tuple B k O] (.Tuple v z Y) b1.line {i with scope:=e}=pure false)(hw:∀i:Env,swappedStores [.Tuple B k O] (.Tuple v z Y) {i with scope:=e}=pure none)(q:u.length≤1000000:=by decide):av c n e p r y (.Assign [.Tuple B k O] (.Tuple v z Y) b1) (.next a6 c9):=fun A i a7 a5 f s a2 Q E a1 o W R hQ=>by
 refine Assign_Tuple (Tuple_ (h a2 A i f s _ _ E a1 o R.st fun w j G U H F C=>wpAny_newTuple ?_ (by rw[F.length,List.length_map _];exact Nat.le_trans q (by decide)))) (dI hs i o.scope) (dI hw i o.scope);have I:Go (c.wo a2) f s G {j with heap:=j.heap.push {cls:= .type "tuple",data:= .seq w.toArray}}:=H.push (R.step H).base.gl;have hT:IsTup (j.heap.push {cls:= .type "tuple",data:= .seq w.toArray}) j.heap.objs.size w.toArray:=⟨_,Heap.get?_push_size _ rfl,rfl,_,rfl⟩;refine wpAny_assign_Tuple a1.handled hT ?_ ?_ fun N a3=>?_
 ·rw[m.each _,List.length_map _,m.length];have:=F.length;simp at this;simp[this]
 ·rw[m.each _,List.findIdx?_eq_none_iff];intro a4 q;refine bZ q fun t J P=>?_;subst P;rfl
 rw[m.each _,List.map_map];have g:=R.step I;have L:∀b d,(j.heap.push {cls:= .type "tuple",data:= .seq w.toArray}).get? b=some d→N.get? b=some d:=fun b d a0=>a3 b d (Nat.ne_of_lt (Heap.lt_size a0)) a0;have K:=g.base.refl.heap (n:=j.toks) L g.base.gl.cH;have T:=g.step K;have M:∀a,s.heap.get? a≠none→U a=none:=fun a ha=>by
  rcases a0:U a with _|d
  ·rfl
  ·exact absurd (C a d a0).1 ha
 refine T.vt o W st m hx F hn (fun a d a0=>?_) ⟨M _ R.nV,fun k a a0=>M _ (R.nW a0)⟩ fun s4 u4 X Z hd=>hQ .next s4 G (bS.pre (I.trans K) Z.pz) (.next X fun a Y=>?_)
 ·refine bQ (C a d a0) fun l S V h4=>?_;exact kf (R.kO l) S (R.none_of l) V (L _ _ (Heap.get?_push_of_some _ h4)) (fun a4 q pl=>R.live q pl l)
 ·refine ay (hd a Y) (fun t=>?_) fun t=>?_
  ·exact .inl t
  ·rcases a0:U a with _|d
   ·exact absurd a0 t
   ·exact .inr (C a d a0).1
theorem Reads.fn(r:Reads U q x C)(u:Reads U q x g6):C=g6:=by
 focus(refine ay r (fun d=>?_) fun i=>?_;all_goals first|obtain⟨a0,m,n,e⟩:=d|obtain⟨a0,a,e,o,s,p⟩:=i|skip)<;>focus(refine ay u (fun d=>?_) fun i=>?_;all_goals first|obtain⟨h,w,t,b⟩:=d|obtain⟨h,v,b,y,k,j⟩:=i|skip)
 ·rw[n.agree t x,b]at e;exact(Option.some.inj e).symm
 ·refine ay h (fun h=>?_) fun h=>?_ <;>rw[a0]at h<;>contradiction
 ·refine ay a0 (fun a0=>?_) fun a0=>?_ <;>rw[a0]at h<;>contradiction
 ·rw[e]at b;cases b;rw[s]at k;cases k;rw[p]at j;cases j;rfl
theorem dt(o:bE q e)(p:Reads s.heap q x C)(h:V C s)(r:(x==("__debug__" :Str))=false:=by decide+kernel)(k:(x==("__classdict__" :Str))=false:=by decide+kernel):wpAny (model c.prog c.w) A (eval (.Name x O) q) V E s:=by
 have d:q.scope.kind= .function:=by rw[o.scope];exact o.kind
 refine wpAny_Name ?_ r;refine ay p (fun i=>?_) fun j=>?_
 ·obtain⟨a,m,n,a0⟩:=i;exact wpAny_loadName_local d a n a0 h
 ·obtain⟨a,b,a0,n⟩:=j;refine ay a (fun a=>?_) fun a=>?_
  ·exact wpAny_loadName_cell d a a0 n h
  ·exact wpAny_loadName_free d a a0 n h k
theorem fK.mem(h:fK y x j a5 c9):(x,j)∈y:=by
 induction h with
 |head=>exact List.mem_cons_self
 |tail _ b=>exact List.mem_cons_of_mem _ b
theorem Run.sb(R:Run c p q s f r y a2 G t)(Q:Gl c.bare s.heap)(Z:fK y x j a5 c9):
  ∃i v,Reads t.heap q x v∧Val (c.wo i) G j v∧(∀a o,i a=some o→a2 a=some o)∧
   ∀a o l m C(u:FH),i a=some o→t.toks≤C→m.get? a=some l→Heap.SameBut a t.heap m→
    (∀b d,u b=some d→(m.get? b=some d∧b≠c.P)∧a2 b=none∧G b=none∧s.heap.get? b=none∧q.locals≠b∧∀n w,q.cells.lookup n=some w→w≠b)→Val (c.wo ((i.add a l).er u)) G a5 v→
    ∃P,Run c p q s f r c9 P G {t with heap:=m,toks:=C}∧(∀b,P b≠none→a2 b≠none∨u b≠none)∧bS c (fun a=>a2 a≠none) G t G {t with heap:=m,toks:=C}:=by
 refine hJ (R.xQ Q Z) fun i v a4 X B mk=>?_;refine nI i v a4 X B (fun a o l m C u E U K H L Y=>?_);have W:∀{b:Addr}{z:Option Obj},i b=z→z≠some o→b≠a:=fun F T a1=>T (F.symm.trans (a1▸E));have I:∀{b d},((i.add a l).er u) b=some d→(b=a∧l=d)∨(b≠a∧i b=some d)∨u b=some d:=fun{b d} a1=>by
  refine ay (FH.gE a1) (fun a1=>?_) fun k=>ai k fun J a1=>?_
  ·by_cases a0:b=a
   ·rw[a0,FH.aR]at a1;exact .inl ⟨a0,Option.some.inj a1⟩
   ·rw[FH.dh a0]at a1;exact .inr (.inl ⟨a0,a1⟩)
  ·exact .inr (.inr a1)
 have O:∀{g:FH}{b:Addr},g b≠none→∃d,g b=some d:=fun h=>Option.ne_none_iff_exists'.mp h;have M:=mk m C ((i.add a l).er u) U (fun b d a1 e=>(H.2 b (W a1 nofun)).trans e) (fun b a1=>?_) (fun b d a1=>?_) (fun b a1=>?_) Y
 ·refine fS _ M.1 (fun b a1=>?_) M.2;refine ah (O a1) fun d z=>?_;refine ay (FH.kN z) (fun a3=>?_) fun k=>ba k fun J J a3=>?_
  ·refine gu (I a3) (fun k=>ai k fun a0 J=>?_) (fun A=>ai A fun J a0=>?_) fun a0=>?_
   ·exact .inl (by rw[a0,B _ _ E];nofun)
   ·exact .inl (by rw[B _ _ a0];nofun)
   ·exact .inr (by rw[a0];nofun)
  ·exact .inl (by rw[a3];nofun)
 ·by_cases a0:b=a
  ·rw[a0,K];nofun
  ·rw[H.2 b a0];exact a1
 ·refine gu (I a1) (fun k=>ai k fun a0 z=>?_) (fun A=>ai A fun a0 z=>?_) fun z=>?_
  ·exact a0▸z▸⟨K,(R.base.gl.own _ _ (B _ _ E)).1⟩
  ·have F:=R.base.gl.own b d (B b d z);exact⟨(H.2 b a0).trans F.2,F.1⟩
  ·exact(L b d z).1
 ·refine ah (O a1) fun d z=>?_;refine gu (I z) (fun k=>ai k fun a0 J=>?_) (fun A=>ai A fun J a0=>?_) fun a0=>?_
  ·exact .inl (by rw[a0,E];nofun)
  ·exact .inl (by rw[a0];nofun)
  ·exact .inr (L b d a0).2
theorem Run.ej(R:Run c p q s f r y a2 G t)(g:Gl c.bare s.heap)(M:fK y x (.ao l) (.ao c7) c9)(E:aS l):
  ∃a k n,Reads t.heap q x (.ref a)∧t.heap.get? a=some {cls:= .type "list",data:= .seq k n}∧a2 a≠none∧Vals (c.wo noOwn) G l k.toList∧
   ∀d m u i,t.toks≤i→d.get? a=some {cls:= .type "list",data:= .seq m u}→Heap.SameBut a t.heap d→Vals (c.wo noOwn) G c7 m.toList→
    ∃j,Run c p q s f r c9 j G {t with heap:=d,toks:=i}∧(∀b,j b≠none→a2 b≠none)∧bS c (fun a=>a2 a≠none) G t G {t with heap:=d,toks:=i}:=by
 refine hJ (R.sb g M) fun O v a1 I w mk=>?_;obtain⟨a,k,n,rfl,o,L⟩:=I;refine r3 a k n a1 ((R.base.gl.own a _ (w a _ o)).2) (by rw[w a _ o];nofun) (L.wo E) (fun d m u i H z F K=>?_);refine bA (mk a _ _ d i noOwn o H z F (fun J J e=>nomatch e) ⟨a,m,u,rfl,FH.dG (FH.aR ..),K.dr fG⟩) fun j A B C=>?_;exact fS j A (fun b a0=>(B b a0).resolve_right fun h=>h rfl) C
theorem Run.fin{d:Shared}(g:Go (c.wo a2) G t h1 c5)(e:Run c p q s f r y m8 h1 d)(i:∀b,m8 b≠none→a2 b≠none)(W:bS c (fun a=>a2 a≠none) h1 c5 h1 d):
  bS c (Zn q p a2) G t h1 d∧rA c p q s f a2 t (.next r y) .next h1 d:=
 ⟨bS.pre g (W.mono fun J h=> .inr h),.next e fun a a0=> .inl (i a a0)⟩
set_option backward.match.sparseCases true in
theorem pZ{Q:Flow→Shared→Prop}{id:String}(g:Slot i9 x id)(p:PlainAttrs i9)(b:bE q e)(h:wpAny (model c.prog c.w) A (eval o q) (fun v d=>d.TypeIs v i9∧(∀a,v= .ref a→∃j,d.heap.get? a=some j∧j.dict=none)∧
   wpAny (model c.prog c.w) A (spliced (backTo Y (starEach B q))) (fun l k=>c.K.In k.heap∧wpAny (model c.prog c.w) A (call (.builtin id) (v::l)) (fun r f=>match r with| .ref _=>False|_=>Q .next f) E k) E d) E s)(z:typeOf (.builtin id)=pure (.type "method_descriptor"))(y:noStar B)(t:∀q,attributeBase o x q (eval o q)=eval o q)(u:lB Y B)(w:(O.endLine==Y.line)=true):wpAny (model c.prog c.w) A (exec (.Expr (.Call (.Attribute o x O) B [] Y) b1) q) Q E s:=by
 refine wpAny_Expr ?_ (by refine(?_ :(q.scope.kind== .module&&_)=false);rw[Bm b];rfl) rfl;refine wpAny_Call_method_lateS (t q) (u q) w (wpAny_mono h (fun C d i=>?_) fun J J a0=>a0);refine ba i fun i m n=>?_;exact nK i9 id p g z i m (ef (.builtin id) (eN y) n)
where Bm {q:Env} {e:Scope} (b:bE q e):q.scope.kind= .function:=by rw[b.scope];exact b.kind
theorem av.append(w:fK y x (.ao l) (.ao (l++[j])) c9)(q:aS l)(U:Clean j)(L:jn c n e r y o j)(a3:l.length≤1000000)(N:noStar [o]:=by rfl)(V:∀h,starEach [o] h=(false,eval o h)::starEach [] h:=by intro J;rfl)(T:∀h,attributeBase (.Name x O) (Str.ofString "append") h (eval (.Name x O) h)=eval (.Name x O) h:=by intro J;rfl)(X:lB b1 [o]:=by intro J;rfl)(Z:(Y.endLine==b1.line)=true:=by rfl)(a6:(x==("__debug__" :Str))=false:=by decide+kernel)(a5:(x==("__classdict__" :Str))=false:=by decide+kernel):
  av c n e p r y (.Expr (.Call (.Attribute (.Name x O) (Str.ofString "append") Y) [o] [] b1) f0) (.next r c9):=fun A h b2 b0 f s u Q E a7 a0 m R K=>by
 refine bR (R.ej m w q) fun B b3 n0 z k J J J=>?_;refine pZ slot_list_append PySem.F.plainAttrs_list a0 (dt a0 z ⟨⟨_,k,rfl⟩,fun b M=>(by cases M;exact aF _ k rfl),?_⟩ a6 a5) (by rfl) N T X Z;refine(ag.cons (L u) ag.nil V) A h f s b1 _ E a7 a0 R.st fun vs s1 H d hv=>?_;have i:=R.step d;refine bR (i.ej m w q) fun C a9 n1 r1 F J t mk=>?_;have:C=B:=by
  have:=Reads.fn r1 (z.go R.base.gl d.keep);cases this;rfl
 subst this;refine⟨i.base.gl.K,?_⟩;obtain⟨v,a8,rfl,a4,a1⟩:=hv;obtain rfl:a8=[]:=a1;have hz:a9.size=l.length:=by have:=t.length;simpa using this
 refine wpAny_list_append_plain ⟨n1,F⟩ (fun I S a2=>?_) (by rw[hz];exact Nat.le_trans a3 (by decide));refine ah S fun n2 G=>?_;refine bA (mk I _ n2 s1.toks (Nat.le_refl _) G a2 (by rw[Array.toList_push];exact t.append ⟨v,[],rfl,a4.wo U,rfl⟩)) fun u' a hu W=>?_;refine ai (Run.fin d a hu W) fun g P=>?_;exact K .next _ H g P
theorem av.extend(H:fK y x (.ao l) (.ao (l++c7)) c9)(C:aS l)(hd:aS c7)(a3:j.bt=some c7)(ha:jn c k e r y o j)(a8:l.length+c7.length≤1000000)(hn:noStar [o]:=by rfl)(a7:∀d,starEach [o] d=(false,eval o d)::starEach [] d:=by intro J;rfl)(a2:∀d,attributeBase (.Name x O) (Str.ofString "extend") d (eval (.Name x O) d)=eval (.Name x O) d:=by intro J;rfl)(a4:lB b1 [o]:=by intro J;rfl)(a5:(Y.endLine==b1.line)=true:=by rfl)(b2:(x==("__debug__" :Str))=false:=by decide+kernel)(b0:(x==("__classdict__" :Str))=false:=by decide+kernel):
  av c k e p r y (.Expr (.Call (.Attribute (.Name x O) (Str.ofString "extend") Y) [o] [] b1) f0) (.next r c9):=fun A d b7 b6 f s u Q E b4 a0 B R V=>by
 refine bR (R.ej B H C) fun X b9 n0 K g J J J=>?_;refine pZ PySem.F.slot_list_extend PySem.F.plainAttrs_list a0 (dt a0 K ⟨⟨_,g,rfl⟩,fun b t=>(by cases t;exact aF _ g rfl),?_⟩ b2 b0) PySem.F.type_list_extend hn a2 a4 a5;refine(ag.cons (ha u) ag.nil a7) A d f s b1 _ E b4 a0 R.st fun vs L S a hv=>?_;have q:=R.step a;refine bR (q.ej B H C) fun w i I r1 z J F mk=>?_;have:w=X:=by
  have:=Reads.fn r1 (K.go R.base.gl a.keep);cases this;rfl
 subst this;refine⟨q.base.gl.K,?_⟩;obtain⟨v,b5,rfl,a9,a1⟩:=hv;obtain rfl:b5=[]:=a1;refine bR (a9.isList a3 q.base.gl q.base.sub) fun b m n2 M Z J G J=>?_;subst M;have hz:i.size=l.length:=by have:=F.length;simpa using this
 have b3:m.size=c7.length:=by have:=G.length;simpa using this
 have t:(i.size+m.size)≤sizeLine:=by rw[hz,b3];exact Nat.le_trans a8 (by decide)
 have a6:Builtin.List.listTooLong (i.size+m.size)=false:=by
  unfold Builtin.List.listTooLong;have h3:i.size+m.size≤1000000:=by lia
  simp;omega
 refine call_meets PySem.F.slot_list_extend ⟨_,z,rfl⟩ PySem.F.entry_list_extend (PySem.F.args_list_extend_2 _ _) (PySem.AutoSeq1.list_extend_list_list_0 w i I b m n2 (by rw[a6];simp) (Nat.le_trans (Nat.le_add_right _ _) t) (Nat.le_succ_of_le t)) ⟨z,Z,?_⟩;have N:=IsL.update (h:=L.heap) (l:=w) (items:=i) (n:=I) z (fun x=>x++m);refine bA (mk _ _ _ L.toks (Nat.le_refl _) N (Heap.SameBut.update ..) (by rw[Array.toList_append];exact F.append (G.wo hd))) fun u' T hu W=>?_;refine ai (Run.fin a T hu W) fun U P=>?_;exact V .next _ S U P
noncomputable abbrev gn(c:Cx)(e:Operator)(h b d:D):Prop:=nL c (inplaceOp e) h b d
theorem gn.add:gn c .Add (.int I) (.int e9) (.int (I+e9)):=fun A f s k m Q E r g h d e i=>by
 refine ah d fun t b=>?_;subst b;refine ah e fun j b=>?_;subst b;exact PyProof.Rows.iadd_int (i _ _ f (Go.refl h).toks ⟨_,rfl⟩)
theorem gn.sub:gn c .Sub (.int I) (.int e9) (.int (I-e9)):=fun A f s k m Q E r g h d e i=>by
 refine ah d fun t b=>?_;subst b;refine ah e fun j b=>?_;subst b;exact PySem.AutoIntOps.isub_0 (i _ _ f (Go.refl h).toks ⟨_,rfl⟩)
theorem gn.cat(j:x.length+a9.length≤sizeLine):gn c .Add (.str x) (.str a9) (.str (x++a9)):=fun A f s o p Q E r g h d e i=>by
 refine ah d fun t b=>?_;subst b;refine ah e fun m b=>?_;subst b;exact bM (PyProof.Rows.iadd_str (fun m n k=>i _ _ f ((Go.refl h).toks k) ⟨_,rfl⟩) j)
theorem Vals.set(h:Vals c f l Z)(e:Val c f j C)(n:Nat):Vals c f (l.set n j) (Z.set n C):=by
 induction l generalizing Z n with
 |nil=>obtain rfl:Z=[]:=h;simp[Vals]
 |cons m l i=>obtain⟨k,d,rfl,a,b⟩:=h;cases n with
  |zero=>exact⟨C,d,rfl,e,b⟩
  |succ n=>exact⟨k,d.set n C,rfl,a,i b n⟩
theorem oT(e:s.heap.get? v=some {cls:= .type "list",data:= .seq d0 n})(b:0≤I)(d:I<d0.size)(k:d0.size≤1000000)(i:∀h j,h.get? v=some {cls:= .type "list",data:= .seq (d0.setIfInBounds I.toNat C) j}→Heap.SameBut v s.heap h→c6 () {s with heap:=h}):wpAny (model c.prog c.w) A (setItem (.ref v) (.int I d6) C) c6 E s:=
 PySem.W.ki_setAt e b (by lia) d (i _ _ (IsL.update (n:=n) e _) (Heap.SameBut.update ..))
theorem av.setItem(w:fK y x (.ao l) (.ao (l.set I.toNat j)) c9)(m:aS l)(S:Clean j)(hv:jn c n e r y b0 j)(V:jn c n e r y o (.int I))(Z:0≤I)(h1:I<l.length)(h2:l.length≤1000000)(hs:∀b:Env,swapsWith b0 (some (.Subscript (.Name x O) o Y)) b1.line {b with scope:=e}=pure false)(a4:(x==("__debug__" :Str))=false:=by decide+kernel)(a3:(x==("__classdict__" :Str))=false:=by decide+kernel):
  av c n e p r y (.Assign [.Subscript (.Name x O) o Y] b0 b1) (.next r c9):=fun A b a7 a6 f s u Q E a1 a0 k R N=>by
 refine wpAny_Assign_Subscript (hv.run a1 a0 R fun v s1 f1 h U M=>?_) (dI hs b a0.scope);refine bR (h.ej k w m) fun F a8 n0 z e0 J J J=>?_;refine dt a0 z (V.run a1 a0 h fun iv s2 i g d L=>?_) a4 a3;refine bR (g.ej k w m) fun G a5 n1 r1 K J q mk=>?_;obtain rfl:G=F:=by
  have:=Reads.fn r1 (z.go h.base.gl d.keep);cases this;rfl
 refine ah L fun t a=>?_;subst a;have hz:a5.size=l.length:=by have:=q.length;simpa using this
 refine oT K Z (by lia) (by lia) fun X n' H a2=>?_;have T:Val (c.wo noOwn) i j v:=(M.wo S).mono d.ext;refine bA (mk X _ n' s2.toks (Nat.le_refl _) H a2 (by rw[Array.toList_setIfInBounds];exact q.set T _)) fun u' B hu W=>?_;refine ai (Run.fin (U.trans d) B hu W) fun C P=>?_;exact N .next _ i C P
theorem av.mP(q:fK y x (.ao l) (.ao (l.set I.toNat i7)) c9)(K:aS l)(hd:Clean i7)(hi:jn c (n+1) e r y o (.int I))(H:0≤I)(h1:I<l.length)(h2:l.length≤1000000)(he:l[I.toNat]? =some j)(hv:jn c (n+1) e r y b0 a5)(a4:∀u,gn (c.wo u) i4 j a5 i7)(a3:∀i h b,augStore o i h b=(do holding [b,i,h] (PySem.setItem i h b);release [b,i,h] [];pure .next):=by intros;rfl)(b2:(x==("__debug__" :Str))=false:=by decide+kernel)(a9:(x==("__classdict__" :Str))=false:=by decide+kernel):
  av c (n+1) e p r y (.AugAssign (.Subscript (.Name x O) o Y) i4 b0 b1) (.next r c9):=fun A b5 b7 b6 f s u Q E a0 a1 a R hQ=>by
 refine bR (R.ej a q K) fun m b9 n0 w e0 J J J=>?_;refine wpAny_AugAssign_SubscriptAny (dt a1 w (hi.run a0 a1 R fun h s1 f1 d g z=>?_) b2 a9) a3;refine au (d.st.names x (.ao l) (List.mem_append_right _ (List.mem_map.mpr ⟨_,q.mem,rfl⟩))) fun v0 a6 a8=>?_;obtain rfl:v0= .ref m:=Reads.fn a6 (w.go R.base.gl g.keep);refine gY.list (c:=c.wo u) (j:= .ao l) rfl H (by lia) he A f1 s1 (.ref m) h _ E (a0.le (by(simp+arith))) d.base.gl d.base.sub a8 z fun b3 s2 f2 B a2=>?_;have T:=d.step B;refine hv.run a0 a1 T fun v s3 f3 k C ev=>?_;refine a4 u A f3 s3 b3 v _ E (a0.le (by(simp+arith))) k.base.gl k.base.sub (a2.mono C.ext) ev fun b s4 f4 F en=>?_;have U:=k.step F;refine bR (U.ej a q K) fun N b4 n1 r1 V J L mk=>?_;have G:=((g.trans B).trans C).trans F;obtain rfl:N=m:=by
  have:=Reads.fn r1 (w.go R.base.gl G.keep);cases this;rfl
 refine ah z fun t M=>?_;subst M;have hz:b4.size=l.length:=by have:=L.length;simpa using this
 refine oT V H (by lia) (by lia) fun h' n' S a7=>?_;refine bA (mk h' _ n' s4.toks (Nat.le_refl _) S a7 (by rw[Array.toList_setIfInBounds];exact L.set (en.wo hd) _)) fun u' X hu W=>?_;refine ai (Run.fin G X hu W) fun Z P=>?_;exact hQ .next _ f4 Z P
theorem av.aug(P:(x,some j)∈r)(W:jn c (n+1) e r y o a5)(U:∀u,gn (c.wo u) i4 j a5 i7)(M:Clean i7)(Z:Upd r x i7 a6)(S:x∈p)(a4:x∉y.map (·.1))(T:(r.map (·.1)).Nodup)(b0:(x==("__debug__" :Str))=false:=by decide+kernel)(V:(x==("__classdict__" :Str))=false:=by decide+kernel):
  av c (n+1) e p r y (.AugAssign (.Name x O) i4 o Y) (.next a6 y):=fun A d b2 a9 f s u Q E a3 a2 K R L=>by
 refine au (R.cl x j P) fun z X N=>?_;have i:d.scope.kind= .function:=by rw[a2.scope];exact a2.kind
 refine wpAny_AugAssign_Name ?_;have k:wpAny (model c.prog c.w) A (eval o d) (fun v a7=>wpAny (model c.prog c.w) A (inplaceOp i4 z v) (fun a3 a8=>wpAny (model c.prog c.w) A (storeName d x a3) (fun J=>Q .next) E a8) E a7) E s:=by
  refine W.run a3 a2 R fun v s1 H h t G=>?_;refine U u A H s1 z v _ E (a3.le (by(simp+arith))) h.base.gl h.base.sub ((N.dr fG).mono t.ext) G fun b1 s2 I w F=>?_;exact(h.step w).store a2 K S a4 Z T (F.wo M) fun s3 B C=>L .next s3 I (bS.pre (t.trans w) C.pz) (.next B fun a q=> .inl q)
 refine ay X (fun g=>?_) fun l=>?_
 ·obtain⟨a,m,a1,a0⟩:=g;exact wpAny_loadName_local i a a1 a0 k
 ·obtain⟨a,b,a0,a1⟩:=l;refine ay a (fun a=>?_) fun a=>?_
  ·exact wpAny_loadName_cell i a a0 a1 k
  ·exact wpAny_loadName_free i a a0 a1 k V
theorem av.return(h:jn c n e r y o j)(q:Clean j):av c n e p r y (.Return (some o) O) (.ret j):=fun A w a x f s u Q E a1 a0 z R m=>
 wpAny_Return_some (h.run a1 a0 R fun v t i b k d=>m (.ret v) t i (.ry k.kl) ⟨v,rfl,b.go,d.wo q⟩)
theorem dC.freeze(h:dC c n e p ((x,some j.ey)::r) y k2 g4):dC c n e p r ((x,j)::y) k2 g4:=fun A B G I f s u Q E a2 o g0 R hQ=>by
 cases R.pB with
 | @cons _ _ _ i k v rd hv V a3=>
  have C:∀a d,i a=some d→i.er k a=some d:=fun a d a0=>FH.dG a0;have X:∀a,i.er k a=none→i a=none∧k a=none:=fun a a0=>by
   rcases q:i a with _|m
   ·rw[FH.dH q]at a0;exact⟨rfl,a0⟩
   ·rw[FH.dG q]at a0;contradiction
  have F:∀a d,k a=some d→i a=none∧i.er k a=some d:=fun a d a0=>by
   have:i a=none:=by
    rcases q:i a with _|m
    ·rfl
    ·have:=V a (by rw[q];simp);rw[this]at a0;contradiction
   exact⟨this,by rw[FH.dH this];exact a0⟩
  have l:∀a d,f a=some d→i.er f a=some d:=fun a d a0=>by
   rw[FH.dH]
   ·exact a0
   ·rcases q:i a with _|m
    ·rfl
    ·have:=(R.own a m (C a m q)).2;rw[a0]at this;contradiction
  have same:∀a,i a=none→i.er f a=f a:=fun a a0=>FH.dH a0;have a4:∀a,G.heap.get? a≠none→i a=none:=fun a q=>by
   rcases z:i a with _|m
   ·rfl
   ·exact absurd (R.own a m (C a m z)).1 q
  have U:Go c I G (i.er f) s:=⟨R.go.keep,R.go.tab,R.go.aD,R.go.gens,R.go.bare,R.go.os,fun a d a0=>l a d (R.go.ext a d a0),fun a q=>(same a (a4 a q)).trans (R.go.old a q),fun a d a0=>by
   refine ay (FH.gE a0) (fun q=>?_) fun H=>ai H fun J q=>?_
   ·exact R.base.gl.own a d (C a d q)
   ·exact R.go.sub a d q,R.go.tk⟩
  have T:=X _ R.base.apart.1;have O:=fun a1 b a0=>X _ (R.base.apart.2 a1 b a0);have N:Run c p B G I ((x,some j.ey)::r) y k (i.er f) s:=by
   refine⟨U,⟨R.base.gl.cT.km fun a d a0=>R.base.gl.own a d (F a d a0).2,U.sub,fun J J M=>(nomatch M),R.base.cells,R.base.here,⟨T.2,fun a1 b a0=>(O a1 b a0).2⟩,R.base.tk⟩,fun z a0 M=>?_,a3.mono l fun J J J a2=>a2,fun a d a0=>?_,fun z hz=>?_,(same _ T.1).trans R.fr.1,fun a1 b a0=>(same _ (O a1 b a0).1).trans (R.fr.2 a1 b a0)⟩
   ·refine memC M (fun q=>?_) fun q=>?_
    ·cases q;exact aF v rd (hv.ey l fun a d a0=>FH.dG a0)
    ·refine au (R.cl z a0 q) fun w r' hw=>?_;exact aF w r' (hw.mono l)
   ·refine ai (F a d a0) fun e1 g=>?_;exact⟨(R.own a d g).1,(same a e1).trans (R.own a d g).2⟩
   ·refine ay (R.nm z hz) (fun H=>bQ H fun q K L k2=>?_) fun Z=>?_
    ·exact .inl ⟨q,K,(same _ T.1).trans L,k2⟩
    ·obtain⟨q,b,a0,K,L,w⟩:=Z;exact .inr ⟨q,b,a0,K,(same _ (O _ _ a0).1).trans L,w⟩
  have Y:∀a,Zn B p k a→Zn B p (i.er k) a:=fun a z=>z.imp_right fun q=>by
   rcases a0:k a with _|d
   ·exact absurd a0 q
   ·rw[(F a d a0).2];simp
  refine h A B G I (i.er f) s k Q E a2 o g0 N fun fl s' f' W P=>hQ fl s' f' ⟨fun a d z=>W.keep a d fun q=>z (Y a q),W.tab,W.aD,W.gens,W.bare,W.os,fun a d a0=>W.ext a d (l a d a0),fun a z a0=>(W.old a (fun q=>z (Y a q)) a0).trans (same a ?_),W.sub,W.has,W.tk⟩ ?_
  ·rcases q:i a with _|m
   ·rfl
   ·exact absurd (.inr (by rw[C a m q];simp)) z
  ·rcases g4 with⟨a5,a6⟩|j
   ·
    obtain⟨a0,u3,S,hd⟩:=P;refine⟨a0,u3,S,fun a q=>?_⟩;refine ay (hd a q) (fun t=>?_) fun t=>?_
    ·rcases g:k a with _|d
     ·exact absurd g t
     ·exact .inl (by rw[(F a d g).2];simp)
    ·exact .inr t
   ·exact P
theorem bS.lT{Z X:Addr→Prop}(x:bS c Z f s G t)(y:GoX c X g0 G t a2 c5)(j:∀a,X a→s.heap.get? a=none)(n:∀i,g0 i→s.gens.size≤i):bS c Z f s a2 c5 where
 keep:=fun a o q d e=>y.keep a o (fun z=>by have:=j a z;rw[e]at this;contradiction) d (x.keep a o q d e)
 tab:=x.tab.trans y.tab
 aD:=Nat.le_trans x.aD y.aD
 gens:=fun i q=>(y.gens i (Nat.lt_of_lt_of_le q x.aD) fun z=>absurd q (Nat.not_lt.mpr (n i z))).trans (x.gens i q)
 bare:=fun i z q e=>by
  by_cases r:i<t.gens.size
  ·by_cases m:g0 i
   ·exact y.bare i z (.inr m) e
   ·rw[y.gens i r m]at e;exact x.bare i z q e
  ·exact y.bare i z (.inl (Nat.not_lt.mp r)) e
 os:=y.os.trans x.os
 ext:=fun a o e=>y.ext a o (x.ext a o e)
 old:=fun a q e=>(y.old a (x.has a e)).trans (x.old a q e)
 sub:=y.sub
 tk:=Nat.le_trans x.tk y.tk
 has:=fun a e=>by
  have b:=x.has a e;rcases h:t.heap.get? a with _|o
  ·exact absurd h b
  ·
   by_cases k:a=c.P
   ·subst k;exact y.tab.has b
   ·rw[y.keep a o (fun z=>e (j a z)) k h];simp
theorem Run.lW{X:Addr→Prop}(R:Run c p q s f r y h1 G t)(l:Gl c.bare s.heap)(g:GoX (c.wo m8) X g0 G t a2 c5)(d:∀a,X a→s.heap.get? a=none∧¬Zn q p h1 a∧a≠q.locals∧∀n b,q.cells.lookup n=some b→a≠b)(B:∀i,g0 i→s.gens.size≤i):Run c p q s f r y h1 a2 c5:=by
 have x:GoX c X g0 G t a2 c5:=⟨g.keep,g.tab,g.aD,g.gens,g.bare,g.os,g.ext,g.old,g.sub,g.tk⟩;have u:Go c f s a2 c5:=R.go.lT x (fun a h=>(d a h).1) B;have A:Gl (c.wo h1) c5.heap:=(u.cT.gl l).km fun a o e=>⟨(R.base.gl.own a o e).1,g.keep a o (fun z=>(d a z).2.1 (.inr (by rw[e];simp))) (R.base.gl.own a o e).1 (R.base.gl.own a o e).2⟩;have I:=R.base.px (c:=c.wo h1) ⟨g.keep,g.tab,g.aD,g.gens,g.bare,g.os,g.ext,g.old,g.sub,g.tk⟩ (fun a h=>(d a h).2.2) A;have v:∀b o,(b=q.locals∨∃n,q.cells.lookup n=some b)→t.heap.get? b=some o→c5.heap.get? b=some o:=fun b o a0 e=>by
  refine g.keep b o (fun z=>?_) ?_ e
  ·refine ay a0 (fun a0=>?_) fun k=>ah k fun n a0=>?_
   ·exact(d b z).2.2.1 a0
   ·exact(d b z).2.2.2 n b a0 rfl
  ·refine ay a0 (fun k=>?_) fun w=>ah w fun n a0=>?_
   ·subst k;refine ah R.base.here fun m n=>?_;exact R.base.gl.ne_of_ns n
   ·refine bV (R.base.cells n b a0) fun m8 M j C=>?_;exact R.base.gl.dP j fun O a0=>by rw[a0]at C;contradiction
 refine⟨u,I,fun z e E=>?_,R.pB.mono g.ext fun z m8 J a1=>a1.kept v,fun a o e=>⟨(R.own a o e).1,(g.old a (by rw[(R.base.gl.own a o e).2];simp)).trans (R.own a o e).2⟩,fun z H=>(R.nm z H).px R.base.gl (c:=c.wo h1) ⟨g.keep,g.tab,g.aD,g.gens,g.bare,g.os,g.ext,g.old,g.sub,g.tk⟩ fun a h=>(d a h).2.2,(g.old _ (by refine jC R.base.here fun m o L K j J=>?_;rw[j];simp)).trans R.fr.1,fun n b e=>(g.old _ (by refine bV (R.base.cells n b e) fun m8 o j J=>?_;rw[j];simp)).trans (R.fr.2 n b e)⟩;refine au (R.cl z e E) fun m8 a1 F=>?_;exact aF m8 (a1.kept v) (F.mono g.ext)
theorem eP{R:Result→Shared→Prop}{k j:_}(h:wpAny (model c.prog c.w) A (pyNext j) (fun r n=>match r with
   |none=>wpAny (model c.prog c.w) A (execs j6 q) (fun f i=>R (.ok f) i) (notedBy (model c.prog c.w) A q fun e b=>R (.error e) b) n
   |some v=>wpAny (model c.prog c.w) A (letOwnedTupleGo k j v) (fun J p=>wpAny (model c.prog c.w) A (assign k q v) (fun J t=>wpAny (model c.prog c.w) A (execs a3 q) (fun f i=>match f with
      | .next| .cont=>codeAny (model c.prog c.w) A (.forLoop k j a3 j6 q) R i
      | .brk=>R (.ok .next) i
      | .ret v=>R (.ok (.ret v)) i) (notedBy (model c.prog c.w) A q fun e b=>R (.error e) b) t) (notedBy (model c.prog c.w) A q fun e b=>R (.error e) b) p) (notedBy (model c.prog c.w) A q fun e b=>R (.error e) b) n) (notedBy (model c.prog c.w) A q fun e b=>R (.error e) b) s):
  codeAny (model c.prog c.w) A (.forLoop k j a3 j6 q) R s:=by
 refine codeAny_of_tree ?_;rw[Around.under_of_weight rfl rfl];refine(?_ :wpAny _ A ((forTurn k j a3 j6 q).onRaise (fun x=>do noteFrame x q;theTreesLotGoes x)) _ _ s);refine wpAny_noted ?_;refine wpAny_bind (wpAny_standAt (wpAny_bind (wpAny_onRaise (wpAny_mono h (fun r n o=>?_) fun J J d=>wpAny_standAt d))));rcases r with _|v
 ·exact wpAny_pure ⟨rfl,codeAny_block o⟩
 ·
  refine wpAny_bind (wpAny_mono o (fun J p u=>?_) fun J J d=>d);refine wpAny_bind (wpAny_mono u (fun J t w=>wpAny_bind (wpAny_mono w (fun f i m=>?_) fun J J d=>d)) fun J J d=>d);cases f with
  |next=>exact wpAny_pure ⟨rfl,m⟩
  |cont=>exact wpAny_pure ⟨rfl,m⟩
  |brk=>exact wpAny_pure m
  |ret v=>exact wpAny_pure m
inductive ez(c:Cx)(k:Nat)(sc:Scope)(jl:List Str)(target:Expr)(body:List Stmt):List D→bD→Omega→Out→Prop
 |done {ρ:bD} {ω:Omega}:ez c k sc jl target body [] ρ ω (.next ρ ω)
 |step {d:D} {ds:List D} {bs:List (Str×D)} {ρ ρ1 ρ2 ρ3:bD} {ω zX:Omega} {out:Out}:eO target d bs→dk ρ bs ρ1→(∀x∈bs.map (·.1),x∈jl∧x∉ω.map (·.1))→(ρ.map (·.1)).Nodup→
   Wp c k sc jl ρ1 ω body (.next ρ2 zX)→(∀x d,(x,some d)∈ρ3→(x,some d)∈ρ2)→ez c k sc jl target body ds ρ3 zX out→ez c k sc jl target body (d::ds) ρ ω out
 |ret {d:D} {ds:List D} {bs:List (Str×D)} {ρ ρ1:bD} {ω:Omega} {e:D}:eO target d bs→dk ρ bs ρ1→(∀x∈bs.map (·.1),x∈jl∧x∉ω.map (·.1))→(ρ.map (·.1)).Nodup→
   Wp c k sc jl ρ1 ω body (.ret e)→ez c k sc jl target body (d::ds) ρ ω (.ret e)
noncomputable def PF(c:Cx)(k:Nat)(w:Scope)(d:List Str)(q:Expr)(r:List Stmt)(t:List D)(x:bD)(y:Omega)(v:Out):Prop:=
 ∀{A:Around}{env:Env}{s₀ h s:Shared}{f₀ o f e u:FH}{I:Addr}{i:List Addr}{X:Addr→Prop}{Y:Nat→Prop}{T:Nat→FH→Shared→Prop}{pre:List D}{R:Result→Shared→Prop},
  bJ k A→bE env w→Gl c.bare s₀.heap→bS c (Zn env d e) o h f s→(∀a,u a≠none→e a≠none∨h.heap.get? a=none)→Run c d env s₀ f₀ x y u f s→(∀a,s₀.heap.get? a≠none→h.heap.get? a≠none)→s₀.gens.size≤h.gens.size→
  kg (c.wo noOwn) k I q i X Y (pre++t) T→T pre.length f s→(∀a,X a→h.heap.get? a=none∧a∈i)→(∀a∈i,a≠c.P∧s.heap.get? a≠none∧¬Zn env d u a∧a≠env.locals∧∀n b,env.cells.lookup n=some b→a≠b)→
  (∀g,Y g→h.gens.size≤g∧g<s.gens.size)→
  (∀p j m,bS c (Zn env d e) o h m j→rA c d env s₀ f₀ e h v p m j→R (.ok p) j)→codeAny (model c.prog c.w) A (.forLoop q (.ref I) r [] env) R s
theorem zY:PF c n e p o a3 [] r y (.next r y):=by
 intro A g v D s U P f N u I Q X Y T W R a1 a2 l z L RR K H M t d G m E;refine eP (wpAny_mono (M.done A f s (notedBy (model c.prog c.w) A g fun a0 O=>R (.error a0) O) a1 (by rw[List.append_nil _];exact t) (RR.base.gl.cT) RR.base.sub RR.base.tk) (fun x q C=>?_) fun J J a0=>a0);obtain⟨rfl,k,h⟩:=C;have F:∀a,X a→v.heap.get? a=none:=fun a b=>by
  rcases a0:v.heap.get? a with _|Z
  ·rfl
  ·exact absurd (d a b).1 (K a (by rw[a0];simp))
 have w:=RR.lW l h (fun a b=>⟨F a b,(G a (d a b).2).2.2⟩) fun i j=>Nat.le_trans H (m i j).1;refine wpAny_execs_nil (E .next q k ?_ (.next w L));have B:GoX c X Y f s k q:=⟨h.keep,h.tab,h.aD,h.gens,h.bare,h.os,h.ext,h.old,h.sub,h.tk⟩;exact z.lT B (fun a b=>(d a b).1) fun i j=>(m i j).1
theorem tG(d:eO o j u)(c0:dk r u a6)(b7:∀x∈u.map (·.1),x∈p∧x∉y.map (·.1))(hn:(r.map (·.1)).Nodup)(hb:(∃a9 b0 b1,Wp c n e p a6 y a3 (.next a9 b1)∧(∀x j,(x,some j)∈b0→(x,some j)∈a9)∧PF c n e p o a3 l b0 b1 g4)∨∃a0,g4= .ret a0∧Wp c n e p a6 y a3 (.ret a0)):PF c n e p o a3 (j::l) r y g4:=by
 intro A k N M s b2 fF f S a4 I fp X Y T a8 R a1 a2 F WF hu RR b4 b3 Z t B C K hR;refine eP (wpAny_mono (Z.item A a8.length f s j (notedBy (model c.prog c.w) A k fun a0 s'=>R (.error a0) s') a1 (by simp) t (RR.base.gl.cT) RR.base.sub RR.base.tk) (fun x s1 H=>?_) fun J J a0=>a0);refine au H fun v E k1=>?_;subst E;refine wpAny_mono k1 (fun J W Q=>?_) fun J J a0=>a0;refine bA Q fun g b hv t2=>?_;have b6:∀a,X a→N.heap.get? a=none:=fun a d=>by
  rcases a0:N.heap.get? a with _|L
  ·rfl
  ·exact absurd (B a d).1 (b4 a (by rw[a0];simp))
 have R2:=RR.lW F b (fun a d=>⟨b6 a d,(C a (B a d).2).2.2⟩) fun i hi=>Nat.le_trans b3 (K i hi).1;have b5:GoX c X Y f s g W:=⟨b.keep,b.tab,b.aD,b.gens,b.bare,b.os,b.ext,b.old,b.sub,b.tk⟩;have W2:bS c (Zn k p S) fF M g W:=WF.lT b5 (fun a d=>(B a d).1) fun i hi=>(K i hi).1;have a7:∀a∈fp,W.heap.get? a≠none:=fun a m=>by
  by_cases q:X a
  ·exact Z.live _ _ _ t2 a q
  ·refine ba (C a m) fun H Q J=>?_;rcases a0:s.heap.get? a with _|L
   ·exact absurd a0 Q
   ·rw[b.keep a L q H a0];simp
 refine R2.pY a1.handled a2 F d b7 hv c0 hn fun s3 R3 V=>?_;have zu:∀a,Zn k p a4 a→Zn k p S a∨M.heap.get? a=none:=lV hu;have a5:bS c (Zn k p S) fF M g s3:=W2.trans V.pz zu;refine ay hb (fun E=>jB E fun a9 b0 b1 hw b9 next=>?_) fun J2=>au J2 fun a0 J3 hw=>?_
 ·refine hw A k N b2 g s3 a4 _ _ a1 a2 F R3 fun fl s4 f4 O P=>?_;obtain⟨rfl,u4,R4,hd⟩:=P;have w:bS c (Zn k p a4) g W f4 s4:=V.pz.trans O fun J h=> .inl h;have c1:∀a,u4 a≠none→S a≠none∨M.heap.get? a=none:=fun a q=>by
   refine ay (hd a q) (fun t=>?_) fun t=>?_
   ·exact hu a t
   ·refine .inr ?_;rcases a0:M.heap.get? a with _|L
    ·rfl
    ·exact absurd t (a5.has a (by rw[a0];simp))
  refine next (pre:=a8++[j]) a1 a2 F (a5.trans O zu) c1 (R4.weaken b9) b4 b3 (by rw[List.append_assoc _ _ _];exact Z) ?_ B ?_ ?_ hR
  ·rw[List.length_append];exact Z.keep _ _ _ _ _ t2 w.ext (fun a d=>w.old a (C a (B a d).2).2.2.1 (a7 a (B a d).2)) (fun a m L a0=>w.keep a L (C a m).2.2.1 (C a m).1 a0) fun q U=>w.gens q (Nat.lt_of_lt_of_le (K q U).2 b.aD)
  ·intro a m;refine bQ (C a m) fun H Q h3 h4=>?_;refine cp H (w.has a (a7 a m)) ?_ h4;rintro(z|z)
   ·exact h3 (.inl z)
   ·refine ay (hd a z) (fun q=>?_) fun q=>?_
    ·exact h3 (.inr q)
    ·exact absurd q (V.has a (a7 a m))
  ·intro q U;exact⟨(K q U).1,Nat.lt_of_lt_of_le (K q U).2 (Nat.le_trans b.aD w.aD)⟩
 ·subst J3;refine hw A k N b2 g s3 a4 _ _ a1 a2 F R3 fun fl s4 f4 O P=>?_;refine bA P fun v' E G c2=>?_;subst E;exact hR _ s4 f4 (a5.trans O zu) ⟨v',rfl,G,c2⟩
theorem ez.walk(h:ez c n e p o a3 l r y g4):PF c n e p o a3 l r y g4:=by
 induction h with
 |done=>exact zY
 |step b j d i k m _ q=>exact tG b j d i (.inl ⟨_,_,_,k,m,q⟩)
 |ret b j d i k=>exact tG b j d i (.inr ⟨_,rfl,k⟩)
theorem Run.stN(R:Run c p q s f r y a2 G t):St (c.wo noOwn) G r q t:=
 ⟨R.base.gl.cT,R.base.sub,R.cl,R.base.cells,R.base.here,⟨rfl,fun J J J=>rfl⟩,R.base.tk⟩
theorem av.for{iter:Expr}(hi:aO (c.wo noOwn) n e r iter o l)(hj:ez c n e p o a3 l r y g4)(hp:gC iter=true:=by rfl):av c n e p r y (.For o iter a3 [] O) g4:=fun A w a7 a5 f s u Q E a2 a1 V R hQ=>by
 refine wpAny_For (hi A w f s _ E a2 a1 R.stN fun I s1 C fp X Y T F it t d hY a4=>?_) fun x=>gU hp w x;have i:=R.step (F.kl.tF (u:=u));have U:bS c (Zn w p u) f s C s1:= .ry F.kl;refine hj.walk (pre:=[]) a2 a1 V U (fun a q=> .inl q) i (fun a q=>R.go.has q) R.go.aD it t (fun a G=>⟨(d a G).1,(d a G).2.2⟩) (fun a hm=>?_) hY fun S s' N W P=>hQ S s' N W P;refine ba (a4 a hm) fun h1 h2 h3=>?_;have j:C a≠none∨X a:=by
  refine gu h3 (fun h=>?_) (fun h=>?_) fun h=>?_
  ·exact .inl h
  ·exact absurd rfl h
  ·exact .inr h
 refine gv h1 h2 ?_ ?_ (fun a6 b a0=>?_)
 ·rintro(⟨z,K,L⟩|q)
  ·refine ay j (fun h=>?_) fun h=>?_
   ·refine nH ((i.nm z K).at) fun Z p' J H J=>?_;have:Z=a:=by
     focus(refine ay L (fun k=>ai k fun g m=>?_) fun v=>ai v fun g q2=>?_;all_goals first|subst m|skip)<;>focus(refine ay p' (fun k=>ai k fun B m=>?_) fun v=>ai v fun B M=>?_;all_goals first|subst m|skip)
     ·rfl
     ·rw[g]at B;contradiction
     ·rw[g]at B;contradiction
     ·rw[q2]at M;exact(Option.some.inj M).symm
    rw[this]at H;exact h H
   ·exact R.live K L (d a h).1
  ·refine ay j (fun h=>?_) fun h=>?_
   ·rcases a0:u a with _|ob
    ·exact q a0
    ·exact h (i.own a ob a0).2
   ·exact R.vq q (d a h).1
 ·rintro rfl;refine ay j (fun h=>?_) fun h=>?_
  ·exact h i.fr.1
  ·exact R.nV (d _ h).1
 ·rintro rfl;refine ay j (fun h=>?_) fun h=>?_
  ·exact h (i.fr.2 _ _ a0)
  ·exact R.nW a0 (d _ h).1
theorem Run.kQ(R:Run c p q s f r y a2 G t)(C:Gl c.bare s.heap)(hx:fK y x (.bW u) (.bW i1) c9)(Q:dQ u):
  ∃a j,Reads t.heap q x (.ref a)∧t.heap.DictOf (PySem.strKind c.prog c.w) a j∧bo (c.wo noOwn) G u j∧a2 a≠none∧
   ∀d k i,t.toks≤i→d.DictOf (PySem.strKind c.prog c.w) a k→Heap.SameBut a t.heap d→bo (c.wo noOwn) G i1 k→
    ∃m,Run c p q s f r c9 m G {t with heap:=d,toks:=i}∧(∀b,m b≠none→a2 b≠none)∧bS c (fun a=>a2 a≠none) G t G {t with heap:=d,toks:=i}:=by
 refine hJ (R.sb C hx) fun u1 v a4 S o mk=>?_;obtain⟨a,ob,A,g,j,rfl,n,L,I,O,X,T,a0,W⟩:=S;refine nJ a j a4 (⟨ob,A,g,(R.base.gl.own a _ (o a _ n)).2,L,I,O,X,T⟩) (a0.wo Q) (by rw[o a _ n];nofun) (fun d k i N w Z V=>?_);refine pL w fun a1 B l z M K P Y U=>?_;refine bA (mk a _ _ d i noOwn n N z Z (fun J J e=>nomatch e) ⟨a,a1,B,l,k,rfl,FH.dG (FH.aR ..),M,K,P,Y,U,V.dr fG,W⟩) fun m E F H=>?_;exact fS m E (fun b a3=>(F b a3).resolve_right fun h=>h rfl) H
theorem av.kR(w:fK y x (.bW u) (.bW (dD u a9 j)) c9)(m:dQ u)(Z:Clean j)(hv:jn c n e r y b0 j)(N:jn c n e r y o (.str a9))(U:u.length≤1000000)(S:∀b:Env,swapsWith b0 (some (.Subscript (.Name x O) o Y)) b1.line {b with scope:=e}=pure false)(a3:(x==("__debug__" :Str))=false:=by decide+kernel)(a2:(x==("__classdict__" :Str))=false:=by decide+kernel):
  av c n e p r y (.Assign [.Subscript (.Name x O) o Y] b0 b1) (.next r c9):=fun A b a7 a5 f s a8 Q E a1 a0 k R X=>by
 refine wpAny_Assign_Subscript (hv.run a1 a0 R fun v s1 f1 h M K=>?_) (dI S b a0.scope);refine kc (h.kQ k w m) fun C a6 z e0 J J J=>?_;refine dt a0 z (N.run a1 a0 h fun iv s2 i g d I=>?_) a3 a2;refine kc (g.kQ k w m) fun F a4 r1 H q J mk=>?_;obtain rfl:F=C:=by
  have:=Reads.fn r1 (z.go h.base.gl d.keep);cases this;rfl
 refine ah I fun t a=>?_;subst a;have hz:a4.length=u.length:=q.length;refine wpAny_setItem_pairs (knd:=PySem.strKind c.prog c.w) (k:=a9) (beq_self_eq_true _) H (fun T G V=>?_) (by rw[hz];exact Nat.le_trans U (by decide));have L:Val (c.wo noOwn) i j v:=(K.wo Z).mono d.ext;refine bA (mk T _ (s2.toks+1) (Nat.le_succ _) G V (q.stored L)) fun u' l hu W=>?_;refine ai (Run.fin (M.trans d) l hu W) fun B P=>?_;exact X .next _ i B P
theorem av.Bn(q:fK y x (.bW u) (.bW (dD u a9 i7)) c9)(G:dQ u)(hd:Clean i7)(hi:jn c (n+1) e r y o (.str a9))(h2:u.length≤1000000)(he:u.lookup a9=some j)(hv:jn c (n+1) e r y b0 a5)(a4:∀a1,gn (c.wo a1) i4 j a5 i7)(a3:∀i h b,augStore o i h b=(do holding [b,i,h] (PySem.setItem i h b);release [b,i,h] [];pure .next):=by intros;rfl)(b3:(x==("__debug__" :Str))=false:=by decide+kernel)(b2:(x==("__classdict__" :Str))=false:=by decide+kernel):
  av c (n+1) e p r y (.AugAssign (.Subscript (.Name x O) o Y) i4 b0 b1) (.next r c9):=fun A b6 c0 b7 f s a1 Q E a0 a2 a R hQ=>by
 refine kc (R.kQ a q G) fun m b9 w e0 J J J=>?_;refine wpAny_AugAssign_SubscriptAny (dt a2 w (hi.run a0 a2 R fun h s1 f1 d g z=>?_) b3 b2) a3;refine au (d.st.names x (.bW u) (List.mem_append_right _ (List.mem_map.mpr ⟨_,q.mem,rfl⟩))) fun v0 a6 a8=>?_;obtain rfl:v0= .ref m:=Reads.fn a6 (w.go R.base.gl g.keep);refine gY.dict (c:=c.wo a1) (j:= .bW u) rfl he A f1 s1 (.ref m) h _ E (a0.le (by(simp+arith))) d.base.gl d.base.sub a8 z fun b5 s2 f2 l V=>?_;have K:=d.step l;refine hv.run a0 a2 K fun v s3 f3 k B S=>?_;refine a4 a1 A f3 s3 b5 v _ E (a0.le (by(simp+arith))) k.base.gl k.base.sub (V.mono B.ext) S fun b s4 f4 C N=>?_;have L:=k.step C;refine kc (L.kQ a q G) fun U b4 r1 Z H J mk=>?_;have F:=((g.trans l).trans B).trans C;obtain rfl:U=m:=by
  have:=Reads.fn r1 (w.go R.base.gl F.keep);cases this;rfl
 refine ah z fun t I=>?_;subst I;have hz:b4.length=u.length:=H.length;refine wpAny_setItem_pairs (knd:=PySem.strKind c.prog c.w) (k:=a9) (beq_self_eq_true _) Z (fun h' X a7=>?_) (by rw[hz];exact Nat.le_trans h2 (by decide));refine bA (mk h' _ (s4.toks+1) (Nat.le_succ _) X a7 (H.stored (N.wo hd))) fun u' M hu W=>?_;refine ai (Run.fin F M hu W) fun T P=>?_;exact hQ .next _ f4 T P
theorem ints_of(a0:Vals c f (h.map D.int) Z):∀{i:Nat}{v:Value},Z[i]? =some v→∃j t,h[i]? =some j∧v= .int j t:=fun{i v} e=>by
 have k:=a0.length;have b:i<h.length:=by have:=(List.getElem?_eq_some_iff.mp e).1;simp at k;lia
 obtain⟨w,m,t,rfl⟩:=a0.get (i:=i) (d:= .int h[i]) (by simp[b]);rw[m]at e;cases e;exact bj _ t (by simp[b]) rfl
theorem Vals.erase(h:Vals c f l Z)(n:Nat):Vals c f (l.eraseIdx n) (Z.eraseIdx n):=by
 induction l generalizing Z n with
 |nil=>obtain rfl:Z=[]:=h;simp[Vals]
 |cons j l d=>obtain⟨e,i,rfl,a,b⟩:=h;cases n with
  |zero=>exact b
  |succ n=>exact⟨e,i.eraseIdx n,rfl,a,d b n⟩
theorem vw(g:m→e7):∀(l:List m)(n:Nat),(l.eraseIdx n).map g=(l.map g).eraseIdx n:=by
 intro L
 induction L with
 |nil=>intro n;rfl
 |cons x r h=>
  intro n;rcases n with _|n
  ·rfl
  ·exact congrArg (g x::·) (h n)
theorem av.remove(X:fK y x (.ao (b2.map .int)) (.ao ((b2.eraseIdx z).map .int)) c9)(ha:jn c k e r y o (.int I))(T:b2[z]? =some I)(a9:∀m,m<z→b2[m]? ≠some I)(b3:b2.length≤1000000)(hn:noStar [o]:=by rfl)(b0:∀i,starEach [o] i=(false,eval o i)::starEach [] i:=by intro J;rfl)(a5:∀i,attributeBase (.Name x O) (Str.ofString "remove") i (eval (.Name x O) i)=eval (.Name x O) i:=by intro J;rfl)(a6:lB b1 [o]:=by intro J;rfl)(a7:(Y.endLine==b1.line)=true:=by rfl)(b7:(x==("__debug__" :Str))=false:=by decide+kernel)(b6:(x==("__classdict__" :Str))=false:=by decide+kernel):
  av c k e p r y (.Expr (.Call (.Attribute (.Name x O) (Str.ofString "remove") Y) [o] [] b1) f0) (.next r c9):=fun A i c3 c1 f s u Q E b9 a2 M R hQ=>by
 have U:aS (b2.map D.int):=bI.mpr fun d hd=>by refine bZ hd fun a0 J g=>?_;subst g;trivial
 refine bR (R.ej M X U) fun a4 c4 n0 N K J J J=>?_;refine pZ PySem.F.slot_list_remove PySem.F.plainAttrs_list a2 (dt a2 N ⟨⟨_,K,rfl⟩,fun b hb=>(by cases hb;exact aF _ K rfl),?_⟩ b7 b6) PySem.F.type_list_remove hn a5 a6 a7;refine(ag.cons (ha u) ag.nil b0) A i f s b1 _ E b9 a2 R.st fun vs S L C hv=>?_;have H:=R.step C;refine bR (H.ej M X U) fun l j Z r1 B J F mk=>?_;have:l=a4:=by
  have:=Reads.fn r1 (N.go R.base.gl C.keep);cases this;rfl
 subst this;refine⟨H.base.gl.K,?_⟩;obtain⟨v,c0,rfl,b5,a1⟩:=hv;obtain rfl:c0=[]:=a1;refine ah b5 fun t g=>?_;subst g;have hz:j.size=b2.length:=by have:=F.length;simpa using this
 have c2:=(List.getElem?_eq_some_iff.mp T).1;have G:∀m(q:m<j.size),∃a0 w,b2[m]? =some a0∧j[m]= .int a0 w:=fun m q=>ints_of F (i:=m) (by simp[q]);refine call_meets PySem.F.slot_list_remove ⟨_,B,rfl⟩ PySem.F.entry_list_remove (PySem.F.args_list_remove_2 _ _)
  (PySem.MeetsSeq.list_remove l j Z (.int I t) (fun a3=>match a3 with| .int a0 _=>a0==I|_=>false) (fun a3 hy=>?_) z (by lia) ?_ (fun m q a8=>?_) (by rw[hz];exact Nat.le_trans b3 (by decide))) ⟨B,?_⟩
 ·obtain⟨m,q,rfl⟩:=Array.getElem_of_mem hy;refine bV (G m q) fun a0 w J a1=>?_;rw[a1];exact PySem.MeetsSeq.EqGives.int a0 I w t
 ·refine bV (G z (by lia)) fun a0 w a a1=>?_;rw[T]at a;cases a;rw[a1];simp
 ·refine bV (G m q) fun a0 w a a1=>?_;rw[a1];have:a0≠I:=by rintro rfl;exact a9 m a8 a
  simpa using this
 have e3:=IsL.update (h:=S.heap) (l:=l) (items:=j) (n:=Z) B (fun xs=>xs.eraseIdxIfInBounds z);have b4:Vals (c.wo noOwn) L ((b2.eraseIdx z).map D.int) (j.eraseIdxIfInBounds z).toList:=by
  rw[show(j.eraseIdxIfInBounds z).toList=j.toList.eraseIdx z by simp];rw[vw _ _ _];exact F.erase z
 refine bA (mk _ _ _ S.toks (Nat.le_refl _) e3 (Heap.SameBut.update ..) b4) fun u' V hu W=>?_;refine ai (Run.fin C V hu W) fun W' P=>?_;exact hQ .next _ L W' P
noncomputable def zZ(r:List D)(h:Int):Prop:=aS r∧(∃z,r[0]? =some (.int z))∧r[3]? =some (.int h)
structure kT(l:List D)(hs:List Int):Prop where
 len:l.length=hs.length
 row:∀(i:Nat)(h:Int),hs[i]? =some h→∃r,l[i]? =some (D.ao r)∧zZ r h
 nodup:hs.Nodup
theorem kT.at(R:kT l h){i:Nat}(e:l[i]? =some j):∃r a0,j= .ao r∧zZ r a0∧h[i]? =some a0:=by
 have m:=(List.getElem?_eq_some_iff.mp e).1;have d:i<h.length:=R.len▸m;refine au (R.row i h[i] (by simp[d])) fun r b k=>?_;rw[e]at b;cases b;exact zN r _ rfl k (by simp[d])
theorem tH(b:Z.length=l.length)(h:∀(i:Nat) d v,l[i]? =some d→Z[i]? =some v→Val c f d v):Vals c f l Z:=by
 induction l generalizing Z with
 |nil=>exact List.length_eq_zero_iff.mp b
 |cons d l m=>
  rcases Z with _|⟨v,Z⟩
  ·simp at b
  ·
   exact⟨v,Z,rfl,h 0 d v rfl rfl,m (by simpa using b) fun i j n e k=>h (i+1) j n (by simpa using e) (by simpa using k)⟩
theorem Vals.at(h:Vals c f l Z){i:Nat}(e:l[i]? =some j)(b:Z[i]? =some C):Val c f j C:=by
 refine au (h.get e) fun w k d=>?_;rw[k]at b;cases b;exact d
theorem iV(R:kT l h)(K:G v=some {cls:= .type "list",data:= .seq d0 n})(o:Vals (c.wo G) f l d0.toList)(e:l[k]? =some (.ao c7)):
  ∃b d m,d0[k]? =some (.ref b)∧G b=some {cls:= .type "list",data:= .seq d m}∧Vals (c.wo noOwn) f c7 d.toList∧b≠v∧∀j w,d0[j]? =some (.ref w)→j≠k→w≠b:=by
 refine dp (R.at e) fun r' a0 M i U=>ba i fun T B P=>ah B fun z N=>?_;obtain rfl:=D.ao.inj M;obtain⟨a2,y,b,d,m,rfl,p,t⟩:=o.get e;rw[Array.getElem?_toList]at y;refine r3 b d m y p (t.wo T) (fun q=>?_) (fun j w x Y q=>?_)
 ·obtain⟨v0,E,t0,rfl⟩:=t.get N;have s:d0=d:=by cases K.symm.trans (q▸p);rfl
  have Z:=o;rcases l with _|⟨a1,l'⟩
  ·contradiction
  ·refine bV (R.at (i:=0) rfl) fun S g i J=>?_;subst i;obtain⟨v2,a,C,_,_,rfl,_⟩:=Z.get (i:=0) rfl;rw[s,E]at a;cases a
 ·have A:j<l.length:=o.length.symm▸Array.length_toList.symm▸(Array.getElem?_eq_some_iff.mp x).1;have r:=List.getElem?_eq_getElem A;refine dp (R.at r) fun S g O i X=>ba i fun J J Q=>?_;rw[O]at r;obtain⟨C,V,m2,H,L,W⟩:=o.at r (Array.getElem?_toList.trans x);obtain rfl:=(Value.ref.inj H).symm.trans q;have s:d=V:=by cases p.symm.trans L;rfl
  obtain⟨w1,F,t1,rfl⟩:=t.get P;obtain⟨w2,u,t2,rfl⟩:=W.get Q;rw[←s,F]at u;have I:a0=g:=by cases u;rfl
  exact Y ((List.getElem?_inj (R.len▸A) R.nodup).mp (X.trans (I▸U.symm)))
theorem av.vx{h0:Int}(Z:fK y x (.ao l) (.ao (l++[.ao c7])) c9)(P:kT l h)(ha:ig c n e r y o (.ao c7))(b0:l.length≤1000000)(hn:noStar [o]:=by rfl)(a9:∀k,starEach [o] k=(false,eval o k)::starEach [] k:=by intro J;rfl)(a4:∀k,attributeBase (.Name x O) (Str.ofString "append") k (eval (.Name x O) k)=eval (.Name x O) k:=by intro J;rfl)(a5:lB b1 [o]:=by intro J;rfl)(a6:(Y.endLine==b1.line)=true:=by rfl)(b7:(x==("__debug__" :Str))=false:=by decide+kernel)(b6:(x==("__classdict__" :Str))=false:=by decide+kernel):
  av c n e p r y (.Expr (.Call (.Attribute (.Name x O) (Str.ofString "append") Y) [o] [] b1) f0) (.next r c9):=fun A k c6 c4 f s u Q E c1 a2 g0 R hQ=>by
 refine au (R.st.names x (.ao l) (List.mem_append_right _ (List.mem_map.mpr ⟨_,Z.mem,rfl⟩))) fun v0 N b3=>?_;obtain⟨a,c8,n0,rfl,a3,_⟩:=id b3;have B:=(R.base.gl.own _ _ a3).2;refine pZ slot_list_append PySem.F.plainAttrs_list a2 (dt a2 N ⟨⟨_,B,rfl⟩,fun b hb=>(by cases hb;exact aF _ B rfl),?_⟩ b7 b6) (by rfl) hn a4 a5 a6;refine(gm.cons ha gm.nil a9) u A k f s b1 _ E c1 a2 R.st fun vs S M U G b5 hU=>?_;have g:=R.step G;refine⟨g.base.gl.K,?_⟩;cases b5 with
 | @cons _ _ v _ V u2 b4 dj a8=>
 cases a8;refine hJ (g.sb g0 Z) fun u1 v1 r1 b2 T mk=>?_;obtain rfl:v1= .ref a:=Reads.fn r1 (N.go R.base.gl G.keep);obtain⟨c3,c2,n1,ee,F,H⟩:=b2;obtain rfl:=Value.ref.inj ee;have eh:=(g.base.gl.own _ _ (T _ _ F)).2;have I:∀b j,V b=some j→s.heap.get? b=none∧M b=none∧b≠c.P∧S.heap.get? b=some j:=fun b j a0=>hU b j (FH.dG a0);have W:∀b,s.heap.get? b=none→b≠a:=fun b a1 q=>by rw[q,B]at a1;contradiction
 refine wpAny_list_append_plain ⟨n1,eh⟩ (fun h' hp X=>?_) (by rw[←Array.length_toList,H.length];exact Nat.le_trans b0 (by decide));refine ah hp fun n2 C=>?_;have b9:=mk a _ _ h' S.toks V F (Nat.le_refl _) C X (fun b j a0=>?_) ⟨a,c2.push v,n2,rfl,FH.dG (FH.aR ..),?_⟩
 ·refine bA b9 fun u' k1 k2 k3=>?_;exact hQ .next _ M (bS.pre G (k3.mono fun J a1=> .inr a1)) (.next k1 fun b q=>(k2 b q).imp_right fun a1=>(Option.ne_none_iff_exists'.mp a1).elim fun j a0=>(I b j a0).1)
 ·refine bQ (I b j a0) fun t h2 h3 h4=>?_;exact kf (⟨(X.2 b (W b t)).trans h4,h3⟩) (R.none_of t) h2 (R.kO t) (fun a0=>R.nV (a0▸t)) (fun c5 w hw a0=>R.nW hw (a0▸t))
 ·rw[Array.toList_push];refine Vals.append (tH H.length fun i d w K L=>?_) ⟨v,[],rfl,b4.dr fun b j a0=>?_,rfl⟩
  ·refine dp (P.at K) fun r' a1 J1 hr J=>?_;subst J1;refine bR (iV P F H K) fun b ws m e1 C e3 a7 J=>?_;rw[Array.getElem?_toList,e1]at L;exact Option.some.inj L▸⟨b,ws,m,rfl,FH.dG ((FH.dh a7).trans C),e3.dr fG⟩
  ·have t:=(I b j a0).1;rw[FH.dH]
   ·exact a0
   ·rw[FH.dh (W b t)];exact Option.eq_none_iff_forall_ne_some.mpr fun c0 z=>R.vq (by rw[T b c0 z];nofun) t
theorem av.vy(hx:fK y x (.ao l) (.ao (l.set I.toNat (.ao (c7++[j])))) c9)(K:kT l h)(hi:jn c (n+1) e r y o (.int I))(h0:0≤I)(h1:I<1000000000)(P:l[I.toNat]? =some (.ao c7))(ha:jn c (n+1) e r y b0 j)(hd:Clean j)(b9:c7.length≤1000000)(hn:noStar [b0]:=by rfl)(b6:∀d,starEach [b0] d=(false,eval b0 d)::starEach [] d:=by intro J;rfl)(b3:∀d,attributeBase (.Subscript (.Name x O) o Y) (Str.ofString "append") d (eval (.Subscript (.Name x O) o Y) d)=eval (.Subscript (.Name x O) o Y) d:=by intro J;rfl)(b4:lB f0 [b0]:=by intro J;rfl)(b5:(b1.endLine==f0.line)=true:=by rfl)(c5:(x==("__debug__" :Str))=false:=by decide+kernel)(c4:(x==("__classdict__" :Str))=false:=by decide+kernel):
  av c (n+1) e p r y (.Expr (.Call (.Attribute (.Subscript (.Name x O) o Y) (Str.ofString "append") b1) [b0] [] f0) k0) (.next r c9):=fun A d d5 d2 f s u Q E a3 a1 N R hQ=>by
 refine hJ (R.xQ N hx) fun u0 v0 r0 c1 z J=>?_;obtain⟨g,a4,n0,rfl,B,c3⟩:=c1;have e0:=(R.base.gl.own _ _ (z _ _ B)).2;refine bR (iV K B c3 P) fun a6 d6 m0 p1 p2 p3 p4 p5=>?_;have a9:=(R.base.gl.own _ _ (z _ _ p2)).2;refine pZ slot_list_append PySem.F.plainAttrs_list a1 (Subscript_ (dt a1 r0 (hi.run a3 a1 R fun iv s1 f1 M F ei=>?_) c5 c4)) (by rfl) hn b3 b4 b5;refine ah ei fun t L=>?_;subst L;have X:=F.keep _ _ (R.base.gl.own _ _ (z _ _ B)).1 e0;have W:=F.keep _ _ (R.base.gl.own _ _ (z _ _ p2)).1 a9;have S:s1.heap.IsList g a4:=⟨_,X,rfl,n0,rfl⟩;refine ah (tv o (.ref g) (.int I t)) fun d4 b2=>?_;refine tail_any S.typeIs slot_list_getitem.lookup (wpAny_getItem_list S h0 (by lia) p1 ?_) b2;refine bx (⟨_,W,rfl⟩) (fun b hb=>(by cases hb;exact aF _ W rfl)) ?_;refine(ag.cons (ha u) ag.nil b6) A d f1 s1 f0 _ E a3 a1 M.st fun vs s2 f2 G hv=>?_;have a:=M.step G;refine⟨a.base.gl.K,?_⟩;obtain⟨v,c8,rfl,c2,a2⟩:=hv;obtain rfl:c8=[]:=a2;refine hJ (a.sb N hx) fun u1 v1 r1 c0 V mk=>?_;obtain rfl:v1= .ref g:=Reads.fn r1 ((r0.go R.base.gl F.keep).go M.base.gl G.keep);obtain⟨d1,a5,n1,ee,C,T⟩:=c0;obtain rfl:=Value.ref.inj ee;have same:a5=a4:=by
  have:=(G.keep _ _ (R.base.gl.own _ _ (z _ _ B)).1 X).symm.trans (a.base.gl.own _ _ (V _ _ C)).2;cases this;rfl
 subst same;refine bR (iV K C T P) fun b ws m q1 q2 q3 q4 q5=>?_;obtain rfl:b=a6:=Value.ref.inj (Option.some.inj (q1.symm.trans p1));refine wpAny_list_append_plain ⟨m,(a.base.gl.own _ _ (V _ _ q2)).2⟩ (fun h' hp b7=>?_) (by rw[←Array.length_toList,q3.length];exact Nat.le_trans b9 (by decide));refine ah hp fun n2 e2=>?_;have c6:=mk b _ _ h' s2.toks noOwn q2 (Nat.le_refl _) e2 b7 (fun J J a2=>nomatch a2) ⟨g,a5,n1,rfl,FH.dG ((FH.dh (Ne.symm q4)).trans C),?_⟩
 ·refine bA c6 fun u' k1 k2 k3=>?_;exact hQ .next _ f2 (bS.pre (F.trans G) (k3.mono fun J a0=> .inr a0)) (.next k1 fun w q=> .inl ((k2 w q).resolve_right fun a0=>a0 rfl))
 ·refine tH (T.length.trans List.length_set.symm) fun i' d' w i k=>?_;rw[Array.getElem?_toList]at k;by_cases H:i'=I.toNat
  ·rw[H,List.getElem?_set_self (List.getElem?_eq_some_iff.mp P).1]at i;rw[H,q1]at k;exact Option.some.inj i▸Option.some.inj k▸⟨b,ws.push v,n2,rfl,FH.dG (FH.aR ..),by rw[Array.toList_push];exact(q3.dr fG).append ⟨v,[],rfl,(c2.wo hd),rfl⟩⟩
  ·rw[List.getElem?_set_ne (Ne.symm H)]at i;refine dp (K.at i) fun r' a0 L hr J=>?_;subst L;refine bR (iV K C T i) fun U d0 m' Z a7 a8 d3 J=>?_;rw[Z]at k;exact Option.some.inj k▸⟨U,d0,m',rfl,FH.dG ((FH.dh (q5 i' U Z H)).trans a7),a8.dr fG⟩
theorem tI(d:Str→Option NameKind):∀(r:List (Str×Value))(m:Str→Option Value)(x:Str),x∉r.map (·.1)→bindL d r m x=m x:=by
 intro L
 induction L with
 |nil=>
  intro m x h;exact rfl
 |cons e r b=>
  obtain⟨n,v⟩:=e;intro m x h;simp only[List.map_cons,List.mem_cons,not_or]at h;rw[b _ x h.2];split
  ·exact if_neg h.1
  ·rfl
theorem tJ(d:Str→Option NameKind):∀(r:List (Str×Value))(m:Str→Option Value)(x:Str),x∉r.map (·.1)→bindC d r m x=m x:=by
 intro L
 induction L with
 |nil=>
  intro m x h;exact rfl
 |cons e r b=>
  obtain⟨n,v⟩:=e;intro m x h;simp only[List.map_cons,List.mem_cons,not_or]at h;rw[b _ x h.2];split
  ·rfl
  ·exact if_neg h.1
theorem nY(b:Str→Option NameKind):∀(r:List (Str×Value))(m j:Str→Option Value)(x:Str)(v:Value),(r.map (·.1)).Nodup→(x,v)∈r→(b x=some .local→bindL b r m x=some v)∧(b x≠some .local→bindC b r j x=some v):=by
 intro L
 induction L with
 |nil=>
  intro J J J J J J;contradiction
 |cons o r k=>
  obtain⟨n,w⟩:=o;intro m j x v d h;rw[List.map_cons,List.nodup_cons]at d;unfold bindL bindC;refine memC h (fun e=>?_) fun e=>?_
  ·cases e;refine⟨fun i=>?_,fun i=>?_⟩
   ·rw[if_pos i,tI b r _ n d.1,if_pos rfl]
   ·rw[if_neg i,tJ b r _ n d.1,if_pos rfl]
  ·exact k _ _ x v d.2 e
theorem zip_get:∀{j:List Str}{b:List D}{i:List Value}{x:Str}{d:D},Vals c f b i→(x,d)∈j.zip b→∃v,(x,v)∈j.zip i∧Val c f d v:=by
 intro L
 induction L with
 |nil=>intro b i x d J h;exact absurd h List.not_mem_nil
 |cons t j q=>
  intro b i x d p h;rcases b with _|⟨r,b⟩
  ·exact absurd h List.not_mem_nil
  ·obtain⟨v,s,rfl,k,m⟩:=p;refine memC h (fun e=>?_) fun e=>?_
   ·cases e;exact aF v List.mem_cons_self k
   ·refine au (q m e) fun w n o=>?_;exact aF w (List.mem_cons_of_mem _ n) o
structure fq(fd:FuncData)(body:List Stmt)(xs jl:List Str):Prop where
 body:fd.body= .stmts body
 Bo:fd.closure=[]
 globals:fd.globals=mainGlobals
 builtins:fd.builtins=builtinsNs
 co:fd.scope.isCoroutine=false
 gen:fd.scope.isGenerator=false
 kind:fd.scope.kind= .function
 bind:∀vals:List Value,vals.length=xs.length→bindArgs fd ⟨vals,[]⟩=pure (xs.zip vals)
 par:∀x∈xs,fd.scope.names.lookup x=some .local∨fd.scope.names.lookup x=some .cell
 CJ:xs.Nodup
 jl:∀x∈jl,fd.scope.names.lookup x=some .local∨fd.scope.names.lookup x=some .cell
 free:∀n,fd.scope.names.lookup n≠some .free
 code:∀a,codeOf fd.scope=some a→fd.code= .ref a
theorem jo:∀(b:List m)(d:List e7),d.length=b.length→(b.zip d).map (·.1)=b:=fun b d h=>List.map_fst_zip (Nat.le_of_eq h.symm)
theorem ak.fn{a:Addr}(ho:c.K.lookup a=some d1)(hd:d1.data= .func f1)(a5:codeIn c.K f1.code f1.qualname=true)(d:fq f1 a3 p h2)(a8:l.length=p.length)(b2:∀x j,(x,some j)∈r→(x,j)∈p.zip l)(hw:Wp c n f1.scope h2 r [] a3 (.ret j)):ak c.bare (n+1) (.ref a) l j:=fun A f s m Q E a1 g V a9 hv hQ=>by
 refine wpAny_call ?_;have B:m.length=p.length:=hv.length.trans a8;refine codeAny_call_function a1.lim (g.K _ _ ho) hd d.co d.gen d.body (codeRec_of g.K a5) ?_;rw[d.bind m B,d.Bo];refine wpAny_pure (bM (wpAny_newFunctionEnv_cells d.kind (fun x u=>?_) fun i Z F X M=>?_))
 ·obtain⟨y,w⟩:=x;have hy:y∈p:=by
   have:y∈(p.zip m).map (·.1):=List.mem_map.mpr ⟨_,u,rfl⟩;rw[jo p m B]at this;exact this
  refine ay (d.par y hy) (fun h=>?_) fun h=>?_
  ·exact .inl h
  ·refine .inr ⟨h,?_⟩;refine ah (iE (e:=f1.scope.names) (k:=s.heap.objs.size+1) (b:=[]) (mem_of_lookup h)) fun b k=>?_;refine ah (dF k) fun b' a4=>?_;rw[a4];rfl
 ·refine⟨Heap.NoLimit.keeps g.lim X.toInCall.keep,codeAny_func ?_⟩;obtain⟨⟨h1,tk,H⟩,L,a6,b3⟩:=X.toInCall;have I:=X.cell;have a2:=X.apart;have Y:=X.above;have o:callEnvC f1 s.heap.objs.size a=i:=Z.symm;clear Z;have T:i.scope=f1.scope:=by rw[←o];rfl
  have t:i.locals=s.heap.objs.size:=by rw[←o];rfl
  have ec:i.cells=cellsFrom (s.heap.objs.size+1) f1.scope.names []:=by rw[←o];rfl
  have eg:i.globals=mainGlobals:=by rw[←o];exact d.globals
  have eb:i.builtins=builtinsNs:=by rw[←o];exact d.builtins
  have q:∀x,i.kindOf x=f1.scope.names.lookup x:=fun x=>by refine(?_ :i.scope.names.lookup x=_);rw[T]
  have d1:bE i f1.scope:=⟨T,d.kind,eg,eb,fun a0 n' b e e'=>name_of_addr a2 (mem_of_lookup e) (mem_of_lookup e'),fun a0 h=>by
   refine ay h (fun h=>?_) fun h=>?_
   ·refine ah (iE (e:=f1.scope.names) (k:=s.heap.objs.size+1) (b:=[]) (mem_of_lookup h)) fun b k=>?_;rw[ec];exact dF k
   ·exact absurd h (d.free a0),fun a e=>by rw[←o];exact d.code a e⟩
  have U:∀b,s.heap.objs.size≤b→s.heap.get? b=none:=fun b h=>Heap.get?_none_of_le h;have z:∀b,s.heap.objs.size≤b→f b=none:=fun b h=>(Go.refl V).cj h;have a7:∀b C,s.heap.get? b=some C→h1.get? b=some C:=fun b C e=>by have:=a6 b C e;rw[H]at this;exact this
  have G:Go c f s f F:=by
   rw[H];exact(Go.refl (c:=c) V).heap a7 g.cH (by rw[H]at M;exact M)
  have g1:Gl c.bare F.heap:=G.cT.gl g;have R:Run c h2 i s f r [] noOwn f F:=
   {go:=G
    base:=⟨g1,G.sub,fun J J K=>(nomatch K),fun a0 b e=>⟨_,I a0 b e⟩,⟨_,L⟩,⟨rfl,fun J J J=>rfl⟩,Nat.lt_of_lt_of_le a9 M⟩
    cl:=fun x d' K=>by
     refine au (zip_get (c:=c.bare) hv (b2 x d' K)) fun v S b1=>?_;refine aF v ?_ b1;have u:x∈p:=by
      have:x∈(p.zip m).map (·.1):=List.mem_map.mpr ⟨_,S,rfl⟩;rw[jo p m B]at this;exact this
     have O:=nY i.kindOf (p.zip m) (fun J=>none) (fun J=>none) x v (by rw[jo p m B];exact d.CJ) S;refine ay (d.par x u) (fun h=>?_) fun h=>?_
     ·exact .inl ⟨(q x).trans h,_,L,O.1 ((q x).trans h)⟩
     ·have N:i.kindOf x=some .cell:=(q x).trans h;refine ah (d1.full x (.inl h)) fun b k=>?_;refine .inr ⟨.inl N,b,k,?_⟩;have:=I x b k;rw[O.2 (by rw[N];decide)]at this;exact this
    pB:= .nil
    own:=fun J J e=>(nomatch e)
    nm:=fun x u=>by
     refine ay (d.jl x u) (fun h=>?_) fun h=>?_
     ·exact .inl ⟨(q x).trans h,by rw[t];exact U _ (Nat.le_refl _),by rw[t];exact z _ (Nat.le_refl _),_,L⟩
     ·refine ah (d1.full x (.inl h)) fun b k=>?_;have:=Y x b (mem_of_lookup k);rw[t]at this;exact .inr ⟨(q x).trans h,b,k,U _ (Nat.le_of_lt this),z _ (Nat.le_of_lt this),_,I x b k⟩
    fr:=⟨by rw[t];exact z _ (Nat.le_refl _),fun a0 b e=>by
     have:=Y a0 b (mem_of_lookup e);rw[t]at this;exact z _ (Nat.le_of_lt this)⟩}
  refine hw (A.deeper i) i s f f F noOwn _ _ a1.deeper d1 g R fun fl s' f' W P=>?_;refine bA P fun v J1 G' b0=>?_;subst J1;exact hQ v s' f' G'.cT b0
theorem ak.wo(h:ak c.bare n C l j)(k:aS l)(i:Clean j):ak (c.wo f) n C l j:=fun A a0 s u Q E r g o m p e=>
 h A a0 s u Q E r g.cT o m (p.wo k) fun v t b d q=>e v t b d.kl.tF (Val.wo (f:=noOwn) i q)
noncomputable abbrev N(s:String):Str:=Str.ofString s
noncomputable def fdOf(P:Params)(a:Addr):Option FuncData:=match(Mine.hd.heap_39 P).lookup a with
 |some ⟨_,_,.func h,_⟩=>some h
 |_=>none
structure Std(c:Cx):Prop where
 K:c.K=Mine.hd.heap_39 c.w.params
 here:∃h,Gl c h
 bl:∀x:Str,x≠ "__name__" →c.mb x=bootBuiltins x
theorem Std.g(S:Std c)(e:nsIn (Mine.hd.heap_39 c.w.params) mainGlobals x=some (some C)):lC c x C:=by
 refine ah S.here fun h g=>?_;exact .inl (mg_of g.K g.g (by rw[S.K];exact e))
theorem Std.fn(S:Std c){a:Addr}(h:(Mine.hd.heap_39 c.w.params).lookup a=some d1):(c.wo f).K.lookup a=some d1:=S.K▸h
theorem Std.b(S:Std c)(e:nsIn (Mine.hd.heap_39 c.w.params) mainGlobals x=some none)(h:bootBuiltins x=some C∧x≠ "__name__"):lC c x C:=by
 refine ah S.here fun b g=>?_;exact .inr ⟨mg_none_of g.K g.g (by rw[S.K];exact e),(S.bl x h.2).trans h.1⟩
theorem ab(h:(x,some j)∈r):(x,some j)∈allOf r y:=List.mem_append_left _ h
theorem cB(h:(x,j)∈y):(x,some j)∈allOf r y:=List.mem_append_right _ (List.mem_map.mpr ⟨_,h,rfl⟩)
theorem fq.of(q:f1.body= .stmts a3)(d:f1.closure=[])(i:f1.globals=mainGlobals)(j:f1.builtins=builtinsNs)(k:f1.scope.isCoroutine=false)(m:f1.scope.isGenerator=false)(o:f1.scope.kind= .function)(r:∀b:List Value,b.length=p.length→bindArgs f1 ⟨b,[]⟩=pure (p.zip b))(w:(p.all fun x=>f1.scope.names.lookup x==some .local||f1.scope.names.lookup x==some .cell)=true)(u:p.Nodup)(v:(h2.all fun x=>f1.scope.names.lookup x==some .local||f1.scope.names.lookup x==some .cell)=true)(t:(f1.scope.names.all fun a0=>a0.2 != .free)=true)(s:∀a,codeOf f1.scope=some a→f1.code= .ref a):fq f1 a3 p h2:=
 ⟨q,d,i,j,k,m,o,r,fun x h=>by simpa using List.all_eq_true.mp w x h,u,fun x h=>by simpa using List.all_eq_true.mp v x h,fun n e=>by
  have:=List.all_eq_true.mp t _ (mem_of_lookup e);simp at this,s⟩
theorem ak.lX(S:Std c){k:Option Addr}{o:Array (Option Value)}(d:(Mine.hd.heap_39 c.w.params).lookup v=some ⟨C,k,.func f1,o⟩)(h:codeIn (Mine.hd.heap_39 c.w.params) f1.code f1.qualname=true)(m:fq f1 a3 p h2)(b:l.length=p.length)(i:∀x j,(x,some j)∈r→(x,j)∈p.zip l)(e:Wp c n f1.scope h2 r [] a3 (.ret j)):ak c.bare (n+1) (.ref v) l j:=
 ak.fn (by rw[S.K];exact d) rfl (by rw[S.K];exact h) m b i e
theorem xR:∀{l:List m},l.length=2→∃a b,l=[a,b]:=fun{l} h=>by
 rcases l with _|⟨a,_|⟨b,_|⟨c,r⟩⟩⟩
 ·exact nomatch h
 ·exact nomatch h
 ·exact⟨a,b,rfl⟩
 ·exact nomatch h
theorem CK:∀{l:List m},l.length=3→∃a b c,l=[a,b,c]:=fun{l} h=>by
 rcases l with _|⟨a,r⟩
 ·exact nomatch h
 ·refine cP (xR (Nat.succ.inj h)) fun b c d=>?_;rw[d];exact⟨a,b,c,rfl⟩
theorem dZ(b:∀p∈r,p.2=none):∀y e,(y,some e)∈(x,some j)::r→(y,e)∈[x].zip [j]:=fun y e h=>by
 refine memC h (fun q=>?_) fun q=>?_
 ·cases q;exact List.mem_cons_self
 ·have:=b _ q;contradiction
theorem cu(h:x≠a9)(b:x∉y.map (·.1)):x∉(((a9,j)::y:Omega).map (·.1)):=by simpa using⟨h,by simpa using b⟩
theorem CL(b:x∈p)(d:x∉y.map (·.1)):∀a0∈([(x,j)]:List (Str×D)).map (·.1),a0∈p∧a0∉y.map (·.1):=fun a0 h=>by
 have:a0=x:=by simpa using h
 subst this;exact⟨b,d⟩
theorem aa(i:Nat)(h:p3[i]? =some p0):p0∈p3:=List.mem_of_getElem? h
theorem bG:∀{b i:bD},i.zipWith (fun p q=>p.2.elim p fun J=>q) b=i→∀x d,(x,some d)∈i→(x,some d)∈b:=fun{b i}=>by
 induction i generalizing b with
 |nil=>exact fun J J J h=>nomatch h
 |cons p r m=>
  intro e x d h;rcases b with _|⟨q,b⟩
  ·contradiction
  ·refine ai (List.cons.inj e) fun j k=>?_;refine memC h (fun h=>?_) fun h=>?_
   ·rw[←h]at j;exact List.mem_cons.mpr (.inl j.symm)
   ·exact List.mem_cons_of_mem _ (m k x d h)
theorem vz(os:List Str)(e:y.map (·.1)=os)(h:x∉os):x∉y.map (·.1):=e▸h
noncomputable abbrev z0:List Str:=[N "debts",N "steps",N "log",N "dues",N "mails",N "awake",N "boss",N "books",N "answers",N "owed",N "boxes"]
theorem cC(e:y.map (·.1)=[]):x∉y.map (·.1):=vz [] e List.not_mem_nil
theorem rf(j:Nat)(e:y.map (·.1)=z0.drop j)(h:x∉z0.drop j):x∉y.map (·.1):=vz _ e h
theorem lY(e:y.map (·.1)=z0)(h:x∉z0):x∉y.map (·.1):=vz z0 e h
noncomputable def mQ(l:List (Str×Int)):D:= .dict (l.map fun p=>(p.1,.int p.2))
inductive Turn(c:Cx)(k:Nat)(sc:Scope)(jl:List Str)(target:Expr)(body:List Stmt):D→bD→Omega→bD→Omega→Prop
 |mk {d:D} {bs:List (Str×D)} {ρ ρ1 ρ2 ρ3:bD} {ω zX:Omega}:eO target d bs→dk ρ bs ρ1→(∀x∈bs.map (·.1),x∈jl∧x∉ω.map (·.1))→(ρ.map (·.1)).Nodup→Wp c k sc jl ρ1 ω body (.next ρ2 zX)→(∀x d,(x,some d)∈ρ3→(x,some d)∈ρ2)→Turn c k sc jl target body d ρ ω ρ3 zX
theorem ez.fold(b:e7→D)(step:m→e7→m)(R:m→bD)(O:m→Omega)(P:m→List e7→Prop)(h:∀s a l,P s (a::l)→P (step s a) l∧Turn c n e p o a3 (b a) (R s) (O s) (R (step s a)) (O (step s a))):∀(l:List e7)(s:m),P s l→ez c n e p o a3 (l.map b) (R s) (O s) (.next (R (l.foldl step s)) (O (l.foldl step s))):=by
 intro L
 induction L with
 |nil=>
  intro s J;exact .done
 |cons a l w=>
  intro s r;refine ai (h s a l r) fun d i=>?_;cases i with
  |mk j t v q u k=>exact .step j t v q u k (w (step s a) d)
theorem mR(S:Std c)(k:Nat)(l:List (Str×Int)):ak c.bare (k+2) (.ref 59) [mQ l] (.int (l.foldl (fun a p=>a+p.2) 0)):=by
 have b:[N "callers",N "nc",N "calls"].Nodup:=by decide+kernel
 refine ak.lX S (p:=[N "callers"]) (h2:=[N "callers",N "nc",N "calls"]) (r:=[(N "callers",some (mQ l)),(N "nc",none),(N "calls",none)]) rfl rfl (fq.of rfl rfl rfl rfl rfl rfl rfl (fun j h=>?_) rfl (by decide+kernel) rfl rfl (by intro a e;cases e)) rfl (dZ (by simp)) ?_
 ·refine ah (List.length_eq_one_iff.mp h) fun v i=>?_;subst i;rfl
 dsimp only;refine Wp.cons (av.assign (j:= .int 0) (fun u=>Ev.int) trivial (by exact ar 1 rfl) (aa 1 rfl) (by exact cC rfl) b (fun J=>rfl)) ?_;refine Wp.cons (av.for (aO.values (u:=l.map fun p=>(p.1,.int p.2)) (Ev.name (aa 0 rfl)) rfl) (by
  rw[List.map_map];refine ez.fold (e7:=Str×Int) (m:=Int) ((·.2)∘fun p=>(p.1,D.int p.2)) (fun a p=>a+p.2) (fun a=>[(N "callers",some (mQ l)),(N "nc",some (.int a)),(N "calls",none)]) (fun J=>[]) (fun J J=>True) (fun s a J J=>⟨trivial,?_⟩) l 0 trivial;exact .mk .name (.cons (by exact ar 2 rfl) .nil) (CL (aa 2 rfl) (by exact cC rfl)) (by exact b) (Wp.cons (av.aug (aa 1 rfl) (fun u=>Ev.name (ab (aa 2 rfl))) (fun u=>gn.add) trivial (by exact ar 1 rfl) (aa 1 rfl) (by exact cC rfl) (by exact b)) Wp.nil) (by exact bG rfl))) ?_
 exact Wp.ret (av.return (fun u=>Ev.name (ab (aa 1 rfl))) trivial)
noncomputable def dJ(c:Cx)(k:Nat)(j:Scope)(m:bD)(i:BoolOp)(d:List Expr)(b:Bool):Prop:=
 ∀(A:Around)(env:Env)(f:FH)(s:Shared)(Q:Bool→Shared→Prop)(E:Value→Shared→Prop),bJ k A→bE env j→St c f m env s→
  (∀h e,Go c f s e h→Q b h)→wpAny (model c.prog c.w) A (allTrue i d env) Q E s
theorem dJ.kU:dJ c n e r .And [] true:=fun A b f s Q E a0 o y h=>wpAny_pure (h s f y.refl)
theorem dJ.Df:dJ c n e r .Or [] false:=fun A b f s Q E a0 o y h=>wpAny_pure (h s f y.refl)
theorem dJ.and(p:br c n e r o Q)(q:Q=true→dJ c n e r .And B e3):dJ c n e r .And (o::B) (Q&&e3):=fun A h f s a0 E a2 a1 y i=>by
 refine(?_ :wpAny _ A (isTrue o h (eval o h)>>=_) a0 E s);refine wpAny_bind (p A h f s _ E a2 a1 y fun j d b=>?_);rcases Q with _|_
 ·exact wpAny_pure (i j d b)
 ·exact q rfl A h d j a0 E a2 a1 (y.go b) fun t k m=>i t k (b.trans m)
theorem br.bool(h:dJ c n e r m4 B Q):br c n e r (.BoolOp m4 B O) Q:=fun A b f s a0 E a1 o y d=>by
 rw[arm_isTrue_BoolOp];exact h A b f s a0 E a1 o y d
theorem br.vd(q:br c n e r o Q)(t:Q=true→br c n e r b0 e3)(u:Q=false→br c n e r j1 e3):br c n e r (.IfExp o b0 j1 O) e3:=fun A b f s a2 E a1 a0 y m=>by
 refine isTrue_IfExp (q A b f s _ E a1 a0 y fun p k h=>?_);rcases Q with _|_
 ·exact u rfl A b k p a2 E a1 a0 (y.go h) fun j d i=>m j d (h.trans i)
 ·exact t rfl A b k p a2 E a1 a0 (y.go h) fun j d i=>m j d (h.trans i)
theorem Ev.BY(h:Ev c n e r o j):Ev c n e r (.BoolOp m4 [o] O) j:=fun A b f s Q E a1 a0 y d=>BoolOp_one (h A b f s Q E a1 a0 y d)
theorem Ev.and(x:Ev c (n+1) e r o (.bool Q))(z:Q=true→Ev c (n+1) e r (.BoolOp .And (b0::B) O) (.bool e3)):Ev c (n+1) e r (.BoolOp .And (o::b0::B) O) (.bool (Q&&e3)):=fun A d f s a2 E a0 a1 y k=>by
 refine BoolOp_and (x A d f s _ E a0 a1 y fun v a q h i=>?_);refine jY.bool A q a v _ E (a0.le (by(simp+arith))) (y.go h).gl h.sub i fun m j b=>?_;rcases Q with _|_
 ·
  rw[if_neg (by decide)];exact k v m j (h.trans b) (i.mono b.ext)
 ·
  rw[if_pos rfl];exact z rfl A d j m a2 E a0 a1 (y.go (h.trans b)) fun w g t u p=>k w g t ((h.trans b).trans u) p
theorem Ev.or(x:Ev c (n+1) e r o (.bool Q))(z:Q=false→Ev c (n+1) e r (.BoolOp .Or (b0::B) O) (.bool e3)):Ev c (n+1) e r (.BoolOp .Or (o::b0::B) O) (.bool (Q||e3)):=fun A d f s a2 E a0 a1 y k=>by
 refine BoolOp_or (x A d f s _ E a0 a1 y fun v a q h i=>?_);refine jY.bool A q a v _ E (a0.le (by(simp+arith))) (y.go h).gl h.sub i fun m j b=>?_;rcases Q with _|_
 ·
  rw[if_neg (by decide)];exact z rfl A d j m a2 E a0 a1 (y.go (h.trans b)) fun w g t u p=>k w g t ((h.trans b).trans u) p
 ·
  rw[if_pos rfl];exact k v m j (h.trans b) (i.mono b.ext)
mutual
noncomputable def D.py:D→PyData
 | .none=> .none
 | .bool b=> .bool b
 | .int i=> .int i
 | .str x=> .str x
 | .tup l=> .tuple (bB l)
 | .list l=> .list (bB l)
 | .ao l=> .list (bB l)
 | .bytes _=> .dict []
 | .ty _=> .dict []
 | .dict _=> .dict []
 | .bW _=> .dict []
 | .pv _ _ _=> .dict []
noncomputable def bB:List D→List PyData
 | []=>[]
 |d::r=>d.py::bB r
end
theorem eC:D.py .none= .none:=rfl
theorem eD:D.py (.bool Q)= .bool Q:=rfl
theorem eE:D.py (.int I)= .int I:=rfl
theorem eF:D.py (.str x)= .str x:=rfl
theorem eG:D.py (.tup l)= .tuple (bB l):=rfl
theorem eH:D.py (.list l)= .list (bB l):=rfl
theorem eI:D.py (.ao l)= .list (bB l):=rfl
theorem fR:bB []=[]:=rfl
theorem fH:bB (j::l)=j.py::bB l:=rfl
theorem mS(l:List D):bB l=l.map D.py:=by
 induction l with
 |nil=>rfl
 |cons d r h=>simp[fR,fH,h]
theorem iW(t:Sub c f s.heap)(r:List D)(e:∀d∈r,∀v,Val c f d v→d.py.canLay0=true→∃b,PySem.Reads s.heap v d.py b):∀v,Vals c f r v→PyData.canLayAll0 (bB r)=true→∃b,PySem.ReadsAll s.heap v (bB r) b:=by
 induction r with
 |nil=>intro v h q;obtain rfl:v=[]:=h;exact⟨_,.nil⟩
 |cons d r k=>
  intro v h q;obtain⟨v,o,rfl,i,j⟩:=h;rw[fH,PyData.canLayAll0,Bool.and_eq_true]at q;refine ah (e d List.mem_cons_self v i q.1) fun b m=>?_;refine ah (k (fun d h=>e d (List.mem_cons_of_mem _ h)) o j q.2) fun p n=>?_;exact⟨_,.cons m n⟩
theorem qa(g:Gl c s.heap)(m:Sub c f s.heap)(d:D):∀v,Val c f d v→d.py.canLay0=true→∃k,PySem.Reads s.heap v d.py k:=by
 have u {P:Prop} (q:false=true):P:=absurd q Bool.false_ne_true;refine D.ind (P:=fun d=>∀v,Val c f d v→d.py.canLay0=true→∃k,PySem.Reads s.heap v d.py k) (fun v h J=>?_) (fun b v h J=>?_) (fun i v h J=>?_) (fun x v h J=>?_) (fun x v h q=>u q) (fun l j v h q=>?_) (fun l j v h q=>?_) (fun l j v h q=>u q) (fun a b e v h q=>u q) (fun l j v h q=>?_) (fun l j v h q=>u q) (fun T v h q=>u q) d
 ·obtain rfl:v=_:=h;exact⟨_,.none⟩
 ·obtain rfl:v=_:=h;exact⟨_,.bool b⟩
 ·refine ah h fun t w=>?_;subst w;exact⟨_,.int i t⟩
 ·refine ah h fun t w=>?_;subst w;exact⟨_,.str x t⟩
 ·obtain⟨a,o,n,y,rfl,e,z,A,p⟩:=h;exact ah (iW m l j _ p q) fun k r=>⟨_,.tuple (m _ _ e).2 z A r⟩
 ·obtain⟨a,y,n,rfl,e,p⟩:=h;exact ah (iW m l j _ p q) fun k r=>⟨_,.list (m _ _ e).2 rfl rfl r⟩
 ·obtain⟨a,y,n,rfl,e,p⟩:=h;exact ah (iW m l j _ p q) fun k r=>⟨_,.list (g.own _ _ e).2 rfl rfl r⟩
theorem Val.reads(g:Gl c s.heap)(d:Sub c f s.heap)(h:Val c f j C)(q:j.py.canLay0=true):∃b,PySem.Reads s.heap C j.py b:=qa g d j C h q
theorem Vals.reads(g:Gl c s.heap)(b:Sub c f s.heap)(h:Vals c f l Z)(q:PyData.canLayAll0 (bB l)=true):∃d,PySem.ReadsAll s.heap Z (bB l) d:=iW b l (fun l J=>qa g b l) Z h q
noncomputable def Lay(d:D):Prop:=d.py.canLay0=true∧d.py.depth≤64
theorem aB.vA(b:Lay j)(d:Lay a5):aB c .Eq j a5 (PyData.eqv j.py a5.py):=fun A f s u v Q E r g h e i k=>by
 refine ah (e.reads g h b.1) fun o m=>?_;refine ah (i.reads g h d.1) fun p n=>?_;refine PySem.SeqAt.compareEq_reads m n b.1 d.1 ?_ (k _ s f (Go.refl h) rfl);have:=r.units;have q:=b.2;have t:min j.py.depth a5.py.depth≤j.py.depth:=Nat.min_le_left _ _;refine(?_ :_<9900);lia
theorem aB.Ck(b:Lay j)(d:Lay a5):aB c .NotEq j a5 (!PyData.eqv j.py a5.py):=fun A f s u v Q E r g h e i k=>by
 refine ah (e.reads g h b.1) fun o m=>?_;refine ah (i.reads g h d.1) fun p n=>?_;refine PySem.SeqAt.compareNe_reads m n b.1 d.1 ?_ (k _ s f (Go.refl h) rfl);have:=r.units;have q:=b.2;have t:min j.py.depth a5.py.depth≤j.py.depth:=Nat.min_le_left _ _;refine(?_ :_<9900);lia
theorem aB.inl(p:a5.bt=some l)(b:Lay j)(i:PyData.canLayAll0 (bB l)=true)(v:PyData.depthAll (bB l)≤60):aB c .In j a5 ((bB l).any fun y=>PyData.eqv y j.py):=fun A f s x z Q E r g h m n o=>by
 have e:a5.py= .list (bB l):=jD (P:=fun d=>d.py= .list (bB l)) rfl rfl p;refine ah (m.reads g h b.1) fun t q=>?_;refine ah (n.reads g h (by rw[e];exact i)) fun u k=>?_;rw[e]at k;refine PySem.SeqAt.in_list_reads k q i b.1 ?_ (o _ s f (Go.refl h) rfl);have:=r.units;have w:min (PyData.depthAll (bB l)) j.py.depth≤PyData.depthAll (bB l):=Nat.min_le_left _ _;refine(?_ :_<9900);lia
theorem aB.Bp(p:a5.bt=some l)(b:Lay j)(i:PyData.canLayAll0 (bB l)=true)(v:PyData.depthAll (bB l)≤60):aB c .NotIn j a5 (!(bB l).any fun y=>PyData.eqv y j.py):=fun A f s x z Q E r g h m n o=>by
 have e:a5.py= .list (bB l):=jD (P:=fun d=>d.py= .list (bB l)) rfl rfl p;refine ah (m.reads g h b.1) fun t q=>?_;refine ah (n.reads g h (by rw[e];exact i)) fun u k=>?_;rw[e]at k;refine PySem.SeqAt.notIn_list_reads k q i b.1 ?_ (o _ s f (Go.refl h) rfl);have:=r.units;have w:min (PyData.depthAll (bB l)) j.py.depth≤PyData.depthAll (bB l):=Nat.min_le_left _ _;refine(?_ :_<9900);lia
theorem aB.inDict(o:j.ie=some u):aB c .In (.str x) j ((u.lookup x).isSome):=fun A f s G H Q E r g h y i m=>by
 refine ah y fun t b=>?_;subst b;refine pK (i.kI o g h) fun a e b J q n w z=>?_;subst b;have C:(valueAt e x).isSome=(u.lookup x).isSome:=by
  clear n z q o i m
  induction u generalizing e with
  |nil=>obtain rfl:e=[]:=w;rfl
  |cons p u B=>
   obtain⟨v,F,rfl,_,l⟩:=w;rw[List.lookup_cons];by_cases d:x=p.1
   ·subst d;simp[valueAt]
   ·have:(x==p.1)=false:=by simpa using d
    rw[this];rw[←B _ l];simp[valueAt,List.find?_cons,Ne.symm d]
 refine wpAny_in_of (knd:=PySem.strKind c.prog c.w) (k:=x) (beq_self_eq_true _) q n.mapOf ?_;rw[C];exact m _ _ f (Go.refl h).toks rfl
theorem aB.is(h:∀f b d,Val c f j b→Val c f a5 d→plainIs b d=true∧(b==d)=true):aB c .Is j a5 true:=fun A f s b d Q E r g o e i n=>by
 refine ai (h f b d e i) fun k m=>?_;exact wpAny_is_plain k (by rw[m];exact n _ s f (Go.refl o) rfl)
theorem aB.Cm(h:∀f b d,Val c f j b→Val c f a5 d→plainIs b d=true∧(b==d)=false):aB c .Is j a5 false:=fun A f s b d Q E r g o e i n=>by
 refine ai (h f b d e i) fun k m=>?_;exact wpAny_is_plain k (by rw[m];exact n _ s f (Go.refl o) rfl)
theorem aB.isNone:aB c .Is .none .none true:=aB.is fun f d e h b=>by
 obtain rfl:_=_:=h;obtain rfl:_=_:=b;exact⟨rfl,rfl⟩
theorem aB.vC:aB c .Is (.int I) .none false:=aB.Cm fun f e i b d=>by
 refine ah b fun t h=>?_;subst h;obtain rfl:_=_:=d;exact⟨rfl,rfl⟩
theorem aB.isBool:aB c .Is (.bool Q) (.bool e3) (Q==e3):=fun A f s i j a0 E r g e h b d=>by
 obtain rfl:_=_:=h;obtain rfl:_=_:=b;exact wpAny_is_plain rfl (d _ s f (Go.refl e) (by rcases Q with _|_<;>rcases e3 with _|_<;>rfl))
theorem Vals.arr(h:Vals c f l d0.toList):d0.size=l.length:=by have:=h.length;simpa using this
theorem aJ.xS(v:j.bt=some l)(w:a5.bt=some c7)(y:l.length+c7.length≤1000000):aJ c .Add j a5 (.list (l++c7)):=fun A f s C F Q E r g h t u x=>by
 refine bR (t.isList v g h) fun a p n d e J k J=>?_;subst d;refine bR (u.isList w g h) fun b q m d i J o J=>?_;subst d;have z:=k.arr;have B:=o.arr;refine PySem.concat_meets ⟨_,e,rfl⟩ ⟨_,i,rfl⟩ noFill_list_add seq_list_add PySem.F.slot_list_add PySem.F.entry_list_add (PySem.F.args_list_add_2 _ _) (list_addW a b p q n m none none #[] #[] (by rw[z,B];exact Nat.le_trans y (by decide))) ⟨e,i,?_⟩;exact x _ _ _ ((Go.refl h).fD g rfl (by nofun)) ⟨_,p++q,0,rfl,FH.aR ..,by rw[Array.toList_append];exact(k.append o).mono (Go.refl h).fT⟩
theorem aJ.BZ(G:l≠ [])(H:c7≠ [])(J:l.length+c7.length≤1000000):aJ c .Add (.tup l) (.tup c7) (.tup (l++c7)):=fun A f s Y Z Q E r g h C F I=>by
 refine dp (C.isTup h) fun a d j k v=>?_;subst j;obtain⟨⟨T,z,X,O⟩,m,p,n,t⟩:=k;refine dp (F.isTup h) fun b i j k w=>?_;subst j;obtain⟨⟨U,B,data2,P⟩,o,q,L,u⟩:=k;simp only at p t q u;subst p t q u;have x:=v.arr;have y:=w.arr;have K:¬d.isEmpty=true:=by
  intro e;have:d.size=0:=by simpa using e
  rw[x]at this;exact G (List.length_eq_zero_iff.mp this)
 have M:¬i.isEmpty=true:=by
  intro e;have:i.size=0:=by simpa using e
  rw[y]at this;exact H (List.length_eq_zero_iff.mp this)
 refine PySem.concat_meets ⟨_,m,rfl⟩ ⟨_,o,rfl⟩ noFill_tuple_add seq_tuple_add PySem.F.slot_tuple_add PySem.F.entry_tuple_add (PySem.F.args_tuple_add_2 _ _) (tuple_addW2 a b d i n L z B O P K M (by rw[x,y];exact Nat.le_trans J (by decide))) ⟨m,o,?_⟩;exact I _ _ _ ((Go.refl h).fD g rfl (by nofun)) ⟨_,_,0,d++i,rfl,FH.aR ..,rfl,rfl,by rw[Array.toList_append];exact(v.append w).mono (Go.refl h).fT⟩
theorem ak.fs(h:j.bt=some l)(w:l.length≤1000000):ak c n (.builtin "len") [j] (.int l.length):=fun A f s x Q E r g b u o k=>by
 obtain⟨v,q,rfl,i,e⟩:=o;obtain rfl:q=[]:=e;refine bR (i.isList h g b) fun a y a0 d t m p J=>?_;subst d;have z:=p.arr;exact PySem.Calls.call_len_list m (by omega) (k _ _ f (Go.refl b).toks (by rw[z];exact⟨_,rfl⟩))
theorem ak.xT(h:I.natAbs.log2<1920):ak c n (.type "str") [.int I] (.str (Str.ofString (toString I))):=fun A f s m Q E r g d k i b=>by
 obtain⟨v,j,rfl,⟨t,rfl⟩,e⟩:=i;obtain rfl:j=[]:=e;exact PySem.P.str_of_int h (b _ _ f (Go.refl d).toks ⟨_,rfl⟩)
theorem ak.chr(h:0≤I)(b:I≤1114111):ak c n (.builtin "chr") [.int I] (.str ⟨#[I.toNat]⟩):=fun A f s o Q E r g i m j d=>by
 obtain⟨v,k,rfl,⟨t,rfl⟩,e⟩:=j;obtain rfl:k=[]:=e;exact PyProof.Rows.chr_of_range h b (d _ _ f (Go.refl i).toks ⟨_,rfl⟩)
theorem ak.max:ak c n (.builtin "max") [.int I,.int e9] (.int (if e9>I then e9 else I)):=fun A f s w Q E r g d o j h=>by
 obtain⟨v,x,rfl,⟨t,rfl⟩,u,k,rfl,⟨p,rfl⟩,e⟩:=j;obtain rfl:k=[]:=e;refine bM (max_two_ints r.handled fun m q b i=>h _ _ f ((Go.refl d).heap b g.cH i) ?_);split
 ·exact⟨_,rfl⟩
 ·exact⟨_,rfl⟩
theorem ak.min:ak c n (.builtin "min") [.int I,.int e9] (.int (if e9<I then e9 else I)):=fun A f s w Q E r g d o j h=>by
 obtain⟨v,x,rfl,⟨t,rfl⟩,u,k,rfl,⟨p,rfl⟩,e⟩:=j;obtain rfl:k=[]:=e;refine bM (min_two_ints r.handled fun m q b i=>h _ _ f ((Go.refl d).heap b g.cH i) ?_);split
 ·exact⟨_,rfl⟩
 ·exact⟨_,rfl⟩
theorem preSum_eq(l:List Int)(n:Nat)(h:n≤l.length):preSum (fun i=>l.getD i 0) n=(l.take n).sum:=by
 induction n with
 |zero=>simp[preSum]
 |succ n d=>
  have b:n<l.length:=h;rw[preSum,d (Nat.le_of_lt b),List.take_succ_eq_append_getElem b,List.sum_append];simp[List.getD_eq_getElem?_getD,b]
theorem ak.sum(a0:j.bt=some (h.map D.int)):ak c n (.builtin "sum") [j] (.int h.sum):=fun A f s U Q E r g u O K C=>by
 obtain⟨v,L,rfl,y,e⟩:=K;obtain rfl:L=[]:=e;refine bR (y.isList a0 g u) fun a d a1 k m G w J=>?_;subst k;have z:=w.arr;refine bM (call_sum_walkG (wpAny_pyIter_list G ⟨_,_,_,_,_,_,fun i=>h.getD i 0,rfl,Walks.list (by exact r.handled) s.heap.objs.size a (Nat.ne_of_lt (Heap.lt_size m)) d,⟨⟨_,Heap.get?_push_size _ rfl,rfl,rfl⟩,⟨_,Heap.get?_push_of_some _ m,rfl,a1,rfl⟩⟩,?_,?_,?_⟩))
 ·intro b q;refine(?_ :b<(s.heap.push _).objs.size);rw[Heap.size_push _ _];simp at q;refine ay q (fun k=>?_) fun x=>?_
  ·subst k;exact Nat.lt_succ_self _
  ·subst x;exact Nat.lt_succ_of_lt (Heap.lt_size m)
 ·intro i v H;have:d.toList[i]? =some v:=by simpa using H
  refine bV (ints_of w this) fun a2 t l B=>?_;refine⟨t,?_⟩;refine(?_ :v=Value.int (h.getD i 0) t);rw[B,List.getD_eq_getElem?_getD,l];rfl
 ·intro M T P F I;have e:preSum (fun i=>h.getD i 0) d.size=h.sum:=by
   have:d.size=h.length:=by rw[z];simp
   rw[this,preSum_eq h _ (Nat.le_refl _),List.take_length]
  rw[e];refine C _ _ f ((Go.refl u).heap (fun b o p=>F b o ?_ (Heap.get?_push_of_some _ p)) g.cH I) ⟨_,rfl⟩;simp;exact Nat.ne_of_lt (Heap.lt_size p)
theorem ak.startswith:ak c n (.builtin "str.startswith") [.str x,.str a9] (.bool (Txt.startswith x a9)):=fun A f s o Q E r g b k d h=>by
 obtain⟨v,p,rfl,⟨t,rfl⟩,m,j,rfl,⟨i,rfl⟩,e⟩:=d;obtain rfl:j=[]:=e;exact call_gives PySem.F.slot_str_startswith (typeIs_str _ _ _) PySem.F.entry_str_startswith (PySem.F.args_str_startswith_2 _ _) (gives_str_startswith x a9 t i) (h _ _ f (Go.refl b) rfl)
theorem ak.endswith:ak c n (.builtin "str.endswith") [.str x,.str a9] (.bool (Txt.endswith x a9)):=fun A f s o Q E r g b k d h=>by
 obtain⟨v,p,rfl,⟨t,rfl⟩,m,j,rfl,⟨i,rfl⟩,e⟩:=d;obtain rfl:j=[]:=e;exact call_gives PySem.F.slot_str_endswith (typeIs_str _ _ _) PySem.F.entry_str_endswith (PySem.F.args_str_endswith_2 _ _) (gives_str_endswith x a9 t i) (h _ _ f (Go.refl b) rfl)
theorem ak.find:ak c n (.builtin "str.find") [.str x,.str a9] (.int (Txt.find x a9)):=fun A f s o Q E r g b k d h=>by
 obtain⟨v,p,rfl,⟨t,rfl⟩,m,j,rfl,⟨i,rfl⟩,e⟩:=d;obtain rfl:j=[]:=e;exact call_gives PySem.F.slot_str_find (typeIs_str _ _ _) PySem.F.entry_str_find (PySem.F.args_str_find_2 _ _) (gives_str_find x a9 t i) (h _ _ f (Go.refl b).toks ⟨_,rfl⟩)
theorem ak.Bq(k:x.length≤1000000):ak c n (.builtin "len") [.str x] (.int x.length):=fun A f s m Q E r g b j d h=>by
 obtain⟨v,i,rfl,⟨t,rfl⟩,e⟩:=d;obtain rfl:i=[]:=e;exact call_len_gives (typeIs_str _ _ _) PySem.F.slot_str_len PySem.F.entry_str_len (PySem.F.args_str_len_1 _) (gives_str_len x t) (by(simp+arith)) (by lia) (h _ _ f (Go.refl b).toks ⟨_,rfl⟩)
theorem qb:∀(n:Nat)(l:List Str),Vals c f (l.map D.str) (strsFrom n l):=by
 intro n L
 induction L generalizing n with
 |nil=>
  exact rfl
 |cons x l h=>
  exact⟨_,_,rfl,⟨n,rfl⟩,h (n+1)⟩
noncomputable def eQ(x y:Str):List Str:=
 if(decide (x.length<y.length)||decide (Builtin.Str.strKind x<Builtin.Str.strKind y))=true then [x]else
 if(Builtin.Str.occurrences x y 0 x.length (x.length+1)).isEmpty=true then [x]else Builtin.Str.partsBetween x (Builtin.Str.occurrences x y 0 x.length (x.length+1)) y.length
theorem ak.split(p:(a9.length==0)=false)(y:x.length≤1000000)(m:(eQ x a9).length≤1000001):ak c n (.builtin "str.split") [.str x,.str a9] (.list ((eQ x a9).map D.str)):=fun A f s B Q E r g o a w i=>by
 obtain⟨v,C,rfl,⟨t,rfl⟩,l,z,rfl,⟨j,rfl⟩,e⟩:=w;obtain rfl:z=[]:=e;have q:∀(h:eQ x a9=[x]),wants Q E (.ok (.ret (.ref s.heap.objs.size))) {s with heap:=s.heap.push {cls:= .type "list",data:= .seq [Value.str x t].toArray}}:=fun h=>
  i _ _ _ ((Go.refl o).fD g rfl (by nofun)) ⟨_,_,0,rfl,FH.aR ..,by rw[h];exact⟨_,_,rfl,⟨t,rfl⟩,rfl⟩⟩
 by_cases b:(decide (x.length<a9.length)||decide (Builtin.Str.strKind x<Builtin.Str.strKind a9))=true
 ·exact call_meets PySem.F.slot_str_split (typeIs_str _ _ _) PySem.F.entry_str_split (PySem.F.args_str_split_2 _ _) (meets_str_split_cannot_occur x a9 t j b) (q (by unfold eQ;rw[if_pos b]))
 ·have k:=Bool.eq_false_iff.mpr b;by_cases d:(Builtin.Str.occurrences x a9 0 x.length (x.length+1)).isEmpty=true
  ·exact call_meets PySem.F.slot_str_split (typeIs_str _ _ _) PySem.F.entry_str_split (PySem.F.args_str_split_2 _ _) (meets_str_split_not_found x a9 t j k p d) (q (by unfold eQ;rw[if_neg b,if_pos d]))
  ·have u:=Bool.eq_false_iff.mpr d;have e:eQ x a9=Builtin.Str.partsBetween x (Builtin.Str.occurrences x a9 0 x.length (x.length+1)) a9.length:=by unfold eQ;rw[if_neg b,if_neg d]
   rw[e]at m i;refine call_meets PySem.F.slot_str_split (typeIs_str _ _ _) PySem.F.entry_str_split (PySem.F.args_str_split_2 _ _) (meets_str_split_sep x a9 t j k p u (Nat.le_trans y (by decide)) (Nat.le_trans m (by decide))) ?_;exact i _ _ _ (((Go.refl o).fD g rfl (by nofun)).toks (Nat.le_add_right _ _)) ⟨_,_,0,rfl,FH.aR ..,qb _ _⟩
noncomputable def splitM(x y:Str)(n:Int):List Str:=
 if(decide (x.length<y.length)||decide (Builtin.Str.strKind x<Builtin.Str.strKind y))=true then [x]else
 if(Builtin.Str.occurrences x y 0 x.length (limitOf x n)).isEmpty=true then [x]else Builtin.Str.partsBetween x (Builtin.Str.occurrences x y 0 x.length (limitOf x n)) y.length
theorem ak.splitMax(j:(decide (I< -(2 ^ 63:Int))||decide (I≥2 ^ 63))=false)(u:(a9.length==0)=false)(a:x.length≤1000000)(p:(splitM x a9 I).length≤1000001):ak c n (.builtin "str.split") [.str x,.str a9,.int I] (.list ((splitM x a9 I).map D.str)):=fun A f s G Q E r g q B z i=>by
 obtain⟨v,H,rfl,⟨t,rfl⟩,C,J,rfl,⟨k,rfl⟩,F,l,rfl,⟨m,rfl⟩,e⟩:=z;obtain rfl:l=[]:=e;have w:∀(h:splitM x a9 I=[x]),wants Q E (.ok (.ret (.ref s.heap.objs.size))) {s with heap:=s.heap.push {cls:= .type "list",data:= .seq [Value.str x t].toArray}}:=fun h=>
  i _ _ _ ((Go.refl q).fD g rfl (by nofun)) ⟨_,_,0,rfl,FH.aR ..,by rw[h];exact⟨_,_,rfl,⟨t,rfl⟩,rfl⟩⟩
 by_cases b:(decide (x.length<a9.length)||decide (Builtin.Str.strKind x<Builtin.Str.strKind a9))=true
 ·exact call_meets PySem.F.slot_str_split (typeIs_str _ _ _) PySem.F.entry_str_split (PySem.F.args_str_split_3 _ _ _) (meets_str_split_max_cannot_occur x a9 I t k m j b) (w (by unfold splitM;rw[if_pos b]))
 ·have o:=Bool.eq_false_iff.mpr b;by_cases d:(Builtin.Str.occurrences x a9 0 x.length (limitOf x I)).isEmpty=true
  ·exact call_meets PySem.F.slot_str_split (typeIs_str _ _ _) PySem.F.entry_str_split (PySem.F.args_str_split_3 _ _ _) (meets_str_split_max_not_found x a9 I t k m j o u d) (w (by unfold splitM;rw[if_neg b,if_pos d]))
  ·have y:=Bool.eq_false_iff.mpr d;have e:splitM x a9 I=Builtin.Str.partsBetween x (Builtin.Str.occurrences x a9 0 x.length (limitOf x I)) a9.length:=by unfold splitM;rw[if_neg b,if_neg d]
   rw[e]at p i;refine call_meets PySem.F.slot_str_split (typeIs_str _ _ _) PySem.F.entry_str_split (PySem.F.args_str_split_3 _ _ _) (meets_str_split_sep_max x a9 I t k m j o u y (Nat.le_trans a (by decide)) (Nat.le_trans p (by decide))) ?_;exact i _ _ _ (((Go.refl q).fD g rfl (by nofun)).toks (Nat.le_add_right _ _)) ⟨_,_,0,rfl,FH.aR ..,qb _ _⟩
theorem yh:∀{l:List Str}{b:List Value},Vals c f (l.map D.str) b→∃q:List (Str×Tok),q.map (·.1)=l∧b=strValues q:=by
 intro L
 induction L with
 |nil=>
  intro b h;exact⟨[],rfl,h⟩
 |cons x l j=>
  intro b h;obtain⟨v,k,rfl,⟨t,rfl⟩,d⟩:=h;refine au (j d) fun q e i=>?_;exact aF ((x,t)::q) (by simp[e]) (by rw[i];rfl)
theorem ak.join(m:j.bt=some (p.map D.str))(l:p.toArray.foldl (· +·.length+x.length) 0≤1000000)(i:(Builtin.Str.glued x p).length≤1000000):ak c n (.builtin "str.join") [.str x,j] (.str (Builtin.Str.glued x p)):=fun A f s I Q E r g h F y d=>by
 obtain⟨v,K,rfl,⟨t,rfl⟩,H,B,rfl,k,e⟩:=y;obtain rfl:B=[]:=e;refine bR (k.isList m g h) fun a L a1 b C o z J=>?_;subst b;refine au (yh z) fun q b w=>?_;subst b;have u:s.heap.IsList a (strValues q).toArray:=by rw[←w];simpa using o
 refine call_meets PySem.F.slot_str_join (typeIs_str _ _ _) PySem.F.entry_str_join (PySem.F.args_str_join_2 _ _) (meets_str_join_list x t a q ?_) ⟨u,?_⟩
 ·refine(?_ :decide (_>sizeLine)=false);exact decide_eq_false (Nat.not_lt.mpr (Nat.le_trans l (by decide)))
 ·rcases q with _|⟨a0,q⟩
  ·
   exact⟨Nat.le_trans i (by decide),d _ _ f (Go.refl h).toks ⟨_,rfl⟩⟩
  ·
   rcases q with _|⟨G,q⟩
   ·exact d _ _ f (Go.refl h) ⟨a0.2,rfl⟩
   ·exact⟨Nat.le_trans i (by decide),d _ _ f (Go.refl h).toks ⟨_,rfl⟩⟩
theorem ak.yi:ak c n (.builtin "isinstance") [.int I,.ty "int"] (.bool true):=fun A f s o Q E r g d m i b=>by
 obtain⟨v,p,rfl,⟨t,rfl⟩,j,k,rfl,h,e⟩:=i;obtain rfl:k=[]:=e;obtain rfl:j=_:=h;exact PySem.IsiPair.int_int (b _ _ f (Go.refl d) rfl)
theorem ak.yj:ak c n (.builtin "isinstance") [.int I,.ty "tuple"] (.bool false):=fun A f s o Q E r g d m i b=>by
 obtain⟨v,p,rfl,⟨t,rfl⟩,j,k,rfl,h,e⟩:=i;obtain rfl:k=[]:=e;obtain rfl:j=_:=h;exact PySem.IsiPair.int_tuple (b _ _ f (Go.refl d).toks rfl)
theorem ak.yk:ak c n (.builtin "isinstance") [.tup l,.ty "tuple"] (.bool true):=fun A f s u Q E r g h t k j=>by
 obtain⟨v,w,rfl,⟨a,o,a0,x,rfl,i,b,q,_⟩,m,p,rfl,d,e⟩:=k;obtain rfl:p=[]:=e;obtain rfl:m=_:=d;exact PySem.IsiPair.tuple_tuple (h _ _ i).2 b (j _ _ f (Go.refl h) rfl)
theorem yl(h:wpAny b9 A (eval o q) (fun k d=>wpAny b9 A (eval b0 q) (fun m i=>h7 [k,m] i) E d) E s)(r:starEach [o,b0] q=[(false,eval o q),(false,eval b0 q)]):wpAny b9 A (spliced (backTo O (starEach [o,b0] q))) h7 E s:=by
 rw[r];refine(?_ :wpAny _ A (do
  let v←eval o q
  let b←pure [v]
  return b++(←holding b (do
   let w←eval b0 q
   let j←pure [w]
   return j++(←holding j (pure []))))) h7 E s)
 refine wpAny_bind (wpAny_mono h (fun k d n=>wpAny_bind (wpAny_pure (wpAny_bind (wpAny_holding ?_)))) fun J J e=>e);refine wpAny_bind (wpAny_mono n (fun m i p=>?_) fun J J e=>e);exact wpAny_bind (wpAny_pure (wpAny_bind (wpAny_holding (wpAny_pure (wpAny_pure (wpAny_pure p))))))
theorem Ev.replace(t:Ev c n e r o (.str x))(B:(a9==k4)=false)(v:x.length+(x.length+1)*k4.length≤16777216)(w:∀h,attributeBase o (Str.ofString "replace") h (eval o h)=eval o h:=by intro J;rfl)(y:lB f0 [.Constant (.str a9) k O,.Constant (.str k4) z Y]:=by intro J;rfl)(g:(b1.endLine==f0.line)=true:=by rfl):
  Ev c n e r (.Call (.Attribute o (Str.ofString "replace") b1) [.Constant (.str a9) k O,.Constant (.str k4) z Y] [] f0) (.str (Txt.replace x a9 k4)):=fun A h f s Q E F C j u=>by
 refine wpAny_Call_method_lateS (w h) (y h) g (t A h f s _ E F C j fun M b q d p=>?_);refine ah p fun L m=>?_;subst m;refine nK ("str") ("str.replace") PySem.F.plainAttrs_str PySem.F.slot_str_replace PySem.F.type_str_replace (typeIs_str _ _ _) (fun a G=>(by contradiction)) ?_;refine ef (.builtin _) (eN rfl) (yl ?_ rfl);have i:=j.go d;refine wpAny_Constant_str (wpAny_Constant_str ⟨i.gl.K,?_⟩);have H:0<b.toks:=i.tk;refine bM (SC.replace (by refine(?_ :b.toks≠0);(exact Nat.ne_of_gt ‹_›)) (by refine(?_ :b.toks+1≠0);(simp+arith)) (by refine(?_ :b.toks≠b.toks+1);(simp+arith)) B v fun K I l=>?_);exact u _ _ q (d.toks (Nat.le_trans (Nat.le_add_right _ 2) l)) ⟨_,rfl⟩
theorem ak.index(G:j.bt=some l)(t:Lay a5)(o:PyData.canLayAll0 (bB l)=true)(Z:PyData.depthAll (bB l)≤60)(N:l.length≤1000000)(i:((bB l)[k]?.map fun y=>PyData.eqv y a5.py)=some true)(I:∀m,m<k→((bB l)[m]?.map fun y=>PyData.eqv y a5.py)=some false):ak c n (.builtin "list.index") [j,a5] (.int k):=fun A f s S Q E r g d W M F=>by
 obtain⟨v,R,rfl,B,T,U,rfl,C,e⟩:=M;obtain rfl:U=[]:=e;refine bR (B.isList G g d) fun a b a0 z q J O J=>?_;subst z;refine ah (Vals.reads g d O o) fun X x=>?_;refine ah (C.reads g d t.1) fun Y P=>?_;have L:A.units+1+Min.min (PyData.depthAll (bB l)) a5.py.depth<cLine:=by
  have:=r.units;have h:Min.min (PyData.depthAll (bB l)) a5.py.depth≤PyData.depthAll (bB l):=Nat.min_le_left _ _;refine(?_ :_<9900);lia
 have w:=PySem.SeqAt.readsAll_map (bB l) _ _ o x;have K:b.size=(bB l).length:=by
  have:=congrArg List.length w;simpa using this
 have p:∀m(h:m<b.size),(bB l)[m]? =some (PySem.SeqAt.readOf s.heap b[m]):=fun m h=>by
  rw[←w,List.getElem?_map];simp[h]
 have u:k<b.size:=by
  rw[K];rcases e:(bB l)[k]? with _|y
  ·rw[e]at i;contradiction
  ·exact(List.getElem?_eq_some_iff.mp e).1
 refine call_meets PySem.F.slot_list_index ⟨_,q,rfl⟩ PySem.F.entry_list_index (PySem.F.args_list_index_2 _ _)
  (PySem.SeqAt.list_indexAt a b a0 none #[] T (fun y=>PyData.eqv (PySem.SeqAt.readOf s.heap y) a5.py) k u (by
   have:(bB l).length=l.length:=by rw[mS _];simp
   omega) ?_ (fun m h H=>?_)) ⟨q,PySem.SeqAt.items_eqAt x P o t.1 L,?_⟩
 ·rw[p k u]at i;simpa using i
 ·have:=I m H;rw[p m h]at this;simpa using this
 ·exact F _ _ f (Go.refl d).toks ⟨_,rfl⟩
theorem ak.count(w:j.bt=some l)(i:Lay a5)(b:PyData.canLayAll0 (bB l)=true)(L:PyData.depthAll (bB l)≤60):ak c n (.builtin "list.count") [j,a5] (.int ((bB l).countP fun y=>PyData.eqv y a5.py:Nat)):=fun A f s P Q E r g h O z u=>by
 obtain⟨v,T,rfl,p,G,H,rfl,q,e⟩:=z;obtain rfl:H=[]:=e;refine bR (p.isList w g h) fun a m a0 o d J B J=>?_;subst o;refine ah (Vals.reads g h B b) fun I k=>?_;refine ah (q.reads g h i.1) fun K F=>?_;have x:A.units+1+Min.min (PyData.depthAll (bB l)) a5.py.depth<cLine:=by
  have:=r.units;have M:Min.min (PyData.depthAll (bB l)) a5.py.depth≤PyData.depthAll (bB l):=Nat.min_le_left _ _;refine(?_ :_<9900);lia
 have C:=PySem.SeqAt.readsAll_map (bB l) _ _ b k;have t:m.toList.countP (fun y=>PyData.eqv (PySem.SeqAt.readOf s.heap y) a5.py)=(bB l).countP fun y=>PyData.eqv y a5.py:=by
  rw[←C,List.countP_map];rfl
 refine call_meets PySem.F.slot_list_count ⟨_,d,rfl⟩ PySem.F.entry_list_count (PySem.F.args_list_count_2 _ _)
  (PySem.SeqAt.list_countAt a m a0 none #[] G (fun y=>PyData.eqv (PySem.SeqAt.readOf s.heap y) a5.py)) ⟨d,PySem.SeqAt.items_eqAt k F b i.1 x,?_⟩
 rw[t];exact u _ _ f (Go.refl h).toks ⟨_,rfl⟩
theorem vD(b:Nat):Builtin.Slice.slicePlaces 0 (b:Int) 1=b:=by
 unfold Builtin.Slice.slicePlaces;have h:(1:Int)>0:=by(exact Int.natCast_nonneg _)
 simp only[h,if_true,Int.ediv_one];split<;>lia
theorem vE(b n:Nat)(e:b≤n):Builtin.Slice.sliceAdjust none (some (b:Int)) 1 (n:Int)=(0,(b:Int)):=by
 unfold Builtin.Slice.sliceAdjust;have h:¬((1:Int)<0):=by decide
 have d:¬((b:Int)<0):=by(simp+arith)
 simp only[h,d,if_false];congr 1;lia
theorem z3(h:Array Value)(b:Nat)(i:b≤h.size):((List.range b).filterMap fun(k:Nat)=>h[((0:Int)+(k:Int)*1).toNat]?).toArray=(h.toList.take b).toArray:=by
 have e:(fun(k:Nat)=>h[((0:Int)+(k:Int)*1).toNat]?)=fun k=>h[0+k]? :=by
  funext k;have:((0:Int)+(k:Int)*1).toNat=0+k:=by(exact Nat.add_comm _ _)
  rw[this]
 rw[e];have:=pick_run h 0 b;rw[List.filterMap_map]at this;have d:((fun x=>h[x]?)∘fun x=>0+x)=fun k=>h[0+k]? :=rfl;rw[d]at this;rw[this];simp
theorem nZ{Q:Int×Int×Nat→Shared→Prop}(m:s.heap.IsSliceOf v .none (.int n d6) .none)(i:n≤k)(h:Q (0,1,n) s):
  wpAny (model a7 b4) A (Builtin.Slice.sliceApplied (.ref v) (pure (k:Int))) Q E s:=by
 refine bA (id m) fun os d o b=>?_;unfold Builtin.Slice.sliceApplied Builtin.Slice.sliceFields;refine wpAny_bind (wpAny_bind (wpAny_field d b (x:= .none) rfl (wpAny_bind (wpAny_field d b (x:= .int n d6) rfl (wpAny_bind (wpAny_field d b (x:= .none) rfl (wpAny_pure ?_)))))));refine wpAny_bind (slicePart_none ?_);refine(?_ :wpAny _ _ (if((1:Int)==0)=true then _ else _) _ _ s);rw[if_neg (by decide)];refine wpAny_bind (slicePart_none (wpAny_bind (slicePart_int (wpAny_bind (wpAny_pure ?_)))));refine(?_ :wpAny _ _ (match Builtin.Slice.sliceAdjust none (some (n:Int)) 1 (k:Int)with|(e,j)=>pure (e,(1:Int),Builtin.Slice.slicePlaces e j 1)) _ _ s);rw[vE n k i];refine(?_ :wpAny _ _ (pure ((0:Int),(1:Int),Builtin.Slice.slicePlaces 0 (n:Int) 1)) _ _ s);rw[vD n];exact wpAny_pure h
theorem mT(b:IsTup s.heap v d0)(e:s.heap.IsSliceOf b7 .none (.int n d6) .none)(d:n<d0.size)(h:V (.ref s.heap.objs.size) {s with heap:=s.heap.push {cls:= .type "tuple",data:= .seq (d0.toList.take n).toArray}})(r:d0.size≤sizeLine):wpAny (model a7 b4) A (getItem (.ref v) (.ref b7)) V E s:=by
 have i:sizeOk (.seq (d0.toList.take n).toArray):=by
  refine(?_ :(d0.toList.take n).toArray.size≤sizeLine);rw[List.size_toArray,List.length_take,Array.length_toList];lia
 refine bA (id e) fun os p k q=>?_;have j:s.TypeIs (.ref b7) "slice" :=⟨os,p,k⟩;unfold getItem;refine wpAny_holding ?_;refine wpAny_bind (wpAny_sequenceKey b.typeIs (by decide) ?_);refine wpAny_bind (wpAny_callSpecial?_slot (name:=Str.ofString "__getitem__") b.typeIs slot_tuple_getitem
  (wpAny_call_entry slot_tuple_getitem b.typeIs entry_tuple_getitem ?_ (args_tuple_getitem _ _)))
 refine(?_ :wpAny _ _ (Builtin.Tuple.tupleItemsOf (.ref v)>>=_) _ _ s);refine wpAny_bind (tupleItemsOf_ b ?_);refine wpAny_bind (wpAny_typeOf j ?_);rw[if_pos (by decide)];refine wpAny_bind (nZ e (Nat.le_of_lt d) ?_);have o:¬(((0:Int)==0&&(1:Int)==1&&n==d0.size)=true):=by
  have:(n==d0.size)=false:=by rw[beq_eq_false_iff_ne];(exact Nat.ne_of_lt ‹_›)
  rw[this];simp
 refine(?_ :wpAny _ _ (if((0:Int)==0&&(1:Int)==1&&n==d0.size)=true then _ else _) _ _ s);rw[if_neg o,z3 d0 n (Nat.le_of_lt d)]
 first
  |exact wpAny_bind (m:=Builtin.Tuple.tupleExact _) (wpAny_newObj_type (wpAny_pure ⟨_,rfl,wpAny_pure h⟩) i)
  |exact wpAny_bind (wpAny_bind (m:=Builtin.Tuple.tupleExact _) (wpAny_newObj_type (wpAny_pure ⟨_,rfl,wpAny_pure h⟩) i))
theorem gY.vF(y:n<l.length)(p:l.length≤1000000):nL c getItem (.tup l) (.pv none (some (n:Int)) none) (.tup (l.take n)):=fun A f s B C Q E r g h e j m=>by
 refine dp (e.isTup h) fun a G d o b=>?_;subst d;obtain⟨q,F,I,H,rfl,k,v,w,x⟩:=j;cases v;cases x;cases w with
 |int i t=>
 have z:=b.arr;refine mT (d6:=t) o ⟨_,(h _ _ k).2,rfl,rfl⟩ (by lia) ?_ (by rw[z];exact Nat.le_trans p (by decide));exact m _ _ _ ((Go.refl h).fD g rfl (by nofun)) ⟨_,_,0,_,rfl,FH.aR ..,rfl,rfl,(b.take n).mono (Go.refl h).fT⟩
theorem gY.mU(m:1≤n)(a:n≤l.length)(v:l.length≤1000000):nL c getItem (.tup l) (.pv (some (n:Int)) none none) (.tup (l.drop n)):=fun A f s C F Q E r g h e j o=>by
 refine dp (e.isTup h) fun B H d p b=>?_;subst d;obtain⟨q,G,J,I,rfl,k,w,x,y⟩:=j;cases x;cases y;cases w with
 |int i t=>
 have z:=b.arr;refine getItem_tuple_from (u:=t) p ⟨_,(h _ _ k).2,rfl,rfl⟩ m (by lia) ?_ (by rw[z];exact Nat.le_trans v (by decide));exact o _ _ _ ((Go.refl h).fD g rfl (by nofun)) ⟨_,_,0,_,rfl,FH.aR ..,rfl,rfl,(b.drop n).mono (Go.refl h).fT⟩
theorem az.vF(h:n<l.length)(b:l.length≤1000000):az c (.tup l) (.pv none (some (n:Int)) none) (.tup (l.take n)):= .of nM slot_tuple_getitem.lookup (gY.vF h b)
theorem az.mU(h:1≤n)(b:n≤l.length)(d:l.length≤1000000):az c (.tup l) (.pv (some (n:Int)) none none) (.tup (l.drop n)):= .of nM slot_tuple_getitem.lookup (gY.mU h b d)
theorem ym(h:Vals c f l d0.toList):∀(n:Nat){b:List D}{d:Array Value},Vals c f b d.toList→Vals c f (b++(List.replicate n l).flatten) ((List.replicate n d0).foldl (fun x y=>x++y) d).toList:=by
 intro L
 induction L with
 |zero=>
  intro b d e;simpa using e
 |succ n i=>
  intro b d e;rw[List.replicate_succ,List.replicate_succ,List.flatten_cons,List.foldl_cons,←List.append_assoc _ _ _];exact i (by rw[Array.toList_append];exact e.append h)
set_option maxRecDepth 100000 in
theorem aJ.mulL(v:j.bt=some l)(y:l≠ [])(I:l.length*n≤1000000)(M:n≤1000000):aJ c .Mult j (.int n) (.list (List.replicate n l).flatten):=fun A f s O P Q E r g k p q u=>by
 refine bR (p.isList v g k) fun a h m i b J o J=>?_;subst i;refine ah q fun t i=>?_;subst i;have z:=o.arr;have w:h.isEmpty=false:=by
  rw[Bool.eq_false_iff];intro e;have:h.size=0:=by simpa using e
  rw[z]at this;exact y (List.length_eq_zero_iff.mp this)
 have K:h.size*n≤1000000:=by rw[z];exact I
 have d:((n:Int)).toNat=n:=by simp
 have G:((n:Int))≤1000000:=by lia
 have H:(0:Int)≤(n:Int):=by(simp+arith)
 generalize (n:Int)=x at d G H;have B:¬(!Builtin.List.listFitsIndex x)=true:=by
  unfold Builtin.List.listFitsIndex;simp;lia
 have C:¬h.size*x.toNat>(2 ^ 63-1) / 8:=by rw[d];omega
 have F:¬Builtin.List.listTooLong (h.size*x.toNat)=true:=by
  rw[d];refine(?_ :¬decide (_>sizeLine)=true);rw[decide_eq_true_iff];exact Nat.not_lt.mpr (Nat.le_trans K (by decide))
 refine wpAny_binaryOp_repeat_ref (T:="list") (U:="int") (by decide) ⟨_,b,rfl⟩ (fun L=>typeIs_int L x t) noFill_list_mul PySem.F.fills_int_mul PySem.F.slot_int_rmul repeat_list PySem.F.slot_int_index.lookup
  (call_meets PySem.F.slot_int_rmul (typeIs_int s x t) PySem.F.entry_int_rmul (PySem.F.args_int_rmul_2 _ _) (int___rmul___int_list x t a h m)
   ⟨b,rfl,⟨_,b,rfl⟩,call_meets PySem.F.slot_list_mul ⟨_,b,rfl⟩ PySem.F.entry_list_mul (PySem.F.args_list_mul_2 _ _)
    (PySem.AutoListH.list___mul___list_int_3 a h m x t B C F) ⟨b,?_⟩⟩)
 rw[d];rw[w];simp only[Bool.false_eq_true,if_false];exact u _ _ _ ((Go.refl k).fD g rfl (by nofun)) ⟨_,_,0,rfl,FH.aR ..,by
  have:=ym (c:=c) o n (b:=[]) (d:=#[]) rfl;simpa using this.mono (Go.refl k).fT⟩
inductive yn(c:Cx)(k:Nat)(sc:Scope)(ρ:bD):List (Expr×Expr)→List (Str×D)→Prop
 |nil:yn c k sc ρ [] []
 |cons {ek ev:Expr} {es:List (Expr×Expr)} {x:Str} {d:D} {l:List (Str×D)}:Ev c k sc ρ ek (.str x)→Ev c k sc ρ ev d→yn c k sc ρ es l→yn c k sc ρ ((ek,ev)::es) ((x,d)::l)
noncomputable def kW(env:Env)(pos:Pos)(es:List (Expr×Expr)):List (Sem Value×Sem Value):=es.map fun p=>(eval p.1 env,do let x←eval p.2 env;standAt pos;pure x)
theorem yn.walk(h:yn c n e r i6 u):∀{A:Around}{b:Env}{f:FH}{s:Shared}{j:Pos}{Q:List (Value×Value)→Shared→Prop}{E:Value→Shared→Prop},bJ n A→bE b e→St c f r b s→
  (∀p a q i,Go c f s q a→Carries (PySem.strKind c.prog c.w) p i→bo c q u i→Q p a)→wpAny (model c.prog c.w) A (evalPairs (kW b j i6)) Q E s:=by
 induction h with
 |nil=>intro A b f s j Q E a0 o y m;exact evalPairs_nil (m [] s f [] y.refl trivial rfl)
 | @cons C F i6 x d u I J _ M=>
  intro A b f s j Q E a0 o y m;refine(?_ :wpAny _ A (evalPairs ((eval C b,do let x←eval F b;standAt j;pure x)::kW b j i6)) Q E s);refine evalPairs_cons (I A b f s _ E a0 o y fun U O G k l=>?_);refine wpAny_bind (J A b G O _ E a0 o (y.go k) fun v X T w B=>wpAny_bind (wpAny_standAt (wpAny_pure ?_)));refine M a0 o (y.go (k.trans w)) fun p P H i z K L=>?_;refine ah l fun t g=>?_;subst g;exact m _ P H ((x,v)::i) ((k.trans w).trans z) ⟨beq_self_eq_true _,rfl,K⟩ ⟨v,i,rfl,B.mono z.ext,L⟩
noncomputable def pF(h l:List (Str×D)):List (Str×D):=l.foldl (fun a p=>dD a p.1 p.2) h
theorem bo.merged:∀{l:List (Str×D)}{e:List (Str×Value)}{b:List (Str×D)}{d:List (Str×Value)},bo c f l e→bo c f b d→bo c f (pF b l) (PySem.merged d e):=by
 intro L
 induction L with
 |nil=>intro e b d h i;obtain rfl:e=[]:=h;exact i
 |cons p l m=>
  intro e b d h i;obtain⟨v,n,rfl,j,k⟩:=h;exact m (b:=dD b p.1 p.2) (d:=PySem.stored d p.1 v) k (i.stored j)
theorem yo(h:Env)(d:Pos):∀(b:List (Expr×Expr)),(evalEachOpt (b.map fun p=>some p.1) h).zip ((evalEach (b.map (·.2)) h).map fun v=>do let x←v;standAt d;pure x)=(kW h d b).map fun p=>(some p.1,p.2):=by
 intro L
 induction L with
 |nil=>
  exact rfl
 |cons k b e=>
  obtain⟨i,j⟩:=k;have e:=e;refine(?_ :(some (eval i h)::evalEachOpt (b.map fun p=>some p.1) h).zip ((do let x←eval j h;standAt d;pure x)::((evalEach (b.map (·.2)) h).map fun v=>do let x←v;standAt d;pure x))=_);rw[List.zip_cons_cons,e];rfl
theorem Ev.dict{a:List (Option Expr)}(h:yn c n e r i6 u)(j:a=i6.map fun p=>some p.1)(k:B=i6.map (·.2))(R:i6≠ [])(W:i6.length≤15:=by decide):
  Ev c n e r (.Dict a B O) (.dict (pF [] u)):=fun A b f s Q E a6 o y P=>by
 subst j k;have V:kW b O i6≠ []:=by cases i6 with
  |nil=>exact absurd rfl R
  |cons=>exact fun a0=>(nomatch a0)
 refine wpAny_Dict_pairs (knd:=PySem.strKind c.prog c.w) (pairs:=kW b O i6) (yo b O i6) V (by unfold kW;rw[List.length_map _];exact W) ?_;have v:Go c f s f {s with heap:=s.heap.push {cls:= .type "dict",data:= .dict #[]}}:=y.refl.push y.gl;refine h.walk a6 o (y.go v) fun vs g t a4 d T k=>?_;have K:=v.trans d;have w:s.heap.objs.size≠c.P:=Nat.ne_of_gt y.gl.xN;have a1:(s.heap.push {cls:= .type "dict",data:= .dict #[]}).DictOf (PySem.strKind c.prog c.w) s.heap.objs.size []:=Heap.DictOf.new s.heap;refine pL a1 fun ob I G q Y U j hp N=>?_;have C:=d.keep _ _ w q;refine fS a4 T (⟨ob,I,G,C,Y,U,j,hp,N⟩) (fun M l hs=>?_);have i:t s.heap.objs.size=none:=by
  rw[d.old _ (by rw[q];simp)];exact y.refl.cj (Nat.le_refl _)
 have z:s.heap.get? s.heap.objs.size=none:=Heap.get?_none_of_le (Nat.le_refl _);have m:Go c f s t {g with heap:=M,toks:=g.toks+vs.length}:=K.turn z i w hs (Nat.le_add_right _ _);have L:=m.gl y.gl;refine pL l fun a5 J H F x X Z a2 S=>?_;have a3:(s.heap.objs.size==sysModules)=false:=by
  have:3<s.heap.objs.size:=y.gl.g.lt;exact beq_eq_false_iff_ne.mpr (show s.heap.objs.size≠1 from Nat.ne_of_gt (by lia))
 exact P _ _ _ (m.freeze L z i F (by rw[x.1];nofun)) ⟨_,a5,J,H,_,rfl,FH.aR ..,x,X,Z,a2,S,(bo.merged k (b:=[]) (d:=[]) rfl).mono (FH.fm i),a3⟩
theorem Ev.nU:Ev c n e r (.Dict [] [] O) (.dict []):=fun A i f s Q E a0 o y h=>
 wpAny_Dict_empty (by
  have d:(s.heap.objs.size==sysModules)=false:=by
   have:3<s.heap.objs.size:=y.gl.g.lt;exact beq_eq_false_iff_ne.mpr (show s.heap.objs.size≠1 from Nat.ne_of_gt (by lia))
  exact h _ _ _ (y.refl.fD y.gl rfl (by nofun)) ⟨_,_,#[],0,[],rfl,FH.aR ..,⟨rfl,rfl,rfl⟩,rfl,fun J b=>by simp at b,Pairs.nil,List.nodup_nil,rfl,d⟩)
section
open Builtin Builtin.Str
noncomputable abbrev mV(B:Nat→List Value×Writer×List Nat→Sem (ForInStep (List Value×Writer×List Nat)))(X:Sem (ForInStep (List Value×Writer×List Nat)))(p:List Value)(r:List Nat)(h:List Value)(b:List Nat)(y:PySem.Str)(o:Option Value):Prop:=
 ∀i w,ite (tooLong w.total=true) X (pure (.yield (h,w.add y o,b)))=B i (p,w,r)
variable{a4:Nat→List Value×Writer×List Nat→Sem (ForInStep (List Value×Writer×List Nat))}{g2:List Value×Writer×List Nat→Shared→Prop}{l6:Writer}
theorem tK{X:Sem (ForInStep (List Value×Writer×List Nat))}{b:PySem.Str}(e:mV a4 X Z i l0 b6 l1 i8)(m:KPc.Obj i8 l1)(j:l1=b)(p:b.length≤1000000)(g:KPc.Good l6 h8 (k*1000000))(o:k<10:=by decide)(h:∀d,KPc.Good d (h8++b) ((k+1)*1000000)→wpAny b9 A (forIn (List.range' (n+1) z) (l0,d,b6) a4) g2 E s):wpAny b9 A (forIn (List.range' n (z+1)) (Z,l6,i) a4) g2 E s:=by
 subst j;refine KPc.turn ?_;rw[←e _ _,if_neg (KPc.short_good g (by lia))];exact wpAny_pure (h _ (KPc.good_mono (KPc.good_add g m) (by lia)))
theorem CM{X:Sem (ForInStep (List Value×Writer×List Nat))}(e:∀n l6,ite (tooLong l6.total=true) X (pure (.done (Z,l6,i)))=a4 n (Z,l6,i))(g:KPc.Good l6 h8 (k*1000000))(b:k<10:=by decide)(h:∀l6,KPc.Good l6 h8 (k*1000000)→g2 (Z,l6,i) s):wpAny b9 A (forIn (List.range' n (z+1)) (Z,l6,i) a4) g2 E s:=by
 refine KPc.turn ?_;rw[←e _ _,if_neg (KPc.short_good g (by lia))];exact wpAny_pure (h l6 g)
theorem vG{K:List Value×Writer×List Nat→Sem Fin}{X:Sem (ForInStep (List Value×Writer×List Nat))}(t:h8.length≤1000000)(b:mV a4 X [C] [123,37,115,125] [C] [37,115,125] ⟨#[123]⟩ none)(d:mV a4 X [C] [37,115,125] [] [125] ⟨h8.cps.toList.toArray⟩ none)(e:mV a4 X [] [125] [] [] ⟨#[125]⟩ none)(j:∀i w,ite (tooLong w.total=true) X (pure (.done ([],w,[])))=a4 i ([],w,[]))(m:∀w,w.finish "str.__mod__" =K ([],w,[]))(h:∀u k,e5 (.done (.ret (.str ((PySem.Str.ofString "{" ++h8)++PySem.Str.ofString "}") u))) {s with toks:=k}):
  wpAny b9 A (forIn [:4] ([C],{},[123,37,115,125]) a4>>=K) e5 E s:=by
 refine wpAny_bind (rwE (KPc.range_list _ _ _)<|tK b (KPc.obj_none rfl) (by decide+kernel:_=PySem.Str.ofString "{") (by decide+kernel) KPc.good0 (k:=0) (h:=fun v o=>tK d (KPc.obj_none rfl) (b:=h8) (by rfl) t o (h:=fun x p=>tK e (KPc.obj_none rfl) (by decide+kernel:_=PySem.Str.ofString "}") (by decide+kernel) p (h:=fun y q=>CM j q (h:=fun z r=>?_)))));rw[←m _];exact KPc.finish_ok r (by decide) (by rw[KPc.empty_app _]) h
theorem aJ.vH(n:x.length≤1000000):aJ c .Mod (.str (PySem.Str.ofString "{%s}")) (.str x) (.str ((PySem.Str.ofString "{" ++x)++PySem.Str.ofString "}")):=fun A f s q v Q E r g h e i j=>by
 refine ah e fun t d=>?_;subst d;refine ah i fun u d=>?_;subst d;refine bM (KPc.mod_str (T:=fun z=>(PySem.Str.ofString "{" ++z)++PySem.Str.ofString "}") (X':=(⟨#[123,37,115,125]⟩:Str)) (by decide+kernel) n (fun z o=>KPc.meets_of fun J J A s Q E h=>?_) fun p k m=>j _ _ f (h.tok m) ⟨_,rfl⟩);refine rwE (KPc.entry_is_s _ _ _ _) ?_;refine wpAny_bind (wpAny_isInstance (typeIs_str _ _ _) F.sub_str_tuple (wpAny_bind (wpAny_of_eq (a:=some _) rfl (wpAny_bind (KPc.wp_fills_str fun b=>?_)))));exact vG o (fun J J=>rfl) (fun J J=>rfl) (fun J J=>rfl) (fun J J=>rfl) (fun J=>rfl) h
theorem yp{W:World}{K:List Value×Writer×List Nat→Sem Fin}{X:Sem (ForInStep (List Value×Writer×List Nat))}{G:Value→Sem (List Nat×Option Value×Bool)}{H:Writer→List Nat×Option Value×Bool→Sem (ForInStep (List Value×Writer×List Nat))}(L:h8.length≤1000000)(M:l1.length≤1000000)(J:0≤I)(F:I<10 ^ 10)(j:mV a4 X [C,g6,l5] [37,115,58,37,100,40,37,115,41] [g6,l5] [58,37,100,40,37,115,41] ⟨h8.cps.toList.toArray⟩ none)(m:mV a4 X [g6,l5] [58,37,100,40,37,115,41] [g6,l5] [37,100,40,37,115,41] ⟨#[58]⟩ none)(n:∀i w,ite (tooLong w.total=true) X (Sem.bind (Sem.bind (mkInt (I.natAbs:Nat)) fun z=>Sem.bind (call (.builtin "int.__repr__") [z]) G) (H w))=a4 i ([g6,l5],w,[37,100,40,37,115,41]))(o:∀d t,pure (percentInt {type:=100} (decide (I<0)) d.cps.toList,none,true)=G (.str d t))(p:∀w a,pure (.yield ([l5],w.add ⟨a.toArray⟩ none,[40,37,115,41]))=H w (a,none,true))(q:mV a4 X [l5] [40,37,115,41] [l5] [37,115,41] ⟨#[40]⟩ none)(r:mV a4 X [l5] [37,115,41] [] [41] ⟨l1.cps.toList.toArray⟩ none)(u:mV a4 X [] [41] [] [] ⟨#[41]⟩ none)(v:∀i w,ite (tooLong w.total=true) X (pure (.done ([],w,[])))=a4 i ([],w,[]))(x:∀w,w.finish "str.__mod__" =K ([],w,[]))(h:∀O k,e5 (.done (.ret (.str (h8++PySem.Str.ofString ":" ++PySem.Str.ofString (toString I)++PySem.Str.ofString "(" ++l1++PySem.Str.ofString ")") O))) {s with toks:=k}):
  wpAny (model a7 W) A (forIn [:9] ([C,g6,l5],{},[37,115,58,37,100,40,37,115,41]) a4>>=K) e5 E s:=by
 have e:I.natAbs.log2<1920:=shown (N:=2 ^ 1920) (by lia) (by lia) (Int.le_refl _);refine wpAny_bind (rwE (KPc.range_list _ _ _)<|tK j (KPc.obj_none rfl) (b:=h8) (by rfl) L KPc.good0 (k:=0) (h:=fun P y=>tK m (KPc.obj_none rfl) (by decide+kernel:_=PySem.Str.ofString ":") (by decide+kernel) y (h:=fun Q b=>KPc.turn ?_)));rw[←n _ _,if_neg (KPc.short_good b (by decide))];refine wpAny_bind (wpAny_bind (wpAny_mkInt (wpAny_bind (call_gives PySem.F.slot_int_repr (typeIs_int _ _ _) PySem.F.entry_int_repr (PySem.F.args_int_repr_1 _) (gives_int_repr _ _ (KPt.hd2 e)) ⟨int_text_fits (KPt.hd2 e),wpAny_of_eq (o _ _).symm (wpAny_of_eq (p _ _).symm ?_)⟩))));exact KPc.after_int b rfl (.inl rfl) rfl J F rfl rfl fun T c=>tK q (KPc.obj_none rfl) (by decide+kernel:_=PySem.Str.ofString "(") (by decide+kernel) (KPc.good_mono c (by decide)) (k:=3) (h:=fun U f=>tK r (KPc.obj_none rfl) (b:=l1) (by rfl) M f (h:=fun Y g=>tK u (KPc.obj_none rfl) (by decide+kernel:_=PySem.Str.ofString ")") (by decide+kernel) g (h:=fun Z l=>CM v l (h:=fun D B=>rwF (x _) (KPc.finish_ok B (by decide) (by rw[KPc.empty_app _]) h)))))
theorem sd{r t:Tok}(n:x.length≤1000000)(p:a9.length≤1000000)(j:0≤I)(i:I<10 ^ 10):
  Meets (Builtin.«str.__mod__» ⟨[.str (⟨#[37,115,58,37,100,40,37,115,41]⟩:Str) d6,.ref v],[]⟩) (fun J R s=>IsTup s.heap v #[.str x j0,.int I r,.str a9 t]∧
   ∀q k,R (.ok (.ret (.str (x++PySem.Str.ofString ":" ++PySem.Str.ofString (toString I)++PySem.Str.ofString "(" ++a9++PySem.Str.ofString ")") q))) {s with toks:=k}):=by
 refine KPt.meets_tup fun J J A s Q E⟨o,b,d,m,e⟩ h=>rwE (KPt.entry_is_r _ _ _) ?_;refine wpAny_bind (wpAny_isInstance (T:="tuple") ⟨o,b,d⟩ KPt.sub_tt (wpAny_bind (KPt.asStr_ref b e (wpAny_bind (KPt.fills_ref ⟨o,b,d⟩ fun v=>wpAny_bind (wpAny_seqItems b e ?_))))));exact yp n p j i (fun J J=>rfl) (fun J J=>rfl) (fun J J=>rfl) (fun J J=>rfl) (fun J J=>rfl) (fun J J=>rfl) (fun J J=>rfl) (fun J J=>rfl) (fun J J=>rfl) (fun J=>rfl) h
theorem aJ.yq(J:x.length≤1000000)(K:a9.length≤1000000)(F:0≤I)(C:I<10 ^ 10):
  aJ c .Mod (.str (PySem.Str.ofString "%s:%d(%s)")) (.tup [.str x,.int I,.str a9]) (.str (x++PySem.Str.ofString ":" ++PySem.Str.ofString (toString I)++PySem.Str.ofString "(" ++a9++PySem.Str.ofString ")")):=fun A f s N S Q E r g h u v z=>by
 refine ah u fun t q=>?_;subst q;obtain⟨b,o,m,X,rfl,d,i,l,H⟩:=v;obtain⟨_,Y,L,⟨j,rfl⟩,_,Z,M,⟨n,rfl⟩,_,W,O,⟨p,rfl⟩,P⟩:=H;have y:X=#[.str x j,.int I n,.str a9 p]:=by
  apply Array.ext';rw[L,M,O,P]
 subst y;have G:IsTup s.heap b #[.str x j,.int I n,.str a9 p]:=⟨o,(h b o d).2,i,m,l⟩;have a:s.TypeIs (.ref b) "tuple" :=⟨o,(h b o d).2,i⟩;have w:PySem.Str.ofString "%s:%d(%s)" =(⟨#[37,115,58,37,100,40,37,115,41]⟩:Str):=by decide+kernel
 rw[w];refine bM ?_;exact KPt.bin_left (T:="str") (U:="tuple") (op:= .Mod) (by decide) (typeIs_str s _ t) a PySem.F.fills_str_mod KPt.fills_tuple PySem.F.slot_str_mod
  (call_meets PySem.F.slot_str_mod (typeIs_str s _ t) PySem.F.entry_str_mod (PySem.F.args_str_mod_2 _ _) (sd J K F C) ⟨G,fun D k=>⟨(fun e=>nomatch e),fun B=>z _ _ f (h.tok B) ⟨_,rfl⟩⟩⟩)
end
section
open Sre (M)
variable{g9:M}
theorem fU(h:g9.outcome.isSome=true):g9.runFor n=g9:=by
 rcases n with _|n
 ·rfl
 ·exact if_pos h
theorem step_done(h:g9.outcome.isSome=true):g9.step=g9:=if_pos h
theorem jG:g9.runFor (n+1)=g9.step.runFor n:=by
 by_cases h:g9.outcome.isSome=true
 ·rw[fU h,step_done h,fU h]
 ·exact if_neg h
theorem iX:∀{m:M},m.runFor (n+k)=(m.runFor n).runFor k:=by
 induction n with
 |zero=>intro m;rw[Nat.zero_add _];rfl
 |succ n h=>intro m;rw[Nat.succ_add _ _,jG,jG,h]
theorem yr{Q:M→Shared→Prop}:∀{b n:Nat}{m:M},(m.runFor n).outcome.isSome=true→0<b→n≤4*b→
  Q (m.runFor n) s→wpAny b9 A (Builtin.Re.reDrive b m) Q E s:=by
 intro b
 induction b with
 |zero=>intro n m J h;exact absurd h (by decide)
 |succ t k=>
  intro n m h J o j;refine(?_ :wpAny b9 A (if(m.runFor 4).outcome.isSome then pure (m.runFor 4)else _) Q E s);by_cases i:(m.runFor 4).outcome.isSome=true
  ·rw[if_pos i];refine wpAny_pure ?_;have:m.runFor 4=m.runFor n:=by
    by_cases d:n≤4
    ·rw[show 4=n+(4-n)by omega,iX,fU h]
    ·rw[show n=4+(n-4)by lia,iX,fU i]
   rw[this];exact j
  ·rw[if_neg i];refine wpAny_bind (wpAny_rule ?_);have d:4<n:=by
    refine ay (Nat.lt_or_ge 4 n) (fun d=>?_) fun d=>?_
    ·exact d
    ·exfalso;apply i;rw[show 4=n+(4-n)by omega,iX,fU h];exact h
   have e:m.runFor n=(m.runFor 4).runFor (n-4):=by rw[←iX];congr 1;lia
   exact k (n:=n-4) (e▸h) (by lia) (by lia) (e▸j)
noncomputable def jh(N:Nat)(m h:M):Prop:=∃n,n≤N∧m.runFor n=h
theorem jh.refl{N:Nat}:jh N g9 g9:=⟨0,Nat.zero_le _,rfl⟩
variable{m7:M}
theorem jh.one{N:Nat}(h:jh N g9.step m7):jh (N+1) g9 m7:=by
 refine au h fun n b e=>?_;exact aF (n+1) (Nat.lt_succ_of_le ‹_›) (by rw[jG,e])
theorem jh.le{N:Nat}(h:jh N g9 m7)(b:N≤n):jh n g9 m7:=by
 refine au h fun a0 d e=>?_;exact aF a0 (Nat.le_trans ‹_› ‹_›) e
theorem mW{a0:Option M→Shared→Prop}{N:Nat}(h:jh N g9 m7)(o:N≤2 ^ 64)(d:m7.outcome=some (if Q then .matched else .failed))(k:a0 (if Q then some m7 else none) s):wpAny b9 A (Builtin.Re.reRunToEnd g9) a0 E s:=by
 refine au h fun n p j=>?_;subst j;unfold Builtin.Re.reRunToEnd;refine wpAny_bind (yr (n:=n) (by rw[d];rfl) (by decide) (by lia) ?_);have m:∀(l:List Nat)(u:PUnit)(b:PUnit→Shared→Prop),(∀u,b u s)→
   wpAny b9 A (forIn l u (fun i(J:PUnit)=>if(g9.runFor n).seen.has i=true then(do rule (Sre.names.getD i "");pure (ForInStep.yield PUnit.unit))else pure (ForInStep.yield PUnit.unit))) b E s:=by
  intro l
  induction l with
  |nil=>intro u b h;exact wpAny_pure (h _)
  |cons x l e=>
   intro u b h;rw[List.forIn_cons];refine wpAny_bind ?_;split
   ·exact wpAny_bind (wpAny_rule (wpAny_pure (e _ _ h)))
   ·exact wpAny_pure (e _ _ h)
 refine wpAny_bind (m _ _ _ fun u=>?_);rw[d];rcases Q with _|_<;>exact wpAny_pure k
end
section
open Sre (M)
noncomputable abbrev C1:Array Nat:=#[14,4,0,1,1,6,1,16,46,1]
noncomputable abbrev C3:Array Nat:=#[14,9,4,1,2,16,10,16,13,0,7,7,16,13,16,10,15,18,5,16,10,15,13,11,16,13,5,5,0,16,10,1,15,2,0,1]
noncomputable def mk(C text:Array Nat)(start pc pos handed:Nat)(b:Bool)(frames:List Sre.Frame)(w:Nat)(h:Option Bool)(seen:Sre.Seen):M:=
 {code:=C,text,lim:=text.size,start,lastStart:=text.size,pc,pos,handed,outermost:=b,marks:=#[],frames,weight:=w,answer:=h,seen}
noncomputable def se(pc pos:Nat)(o:Bool):Sre.Frame:={wait:= .nextStart,pc,pos,outermost:=o}
theorem z4{text:Array Nat}{start:Nat}:(mk C1 text start 5 n k Q c2 z none c1).step=
  if(n==0||text.getD (n-1) 0==10)then mk C1 text start 7 n k Q c2 z none ((c1.add 6).add 44)else mk C1 text start 5 n k Q c2 z (some false) ((c1.add 6).add 44):=by
 rfl
theorem xU{start:Nat}:(mk C1 H start 7 n k Q c2 z none c1).step=
  if H.size≤n then mk C1 H start 7 n k Q c2 z (some false) (c1.add 16)else
  if H.getD n 0==46 then mk C1 H start 9 (n+1) k Q c2 z none (c1.add 16)else mk C1 H start 7 n k Q c2 z (some false) (c1.add 16):=by
 refine(?_ :(if n≥H.size then _ else _)=_);by_cases h:H.size≤n
 ·rw[if_pos h,if_pos h];rfl
 ·rw[if_neg h,if_neg h];refine(?_ :(match(Except.ok ((H.getD n 0==46),c1.add 16):Except String (Bool×Sre.Seen))with| .error b=>_| .ok (false,c1)=>_| .ok (true,c1)=>_)=_);cases H.getD n 0==46<;>rfl
theorem z6{start:Nat}:(mk C1 H start 9 n k Q c2 z none c1).step=mk C1 H start 9 n n Q c2 z (some true) (c1.add 1):=by
 rcases Q with _|_<;>rfl
noncomputable def dn(C j:Array Nat)(start d e h:Nat)(o:Bool)(i:Sre.Seen)(b:Bool):M:=
 {mk C j start d e h o [] 0 (some b) i with outcome:=some (if b then .matched else .failed)}
theorem od{start:Nat}:(mk j8 H start z n k Q [] 0 (some e3) c1).step=dn j8 H start z n k Q c1 e3:=rfl
theorem sf{start:Nat}:(mk j8 H start z n k Q [se T a1 e3] 1 (some true) c1).step=mk j8 H start T a1 k e3 [] 0 (some true) c1:=rfl
theorem si{start:Nat}:(mk C1 H start z n k Q [se 5 T e3] 1 (some false) c1).step=
  if T<H.size then mk C1 H (T+1) 5 (T+1) (T+1) false [se 5 (T+1) false] 1 none c1 else mk C1 H start 5 T k e3 [] 0 (some false) c1:=by
 refine(?_ :(if T<H.size then _ else _)=_);by_cases h:T<H.size
 ·rw[if_pos h,if_pos h];rfl
 ·rw[if_neg h,if_neg h];rfl
noncomputable def jq(text:Array Nat)(p:Nat):Option Nat:=if(p==0||text.getD (p-1) 0==10)&&text.getD p 0==46 then some 1 else none
noncomputable def scan(h:Nat→Option Nat)(b:Nat):Nat→Nat→Option (Nat×Nat)
 |0,_=>none
 |n+1,p=>if b≤p then none else match h p with|some l=>some (p,l)|none=>scan h b n (p+1)
theorem ij:scan f3 n (k+1) z=if n≤z then none else match f3 z with|some l=>some (z,l)|none=>scan f3 n k (z+1):=rfl
noncomputable def Found(C h:Array Nat)(m:M)(r:Option (Nat×Nat)):Prop:=
 match r with
 |some (p,l)=>m.outcome=some .matched∧m.start=p∧m.handed=p+l
 |none=>m.outcome=some .failed
noncomputable def iS(N:Nat)(m:M)(P:M→Prop):Prop:=∃h,jh N m h∧P h
variable{g9:M}
theorem iS.one{N:Nat}{P:M→Prop}(h:iS N g9.step P):iS (N+1) g9 P:=au h fun d a b=>⟨d,a.one,b⟩
theorem iS.done{N:Nat}{P:M→Prop}(h:P g9):iS N g9 P:=⟨g9,.refl,h⟩
theorem iS.le{N:Nat}{P:M→Prop}(h:iS N g9 P)(d:N≤n):iS n g9 P:=au h fun e a b=>⟨e,a.le d,b⟩
theorem vI{text:Array Nat}:∀(n p h:Nat)(o:Bool)(b:Sre.Seen),text.size+1=p+n→
  iS (8*n+8) (mk C1 text p 5 p h o [se 5 p o] 1 none b) fun j=>Found C1 text j (scan (jq text) text.size n p):=by
 intro n;have m:∀(p h:Nat)(o:Bool)(b:Sre.Seen)(N:Nat),text.size≤p→iS (8*N+8) (mk C1 text p 5 p h o [se 5 p o] 1 none b) fun j=>Found C1 text j none:=by
  intro p h o b N r;have d:¬p<text.size:=by lia
  refine iS.le (N:=4) ?_ (by(simp+arith));refine .one ?_;rw[z4];by_cases e:(p==0||text.getD (p-1) 0==10)=true
  ·rw[if_pos e];refine .one ?_;rw[xU,if_pos r];refine .one ?_;rw[si,if_neg d];refine .one ?_;rw[od];exact .done rfl
  ·rw[if_neg e];refine .one ?_;rw[si,if_neg d];refine .one ?_;rw[od];exact .done rfl
 induction n with
 |zero=>
  intro p h o b q;exact m _ _ _ _ _ (by lia)
 |succ n k=>
  intro p h o b q;by_cases d:p<text.size
  ·refine iS.le (N:=(8*n+8)+3+1) ?_ (by(simp+arith));refine .one ?_;rw[z4];by_cases e:(p==0||text.getD (p-1) 0==10)=true
   ·rw[if_pos e];refine .one ?_;rw[xU,if_neg (by lia)];by_cases i:(text.getD p 0==46)=true
    ·rw[if_pos i];have:jq text p=some 1:=by unfold jq;rw[e,i];rfl
     rw[ij];rw[if_neg (by lia),this];refine iS.le (N:=3) ?_ (by(simp+arith));refine .one ?_;rw[z6];refine .one ?_;rw[sf];refine .one ?_;rw[od];exact .done ⟨rfl,rfl,rfl⟩
    ·rw[if_neg i];have:jq text p=none:=by unfold jq;rw[e,eq_false_of_ne_true i];rfl
     rw[ij];rw[if_neg (by lia),this];refine .one ?_;rw[si,if_pos d];exact(k _ _ _ _ (by lia)).le (Nat.le_succ _)
   ·rw[if_neg e];have:jq text p=none:=by unfold jq;rw[eq_false_of_ne_true e];rfl
    rw[ij];rw[if_neg (by lia),this];refine .one ?_;rw[si,if_pos d];exact(k _ _ _ _ (by lia)).le (by(simp+arith))
  ·have s:scan (jq text) text.size (n+1) p=none:=by rw[ij];rw[if_pos (by lia)]
   rw[s];exact m _ _ _ _ _ (by lia)
end
section
open Sre (M)
theorem yt(h:n<H.size):Sre.forSearch C1 H 0 n H.size false=mk C1 H n 5 n n true [se 5 n true] 1 none (({}:Sre.Seen).add 14):=by
 refine(?_ :(if(decide (n>H.size)||decide (H.size-n<1))=true then _ else _)=_);rw[if_neg (by rw[decide_eq_false (by lia),decide_eq_false (by lia)];decide)];rfl
theorem Br(h:n=H.size):∃m:M,Sre.forSearch C1 H 0 n H.size false=m∧m.step.outcome=some .failed:=by
 refine aF _ rfl ?_;refine(?_ :(M.step (if(decide (n>H.size)||decide (H.size-n<1))=true then _ else _)).outcome=_);rw[if_pos (by rw[decide_eq_true (show H.size-n<1 by omega),Bool.or_true _])];rfl
theorem Cn(i:n≤H.size):iS (8*(H.size+1-n)+8) (Sre.forSearch C1 H 0 n H.size false) fun j=>Found C1 H j (scan (jq H) H.size (H.size+1-n) n):=by
 by_cases h:n<H.size
 ·rw[yt h];exact vI _ n n true _ (by lia)
 ·have e:scan (jq H) H.size (H.size+1-n) n=none:=by
   rw[show H.size+1-n=0+1 by rw[Nat.le_antisymm i (Nat.le_of_not_lt h),Nat.add_sub_cancel_left _ _]];rw[ij];rw[if_pos (by lia)]
  rw[e];refine au (Br (H:=H) (n:=n) (by lia)) fun m b d=>?_;rw[b];exact .one (.done d)
noncomputable def tL(pc pos:Nat)(o:Bool):Sre.Frame:={wait:= .nextBranch,pc,pos,outermost:=o}
noncomputable def Co(pc pos:Nat)(o:Bool):Sre.Frame:={wait:= .lookNot,pc,pos,outermost:=o}
theorem CN{P:Prop} [Decidable P]{h:m}(b:p0=p7)(d:r1=h):(if P then p0 else r1)=if P then p7 else h:=by rw[b,d]
theorem kX{start:Nat}(h:(T=12∧a1=13)∨(T=14∧a1=10)∨(T=19∧a1=10)∨(T=24∧a1=13)∨(T=29∧a1=10)):(mk C3 H start T n k Q c2 z none c1).step=
  if H.size≤n then mk C3 H start T n k Q c2 z (some false) (c1.add 16)else
  if H.getD n 0==a1 then mk C3 H start (T+2) (n+1) k Q c2 z none (c1.add 16)else mk C3 H start T n k Q c2 z (some false) (c1.add 16):=by
 rcases h with⟨rfl,rfl⟩|⟨rfl,rfl⟩|⟨rfl,rfl⟩|⟨rfl,rfl⟩|⟨rfl,rfl⟩<;>
 ·first
   |refine(?_ :(if H.size≤n then _ else(match(Except.ok ((H.getD n 0==13),c1.add 16):Except String (Bool×Sre.Seen))with| .error d=>_| .ok (false,c1)=>_| .ok (true,c1)=>_))=_)
   |refine(?_ :(if H.size≤n then _ else(match(Except.ok ((H.getD n 0==10),c1.add 16):Except String (Bool×Sre.Seen))with| .error d=>_| .ok (false,c1)=>_| .ok (true,c1)=>_))=_)
  refine CN rfl ?_;generalize (H.getD n 0==_)=b;rcases b with _|_<;>rfl
theorem vJ{start:Nat}:(mk C3 H start 10 n k Q c2 1 none c1).step=mk C3 H start 12 n n Q (tL 11 n Q::c2) 2 none (c1.add 7):=rfl
theorem tM{start:Nat}:(mk C3 H start z n k Q (tL 11 T e3::c2) 2 (some false) c1).step=mk C3 H start 19 T T e3 (tL 18 T e3::c2) 2 none c1:=rfl
theorem z7{start:Nat}:(mk C3 H start z n k Q (tL 18 T e3::c2) 2 (some false) c1).step=mk C3 H start 24 T T e3 (tL 23 T e3::c2) 2 none c1:=rfl
theorem qc{start:Nat}(h:T=16∨T=21∨T=32):(mk C3 H start T n k Q c2 z none c1).step=mk C3 H start 35 n k Q c2 z none (c1.add 15):=by
 focus(refine gu h (fun b=>?_) (fun d=>?_) fun e=>?_;all_goals first|subst b|subst d|subst e|skip)<;>rfl
theorem qd{start:Nat}:(mk C3 H start 35 n k Q c2 z none c1).step=mk C3 H start 35 n n Q c2 z (some true) (c1.add 1):=by
 rcases Q with _|_<;>rfl
theorem z8{start:Nat}:(mk C3 H start 26 n k Q c2 2 none c1).step=mk C3 H start 29 n n false (Co 26 n Q::c2) 3 none (c1.add 5):=rfl
theorem vK{start:Nat}:(mk C3 H start z n k Q (Co 26 T e3::c2) 3 (some false) c1).step=mk C3 H start 32 T k e3 c2 2 none c1:=rfl
theorem vL{start:Nat}:(mk C3 H start z n k Q (tL T a1 e3::c2) 2 (some true) c1).step=mk C3 H start T a1 k e3 c2 1 (some true) c1:=rfl
noncomputable def jr(h:Array Nat)(p:Nat):Option Nat:=if h.getD p 0==13 then(if h.getD (p+1) 0==10 then some 2 else some 1)else if h.getD p 0==10 then some 1 else none
theorem Bs(t:n<H.size)(d:jr H n=some k):iS 40 (mk C3 H n 10 n n Q [se 10 n Q] 1 none c1) fun e=>Found C3 H e (some (n,k)):=by
 refine .one ?_;rw[vJ];refine .one ?_;rw[kX (.inl ⟨rfl,rfl⟩),if_neg (by lia)];unfold jr at d;by_cases m:(H.getD n 0==13)=true
 ·rw[if_pos m]at d⊢;have r:(H.getD n 0==10)=false:=by
   have:=eq_of_beq m;rw[this];rfl
  refine .one ?_;rw[kX (.inr (.inl ⟨rfl,rfl⟩))];by_cases i:(H.getD (n+1) 0==10)=true
  ·rw[if_pos i]at d⊢;have s:n+1<H.size:=by
    refine ay (Nat.lt_or_ge (n+1) H.size) (fun h=>?_) fun h=>?_
    ·exact h
    ·exfalso;rw[Array.getD,dif_neg (by lia)]at i;exact absurd i (by decide)
   rw[if_neg (by lia)];cases d;refine .one ?_;rw[qc (.inl rfl)];refine .one ?_;rw[qd];refine .one ?_;rw[vL];refine .one ?_;rw[sf];refine .one ?_;rw[od];exact .done ⟨rfl,rfl,rfl⟩
  ·rw[if_neg i]at d⊢;cases d;have p:∀(b:Nat)(j:Sre.Seen),iS 25 (mk C3 H n 14 (n+1) b Q [tL 11 n Q,se 10 n Q] 2 (some false) j) fun e=>Found C3 H e (some (n,1)):=by
    intro b j;refine .one ?_;rw[tM];refine .one ?_;rw[kX (.inr (.inr (.inl ⟨rfl,rfl⟩))),if_neg (by lia),r,if_neg (by decide)];refine .one ?_;rw[z7];refine .one ?_;rw[kX (.inr (.inr (.inr (.inl ⟨rfl,rfl⟩)))),if_neg (by lia),if_pos m];refine .one ?_;rw[z8];have q:∀(b:Nat)(j:Sre.Seen),iS 15 (mk C3 H n 29 (n+1) b false [Co 26 (n+1) Q,tL 23 n Q,se 10 n Q] 3 (some false) j) fun e=>b=n+1→Found C3 H e (some (n,1)):=by
     intro b j;refine .one ?_;rw[vK];refine .one ?_;rw[qc (.inr (.inr rfl))];refine .one ?_;rw[qd];refine .one ?_;rw[vL];refine .one ?_;rw[sf];refine .one ?_;rw[od];exact .done fun J=>⟨rfl,rfl,rfl⟩
    refine iS.le (N:=15+1) ?_ (by decide);refine .one ?_;rw[kX (.inr (.inr (.inr (.inr ⟨rfl,rfl⟩))))];split
    ·obtain⟨e,a,b⟩:=q (n+1) _;exact aF e a (b rfl)
    ·try rw[if_neg i]
     obtain⟨e,a,b⟩:=q (n+1) _;exact aF e a (b rfl)
   split
   ·exact(p _ _).le (by decide)
   ·exact(p _ _).le (by decide)
 ·rw[if_neg m]at d⊢;by_cases o:(H.getD n 0==10)=true
  ·rw[if_pos o]at d;cases d;refine .one ?_;rw[tM];refine .one ?_;rw[kX (.inr (.inr (.inl ⟨rfl,rfl⟩))),if_neg (by lia),if_pos o];refine .one ?_;rw[qc (.inr (.inl rfl))];refine .one ?_;rw[qd];refine .one ?_;rw[vL];refine .one ?_;rw[sf];refine .one ?_;rw[od];exact .done ⟨rfl,rfl,rfl⟩
  ·rw[if_neg o]at d;contradiction
theorem oe:∀{a0 p:Nat},n≤p→scan f3 n a0 p=none:=by
 intro a0;rcases a0 with _|a0
 ·intro p J;rfl
 ·intro p h;rw[ij];rw[if_pos h]
theorem Bt:∃d,Sre.inSet C3 n C3.size 5 true c1= .ok (n==10||n==13,d):=by
 by_cases h:(n==10)=true
 ·refine⟨c1.add 16,?_⟩;refine(?_ :(if n==10 then _ else _)=_);rw[if_pos h,h];rfl
 ·by_cases b:(n==13)=true
  ·refine⟨(c1.add 16).add 16,?_⟩;refine(?_ :(if n==10 then _ else _)=_);rw[if_neg h];refine(?_ :(if n==13 then _ else _)=_);rw[if_pos b,b,Bool.or_true _];rfl
  ·refine⟨((c1.add 16).add 16).add 0,?_⟩;refine(?_ :(if n==10 then _ else _)=_);rw[if_neg h];refine(?_ :(if n==13 then _ else _)=_);rw[if_neg b,eq_false_of_ne_true h,eq_false_of_ne_true b];rfl
theorem vM{text:Array Nat}(h:(text.getD n 0==10||text.getD n 0==13)=true):∃l,jr text n=some l:=by
 unfold jr;split
 ·split<;>exact⟨_,rfl⟩
 ·rename_i b;rw[eq_false_of_ne_true b,Bool.or_false]at h;rw[if_pos h];exact⟨_,rfl⟩
theorem vN{text:Array Nat}(h:(text.getD n 0==10||text.getD n 0==13)=false):jr text n=none:=by
 refine ai (Bool.or_eq_false_iff.mp h) fun a b=>?_;unfold jr;rw[if_neg (by rw[b];decide),if_neg (by rw[a];decide)]
variable{g9:M}
theorem sj{text:Array Nat}(k:g9.code=C3)(m:g9.text=text)(i:g9.lim=text.size):∀(n s:Nat)(b:Sre.Seen),∃d,g9.admitted n s b= .ok ((scan (jr text) text.size n s).map (·.1),d):=by
 intro n
 induction n with
 |zero=>intro s b;exact⟨b,rfl⟩
 |succ n o=>
  intro s b;rw[ij];refine(?_ :∃d,(if s≥g9.lim then _ else _)=_);rw[k,m,i];by_cases h:text.size≤s
  ·rw[if_pos h,if_pos h];exact⟨_,rfl⟩
  ·rw[if_neg h,if_neg h];refine ah (Bt (n:=text.getD s 0) (c1:=b)) fun d e=>?_;rw[e];rcases j:(text.getD s 0==10||text.getD s 0==13)with _|_
   ·
    rw[vN j];exact o (s+1) d
   ·
    refine ah (vM j) fun l i=>?_;rw[i];exact⟨d,rfl⟩
theorem z9:∀{a0 s p l:Nat},scan f3 n a0 s=some (p,l)→p<n∧s≤p∧f3 p=some l:=by
 intro a0
 induction a0 with
 |zero=>intro s p l h;contradiction
 |succ a0 d=>
  intro s p l h;rw[ij]at h;by_cases b:n≤s
  ·rw[if_pos b]at h;contradiction
  ·rw[if_neg b]at h;rcases e:f3 s with _|i
   ·rw[e]at h;have:=d h;exact bx this.1 (by lia) this.2.2
   ·rw[e]at h;cases h;exact bx (by lia) (Nat.le_refl _) e
noncomputable def m3(text:Array Nat)(s:Nat):M:={code:=C3,text,lim:=text.size,start:=s,lastStart:=text.size,pc:=10,pos:=s,handed:=s,marks:=#[],seen:=({}:Sre.Seen).add 14}
theorem yu(h:n<H.size):Sre.forSearch C3 H 0 n H.size false=(m3 H n).attemptFrom n true:=by
 refine(?_ :(if(decide (n>H.size)||decide (H.size-n<1))=true then _ else _)=_);rw[if_neg (by rw[decide_eq_false (by lia),decide_eq_false (by lia)];decide)];rfl
theorem Bu(h:n=H.size):∃m:M,Sre.forSearch C3 H 0 n H.size false=m∧m.step.outcome=some .failed:=by
 refine aF _ rfl ?_;refine(?_ :(M.step (if(decide (n>H.size)||decide (H.size-n<1))=true then _ else _)).outcome=_);rw[if_pos (by rw[decide_eq_true (show H.size-n<1 by omega),Bool.or_true _])];rfl
theorem Cp(x:n≤H.size):iS 40 (Sre.forSearch C3 H 0 n H.size false) fun t=>Found C3 H t (scan (jr H) H.size (H.size+1-n) n):=by
 by_cases h:n<H.size
 ·rw[yu h];refine ah (sj (g9:=m3 H n) (text:=H) rfl rfl rfl (H.size+1-n) n (({}:Sre.Seen).add 14)) fun b e=>?_;have d:(m3 H n).attemptFrom n true=match(Except.ok ((scan (jr H) H.size (H.size+1-n) n).map (·.1),b):Except String (Option Nat×Sre.Seen))with
    | .ok (some u,seen)=>({m3 H n with mustAdvance:=false,seen}:M).attemptAt u true
    | .ok (none,seen)=>({m3 H n with seen}:M).say false
    | .error v=>(m3 H n).stick v:=by
   rw[←e];rfl
  rw[d];rcases s:scan (jr H) H.size (H.size+1-n) n with _|q
  ·exact .one (.done rfl)
  ·
   obtain⟨p,l⟩:=q;refine ba (z9 s) fun j w k=>?_;exact Bs (Q:=true) (c1:=b) j k
 ·rw[oe (by lia)];refine au (Bu (H:=H) (n:=n) (by lia)) fun m i r=>?_;rw[i];exact .one (.done r)
end
section
open Sre (M)
open Builtin Builtin.Re
inductive lZ(h:Heap)(a:Addr)(C:Array Nat)(kind:Int):Prop
 |mk {v0 v1 ca t2 t6 cs oc n}:h.get? a=some {cls:= .type "re.Pattern",data:= .fields #[v0,v1,.int 0 t2,.none,.none,.ref ca,.int kind t6]}→
  h.get? ca=some oc→oc.data= .seq cs n→(cs.map reRawOf).map (·.toNat)=C→lZ h a C kind
noncomputable def Bv(a:Addr)(C:Array Nat)(v:Value)(text:Array Nat)(kind:Nat):ReTarget:=
 {pattern:= .ref a,string:=v,code:=C,text,kind,groups:=0,pos:=0,lim:=text.size}
theorem qe{Q:ReTarget→Shared→Prop}(r:reTextOf C=pure (j8,n))(p:reNoCollectionInside C n=pure ())(o:n=0∨n=1)(q:lZ s.heap v H n)(h:Q (Bv v H C j8 n) s):wpAny b9 A (reWholeTarget (.ref v) C) Q E s:=by
 obtain @⟨z,a,e,x,y,u,w,a0,i,j,k,m⟩:=q;have t:wpAny b9 A (reNoCollectionInside C n>>=fun J=>reRawItems (.ref e)>>=fun code=>pure {Bv v H C j8 n with code:=code.map (·.toNat)}) Q E s:=by
  rw[p];refine wpAny_bind (wpAny_pure (wpAny_bind (wpAny_bind (wpAny_bind (wpAny_load j ?_)))));rw[k];exact wpAny_pure (wpAny_pure (wpAny_pure (m.symm▸h)))
 refine wpAny_bind (wpAny_bind (wpAny_load i (wpAny_pure ?_)));rw[r]
 focus(refine ay o (fun b=>?_) fun d=>?_;all_goals first|subst b|subst d|skip)<;>exact wpAny_bind (wpAny_pure t)
structure Rw(hit:Nat→Option Nat)(l rep:List Nat)(R:Nat→List Nat):Prop where
 fin:R l.length=[]
 no:∀d c r,l.drop d=c::r→hit d=none→R d=c::R (d+1)
 yes:∀d n,d<l.length→hit d=some n→0<n∧d+n≤l.length∧R d=rep++R (d+n)
theorem take_one(h:i.drop n=k::b6)(e:n<z):k::(i.drop (n+1)).take (z-(n+1))=(i.drop n).take (z-n):=by
 have d:i.drop (n+1)=b6:=by rw[←List.drop_drop,h];rfl
 refine ah (Nat.exists_eq_add_of_le e) fun a0 b=>?_;subst b;rw[h,d,Nat.add_sub_cancel_left _ _,Nat.succ_add_eq_add_succ _ _,Nat.add_sub_cancel_left _ _];rfl
theorem Rw.scan{R:Nat→List Nat}(W:Rw f3 i b6 R):∀(n d:Nat),d+n=i.length+1→d≤i.length→
  match scan f3 i.length n d with|some (q,k)=>d≤q∧0<k∧q+k≤i.length∧R d=(i.drop d).take (q-d)++(b6++R (q+k))|none=>R d=i.drop d:=by
 intro n
 induction n with
 |zero=>intro d h m;exact absurd h (Nat.ne_of_lt (Nat.lt_succ_of_le m))
 |succ n r=>
  intro d h J;rw[ij];by_cases j:i.length≤d
  ·rw[if_pos j];obtain rfl:d=i.length:=Nat.le_antisymm ‹_› j;exact W.fin.trans (List.drop_length).symm
  ·rw[if_neg j];have o:=List.drop_eq_getElem_cons (Nat.lt_of_not_le j);rcases e:f3 d with _|k
   ·have b:=r (d+1) (by rw[Nat.add_assoc _ _ _,Nat.add_comm 1 _];exact h) (Nat.lt_of_not_le j);have m:=W.no _ _ _ o e;rw[m];rcases p:Mine.scan f3 i.length n (d+1)with _|⟨q,k⟩
    ·rw[p]at b;exact(congrArg _ b).trans o.symm
    ·rw[p]at b;exact cp (Nat.le_of_lt b.1) b.2.1 b.2.2.1 (by rw[b.2.2.2,←take_one o b.1];rfl)
   ·have b:=W.yes _ _ (Nat.lt_of_not_le j) e;exact cp (Nat.le_refl _) b.1 b.2.1 (by rw[b.2.2,Nat.sub_self _];rfl)
theorem Aa{N:Nat}{Q:Option M→Shared→Prop}(q:N≤2 ^ 64)(r:iS N (Sre.forSearch H i.toArray 0 k i.toArray.size false) fun j=>Found H i.toArray j (scan f3 i.toArray.size (i.toArray.size+1-k) k))(h:∀m:Option M,(match scan f3 i.length (i.length+1-k) k with|some (p,a0)=>∃j,m=some j∧j.start=p∧j.handed=p+a0|none=>m=none)→Q m s):
  wpAny b9 A (reNextFound (Bv v H C i.toArray n) k false) Q E s:=by
 refine au r fun j o d=>?_;rw[List.size_toArray]at o d;rcases e:scan f3 i.length (i.length+1-k) k with _|⟨p,a0⟩
 ·rw[e]at d h;exact mW o q (Q:=false) d (h none rfl)
 ·rw[e]at d h;exact mW o q (Q:=true) d.1 (h _ ⟨j,rfl,d.2.1,d.2.2⟩)
end
section
open Sre (M)
open Builtin Builtin.Re
theorem fy:plainId "re.Pattern.sub.loop" =true:=by decide+kernel
theorem jZ:entryFor table "re.Pattern.sub.loop" =some Builtin.«re.Pattern.sub.loop»:=entryFor_of_fast (by kernel_rfl)
noncomputable def lobj(v:List Nat→Tok→Value)(l:List (List Nat×Tok))(n:Nat):Obj:={cls:= .type "list",data:= .seq (l.map fun p=>v p.1 p.2).toArray n}
noncomputable abbrev cat(l:List (List Nat×Tok)):List Nat:=l.flatMap (·.1)
structure VK(v:List Nat→Tok→Value)(kd:Nat):Prop where
 Bw:kd=0∨kd=1
 ne:∀l t,(v l t != .none)=true
 text:∀l t,(kd=0∨∀c∈l,c<256)→reTextOf (v l t)=pure (l.toArray,kd)
 xV:∀l t,reNoCollectionInside (v l t) kd=pure ()
 lit:∀l t,reLiteralCannotBeTurned (v l t)=pure ()
 slice:∀{MM:Model}{A:Around}{E:Value→Shared→Prop}{s:Shared}{Q:Value→Shared→Prop}(T:Array Nat)(b e:Nat),(T.extract b e).size≤sizeLine→Q (v (T.extract b e).toList s.toks) {s with toks:=s.toks+1}→wpAny MM A (reSlice T kd b e) Q E s
 join:∀{prog:Program}{w:World}{A:Around}{E:Value→Shared→Prop}{s:Shared}{Q:Value→Shared→Prop}{L:Addr}{acc:List (List Nat×Tok)}{n:Nat}{u:Tok},s.heap.get? L=some (lobj v acc n)→acc≠ []→(cat acc).length≤15000000→
  (∀t k,Q (v (cat acc) t) {s with toks:=k})→wpAny (model prog w) A (call (.builtin (if kd==0 then "str.join" else "bytes.join")) [v [] u,.ref L]) Q E s
inductive iY(h:Heap)(a L:Addr)(C:Array Nat)(kind:Int):Prop
 |mk {v0 v1 ca t2 t6 cs oc n}:h.get? a=some {cls:= .type "re.Pattern",data:= .fields #[v0,v1,.int 0 t2,.none,.none,.ref ca,.int kind t6]}→
  h.get? ca=some oc→oc.data= .seq cs n→(cs.map reRawOf).map (·.toNat)=C→a≠L→ca≠L→iY h a L C kind
theorem iY.at:iY U v b7 H I→lZ U v H I
 |⟨h,b,d,e,_,_⟩=>⟨h,b,d,e⟩
theorem iY.but(k:Heap.SameBut b7 U f5):iY U v b7 H I→iY f5 v b7 H I
 |⟨d,e,i,j,h,b⟩=>⟨(k.2 _ h).trans d,(k.2 _ b).trans e,i,j,h,b⟩
theorem tN(d:s.heap.get? v=some (lobj d3 d7 n))(j:d7.length≤4000000)(h:∀k b,b.get? v=some (lobj d3 (d7++[(i,d6)]) k)→Heap.SameBut v s.heap b→c6 () {s with heap:=b}):wpAny b9 A (updateSeq v (·.push (d3 i d6))) c6 E s:=by
 have e:(d7.map fun p=>d3 p.1 p.2).toArray.size≤sizeLine:=by
  rw[List.size_toArray,List.length_map _,sizeLine_eq];exact Nat.le_trans j (by decide)
 refine wpAny_updateSeq d rfl (h _ _ ((Heap.get?_update_self _ d rfl).trans (congrArg (fun z=>some ({cls:= .type "list",data:= .seq z _}:Obj)) ?_)) (Heap.SameBut.update ..)) e (by rw[Array.size_push _];exact Nat.succ_le_succ e);rw[List.map_append];exact List.push_toArray ..
theorem oU(V:VK d3 n){K:Unit→Sem m}(j:s.heap.get? v=some (lobj d3 d7 k))(u:d7.length≤4000000)(t:i.length≤1000000)(h:∀b w d y,d.get? v=some (lobj d3 b w)→Heap.SameBut v s.heap d→cat b=cat d7++(i.drop z).take (T-z)→b.length≤d7.length+1→wpAny b9 A (K ()) o6 E {s with heap:=d,toks:=y}):
  wpAny b9 A (if z<T then reSlice i.toArray n z T>>=fun x=>updateSeq v (·.push x)>>=fun r=>K r else K ()) o6 E s:=by
 by_cases e:z<T
 ·rw[if_pos e];have q:(i.toArray.extract z T).toList=(i.drop z).take (T-z):=by rw[Array.toList_extract,List.extract_eq_take_drop]
  refine wpAny_bind (V.slice _ _ _ ?_ ?_)
  ·rw[Array.size_extract,List.size_toArray,sizeLine_eq];exact Nat.le_trans (Nat.sub_le _ _) (Nat.le_trans (Nat.min_le_right _ _) (Nat.le_trans t (by decide)))
  ·rw[q];refine wpAny_bind (tN j u fun c a o p=>h _ _ _ _ o p ?_ ?_)
   ·rw[cat,List.flatMap_append];exact congrArg _ (List.append_nil _)
   ·exact Nat.le_of_eq List.length_append
 ·rw[if_neg e];exact h d7 k s.heap s.toks j ⟨rfl,fun J J=>rfl⟩ (by rw[Nat.sub_eq_zero_of_le (Nat.le_of_not_lt e)];exact(List.append_nil _).symm) (Nat.le_succ _)
theorem yv(V:VK d3 n){R:Nat→List Nat}(W:Rw f3 i b6 R)(Z:n=0∨∀c∈i,c<256)(D:k≤2 ^ 64)(ok:∀d,d≤i.toArray.size→iS k (Sre.forSearch H i.toArray 0 d i.toArray.size false) fun f=>Found H i.toArray f (scan f3 i.toArray.size (i.toArray.size+1-d) d))(G:i.length≤1000000):
  ∀(N d:Nat)(b:List (List Nat×Tok))(a0:Int),i.length<N+d→d≤i.length→
  Meets (Builtin.«re.Pattern.sub.loop» ⟨[.ref b7,d3 i d6,d3 b6 j0,rawInt 0,rawInt 0,rawInt a0,rawInt d,rawInt d,.bool false,.ref v,.bool false],[]⟩)
   (fun J P s=>iY s.heap b7 v H n∧(∃a1,s.heap.get? v=some (lobj d3 b a1))∧b.length≤2*d∧(cat b++R d).length≤15000000∧
    ∀K l F,Heap.SameBut v s.heap F→P (.ok (.ret (d3 (cat b++R d) K))) {s with heap:=F,toks:=l}):=by
 intro N
 induction N with
 |zero=>intro d b a0 h j;exact absurd h (by rw[Nat.zero_add _];exact Nat.not_lt.mpr j)
 |succ N ih=>
  intro d b a0 hN z a3 w A P s U;refine gr U fun Q B a2 I x=>ah B fun a1 O=>?_;have T:b.length≤2000000:=Nat.le_trans a2 (Nat.mul_le_mul_left 2 (Nat.le_trans z G));have g:=W.scan (i.length+1-d) d (Nat.add_sub_cancel' (Nat.le_succ_of_le z)) z;refine(?_ :wpAny _ A.in1 (reWholeTarget (.ref b7) (d3 i d6)>>=fun r=>_) _ _ s);refine wpAny_bind (qe (V.text i d6 Z) (V.xV i d6) V.Bw Q.at ?_);refine(?_ :wpAny _ A.in1 (reLiteralCannotBeTurned (d3 b6 j0)>>=fun r=>_) _ _ s);refine wpAny_bind (wpAny_of_eq (V.lit b6 j0) ?_);refine(?_ :wpAny _ A.in1 (reNextFound (Bv b7 H (d3 i d6) i.toArray n) d false>>=fun r=>_) _ _ s);refine wpAny_bind (Aa D (ok d (by rw[List.size_toArray];exact z)) fun m a=>?_);rcases e:scan f3 i.length (i.length+1-d) d with _|⟨p,q⟩
  ·rw[e]at a g;subst a;refine(?_ :wpAny _ A.in1 (if d<i.toArray.size then _ else _) _ _ s);refine oU V (i:=i) (T:=i.toArray.size) O (Nat.le_trans T (by decide)) G fun o n2 j l u t C X=>?_;have E:cat o=cat b++R d:=by
    rw[C,show R d=i.drop d from g,List.size_toArray,List.take_of_length_le (by rw[List.length_drop];exact Nat.le_refl _)]
   rw[←E]at I x;refine wpAny_bind (V.slice _ 0 0 (by rw[Array.size_extract];exact Nat.le_trans (Nat.sub_le _ _) (Nat.le_trans (Nat.min_le_left _ _) (Nat.zero_le _))) ?_);rw[show(i.toArray.extract 0 0).toList=[]by rw[Array.toList_extract];exact List.take_zero];refine wpAny_bind (wpAny_bind (wpAny_load u (wpAny_pure ?_)));rcases o with _|⟨y,ys⟩
   ·exact wpAny_bind (wpAny_pure (wpAny_pure (x _ _ j t)))
   ·exact wpAny_bind (V.join u (by nofun) I fun K k'=>wpAny_pure (x _ _ j t))
  ·rw[e]at a g;refine bA a fun f B Y j=>?_;subst B;refine bQ g fun q1 q2 q3 q4=>?_;have S:(f.handed==p)=false:=by rw[j];exact beq_false_of_ne (Nat.ne_of_gt (Nat.lt_add_of_pos_right q2))
   refine(?_ :wpAny _ A.in1 (if d<f.start then _ else _) _ _ s);rw[Y];refine oU V (i:=i) O (Nat.le_trans T (by decide)) G fun o n2 a4 l u t C X=>?_;refine wpAny_bind (wpAny_pure (wpAny_ite (KPc.ite_yes (V.ne b6 j0) ?_)));refine wpAny_bind (tN u (by lia) fun n3 h3 E L=>?_);refine wpAny_pure ⟨plainId_quiet fy _,codeAny_builtin jZ ?_⟩;rw[Around.under_plainId fy _,S,j];have M:cat (o++[(b6,j0)])++R (p+q)=cat b++R d:=by
    rw[q4,←List.append_assoc _ _ _,←List.append_assoc _ _ _,←C];exact congrArg (· ++_) (List.flatMap_append.trans (congrArg _ (List.append_nil _)))
   exact ih (p+q) _ (a0+1) (by lia) q3 a3 w A P _ ⟨Q.but (t.trans L),⟨n3,E⟩,by rw[List.length_append];exact(by lia:o.length+1≤2*(p+q)),by rw[M];exact I,fun K l F hs=>by rw[M];exact x _ _ _ ((t.trans L).trans hs)⟩
end
section
open Sre (M)
open Builtin Builtin.Re
noncomputable def vS(l:List Nat)(t:Tok):Value:= .str (S l) t
noncomputable def b8(l:List Nat):Array UInt8:=(l.map (·.toUInt8)).toArray
noncomputable def vB(l:List Nat)(t:Tok):Value:= .bytes (b8 l) t
theorem qf:∀(l:List Str)(k:List Nat),l.foldl (fun h p=>h++Str.empty.cps++p.cps) k.toArray=(k++l.flatMap (·.cps.toList)).toArray:=by
 intro L
 induction L with
 |nil=>
  intro k;rw[List.flatMap_nil,List.append_nil _];rfl
 |cons y r b=>
  intro k;have e:k.toArray++Str.empty.cps++y.cps=(k++y.cps.toList).toArray:=
   (congrArg (· ++y.cps) Array.append_empty).trans (by rw[←List.append_toArray _ _,Array.toArray_toList])
  rw[List.foldl_cons,e,b _,List.flatMap_cons,List.append_assoc _ _ _]
theorem vO(p:List Nat×Tok)(q:List (List Nat×Tok)):Builtin.Str.glued Str.empty ((p::q).map fun p=>S p.1)=S (cat (p::q)):=by
 refine congrArg Str.mk ((qf (q.map fun p:List Nat×Tok=>S p.1) p.1).trans ?_);rw[List.flatMap_map _ _ _];rfl
theorem tO(h:List (List Nat×Tok)):∀k,(h.map fun p=>S p.1).foldl (fun n(y:Str)=>n+y.length+Str.empty.length) k=k+(cat h).length:=by
 induction h with
 |nil=>intro k;rfl
 |cons y l b=>intro k;rw[List.map_cons,List.foldl_cons,b _];exact(Nat.add_assoc k y.1.length _).trans (congrArg (k+·) List.length_append.symm)
theorem kS:VK vS 0 where
 Bw:= .inl rfl
 ne:=fun J J=>rfl
 text:=fun J J J=>rfl
 xV:=fun J J=>rfl
 lit:=fun J J=>rfl
 slice:=fun T b e d h=>wpAny_mkStr h d
 join:=fun{r w A E s Q L k n u} o m d h=>by
  rcases k with _|⟨p,q⟩
  ·exact absurd rfl m
  ·have i:=Nat.le_trans d (by decide:_≤sizeLine);refine call_meets PySem.F.slot_str_join (typeIs_str _ _ _) PySem.F.entry_str_join (PySem.F.args_str_join_2 _ _) (meets_str_join_list Str.empty u L ((p::q).map fun p=>(S p.1,p.2)) ?_) ⟨⟨_,o,rfl,n,by rw[strValues,List.map_map];rfl⟩,?_⟩
   ·refine decide_eq_false (Nat.not_lt.mpr ?_);rw[List.foldl_toArray _ _ _,List.map_map];exact Nat.le_trans (Nat.le_of_eq ((tO (p::q) 0).trans (Nat.zero_add _))) i
   ·rcases q with _|⟨j,q⟩
    ·have:=h p.2 s.toks;rw[cat,List.flatMap_cons,List.flatMap_nil,List.append_nil]at this;exact this
    ·have e:Builtin.Str.glued Str.empty (((p::j::q).map fun p=>(S p.1,p.2)).map (·.1))=S (cat (p::j::q)):=by rw[List.map_map];exact vO _ _
     exact⟨by rw[e];exact i,by rw[e];exact h _ _⟩
theorem tP{id:String}:Bytes.takeBufferQuiet? id (.bytes e8 d6) 0=pure (some (e8,none)):=by
 have e:Bytes.takeBuffer? id (.bytes e8 d6) 0=pure (some (e8,none)):=by
  unfold Bytes.takeBuffer?;rw[KBy.special_eq KBy.look_buffer,KBy.own_buffer];refine(?_ :(Bytes.buffer? id (.bytes e8 d6)>>=fun r=>pure (r.map (·,none)))=_);rw[KBy.buffer_eq];rfl
 unfold Bytes.takeBufferQuiet?;rw[e];rfl
theorem tQ(l:List (Array UInt8)):Bytes.joined #[] l=(l.flatMap (·.toList)).toArray:=by
 have e:∀(l:List (Array UInt8))(k:Nat)(h:Array UInt8),(l.zipIdx k).foldl (fun(h:Array UInt8)(q:Array UInt8×Nat)=>(if q.2>0 then h++(#[]:Array UInt8)else h)++q.1) h=h++(l.flatMap (·.toList)).toArray:=by
  intro l
  induction l with
  |nil=>intro k h;exact Array.append_empty.symm
  |cons y l d=>
   intro k h;rw[List.zipIdx_cons,List.foldl_cons,d _ _,List.flatMap_cons,←List.append_toArray _ _,Array.toArray_toList,←Array.append_assoc];by_cases b:k>0
   ·rw[if_pos b,Array.append_empty]
   ·rw[if_neg b]
 exact(e l 0 #[]).trans Array.empty_append
theorem qg:∀{l:List (List Nat×Tok)}{Q:Unit→Shared→Prop},Q () s→wpAny b9 A (Bytes.joinLetGo (l.map fun p=>(vB p.1 p.2,none)) Z) Q E s:=by
 intro L
 induction L with
 |nil=>
  intro J h;exact wpAny_pure h
 |cons p l b=>
  intro J h;exact wpAny_bind (wpAny_letGo (b h))
theorem mX:entryFor table "bytes.join" =some Builtin.«bytes.join»:=entryFor_of_tree (by kernel_rfl)
theorem og:Slot "bytes" "join" "bytes.join" :=
 .of (owner:="bytes") (n:="join") (by rw[typeLookup_type _ _,builtinLookup_eq_fast];kernel_rfl) (by decide+kernel) (by decide+kernel) (by decide+kernel)
  (by first|exact .inl (by decide+kernel)|exact .inr (by decide+kernel)) (by rw[isSubtype_type _ _];kernel_rfl)
theorem oh(a b:Value):argsOk "bytes.join" ⟨[a,b],[]⟩:=by unfold argsOk;kernel_rfl
theorem yw(b:Nat→m)(n:Nat)(h:∀(i:Nat)(e:ForInStep m→Shared→Prop),i<n→e (.yield (b (i+1))) s→wpAny b9 A (o2 i (b i)) e E s)(j:o6 (b n) s):
  wpAny b9 A (forIn [:n] (b 0) o2) o6 E s:=by
 rw[KPc.range_list _ _ _];have o:∀(a0 i:Nat),i+a0=n→wpAny b9 A (forIn (List.range' i a0 1) (b i) o2) o6 E s:=by
  intro a0
  induction a0 with
  |zero=>intro i d;exact wpAny_pure ((show i=n from d)▸j)
  |succ a0 k=>
   intro i d;refine KPc.turn (h i _ (d▸Nat.lt_add_of_pos_right (Nat.succ_pos a0)) (k (i+1) ((Nat.succ_add_eq_add_succ i a0).trans d)))
 exact o n 0 (Nat.zero_add n)
theorem Bx(T:Array Nat):b8 T.toList=T.map (·.toUInt8):=by rw[b8,←List.map_toArray,Array.toArray_toList]
theorem vP(h:∀c∈i,c<256):(i.map (·.toUInt8)).map (·.toNat)=i:=by
 rw[List.map_map];exact(List.map_congr_left fun c b=>Nat.mod_eq_of_lt (h c b)).trans (List.map_id i)
noncomputable def hL(h:List (List Nat×Tok)):Array (Array UInt8)×List (Value×Option Value):=((h.map fun p=>b8 p.1).toArray,h.map fun p=>(vB p.1 p.2,none))
theorem vQ(h:List (List Nat×Tok)):¬(Bytes.Kind.bytes==Bytes.Kind.bytearray||(hL h).2.any fun x=>x.1.onHeap)=true:=by
 induction h with
 |nil=>decide
 |cons p r b=>exact b
theorem tR(b:n<d7.length):(d7.map fun p=>vB p.1 p.2).toArray.getD n .none=vB d7[n].1 d7[n].2:=by
 rw[←Array.getElem_eq_getD (h:=by rw[List.size_toArray,List.length_map _];exact b),List.getElem_toArray _,List.getElem_map _]
theorem vR{id:String}(h:n<d7.length):Bytes.takeBufferQuiet? id ((d7.map fun p=>vB p.1 p.2).toArray.getD n .none) 0=pure (some (b8 d7[n].1,none)):=by
 rw[tR h];exact tP
theorem vT(h:n<d7.length):hL (d7.take (n+1))=((hL (d7.take n)).1.push (b8 d7[n].1),(hL (d7.take n)).2++[((d7.map fun p=>vB p.1 p.2).toArray.getD n .none,none)]):=by
 rw[tR h,List.take_succ_eq_append_getElem h,hL,List.map_append,List.map_append,←List.append_toArray _ _];rfl
theorem vU(h:List (List Nat×Tok)):∀k,(h.map fun p=>b8 p.1).toArray.foldl (fun(d:Nat)(e:Array UInt8)=>d+e.size) k=k+(cat h).length:=by
 simp only[List.foldl_toArray]
 induction h with
 |nil=>intro k;rfl
 |cons y l b=>intro k;rw[List.map_cons,List.foldl_cons,b _,b8,List.size_toArray,List.length_map _];exact(Nat.add_assoc k y.1.length _).trans (congrArg (k+·) List.length_append.symm)
theorem vV(h:List (List Nat×Tok)):Bytes.joined #[] (hL h).1.toList=b8 (cat h):=by
 rw[tQ _];refine congrArg List.toArray ?_;rw[hL,cat,List.map_flatMap];refine(?_ :List.flatMap _ (h.map _)=_);rw[List.flatMap_map _ _ _];rfl
theorem tS(d:s.heap.get? v=some (lobj vB d7 n))(o:d7≠ [])(m:(cat d7).length≤15000000)(h:∀t k,e5 (.done (.ret (vB (cat d7) t))) {s with toks:=k}):wpAny (model a7 b4) A (Builtin.«bytes.join» ⟨[vB [] d6,.ref v],[]⟩) e5 E s:=by
 have w:=Nat.le_trans m (by decide:_≤sizeLine);refine(?_ :wpAny _ A (Bytes.joinItems (.ref v)>>=fun r=>_) _ _ s);refine wpAny_bind (wpAny_bind (wpAny_typeOf (T:="list") ⟨_,d,rfl⟩ (wpAny_pure (wpAny_bind (wpAny_bind (wpAny_load d (wpAny_pure ?_)))))));have x:∀{f:Nat→Array (Array UInt8)×List (Value×Option Value)→Sem (ForInStep (Array (Array UInt8)×List (Value×Option Value)))}{K:Array (Array UInt8)×List (Value×Option Value)→Sem Fin},
   (∀i,i<d7.length→∀b:_→Shared→Prop,b (.yield (hL (d7.take (i+1)))) s→wpAny (model a7 b4) A (f i (hL (d7.take i))) b E s)→wpAny (model a7 b4) A (K (hL d7)) e5 E s→
   wpAny (model a7 b4) A (forIn [:(d7.map fun p=>vB p.1 p.2).toArray.size] (#[],[]) f>>=K) e5 E s:=fun u q=>by
  rw[List.size_toArray,List.length_map _];refine wpAny_bind (yw (fun i=>hL (d7.take i)) d7.length (fun i b e=>u i e b) ?_);rw[List.take_length];exact q
 rcases d7 with _|⟨p,_|⟨y,l⟩⟩
 ·exact absurd rfl o
 ·refine wpAny_bind (wpAny_typeOf (T:="bytes") (typeIs_bytes _ _ _) (wpAny_bind (wpAny_rule (wpAny_pure ?_))));have:=h p.2 s.toks;rw[cat,List.flatMap_cons,List.flatMap_nil,List.append_nil]at this;exact this
 ·refine x (fun i e b j=>?_) ?_
  ·refine wpAny_bind (wpAny_bind (wpAny_load d (wpAny_pure (wpAny_ite (KPc.ite_no (vQ _) (wpAny_bind (wpAny_holding (wpAny_of_eq (vR e) (wpAny_bind (wpAny_bind (wpAny_load d (wpAny_pure (wpAny_ite (KPc.ite_no (by rw[bne_self_eq_false _];decide) (wpAny_pure ?_)))))))))))))));rw[vT e]at j;exact j
  ·refine wpAny_bind (wpAny_pure (wpAny_ite (KPc.ite_no ?_ (wpAny_bind (rwE (vV _) (wpAny_mkBytes (wpAny_bind (wpAny_holding (wpAny_point (wpAny_bind (qg (wpAny_pure (h _ _))))))) ?_))))))
   ·rw[show(hL (p::y::l)).1.foldl (fun(z:Nat)(a:Array UInt8)=>z+a.size) _=_ from vU _ _,show(b8 []).size=0 from rfl,Nat.zero_mul _,Nat.zero_add _,KBy.tooLong_not (Nat.le_trans m (by decide))];decide
   ·rw[b8,List.size_toArray,List.length_map _];exact w
theorem kB:VK vB 1 where
 Bw:= .inr rfl
 ne:=fun J J=>rfl
 text:=fun l t p=>by
  unfold reTextOf;refine(?_ :(Bytes.bufferQuiet? "_sre" (.bytes (b8 l) t)>>=fun r=>_)=_);rw[KBy.quiet_eq];refine congrArg (fun z=>Sem.pure (z,1)) ?_;rw[b8,List.map_toArray,vP (p.resolve_left (by decide))]
 xV:=fun l t=>by
  unfold reNoCollectionInside;rw[vB,KBy.isInstance_eq];rfl
 lit:=fun l t=>by
  unfold reLiteralCannotBeTurned;refine(?_ :(isInstance (.bytes (b8 l) t) (.type "bytes")>>=fun r=>_)=_);rw[KBy.isInstance_eq];rfl
 slice:=fun T b e d h=>by
  rw[vB,Bx]at h;exact wpAny_mkBytes h (by rw[Array.size_map];exact d)
 join:=fun{q w A E s Q L i n u} o m d h=>by
  refine call_meets og (typeIs_bytes _ _ _) mX (oh _ _) (S:=fun J R s=>s.heap.get? L=some (lobj vB i n)∧∀t k,R (.ok (.ret (vB (cat i) t))) {s with toks:=k}) (.of_wp fun q w A R s j=>tS j.1 m d fun t k=>⟨_,rfl,j.2 t k⟩) ⟨o,h⟩
end
section
open Sre (M)
open Builtin Builtin.Re
theorem pC:PlainAttrs "re.Pattern" :=
 ⟨⟨"object.__getattribute__",by rw[typeLookup_type _ _,builtinLookup_eq_fast];kernel_rfl,by decide+kernel⟩,by rw[typeLookup_type _ _,builtinLookup_eq_fast];kernel_rfl⟩
theorem lI:Slot "re.Pattern" "sub" "re.Pattern.sub" :=
 .of (owner:="re.Pattern") (n:="sub") (by rw[typeLookup_type _ _,builtinLookup_eq_fast];kernel_rfl) (by decide+kernel) (by decide+kernel) (by decide+kernel)
  (by first|exact .inl (by decide+kernel)|exact .inr (by decide+kernel)) (by rw[isSubtype_type _ _];kernel_rfl)
theorem rg:typeOf (.builtin "re.Pattern.sub")=pure (.type "method_descriptor"):=by refine(?_ :builtinType _=_);rw[builtinType_eq_fast];kernel_rfl
theorem qh:entryFor table "re.Pattern.sub" =some Builtin.«re.Pattern.sub»:=entryFor_of_tree (by kernel_rfl)
theorem rh(a b d:Value):argsOk "re.Pattern.sub" ⟨[a,b,d],[]⟩:=by
 unfold argsOk;kernel_rfl
theorem yx(l:List Nat)(t:Tok):specialOf (vS l t) "__call__" =pure none:=by
 refine(?_ :typeLookup (.type "str") "__call__" =_);rw[typeLookup_type _ _,builtinLookup_eq_fast];kernel_rfl
theorem yy(l:List Nat)(t:Tok):specialOf (vB l t) "__call__" =pure none:=by
 refine(?_ :typeLookup (.type "bytes") "__call__" =_);rw[typeLookup_type _ _,builtinLookup_eq_fast];kernel_rfl
noncomputable abbrev qi(a:Addr)(x r:Value):Sem Fin:=holding [r] (reWholeTarget (.ref a) x)>>=fun J=>newList []>>=fun p=>again (.builtin "re.Pattern.sub.loop" ⟨[.ref a,x,r,rawInt 0,rawInt 0,rawInt 0,rawInt 0,rawInt 0,.bool false,p,.bool false],[]⟩)
theorem vW(b:(S b6).cps.contains 92=false)(h:wpAny b9 A (qi v (vS i d6) (vS b6 j0)) e5 E s):wpAny b9 A (Builtin.«re.Pattern.sub» ⟨[.ref v,vS b6 j0,vS i d6],[]⟩) e5 E s:=by
 refine wpAny_bind (wpAny_pure (wpAny_bind (wpAny_pure (wpAny_bind (wpAny_of_eq (yx b6 j0) (?_ :wpAny _ A (asStr? (vS b6 j0)>>=fun r=>_) _ _ s))))));refine wpAny_bind (wpAny_pure ?_);dsimp only;rw[b];exact h
theorem vX(b:(b8 b6).contains 92=false)(h:wpAny b9 A (qi v (vB i d6) (vB b6 j0)) e5 E s):wpAny b9 A (Builtin.«re.Pattern.sub» ⟨[.ref v,vB b6 j0,vB i d6],[]⟩) e5 E s:=by
 refine wpAny_bind (wpAny_pure (wpAny_bind (wpAny_pure (wpAny_bind (wpAny_of_eq (yy b6 j0) (?_ :wpAny _ A (asStr? (vB b6 j0)>>=fun r=>_) _ _ s))))));refine wpAny_bind (wpAny_pure (wpAny_bind (wpAny_of_eq KBy.quiet_eq ?_)));dsimp only;rw[b];exact h
structure qj(v:List Nat→Tok→Value)(kd:Nat)(dv:List Nat→D)(rep:List Nat):Prop where
 V:VK v kd
 dv:∀(c:Cx)(f:FH) l w,Val c f (dv l) w↔∃t,w=v l t
 head:∀{MM:Model}{A:Around}{E:Value→Shared→Prop}{s:Shared}{Q:Fin→Shared→Prop}{a:Addr}{l:List Nat}{t tr:Tok},wpAny MM A (qi a (v l t) (v rep tr)) Q E s→wpAny MM A (Builtin.«re.Pattern.sub» ⟨[.ref a,v rep tr,v l t],[]⟩) Q E s
inductive rB(C:Array Nat)(l rep r:List Nat):Prop
 |mk {hit:Nat→Option Nat} {R:Nat→List Nat} {N:Nat}:Rw hit l rep R→N≤2 ^ 64→(∀d,d≤l.toArray.size→iS N (Sre.forSearch C l.toArray 0 d l.toArray.size false) fun m'=>Found C l.toArray m' (scan hit l.toArray.size (l.toArray.size+1-d) d))→R 0=r→rB C l rep r
inductive oV(K:Frag)(a:Addr)(C:Array Nat)(kind:Int):Prop
 |mk {v0 v1 ca t2 t6 cs oc n}:K.lookup a=some {cls:= .type "re.Pattern",data:= .fields #[v0,v1,.int 0 t2,.none,.none,.ref ca,.int kind t6]}→
  K.lookup ca=some oc→oc.data= .seq cs n→(cs.map reRawOf).map (·.toNat)=C→oV K a C kind
theorem oV.at(g:Gl c U):oV c.K v H I→lZ U v H I
 |⟨h,b,d,e⟩=>⟨g.K _ _ h,g.K _ _ b,d,e⟩
theorem lZ.obj:lZ U v H I→∃o,U.get? v=some o∧o.cls= .type "re.Pattern" ∧o.dict=none
 |⟨h,_,_,_⟩=>⟨_,h,rfl,rfl⟩
theorem Ev.cast(h:Ev c n e r o j)(q:j=a5):Ev c n e r o a5:=q▸h
theorem vY(o:qj d3 n i2 b6)(P:rB H i b6 i0)(k:n=0∨∀c∈i,c<256)(z:i.length≤1000000)(q:i0.length≤15000000):
  Meets (Builtin.«re.Pattern.sub» ⟨[.ref v,d3 b6 j0,d3 i d6],[]⟩)
   (fun J R s=>lZ s.heap v H n∧∀b d h,Heap.SameBut s.heap.objs.size (s.heap.push (lobj d3 [] 0)) h→R (.ok (.ret (d3 i0 b))) {s with heap:=h,toks:=d}):=by
 intro l w A R s r;refine ai r fun m p=>?_;obtain⟨W,x,g,a⟩:=P;refine o.head (wpAny_bind (wpAny_holding (qe (o.V.text i d6 k) (o.V.xV i d6) o.V.Bw m (wpAny_bind (wpAny_newList ?_ (by decide))))));have y:iY (s.heap.push (lobj d3 [] 0)) v s.heap.objs.size H n:=
  let⟨e,j,t,u⟩:=m
  ⟨Heap.get?_push_of_some _ e,Heap.get?_push_of_some _ j,t,u,Nat.ne_of_lt (Heap.lt_size e),Nat.ne_of_lt (Heap.lt_size j)⟩
 refine wpAny_pure ⟨plainId_quiet fy _,codeAny_builtin jZ ?_⟩;rw[Around.under_plainId fy _];rw[←a]at p q;exact yv o.V W k x g z (i.length+1) 0 [] 0 (Nat.lt_succ_self _) (Nat.zero_le _) l w A R _ ⟨y,⟨0,Heap.get?_push_size _ rfl⟩,Nat.zero_le _,q,fun b d h f=>p b d h f⟩
theorem yz(o:qj d3 n i2 b6)(P:rB H i b6 i0)(e:oV c.K v H n)(p:n=0∨∀c∈i,c<256)(x:i.length≤1000000)(z:i0.length≤15000000)(g:Gl c s.heap)(a:Sub c f s.heap)(B:Vals c f [i2 b6,i2 i] Z)(u:∀d3 j d,Go c f s d j→Val c d (i2 i0) d3→E d3 j):wpAny (model c.prog c.w) A (call (.builtin "re.Pattern.sub") ([.ref v]++Z)) E V s:=by
 obtain⟨L,O,rfl,k,M,Q,rfl,m,rfl⟩:=B;refine ah ((o.dv _ _ _ _).mp k) fun t h=>?_;subst h;refine ah ((o.dv _ _ _ _).mp m) fun I h=>?_;subst h;refine bA ((e.at g).obj) fun C q r J=>?_;refine bM (call_meets lI ⟨C,q,r⟩ qh (rh _ _ _) (vY o P p x z) ⟨e.at g,fun F K G l w=>?_⟩);have b:=Go.refl a;exact u _ _ f ((b.push g).turn (b.fresh (Nat.le_refl _)) (b.cj (Nat.le_refl _)) (by
  refine ah g.cH fun o y=>?_;exact Nat.ne_of_gt (Heap.lt_size y)) l w) ((o.dv _ _ _ _).mpr ⟨F,rfl⟩)
theorem Ev.sk(o:qj d3 k i2 b6)(P:rB H i b6 i0)(d:lC c x (.ref v))(q:oV c.K v H k)(K:ag c (n+1) e r B [i2 b6,i2 i])(F:k=0∨∀c∈i,c<256)(W:i.length≤1000000)(R:i0.length≤15000000)(Z:e.names.lookup x=some .globalImplicit:=by rfl)(U:(x==("__debug__" :Str))=false:=by decide+kernel)(S:noStar B:=by rfl)(M:∀h,attributeBase (.Name x O) "sub" h (eval (.Name x O) h)=eval (.Name x O) h:=by intro J;rfl)(X:lB b1 B:=by intro J;rfl)(N:(Y.endLine==b1.line)=true:=by rfl):Ev c (n+1) e r (.Call (.Attribute (.Name x O) "sub" Y) B [] b1) (i2 i0):=fun A h f s Q E V a0 y I=>by
 refine wpAny_Call_method_lateS (M h) (X h) N ?_;refine Calls.Name_function_global (by rw[a0.scope];exact a0.kind) (by refine(?_ :h.scope.names.lookup x=_);rw[a0.scope];exact Z) ?_ U;have m:∃T id,PlainAttrs T∧Slot T "sub" id∧typeOf (.builtin id)=pure (.type "method_descriptor")∧s.TypeIs (.ref v) T∧(∀b,Value.ref v= .ref b→∃o,s.heap.get? b=some o∧o.dict=none)∧
   wpAny (model c.prog c.w) A (callWith b1 (.builtin id) [.ref v] (backTo b1 (starEach B h)) []) Q E s:=by
  refine bA ((q.at y.gl).obj) fun t p C G=>?_;refine nK ("re.Pattern") ("re.Pattern.sub") pC lI rg (⟨t,p,C⟩) (fun b L=>⟨t,Value.ref.inj L▸p,G⟩) ?_;exact ef (.builtin _) (eN S) (K A h f s b1 _ E V a0 y fun vs s2 f2 j w=>⟨(y.go j).gl.K,
   yz o P q F W R (y.go j).gl j.sub w fun d3 s3 a g z=>I d3 s3 a (j.trans g) z⟩)
 refine ay d (fun d=>?_) fun u=>ai u fun l d=>?_
 ·exact Calls.loadGlobal_global (by rw[a0.globals];exact y.gl.g) d m
 ·exact Calls.loadGlobal_builtin (by rw[a0.globals];exact y.gl.g) l (by rw[a0.builtins];exact y.gl.b) d m
theorem CO(b:(S i).cps.contains 92=false):qj vS 0 (fun l=> .str (S l)) i:=⟨kS,fun J J J J=> .rfl,fun h=>vW b h⟩
theorem Dg(b:(b8 i).contains 92=false):qj vB 1 (fun l=> .bytes (b8 l)) i:=⟨kB,fun J J J J=> .rfl,fun h=>vX b h⟩
end
section
open Builtin
theorem Cq{step:Except e7 m→Nat→Except e7 m}(h:step (.ok p0) 1= .ok p7):((List.range 1).map (· +1)).foldl step (.ok p0)= .ok p7:=h
theorem Cr{step:Except e7 m→Nat→Except e7 m}(h:step (.ok p0) 1= .ok p7)(b:step (.ok p7) 2= .ok r1):((List.range 2).map (· +1)).foldl step (.ok p0)= .ok r1:=by
 refine(?_ :step (step _ 1) 2=_);rw[h,b]
theorem byte_at(h:e8[n]? =some k.toUInt8):(e8.getD n 0).toNat=k % 256:=by
 rw[Array.getD_eq_getD_getElem?,h];rfl
theorem By{c:Bool}{X:Option (Nat×Nat×Nat)}(h:(Q||e3||c)=true):(if Q then some (2,160,191)else if e3 then some (2,128,159)else if c then some (2,128,191)else X)=some (2,if Q then 160 else 128,if !Q&&e3 then 159 else 191):=by
 rcases Q with _|_<;>rcases e3 with _|_<;>rcases c with _|_<;>first|rfl|contradiction
theorem Ab(h:k<128)(b:e8[n]? =some k.toUInt8):Bytes.utf8At e8 n=(.char k,n+1):=by
 unfold Bytes.utf8At;rw[byte_at b,(by decide:∀k<128,k % 256=k) k h];exact if_pos h
theorem Ac(h:k<30)(b:z<64)(d:e8[n]? =some (194+k).toUInt8)(e:e8[n+1]? =some (128+z).toUInt8):Bytes.utf8At e8 n=(.char ((2+k)*64+z),n+2):=by
 unfold Bytes.utf8At;rw[byte_at d,(by decide:∀c<30,(194+c) % 256=194+c) k h,if_neg ((by decide:∀c<30,¬194+c<128) k h),if_pos ((by decide:∀c<30,(decide (194≤194+c)&&decide (194+c≤223))=true) k h)];dsimp only;rw[Cq (p7:=(2+k)*64+z)];refine(?_ :(match e8[n+1]? with|none=>_|some x=>_)=_);rw[e];exact(if_pos ((by decide:∀z<64,(decide (128≤(128+z).toUInt8.toNat)&&decide ((128+z).toUInt8.toNat≤191))=true) z b)).trans
  (by rw[(by decide:∀z<64,(128+z).toUInt8.toNat % 64=z) z b];exact congrArg (fun a0=>Except.ok (a0*64+z)) ((by decide:∀c<30,(194+c) % 32=2+c) k h))
theorem Ad(h:k<14)(d:z<64)(b:T<64)(m:k=0→32≤z)(o:k=13→z<32)(e:e8[n]? =some (224+k).toUInt8)(i:e8[n+1]? =some (128+z).toUInt8)(j:e8[n+2]? =some (128+T).toUInt8):Bytes.utf8At e8 n=(.char ((k*64+z)*64+T),n+3):=by
 unfold Bytes.utf8At;rw[byte_at e,(by decide:∀c<14,(224+c) % 256=224+c) k h,if_neg ((by decide:∀c<14,¬224+c<128) k h),if_neg ((by decide:∀c<14,¬(decide (194≤224+c)&&decide (224+c≤223))=true) k h),By ((by decide:∀c<14,(224+c==224||224+c==237||(decide (225≤224+c)&&decide (224+c≤239)))=true) k h)];dsimp only;rw[Cr (p7:=k*64+z) (r1:=(k*64+z)*64+T)]
 ·refine(?_ :(match e8[n+1]? with|none=>_|some x=>_)=_);rw[i];exact(if_pos ((by decide+kernel:∀k<14,∀z<64,(k=0→32≤z)→(k=13→z<32)→(decide ((if(224+k==224)=true then 160 else 128)≤(128+z).toUInt8.toNat)&&decide ((128+z).toUInt8.toNat≤if(!(224+k==224)&&(224+k==237))=true then 159 else 191))=true) k h z d m o)).trans
   (by rw[(by decide:∀T<64,(128+T).toUInt8.toNat % 64=T) z d];exact congrArg (fun a0=>Except.ok (a0*64+z)) ((by decide:∀c<14,(224+c) % 16=c) k h))
 ·refine(?_ :(match e8[n+2]? with|none=>_|some x=>_)=_);rw[j];exact(if_pos ((by decide:∀T<64,(decide (128≤(128+T).toUInt8.toNat)&&decide ((128+T).toUInt8.toNat≤191))=true) T b)).trans
   (by rw[(by decide:∀T<64,(128+T).toUInt8.toNat % 64=T) T b])
end
section
open Builtin
noncomputable def utf8(x:List Nat):List UInt8:=x.flatMap Str.utf8Of
theorem Ae(b:∀n∈i,n<55296)(h:n∈i):_codecs.utf8Codec.bad n=false:=by
 have:=b n h;refine(?_ :(decide (0xD800≤n)&&decide (n≤0xDFFF))=false);rw[decide_eq_false (by lia)];rfl
theorem tT(l:List Nat)(h:Array UInt8):l.foldl (fun b y=>b++(Str.utf8Of y).toArray) h=h++(utf8 l).toArray:=by
 induction l generalizing h with
 |nil=>simp[utf8]
 |cons c l d=>rw[List.foldl_cons,d _];simp[utf8]
theorem yA{R:Type}{K:m→Sem R}{Q:R→Shared→Prop}(n:Nat)(e:n=0→p0=p7)(b:0<n→∀k,o2 k p0=pure (.yield p7))(d:∀k,o2 k p7=pure (.done p7))(h:wpAny b9 A (K p7) Q E s):
  wpAny b9 A (forIn [:n] p0 o2>>=K) Q E s:=by
 refine wpAny_bind (rwE (KPc.range_list _ _ _) ?_);rcases n with _|_|n
 ·exact wpAny_pure (e rfl▸h)
 ·exact KPc.turn (wpAny_of_eq (b (Nat.zero_lt_succ _) _) (wpAny_pure h))
 ·exact KPc.turn (wpAny_of_eq (b (Nat.zero_lt_succ _) _) (KPc.turn (wpAny_of_eq (d _) h)))
theorem Af{S:Type}{t:S}(k:∀c∈i,c<55296):(0+((i.toArray.extract 0 i.length).findIdx? _codecs.utf8Codec.bad).getD (i.toArray.extract 0 i.length).size,Array.foldl (fun h y=>h++(_codecs.utf8Codec.bytesOf y).toArray) (#[]:Array UInt8) ((i.toArray.extract 0 i.length).extract 0 (((i.toArray.extract 0 i.length).findIdx? _codecs.utf8Codec.bad).getD (i.toArray.extract 0 i.length).size)),t)=(i.length,(utf8 i).toArray,t):=by
 have b:i.toArray.extract 0 i.length=i.toArray:=Array.extract_size;have d:Array.findIdx? _codecs.utf8Codec.bad i.toArray=none:=Array.findIdx?_eq_none_iff.mpr fun c j=>Ae k (List.mem_toArray.mp j);have e:Array.foldl (fun h y=>h++(_codecs.utf8Codec.bytesOf y).toArray) (#[]:Array UInt8) i.toArray=(utf8 i).toArray:=by
  rw[←Array.foldl_toList _];exact(tT i #[]).trans Array.empty_append
 rw[b,d];refine(?_ :(0+i.length,Array.foldl _ _ (i.toArray.extract 0 i.length),t)=_);rw[b,e,Nat.zero_add _]
theorem vZ{id:String}{d:Option Str}{Q:Array UInt8→Shared→Prop}(b:∀c∈x.cps.toList,c<55296)(i:(utf8 x.cps.toList).length≤16000000)(h:Q (utf8 x.cps.toList).toArray s):
  wpAny b9 A (_codecs.encodeNarrow id _codecs.utf8Codec d C x) Q E s:=by
 obtain⟨⟨l⟩⟩:=x;refine yA (p7:=(l.length,(utf8 l).toArray,{})) l.length (fun e=>by rw[List.length_eq_zero_iff.mp e];rfl) (fun e k=>?_) (fun k=>?_) (wpAny_pure h)
 ·rcases l with _|⟨c,r⟩
  ·contradiction
  ·exact(if_pos (congrArg not (Ae b List.mem_cons_self))).trans (congrArg (fun z=>Sem.pure (ForInStep.yield z)) (Af b))
 ·refine(if_neg (by rw[List.size_toArray,sizeLine_eq];lia)).trans ?_;exact rwE (Array.getElem?_eq_none (Nat.le_refl l.length)) rfl
end
section
open Builtin
theorem ak.encode(j:∀c∈x.cps.toList,c<55296)(k:(utf8 x.cps.toList).length≤16000000):ak c n (.builtin "str.encode") [.str x] (.bytes (utf8 x.cps.toList).toArray):=fun A f s q Q E r g d o i h=>by
 obtain⟨v,m,rfl,⟨t,rfl⟩,e⟩:=i;obtain rfl:m=[]:=e;refine call_meets (S:=fun J R s=>R (.ok (.ret (.bytes (utf8 x.cps.toList).toArray s.toks))) {s with toks:=s.toks+1}) PySem.F.slot_str_encode (typeIs_str _ _ _) PySem.F.entry_str_encode (PySem.F.args_str_encode_1 _) ?_ ?_
 ·refine .of_wp fun p w A R s b=>?_;rw[encode_tree _ _,encodeRoad_utf8];refine wpAny_bind (wpAny_bind (vZ j k ?_));exact wpAny_mkBytes (wpAny_pure ⟨_,rfl,b⟩) (by rw[List.size_toArray,sizeLine_eq];lia)
 ·exact h _ _ f (Go.refl d).toks ⟨_,rfl⟩
end
section
open Builtin
theorem sl(h:o2 n p0=pure (.yield p7)):forIn (n::i) p0 o2=forIn i p7 o2:=by
 rw[List.forIn_cons,h,pure_bind _ _]
theorem tU(h:o2 n p0=pure (.done p7)):forIn (n::i) p0 o2=pure p7:=by
 rw[List.forIn_cons,h,pure_bind _ _]
theorem v3(h:n<55296):Bytes.utf8At (k6++utf8 (n::i)).toArray k6.length=(.char n,k6.length+(Str.utf8Of n).length):=by
 have e:utf8 (n::i)=Str.utf8Of n++utf8 i:=rfl;have b:∀{l:List UInt8}{x:UInt8}(k:Nat),l[k]? =some x→(k6++(l++utf8 i)).toArray[k6.length+k]? =some x:=fun k h=>by
  rw[List.getElem?_toArray,List.getElem?_append_right (Nat.le_add_right _ _),Nat.add_sub_cancel_left _ _,List.getElem?_append_left (List.getElem?_eq_some_iff.mp h).1,h]
 rw[e];by_cases d:n<128
 ·rw[show Str.utf8Of n=[n.toUInt8]from if_pos d];exact Ab d (b 0 rfl)
 have r:n % 64<64:=Nat.mod_lt _ (by decide);by_cases o:n<2048
 ·rw[show Str.utf8Of n=[(0xC0+n / 64).toUInt8,(0x80+n % 64).toUInt8]from(if_neg d).trans (if_pos o)];refine ah (Nat.exists_eq_add_of_le ((Nat.le_div_iff_mul_le (by decide)).mpr (Nat.le_of_not_lt d):2≤n / 64)) fun m q=>?_;have u:2+m<2+30:=q▸Nat.div_lt_of_lt_mul o;rw[q,←Nat.add_assoc _ _ _];refine(Ac (Nat.lt_of_add_lt_add_left u) r (b 0 rfl) (b 1 rfl)).trans ?_;rw[←q,Nat.div_add_mod' _ _];rfl
 ·have s:n / 4096=n / 64 / 64:=(Nat.div_div_eq_div_mul n 64 64).symm;rw[show Str.utf8Of n=[(0xE0+n / 4096).toUInt8,(0x80+n / 64 % 64).toUInt8,(0x80+n % 64).toUInt8]from(if_neg d).trans ((if_neg o).trans (if_pos (Nat.lt_trans h (by decide)))),s];have p:n / 64<864:=Nat.div_lt_of_lt_mul h;have t:32≤n / 64:=(Nat.le_div_iff_mul_le (by decide)).mpr (Nat.le_of_not_lt o);have j:=Nat.div_add_mod' (n / 64) 64;refine(Ad (Nat.div_lt_of_lt_mul (Nat.lt_trans p (by decide))) (Nat.mod_lt _ (by decide)) r (fun z=>?_) (fun z=>?_) (b 0 rfl) (b 1 rfl) (b 2 rfl)).trans ?_
  ·rw[z,Nat.zero_mul,Nat.zero_add]at j;exact Nat.le_trans t (Nat.le_of_eq j.symm)
  ·rw[z]at j;rw[←j]at p;exact Nat.lt_of_add_lt_add_left p
  ·rw[j,Nat.div_add_mod' _ _];rfl
variable{j5:_codecs.Faults}
theorem sm{F:Nat→Nat×Array Nat×_codecs.Faults→Sem (ForInStep (Nat×Array Nat×_codecs.Faults))}(s:∀c∈i,c<55296)(o:∀x,F x ((utf8 i).length,i.toArray,j5)=pure (.done ((utf8 i).length,i.toArray,j5)))(p:∀x h c b,h++c::b=i→F x ((utf8 h).length,h.toArray,j5)=pure (.yield ((utf8 (h++[c])).length,(h++[c]).toArray,j5))):
  ∀(m h:List Nat)(a0 n:Nat),h++m=i→(utf8 m).length≤n→forIn (List.range' a0 n 1) ((utf8 h).length,h.toArray,j5) F=pure ((utf8 i).length,i.toArray,j5):=by
 intro m
 induction m with
 |nil=>
  intro h a0 n e d;rw[List.append_nil]at e;subst e;rcases n with _|n
  ·rfl
  ·rw[List.range'_succ,tU (o _)]
 |cons c b q=>
  intro h a0 n e d;have j:utf8 (c::b)=Str.utf8Of c++utf8 b:=rfl;have r:=Str.utf8Of_pos c;rw[j,List.length_append]at d;obtain⟨n,rfl⟩:∃k,n=k+1:=⟨n-1,by lia⟩;rw[List.range'_succ,sl (p _ _ _ _ e)];exact q (h++[c]) (a0+1) n (by rw[←e];simp) (by lia)
theorem oi(a b:List Nat):utf8 (a++b)=utf8 a++utf8 b:=List.flatMap_append
theorem v5(h:Bytes.utf8At e8 n=(.char k,z)):_codecs.utf8Decoder.find true e8 n= .text [k] z:=by
 refine(?_ :(match Bytes.utf8At e8 n with|(.char k,b)=>_codecs.Found.char k b|(.bad _ stop d,_)=>_)=_);rw[h];rfl
theorem yB{R:Type}{F:Nat→Nat×Array Nat×_codecs.Faults→Sem (ForInStep (Nat×Array Nat×_codecs.Faults))}{K:Nat×Array Nat×_codecs.Faults→Sem R}(j:∀c∈i,c<55296)(k:i.length≤16000000)(n:¬i.toArray.size>sizeLine→∀x,F x ((utf8 i).length,i.toArray,j5)=pure (.done ((utf8 i).length,i.toArray,j5)))(p:∀(h:List Nat)(c:Nat),¬h.toArray.size>sizeLine→¬(utf8 h).length≥(utf8 i).toArray.size→_codecs.utf8Decoder.find true (utf8 i).toArray (utf8 h).length= .text [c] ((utf8 h).length+(Str.utf8Of c).length)→∀x,F x ((utf8 h).length,h.toArray,j5)=pure (.yield ((utf8 h).length+(Str.utf8Of c).length,h.toArray++[c].toArray,j5))):
  forIn [:(utf8 i).toArray.size] (0,#[],j5) F>>=K=K ((utf8 i).length,i.toArray,j5):=by
 have d:∀{h b:List Nat},h++b=i→¬h.toArray.size>sizeLine:=fun e=>by
  rw[List.size_toArray,sizeLine_eq];rw[←e,List.length_append]at k;exact Nat.not_lt.mpr (Nat.le_trans (Nat.le_trans (Nat.le_add_right _ _) k) (by decide))
 rw[KPc.range_list _ _ _];refine congrArg (· >>=K) (sm (i:=i) j (n (d (List.append_nil i))) (fun x h c b e=>?_) i [] 0 _ rfl (Nat.le_refl _));have o:_codecs.utf8Decoder.find true (utf8 i).toArray (utf8 h).length= .text [c] ((utf8 h).length+(Str.utf8Of c).length):=by
  rw[←e,oi _ _];exact v5 (v3 (j c (by rw[←e];exact List.mem_append_right _ List.mem_cons_self)))
 refine(p h c (d e) ?_ o x).trans ?_
 ·have m:utf8 (c::b)=Str.utf8Of c++utf8 b:=rfl;rw[←e,List.size_toArray,oi _ _,List.length_append,m,List.length_append];exact Nat.not_le.mpr (Nat.lt_add_of_pos_right (Nat.lt_of_lt_of_le (Str.utf8Of_pos c) (Nat.le_add_right _ _)))
 ·rw[oi _ _,List.length_append,List.append_toArray _ _,show utf8 [c]=Str.utf8Of c from List.append_nil _]
theorem so{id:String}(j:∀c∈i,c<55296)(k:i.length≤16000000):
  _codecs.runDecoder id _codecs.utf8Decoder none true (utf8 i).toArray 0 []=pure (i.toArray,(utf8 i).length):=
 (yB j k (fun h x=>(if_neg h).trans (if_pos (Nat.le_refl _))) (fun m c b d e x=>(if_neg b).trans ((if_neg d).trans (by exact rwE e rfl)))).trans rfl
end
section
open Builtin
theorem Ag(k:∀c∈i,c<55296)(j:i≠ []):∃a r,utf8 i=a::r:=by
 rcases i with _|⟨c,b⟩
 ·exact absurd rfl j
 ·
  have e:utf8 (c::b)=Str.utf8Of c++utf8 b:=rfl;have d:=Str.utf8Of_pos c;rcases h:utf8 (c::b)with _|⟨a,r⟩
  ·rw[e]at h;rw[(List.append_eq_nil_iff.mp h).1]at d;simp at d
  ·exact r2 a r rfl
theorem ak.decode{x:Str}(e:e8=(utf8 x.cps.toList).toArray)(b:∀c∈x.cps.toList,c<55296)(m:x.cps.toList≠ [])(q:x.length≤16000000):ak c k (.builtin "bytes.decode") [.bytes e8] (.str x):=fun A f s C Q E r g o y p i=>by
 obtain⟨v,w,rfl,⟨t,rfl⟩,d⟩:=p;obtain rfl:w=[]:=d;have u:x.cps.toList.length≤16000000:=by rw[Array.length_toList];exact q
 refine cP (Ag b m) fun a l h=>?_;rw[h]at e;subst e;refine bM (KBd.decode (x:=x) (n:=(utf8 x.cps.toList).length) (fun id=>?_) (by lia) fun B z j=>?_)
 ·rw[←h,so b u,Array.toArray_toList]
 ·exact i _ _ f (Go.toks (t:=s) (Go.refl o) j) ⟨_,rfl⟩
end
section
open Builtin
structure iZ(prog:Program)(w:World)(I l:Addr)(xs:Array Value)(St:Nat→Heap→Prop):Prop where
 frame:∀i h h',St i h→(∀o,h.get? I=some o→h'.get? I=some o)→(∀o,h.get? l=some o→h'.get? l=some o)→St i h'
 here:∀i h,St i h→h.get? I≠none
 item:∀(A:Around) i(s:Shared) x(Q:Value→Shared→Prop)(E:Value→Shared→Prop),xs[i]? =some x→St i s.heap→
  (∀h',St (i+1) h'→Heap.SameBut I s.heap h'→Q x {s with heap:=h'})→wpAny (model prog w) A (SmallTypes.nextOf (.ref I)) Q E s
 fin:∀(A:Around) i(s:Shared)(Q:Value→Shared→Prop)(E:Value→Shared→Prop),A.handled=none→xs[i]? =none→St i s.heap→
  (∀h' e,Heap.ExtBut I s.heap h'→(∃o,h'.get? e=some o∧o.cls= .type "StopIteration")→E (.ref e) {s with heap:=h'})→wpAny (model prog w) A (SmallTypes.nextOf (.ref I)) Q E s
theorem iZ.list(u:b7≠v)(m:Array Value):iZ a7 b4 v b7 m (fun i h=>h.IsListIter v b7 i∧h.IsList b7 m) where
 frame:=fun i h j d a b=>⟨d.1.at a,d.2.at b⟩
 here:=fun i h d=>by refine ai d fun n J=>au n fun o w J=>?_;rw[w];simp
 item:=fun A i s x Q E e d q=>wpAny_nextOf_list_item d.1 d.2 e fun j t k=>q j ⟨t,d.2.extBut k.extBut u⟩ k
 fin:=fun A i s Q E r e d p=>wpAny_nextOf_list_end r d.1 d.2 e p
theorem iZ.tup(c:b7≠v)(w:Array Value):iZ a7 b4 v b7 w (fun i h=>h.IsTupleIter v b7 i∧h.IsTuple b7 w) where
 frame:=fun i h l d a b=>⟨d.1.at a,d.2.at b⟩
 here:=fun i h d=>by refine ai d fun k J=>au k fun o e J=>?_;rw[e];simp
 item:=fun A i s x Q E r d z=>by
  refine ai (id d) fun k q=>bA k fun o e t j=>?_;obtain⟨g,p,_,f,n⟩:=q;unfold SmallTypes.nextOf;refine wpAny_bind (wpAny_callSpecial?_slot (name:=Str.ofString "__next__") d.1.typeIs F.slot_tuple_iterator_next
   (wpAny_call_entry F.slot_tuple_iterator_next d.1.typeIs F.entry_tuple_iterator_next ?_ (F.args_tuple_iterator_next_1 _)))
  refine(?_ :wpAny _ _ (field (.ref v) 0>>=_) _ _ s);refine wpAny_bind (wpAny_field e j (x:= .ref b7) rfl ?_);refine(?_ :wpAny _ _ (if(Value.ref b7==Value.none)=true then _ else _) _ _ s);rw[if_neg (show ¬((Value.ref b7==Value.none)=true)from Bool.false_ne_true)];refine(?_ :wpAny _ _ (field (.ref v) 1>>=_) _ _ s);refine wpAny_bind (wpAny_field e j (x:= .int i 0) rfl ?_);refine(?_ :wpAny _ _ (seqItems? (.ref b7)>>=_) _ _ s);refine wpAny_bind (wpAny_seqItems p n ?_);simp only[Int.toNat_natCast,r];refine wpAny_bind (wpAny_setField e j (by simp) (wpAny_pure ⟨x,rfl,wpAny_pure (z _ ⟨?_,d.2.extBut (Heap.SameBut.update ..).extBut c⟩ (Heap.SameBut.update ..))⟩));exact fS _ (Heap.get?_update_self _ e (Obj.isFreed_of_fields (Obj.data_mapFields j _))) ((Obj.cls_mapFields ..).trans t) (by
   rw[Obj.data_mapFields j];simp[rawInt])
 fin:=fun A i s Q E u r d y=>by
  refine ai (id d) fun k q=>bA k fun o e t j=>?_;obtain⟨g,p,_,f,n⟩:=q;unfold SmallTypes.nextOf;refine wpAny_bind (wpAny_callSpecial?_slot (name:=Str.ofString "__next__") d.1.typeIs F.slot_tuple_iterator_next
   (wpAny_call_entry F.slot_tuple_iterator_next d.1.typeIs F.entry_tuple_iterator_next ?_ (F.args_tuple_iterator_next_1 _)))
  refine(?_ :wpAny _ _ (field (.ref v) 0>>=_) _ _ s);refine wpAny_bind (wpAny_field e j (x:= .ref b7) rfl ?_);refine(?_ :wpAny _ _ (if(Value.ref b7==Value.none)=true then _ else _) _ _ s);rw[if_neg (show ¬((Value.ref b7==Value.none)=true)from Bool.false_ne_true)];refine(?_ :wpAny _ _ (field (.ref v) 1>>=_) _ _ s);refine wpAny_bind (wpAny_field e j (x:= .int i 0) rfl ?_);refine(?_ :wpAny _ _ (seqItems? (.ref b7)>>=_) _ _ s);refine wpAny_bind (wpAny_seqItems p n ?_);simp only[Int.toNat_natCast,r];refine wpAny_bind (wpAny_rule (wpAny_bind (wpAny_setField e j (by simp) ?_)));refine(?_ :wpAny _ _ (newExc (.type "StopIteration") []>>=_) _ _ _);refine wpAny_bind ?_;simp only[newExc,newTuple];refine wpAny_bind (wpAny_newObj_type ?_ (by size_fits));refine wpAny_bind (m:=firstArgMember _ _) (wpAny_of_eq (a:=Value.none) (by first|rfl|(simp only[firstArgMember];rfl)) ?_);refine wpAny_newObj_type ?_ (by size_fits);simp only[raiseNew];refine wpAny_bind (wpAny_handled ?_)
  first|rw[show A.in1.handled=none from u]|rw[u]
  refine wpAny_bind (wpAny_pure (wpAny_throw ?_));exact y _ _ (((Heap.SameBut.update ..).extBut.push _).push _) ⟨_,Heap.get?_push_size _ rfl,rfl⟩
theorem yC{TI:Addr}(D:ZipApart v TI b7 j7 k1 l3 l4)(a:iZ a7 b4 j7 l3 d0 d9)(f:iZ a7 b4 k1 l4 g5 h4){b:Value}(k:IsZip s.heap v TI b7 .none)(a3:IsPair s.heap TI (.ref j7) (.ref k1))(a4:IsPair s.heap b7 l5 b)(h1:d9 n s.heap)(h2:h4 n s.heap)(hx:d0[n]? =some C)(hy:g5[n]? =some g6)(hQ:∀j,IsZip j v TI b7 (rawInt s.heap.objs.size)→IsPair j b7 C g6→d9 (n+1) j→h4 (n+1) j→IsPair j s.heap.objs.size C g6→
   (∀c o,c≠v→c≠b7→c≠j7→c≠k1→s.heap.get? c=some o→j.get? c=some o)→V (.ref s.heap.objs.size) {s with heap:=j}):
  wpAny (model a7 b4) A (Builtin.«zip.__next__» ⟨[.ref v],[]⟩) (fun r s'=>∃a0,r= .done (.ret a0)∧V a0 s') E s:=by
 have a8:∀{c:Addr},s.heap.get? c≠none→c≠s.heap.objs.size:=fun{c} h=>by
  rcases e:s.heap.get? c with _|o
  ·exact absurd e h
  ·exact Nat.ne_of_lt (Heap.lt_size e)
 refine(?_ :wpAny _ _ (field (.ref v) 2>>=_) _ _ _);refine wpAny_bind (wpAny_field k rfl (x:= .bool false) rfl ?_);refine(?_ :wpAny _ _ (field (.ref v) 3>>=_) _ _ _);refine wpAny_bind (wpAny_field k rfl (x:= .ref TI) rfl ?_);refine wpAny_bind (wpAny_seqItems a3 rfl ?_);refine(?_ :wpAny _ _ (SmallTypes.ownedTupleIsFree (.ref v)>>=_) _ _ _);refine wpAny_bind ?_;unfold SmallTypes.ownedTupleIsFree;refine wpAny_bind (wpAny_field k rfl (x:= .none) rfl (wpAny_pure ?_));simp only[if_true];refine wpAny_bind (wpAny_rule ?_);refine wpAny_bind (wpAny_field k rfl (x:= .ref b7) rfl ?_);refine wpAny_bind (wpAny_setField_rec k (by simp) fun u F T=>?_);replace F:IsZip u v TI b7 .ellipsis:=F;refine wpAny_bind ?_;simp only[List.zipIdx_cons,List.zipIdx_nil,List.forIn_cons,List.forIn_nil];refine wpAny_bind (wpAny_bind (wpAny_onRaise ?_));refine(?_ :wpAny _ _ (SmallTypes.nextOf (.ref j7)>>=_) _ _ _);have y:∀c o,c≠v→s.heap.get? c=some o→u.get? c=some o:=fun c o h e=>T.extBut _ _ h e;refine wpAny_bind (a.item _ n {s with heap:=u} C _ _ hx (a.frame _ _ _ h1 (fun o=>y _ o D.i1z) fun o=>y _ o D.l1z) fun g a1 U=>wpAny_pure ?_);have J:∀c o,c≠j7→u.get? c=some o→g.get? c=some o:=fun c o h e=>U.extBut _ _ h e;have M:IsPair g b7 l5 b:=J _ _ D.TOi1 (y _ _ D.TOz a4);refine wpAny_bind (wpAny_seqItems M rfl ?_);refine wpAny_bind (wpAny_updateSeq_pair M fun q B X=>?_);replace B:IsPair q b7 C b:=B;have z:∀c o,c≠b7→g.get? c=some o→q.get? c=some o:=fun c o h e=>X.extBut _ _ h e;refine wpAny_bind (wpAny_letGo (wpAny_pure ?_));refine wpAny_bind (wpAny_bind (wpAny_onRaise ?_));refine(?_ :wpAny _ _ (SmallTypes.nextOf (.ref k1)>>=_) _ _ _);have I:∀c o,c≠v→c≠j7→c≠b7→s.heap.get? c=some o→q.get? c=some o:=fun c o l5 b d e=>z _ _ d (J _ _ b (y _ _ l5 e));refine wpAny_bind (f.item _ n {s with heap:=q} g6 _ _ hy (f.frame _ _ _ h2 (fun o=>I _ o D.i2z D.i12.symm D.TOi2.symm) fun o=>I _ o D.l2z D.l2i1 D.l2TO) fun l a2 Y=>wpAny_pure ?_);have t:∀c o,c≠k1→q.get? c=some o→l.get? c=some o:=fun c o h e=>Y.extBut _ _ h e;have O:IsPair l b7 C b:=t _ _ D.TOi2 B;refine wpAny_bind (wpAny_seqItems O rfl ?_);refine wpAny_bind (wpAny_updateSeq_pair O fun i x Z=>?_);replace x:IsPair i b7 C g6:=x;have m:∀c o,c≠b7→l.get? c=some o→i.get? c=some o:=fun c o h e=>Z.extBut _ _ h e;refine wpAny_bind (wpAny_letGo (wpAny_pure (wpAny_pure ?_)));refine wpAny_bind (wpAny_seqItems x rfl ?_);refine wpAny_bind (wpAny_newTuple ?_);have P:i.objs.size=s.heap.objs.size:=by rw[Z.1,Y.1,X.1,U.1,T.1]
 have a5:IsZip i v TI b7 .ellipsis:=m _ _ D.TOz.symm (t _ _ D.i2z.symm (z _ _ D.TOz.symm (J _ _ D.i1z.symm F)));refine(?_ :wpAny _ _ (SmallTypes.ownedTupleHandOut (.ref v) (.ref i.objs.size)>>=_) _ _ _);rw[P];refine wpAny_bind ?_;unfold SmallTypes.ownedTupleHandOut;have a6:IsZip (i.push {cls:= .type "tuple",data:= .seq #[C,g6]}) v TI b7 .ellipsis:=Heap.get?_push_of_some _ a5;refine wpAny_bind (wpAny_setField_rec a6 (by simp) fun g7 G W=>?_);replace G:IsZip g7 v TI b7 (rawInt s.heap.objs.size):=G;refine wpAny_setField_rec G (by simp) fun w H N=>?_;replace H:IsZip w v TI b7 (rawInt s.heap.objs.size):=H;have p:∀c o,c≠v→i.get? c=some o→w.get? c=some o:=fun c o h e=>N.extBut _ _ h (W.extBut _ _ h (Heap.get?_push_of_some _ e));have Q:s.heap.objs.size≠v:=(a8 (by rw[show s.heap.get? v=_ from k];simp)).symm;have hT:IsPair w s.heap.objs.size C g6:=N.extBut _ _ Q (W.extBut _ _ Q (by rw[←P];exact Heap.get?_push_size _ rfl));refine wpAny_pure ⟨_,rfl,?_⟩;refine hQ w H (p _ _ D.TOz x) ?_ ?_ hT fun c o K L S R e=>p _ _ K (m _ _ L (t _ _ R (I _ _ K S L e)))
 ·exact a.frame _ _ _ a1 (fun o e=>p _ _ D.i1z (m _ _ D.TOi1.symm (t _ _ D.i12 (z _ _ D.TOi1.symm e)))) fun o e=>p _ _ D.l1z (m _ _ D.l1TO (t _ _ D.l1i2 (z _ _ D.l1TO e)))
 ·exact f.frame _ _ _ a2 (fun o e=>p _ _ D.i2z (m _ _ D.TOi2.symm e)) fun o e=>p _ _ D.l2z (m _ _ D.l2TO e)
theorem Ah{TI:Addr}(M:A.handled=none)(D:ZipApart v TI b7 j7 k1 l3 l4)(y:iZ a7 b4 j7 l3 d0 d9)(H:iZ a7 b4 k1 l4 g5 h4)(q:IsZip s.heap v TI b7 .none)(R:IsPair s.heap TI (.ref j7) (.ref k1))(V:IsPair s.heap b7 C g6)(N:d9 n s.heap)(S:h4 n s.heap)(a0:d0[n]? =none∨g5[n]? =none)(K:∀a e,(∀c o,c≠v→c≠b7→c≠j7→c≠k1→s.heap.get? c=some o→a.get? c=some o)→(∃o,a.get? e=some o∧o.cls= .type "StopIteration")→E (.ref e) {s with heap:=a}):
  wpAny (model a7 b4) A (Builtin.«zip.__next__» ⟨[.ref v],[]⟩) e5 E s:=by
 refine(?_ :wpAny _ _ (field (.ref v) 2>>=_) _ _ _);refine wpAny_bind (wpAny_field q rfl (x:= .bool false) rfl ?_);refine(?_ :wpAny _ _ (field (.ref v) 3>>=_) _ _ _);refine wpAny_bind (wpAny_field q rfl (x:= .ref TI) rfl ?_);refine wpAny_bind (wpAny_seqItems R rfl ?_);refine(?_ :wpAny _ _ (SmallTypes.ownedTupleIsFree (.ref v)>>=_) _ _ _);refine wpAny_bind ?_;unfold SmallTypes.ownedTupleIsFree;refine wpAny_bind (wpAny_field q rfl (x:= .none) rfl (wpAny_pure ?_));simp only[if_true];refine wpAny_bind (wpAny_rule ?_);refine wpAny_bind (wpAny_field q rfl (x:= .ref b7) rfl ?_);refine wpAny_bind (wpAny_setField_rec q (by simp) fun i t q1=>?_);replace t:IsZip i v TI b7 .ellipsis:=t;refine wpAny_bind ?_;simp only[List.zipIdx_cons,List.zipIdx_nil,List.forIn_cons,List.forIn_nil];refine wpAny_bind (wpAny_bind (wpAny_onRaise ?_));refine(?_ :wpAny _ _ (SmallTypes.nextOf (.ref j7)>>=_) _ _ _);have r:∀c o,c≠v→s.heap.get? c=some o→i.get? c=some o:=fun c o h e=>q1.extBut _ _ h e;have I:d9 n i:=y.frame _ _ _ N (fun o=>r _ o D.i1z) fun o=>r _ o D.l1z;rcases l:d0[n]? with _|x
 ·
  refine wpAny_bind (y.fin _ n {s with heap:=i} _ _ M l I fun k e u f=>?_);refine au f fun G b p=>?_;have O:IsZip k v TI b7 .ellipsis:=u _ _ D.i1z.symm t;have g:e≠v:=fun x=>by subst x;rw[O]at b;cases b;simp at p
  refine wpAny_setField_rec O (by simp) fun m J w=>K m e (fun c o j J z J x=>w.extBut _ _ j (u _ _ z (r _ _ j x))) ⟨G,w.extBut _ _ g b,p⟩
 ·
  have hy:g5[n]? =none:=by refine ay a0 (fun h=>?_) fun h=>?_;rw[l]at h;contradiction;exact h
  refine wpAny_bind (y.item _ n {s with heap:=i} x _ _ l I fun k a1 u=>wpAny_pure ?_);have F:∀c o,c≠j7→i.get? c=some o→k.get? c=some o:=fun c o h e=>u.extBut _ _ h e;have L:IsPair k b7 C g6:=F _ _ D.TOi1 (r _ _ D.TOz V);refine wpAny_bind (wpAny_seqItems L rfl ?_);refine wpAny_bind (wpAny_updateSeq_pair L fun m a2 w=>?_);have Q:∀c o,c≠b7→k.get? c=some o→m.get? c=some o:=fun c o h e=>w.extBut _ _ h e;refine wpAny_bind (wpAny_letGo (wpAny_pure ?_));refine wpAny_bind (wpAny_bind (wpAny_onRaise ?_));refine(?_ :wpAny _ _ (SmallTypes.nextOf (.ref k1)>>=_) _ _ _);have B:∀c o,c≠v→c≠j7→c≠b7→s.heap.get? c=some o→m.get? c=some o:=fun c o C g6 d e=>Q _ _ d (F _ _ g6 (r _ _ C e));refine wpAny_bind (H.fin _ n {s with heap:=m} _ _ M hy (H.frame _ _ _ S (fun o=>B _ o D.i2z D.i12.symm D.TOi2.symm) fun o=>B _ o D.l2z D.l2i1 D.l2TO) fun Z e T f=>?_);refine au f fun G b p=>?_;have P:IsZip Z v TI b7 .ellipsis:=T _ _ D.i2z.symm (Q _ _ D.TOz.symm (F _ _ D.i1z.symm t));have g:e≠v:=fun x=>by subst x;rw[P]at b;cases b;simp at p
  refine wpAny_setField_rec P (by simp) fun W J U=>K W e (fun c o j X z Y x=>U.extBut _ _ j (T _ _ Y (B _ _ j z X x))) ⟨G,U.extBut _ _ g b,p⟩
theorem rC{TI:Addr}(Z:A.handled=none)(D:ZipApart v TI b7 j7 k1 l3 l4)(l:iZ a7 b4 j7 l3 d0 d9)(B:iZ a7 b4 k1 l4 g5 h4):
  WalksT a7 b4 A v [v,TI,b7,j7,k1,l3,l4] [v,TI,b7,j7,k1] (min d0.size g5.size)
   (fun i a0=>∃x y,d0[i]? =some x∧g5[i]? =some y∧a0=#[x,y])
   (fun i h=>IsZip h v TI b7 .none∧IsPair h TI (.ref j7) (.ref k1)∧(∃a b,IsPair h b7 a b)∧d9 i h∧h4 i h)
   (fun i T h=>IsZip h v TI b7 (rawInt T)∧IsPair h TI (.ref j7) (.ref k1)∧(∃a b,IsPair h b7 a b)∧d9 (i+1) h∧h4 (i+1) h∧T≠v∧T≠TI∧T≠b7∧T≠j7∧T≠k1) where
 sub:=fun c d=>by simp at d⊢;rcases d with rfl|rfl|rfl|rfl|rfl<;>simp
 frame:=fun i h g f j=>by
  refine gr f fun m n u p q=>cP u fun a b t=>?_;exact gv (j v (by simp) _ m) (j TI (by simp) _ n) (⟨a,b,j b7 (by simp) _ t⟩) (l.frame _ _ _ p (fun o e=>j j7 (by simp) o e) fun o e=>j l3 (by simp) o e) (B.frame _ _ _ q (fun o e=>j k1 (by simp) o e) fun o e=>j l4 (by simp) o e)
 item:=fun i s Q E H f w=>by
  refine gr f fun m n u p q=>cP u fun a b t=>?_;have I:i<d0.size:=Nat.lt_of_lt_of_le H (Nat.min_le_left ..);have K:i<g5.size:=Nat.lt_of_lt_of_le H (Nat.min_le_right ..);have r:s.TypeIs (.ref v) "zip" :=⟨_,m,rfl⟩;have C:∀{c},s.heap.get? c≠none→s.heap.objs.size≠c:=fun{c} h=>by
   rcases e:s.heap.get? c with _|o
   ·exact absurd e h
   ·exact Nat.ne_of_gt (Heap.lt_size e)
  unfold pyNext;refine wpAny_bind (wpAny_attempt (wpAny_callSpecial?_slot (name:=Str.ofString "__next__") r F.slot_zip_next
   (wpAny_call_entry F.slot_zip_next r F.entry_zip_next
    (yC D l B m n t p q (Array.getElem?_eq_getElem I) (Array.getElem?_eq_getElem K) fun g L M O P U j=>wpAny_pure ?_) (F.args_zip_next_1 _))))
  exact w s.heap.objs.size #[d0[i],g5[i]] g s.toks ⟨_,_,Array.getElem?_eq_getElem I,Array.getElem?_eq_getElem K,rfl⟩ (Nat.le_refl _) ⟨_,U,rfl,_,rfl⟩
   ⟨L,j _ _ D.TIz D.TITO D.TIi1 D.TIi2 n,⟨_,_,M⟩,O,P,C (by rw[show s.heap.get? v=_ from m];simp),C (by rw[show s.heap.get? TI=_ from n];simp),C (by rw[show s.heap.get? b7=_ from t];simp),C (l.here _ _ p),C (B.here _ _ q)⟩
   fun c o d e=>j c o (fun x=>d (by simp[x])) (fun x=>d (by simp[x])) (fun x=>d (by simp[x])) (fun x=>d (by simp[x])) e
 go:=fun a1 k a2 i T s Q E G w=>by
  refine nG G fun m n u p q J=>cP u fun a b t=>?_;refine wpAny_letOwnedTupleGo_zip m fun g N z=>w g ⟨N,z.extBut _ _ D.TIz n,⟨a,b,z.extBut _ _ D.TOz t⟩,l.frame _ _ _ p (fun o e=>z.extBut _ _ D.i1z e) fun o e=>z.extBut _ _ D.l1z e,B.frame _ _ _ q (fun o e=>z.extBut _ _ D.i2z e) fun o e=>z.extBut _ _ D.l2z e⟩
   fun c o d e=>z.extBut _ _ (fun x=>d (by simp[x])) e
 apart:=fun i T h G r=>by
  refine B9 G fun J J J J J R S V t3 t4=>?_;simp at r;rcases r with rfl|rfl|rfl|rfl|rfl
  ·exact R rfl
  ·exact S rfl
  ·exact V rfl
  ·exact t3 rfl
  ·exact t4 rfl
 done:=fun s Q E f w=>by
  refine gr f fun m n u p q=>cP u fun a b t=>?_;have Y:d0[min d0.size g5.size]? =none∨g5[min d0.size g5.size]? =none:=by
   refine ay (Nat.le_total d0.size g5.size) (fun h=>?_) fun h=>?_
   ·exact .inl (by rw[Nat.min_eq_left h];exact Array.getElem?_eq_none (Nat.le_refl _))
   ·exact .inr (by rw[Nat.min_eq_right h];exact Array.getElem?_eq_none (Nat.le_refl _))
  have r:s.TypeIs (.ref v) "zip" :=⟨_,m,rfl⟩;unfold pyNext;refine wpAny_bind (wpAny_attempt (wpAny_callSpecial?_slot (name:=Str.ofString "__next__") r F.slot_zip_next
   (wpAny_call_entry F.slot_zip_next r F.entry_zip_next (Ah (A:=A.in1) Z D l B m n t p q Y fun g e j X=>?_) (F.args_zip_next_1 _))))
  refine au X fun o W d=>?_;refine wpAny_bind (wpAny_isInstance (T:="StopIteration") (b:=true) ⟨o,W,d⟩ isSubtype_stop ?_);exact wpAny_pure (w g s.toks fun c o d e=>j c o (fun x=>d (by simp[x])) (fun x=>d (by simp[x])) (fun x=>d (by simp[x])) (fun x=>d (by simp[x])) e)
 self:=fun i s Q E f w=>wpAny_pyIter_zip f.1 w
end
section
open Builtin
noncomputable def sq(h b:List D):List D:=(h.zip b).map fun p=> .tup [p.1,p.2]
noncomputable abbrev xW(h:Heap)(b:Addr):Heap:=h.push {cls:= .type "tuple_iterator",data:= .fields #[.ref b,.int 0 0]}
noncomputable abbrev xX(h:Heap)(b d:Addr):Heap:=(xW h b).push {cls:= .type "tuple_iterator",data:= .fields #[.ref d,.int 0 0]}
noncomputable abbrev xY(h:Heap)(b d:Addr):Heap:=(xX h b d).push {cls:= .type "tuple",data:= .seq #[.ref h.objs.size,.ref (xW h b).objs.size]}
noncomputable abbrev xZ(h:Heap)(b d:Addr):Heap:=(xY h b d).push {cls:= .type "tuple",data:= .seq #[.none,.none]}
noncomputable abbrev qk(h:Heap)(b d:Addr):Heap:=(xZ h b d).push {cls:= .type "zip",data:= .fields #[.none,.bool false,.bool false,.ref (xX h b d).objs.size,.ref (xY h b d).objs.size]}
set_option maxHeartbeats 2000000 in
theorem ql(b e:Addr)(k m:Array Value):
  Meets (Builtin.«zip.__new__» ⟨[.type "zip",.ref b,.ref e],[]⟩) (fun J R s=>s.heap.IsTuple b k∧s.heap.IsTuple e m∧
   R (.ok (.ret (.ref (xZ s.heap b e).objs.size))) {s with heap:=qk s.heap b e}):=
 .of_wp fun t w A R s h=>by
  obtain⟨i,g,d,j,os⟩:=s;refine ba h fun p q h=>?_;have r:=sub_zip;have n:Heap.IsTuple (Shared.heap ⟨i,g,d,j,os⟩) b k:=p;have o:Heap.IsTuple (Shared.heap ⟨i.push {cls:= .type "tuple_iterator",data:= .fields #[.ref b,.int 0 0]},g,d,j,os⟩) e m:=Heap.IsTuple.push q _
  wp_walk using wpAny_pyIter_tuple n,wpAny_pyIter_tuple o
  exact aF _ rfl h
theorem ri(r:s.heap.IsTuple v d0)(t:s.heap.IsTuple b7 g5)(h:∀b,IsZip b (s.heap.objs.size+4) (s.heap.objs.size+2) (s.heap.objs.size+3) .none→IsPair b (s.heap.objs.size+2) (.ref s.heap.objs.size) (.ref (s.heap.objs.size+1))→
   IsPair b (s.heap.objs.size+3) .none .none→b.IsTupleIter s.heap.objs.size v 0→b.IsTupleIter (s.heap.objs.size+1) b7 0→b.objs.size=s.heap.objs.size+5→
   (∀c o,s.heap.get? c=some o→b.get? c=some o)→V (.ref (s.heap.objs.size+4)) {s with heap:=b}):
  wpAny (model a7 b4) A (call (.type "zip") [.ref v,.ref b7]) V E s:=by
 refine callType_new F.called_zip (by decide) (F.typeCall_zip_2 _ _) (F.newCall_zip_2 _ _) (fun u=>F.args_object_init_3 u _ _) F.entry_zip_new
  (ql v b7 d0 g5) ⟨r,t,?_⟩
 have e:(xW s.heap v).objs.size=s.heap.objs.size+1:=Heap.size_push ..;have i:(xX s.heap v b7).objs.size=s.heap.objs.size+2:=by rw[Heap.size_push _ _,e]
 have j:(xY s.heap v b7).objs.size=s.heap.objs.size+3:=by rw[Heap.size_push _ _,i]
 have k:(xZ s.heap v b7).objs.size=s.heap.objs.size+4:=by rw[Heap.size_push _ _,j]
 have w:(qk s.heap v b7).objs.size=s.heap.objs.size+5:=by rw[Heap.size_push _ _,k]
 have d:(qk s.heap v b7).get? (xZ s.heap v b7).objs.size=some _:=Heap.get?_push_size _ rfl;have p:(qk s.heap v b7).get? (xY s.heap v b7).objs.size=some _:=Heap.get?_push_of_some _ (Heap.get?_push_size _ rfl);have n:(qk s.heap v b7).get? (xX s.heap v b7).objs.size=some _:=Heap.get?_push_of_some _ (Heap.get?_push_of_some _ (Heap.get?_push_size _ rfl));have m:(qk s.heap v b7).get? (xW s.heap v).objs.size=some _:=Heap.get?_push_of_some _ (Heap.get?_push_of_some _ (Heap.get?_push_of_some _ (Heap.get?_push_size _ rfl)));have q:(qk s.heap v b7).get? s.heap.objs.size=some _:=Heap.get?_push_of_some _ (Heap.get?_push_of_some _ (Heap.get?_push_of_some _ (Heap.get?_push_of_some _ (Heap.get?_push_size _ rfl))));refine(?_ :_∧_);rw[i,j,k]at d;rw[e,i]at n;rw[j]at p;rw[e]at m;rw[k];exact⟨⟨_,d,rfl⟩,h _ d n p ⟨_,q,rfl,rfl⟩ ⟨_,m,rfl,rfl⟩ w fun c o x=>
  Heap.get?_push_of_some _ (Heap.get?_push_of_some _ (Heap.get?_push_of_some _ (Heap.get?_push_of_some _ (Heap.get?_push_of_some _ x))))⟩
theorem aO.zip(u:lC c (Str.ofString "zip") (.type "zip"))(ha:ag c n e r [o,b0] [j,a5])(h1:j.bt=some l)(h2:a5.bt=some c7)(hg:e.names.lookup (Str.ofString "zip")=some .globalImplicit:=by rfl)(hs:noStar [o,b0]:=by rfl):
  aO c n e r (.Call (.Name (Str.ofString "zip") O) [o,b0] [] Y) (.Tuple B k b1) (sq l c7):=fun A b3 f s Q E a9 a0 y hQ=>by
 refine iu u (.type "zip") ha hg hs (by decide+kernel) a9 a0 y fun vs b f1 p e1=>?_;obtain⟨v,M,rfl,ev,w,M,rfl,ew,a1⟩:=e1;obtain rfl:M=[]:=a1;refine bR (ev.isList h1 (y.go p).gl p.sub) fun o P a8 m a hl K a3=>?_;subst m;refine bR (ew.isList h2 (y.go p).gl p.sub) fun b0 T n2 m g a6 L a4=>?_;subst m;have D:=zipApart_new (Heap.lt_size a) (Heap.lt_size g);have H:∀(i:Nat)(h:Heap),(IsZip h (b.heap.objs.size+4) (b.heap.objs.size+2) (b.heap.objs.size+3) .none∧IsPair h (b.heap.objs.size+2) (.ref b.heap.objs.size) (.ref (b.heap.objs.size+1))∧(∃o b0,IsPair h (b.heap.objs.size+3) o b0)∧(h.IsListIter b.heap.objs.size o i∧h.IsList o P)∧(h.IsListIter (b.heap.objs.size+1) b0 i∧h.IsList b0 T))→
   ∀b0∈[b.heap.objs.size+4,b.heap.objs.size+2,b.heap.objs.size+3,b.heap.objs.size,b.heap.objs.size+1],h.get? b0≠none:=fun i h W=>gr W fun q1 q2 m z U=>cP m fun x y q3=>ai z fun X J=>au X fun a0 ho J=>ai U fun Z J=>au Z fun o' a7 J=>
  List.forall_mem_cons.mpr ⟨by rw[show h.get? _=_ from q1];nofun,List.forall_mem_cons.mpr ⟨by rw[show h.get? _=_ from q2];nofun,List.forall_mem_cons.mpr ⟨by rw[show h.get? _=_ from q3];nofun,List.forall_mem_cons.mpr ⟨by rw[ho];nofun,List.forall_mem_singleton.mpr (by rw[a7];nofun)⟩⟩⟩⟩
 refine call_zip_2 hl a6 fun h' G N S R V b2 C=>wpAny_pyIter_zip G (It.fin (A:=A) hQ p (y.go p).gl C (h5:=[o,b0])
  (List.forall_mem_cons.mpr ⟨Nat.le_add_right _ _,List.forall_mem_cons.mpr ⟨Nat.le_add_right _ _,List.forall_mem_cons.mpr ⟨Nat.le_add_right _ _,List.forall_mem_cons.mpr ⟨Nat.le_refl _,Bk (Nat.le_succ _)⟩⟩⟩⟩)
  (fun hP=>kg.kK f1 (fun A hA=>rC hA D (iZ.list D.l1i1 P) (iZ.list D.l2i2 T)) ?_ (fun i d b4 t hp=>?_) hP H)
  ⟨G,N,⟨_,_,S⟩,⟨R,⟨_,C _ _ a,rfl,a8,rfl⟩⟩,⟨V,⟨_,C _ _ g,rfl,n2,rfl⟩⟩⟩ H (List.forall_mem_cons.mpr ⟨⟨_,a,a3⟩,List.forall_mem_singleton.mpr ⟨_,g,a4⟩⟩) (Nat.le_refl _))
 ·rw[sq,List.length_map _,List.length_zip,←K.length,←L.length];rfl
 ·refine dp hp fun x y hx hy m=>?_;subst m;rw[sq,List.getElem?_map,Option.map_eq_some_iff]at t;refine au t fun m F z=>?_;obtain⟨O,q⟩:=m;subst z;rw[List.getElem?_zip_eq_some]at F;refine au (K.get F.1) fun v u t=>?_;refine au (L.get F.2) fun v2 I a2=>?_;rw[Array.getElem?_toList,hx]at u;rw[Array.getElem?_toList,hy]at I;exact aF _ rfl (⟨_,_,rfl,Option.some.inj u▸t,_,_,rfl,Option.some.inj I▸a2,rfl⟩)
end
section
open Builtin
theorem mY(e:starEach [o] q=[(false,eval o q)])(h:wpAny b9 A (eval o q) (fun v s=>h7 [v] s) E s):wpAny b9 A (spliced (backTo O (starEach [o] q))) h7 E s:=by
 rw[e];refine(?_ :wpAny b9 A (do
  let v←eval o q
  let b←pure [v]
  return b++(←holding b (spliced (backTo O [])))) h7 E s)
 exact wpAny_bind (wpAny_mono h (fun v i d=>wpAny_bind (wpAny_pure (wpAny_bind (wpAny_holding (wpAny_pure (wpAny_pure d)))))) fun J J o=>o)
noncomputable def sr(c:Cx):Prop:=
 ∃o h b j d k e i m,c.K.lookup 51=some o∧o.data= .fields h∧h.getD 11 .none= .ref c.P∧h.getD 18 .none= .str b j∧h.getD 7 .none= .int d k∧h.getD 9 .none= .bool e∧h.getD 10 .none= .int i m
theorem Ai(P:sr c)(Q:q.code= .ref 51)(y:c.pl=O.line)(v:c.pc=O.col)(g:Gl c s.heap)(k:Sub c f s.heap)(t:∀code p,Go c f s f p→p.gens=s.gens→V code p):wpAny (model c.prog c.w) A (genexprCode q O x e) V E s:=by
 obtain⟨o,b,Z,tf,W,tg,a2,a3,tt,U,T,I,K,L,M,H⟩:=P;refine bM ?_;unfold genexprCode codeAt;rw[Q,if_neg (show ¬((Value.ref 51==Value.none)=true)from Bool.false_ne_true)];refine wpAny_bind (wpAny_fieldsOf (g.K _ _ U) T ?_);rw[I];refine ay g.tab (fun j=>?_) fun B=>ah B fun l j=>?_
 ·refine wpAny_bind (wpAny_fieldsOf j rfl ?_);have F:codeAmong O (#[]:Array Value).toList=none:=rfl;rw[F];dsimp only;rw[K,L,M,H];refine wpAny_bind (wpAny_newCode fun d Y r tk n N D S R=>?_);have z:=n _ _ j;refine wpAny_bind (wpAny_updateFieldsOfTheText z rfl ?_);have w:=Heap.get?_update_self (h:=r) (fun o=>Obj.mapFields (fun b=>if(codeAmong O b.toList).isSome=true then b else
   b++#[rawInt O.line,rawInt O.col,.ref d]) o) z rfl
  refine wpAny_bind (wpAny_fieldsOf w rfl ?_);have u:=Heap.SameBut.update (h:=r) (a:=c.P) (f:=fun o=>Obj.mapFields (fun b=>if(codeAmong O b.toList).isSome=true then b else
   b++#[rawInt O.line,rawInt O.col,.ref d]) o)
  have m:codeAmong O (#[rawInt O.line,rawInt O.col,Value.ref d]:Array Value).toList=some (.ref d):=by
   simp[codeAmong,rawInt]
  have G:codeAmong O ((fun b:Array Value=>if(codeAmong O b.toList).isSome=true then b else b++#[rawInt O.line,rawInt O.col,Value.ref d]) #[]).toList=some (.ref d):=m;rw[G];refine wpAny_pure fun X=>t _ _ ?_ rfl;refine⟨fun a o h a0=>(u.2 a h).trans (n a o a0),.inr ⟨j,d,by rw[y,v];exact w⟩,Nat.le_refl _,fun J J=>rfl,fun i a1 h a0=>?_,rfl,fun J J a0=>a0,fun J J=>rfl,fun a o a0=>⟨(k a o a0).1,(u.2 a (k a o a0).1).trans (n _ _ (k a o a0).2)⟩,X⟩;have C:s.gens[i]? =some a1:=a0;rw[Array.getElem?_eq_none h]at C;contradiction
 ·refine wpAny_bind (wpAny_fieldsOf j rfl ?_);have m:codeAmong O (#[rawInt c.pl,rawInt c.pc,Value.ref l]:Array Value).toList=some (.ref l):=by
   simp[codeAmong,rawInt,y,v]
  rw[m];exact wpAny_pure fun J=>t _ _ (Go.refl k) rfl
theorem su{Q:Addr→Shared→Prop}(g:Gl c s.heap)(k:Q builtinsNs s):wpAny (model c.prog c.w) A (builtinsFor mainGlobals v) Q E s:=by
 obtain⟨_,m,n,h,b,d,e,i,j⟩:=g.dig;unfold builtinsFor;refine wpAny_bind (wpAny_nsGet g.g ?_);rw[h];dsimp only;rw[if_neg (by simpa using b)];refine wpAny_bind (wpAny_load d ?_);rw[j,i];dsimp only;rw[e,if_pos (by decide)];exact wpAny_pure k
end
section
open Builtin
theorem Vals.of_get:∀{e:List D}{b:List Value},b.length=e.length→(∀(j:Nat) d v,e[j]? =some d→b[j]? =some v→Val c f d v)→Vals c f e b:=by
 intro L
 induction L with
 |nil=>intro b i J;exact List.length_eq_zero_iff.mp i
 |cons d e n=>
  intro b i h;rcases b with _|⟨v,b⟩
  ·exact nomatch i
  ·exact⟨v,b,rfl,h 0 d v rfl rfl,n (Nat.succ.inj i) fun j d v k m=>h (j+1) d v k m⟩
theorem lJ(b:lC c x C)(m:gy c C)(t:e.names.lookup x=some .globalImplicit)(u:noStar B)(p:(x==("__debug__" :Str))=false)(w:bJ n A)(o:bE q e)(y:St c f r q s)(h:wpAny (model c.prog c.w) A (spliced (backTo Y (starEach B q))) (fun v i=>c.K.In i.heap∧wpAny (model c.prog c.w) A (call C v) E V i) V s):wpAny (model c.prog c.w) A (eval (.Call (.Name x O) B [] Y) q) E V s:=by
 refine Call_ (Calls.Name_function_global (by rw[o.scope];exact o.kind) (by refine(?_ :q.scope.names.lookup x=_);rw[o.scope];exact t) ?_ p);have d:wpAny (model c.prog c.w) A (callWith Y C [] (backTo Y (starEach B q)) []) E V s:=
  ef m (eN u) h
 refine ay b (fun b=>?_) fun j=>ai j fun k b=>?_
 ·exact Calls.loadGlobal_global (by rw[o.globals];exact y.gl.g) b d
 ·exact Calls.loadGlobal_builtin (by rw[o.globals];exact y.gl.g) k (by rw[o.builtins];exact y.gl.b) b d
theorem mZ(n:Nat):passing (fun J=>true) n 0=List.range n:=by simp[passing]
theorem Ev.Bz{pt zp g5 b7:Pos}(hK:sr c)(e7:codeOf e=some 51)(hl:c.pl=b7.line)(hc:c.pc=b7.col)(g1:lC c (Str.ofString "tuple") (.type "tuple"))(g2:lC c (Str.ofString "zip") (.type "zip"))(ha:ag c (n+1) e r [o,b0] [.tup (h.map .int),.tup (b2.map .int)])(f9:h.length≤1000000)(e1:x≠a9)(e6:c8.isCoroutine=false)(e4:∀y∈c8.names,y.2≠ .cell)(h0:c8.names.lookup (".0" :Str)=some NameKind.local)(hi:c8.names.lookup x=some .local)(hj:c8.names.lookup a9=some .local)(c2:c8.kind= .function)(e8:(x==("__debug__" :Str))=false)(e9:(a9==("__debug__" :Str))=false)(e5:∀b5,closureFor c8 b5=pure [])(f1:e.names.lookup (Str.ofString "tuple")=some .globalImplicit)(f2:e.names.lookup (Str.ofString "zip")=some .globalImplicit)(f5:noStar [o,b0]):
  Ev c (n+1) e r (.Call (.Name (Str.ofString "tuple") O) [.GeneratorExp (.BinOp (.Name x k0) .Add (.Name a9 m2) n2) [⟨.Tuple [.Name x b1,.Name a9 f0] k pt,.Call (.Name (Str.ofString "zip") zp) [o,b0] [] g5,[],0⟩] c8 b7] [] Y)
   (.tup ((h.zip b2).map fun q=> .int (q.1+q.2))):=fun A b5 f s Q E a6 a1 y hQ=>by
 refine bM ?_;refine lJ g1 (.type "tuple") f1 rfl (by decide+kernel) a6 a1 y (mY rfl ?_);refine wpAny_GeneratorExp_walksQT (cl:=[]) a6.handled e6 (e5 b5) e4 h0 hi hj e1 c2 a6.lim ?_ (fun a2=>rfl);refine iu g2 (.type "zip") ha f2 f5 (by decide+kernel) a6 a1 y fun vs b V u R=>?_;obtain⟨v,d3,rfl,ev,w,d3,rfl,ew,a0⟩:=R;obtain rfl:d3=[]:=a0;refine dp (ev.isTup u.sub) fun ta Z g a4 c4=>?_;subst g;refine dp (ew.isTup u.sub) fun tb N g a5 c5=>?_;subst g;have M:=(y.go u).gl;refine au (id a4) fun oa f6 J=>?_;refine au (id a5) fun ob f7 J=>?_;have d0:ta<b.heap.objs.size:=Heap.lt_size f6;have d1:tb<b.heap.objs.size:=Heap.lt_size f7;have D:=zipApart_new d0 d1;refine ri (d0:=Z) (g5:=N) a4 a5 fun h' a8 d4 d5 d6 d7 g6 X=>wpAny_pyIter_zip a8 ?_;have G2:Go c f s V {b with heap:=h'}:=u.heap X M.cH;have b6:Gl c h':=(y.go G2).gl;refine⟨b6.lim,Ai hK (a1.code _ e7) hl hc b6 G2.sub fun code p S d8=>?_⟩;have P:=S.gl b6;rw[a1.globals];refine su P ?_;have b9:(c.P:Nat)<b.heap.objs.size:=M.xN;have b4:∀b0∈[b.heap.objs.size+4,b.heap.objs.size+2,b.heap.objs.size+3,b.heap.objs.size,b.heap.objs.size+1],b.heap.objs.size≤b0:=fun b0 i=>by
  simp only[List.mem_cons,List.not_mem_nil,or_false]at i;rcases i with rfl|rfl|rfl|rfl|rfl<;>first|exact Nat.le_refl _|exact Nat.le_add_right _ _
 have C:∀b0 ob,b0≠c.P→h'.get? b0=some ob→p.heap.get? b0=some ob:=S.keep;have T:∀b0,b.heap.objs.size≤b0→b0≠c.P:=fun b0 i=>Nat.ne_of_gt (Nat.lt_of_lt_of_le b9 i);have K:b.heap.objs.size+4<p.heap.objs.size:=Heap.lt_size (C _ _ (T _ (Nat.le_add_right _ _)) a8);have g4:IsZip p.heap (b.heap.objs.size+4) (b.heap.objs.size+2) (b.heap.objs.size+3) .none∧IsPair p.heap (b.heap.objs.size+2) (.ref b.heap.objs.size) (.ref (b.heap.objs.size+1))∧(∃o b0,IsPair p.heap (b.heap.objs.size+3) o b0)∧
   (p.heap.IsTupleIter b.heap.objs.size ta 0∧p.heap.IsTuple ta Z)∧(p.heap.IsTupleIter (b.heap.objs.size+1) tb 0∧p.heap.IsTuple tb N):=
  ⟨C _ _ (T _ (Nat.le_add_right _ _)) a8,C _ _ (T _ (Nat.le_add_right _ _)) d4,⟨_,_,C _ _ (T _ (Nat.le_add_right _ _)) d5⟩,
   ⟨d6.at fun a1 a0=>C _ _ (T _ (Nat.le_refl _)) a0,Heap.IsTuple.at a4 fun a1 a0=>C _ _ (by
    refine bA (id a4) fun o' c3 c0 J=>?_;exact M.ne_of_cls c3 (by rw[c0];nofun)) (X _ _ a0)⟩,
   ⟨d7.at fun a1 a0=>C _ _ (T _ (Nat.le_add_right _ _)) a0,Heap.IsTuple.at a5 fun a1 a0=>C _ _ (by
    refine bA (id a5) fun o' c3 c0 J=>?_;exact M.ne_of_cls c3 (by rw[c0];nofun)) (X _ _ a0)⟩⟩
 have f3:min Z.size N.size=(h.zip b2).length:=by
  have z:=c4.length;have H:=c5.length;rw[List.length_zip];simp at z H;rw[z,H]
 refine⟨b.heap.objs.size+4,[b.heap.objs.size+4,b.heap.objs.size+2,b.heap.objs.size+3,b.heap.objs.size,b.heap.objs.size+1,ta,tb],[b.heap.objs.size+4,b.heap.objs.size+2,b.heap.objs.size+3,b.heap.objs.size,b.heap.objs.size+1],
  (h.zip b2).length,_,_,_,fun J=>true,fun m v=>∃q t,(h.zip b2)[m]? =some q∧v= .int (q.1+q.2) t,rfl,fun A' hA=>f3▸(rC hA D (iZ.tup D.l1i1 Z) (iZ.tup D.l2i2 N)).toU,fun m g8 hp=>?_,g4,fun b0 i=>?_,P.lim,fun F=>?_,fun g7 hr=>?_,fun ga h5 tk U e3 c9 f8 c1 W G0=>?_⟩
 ·refine dp hp fun a2 y J J g=>?_;subst g;exact r2 a2 y rfl
 ·simp only[List.mem_cons,List.not_mem_nil,or_false]at i;have q3:b.heap.objs.size<p.heap.objs.size:=Nat.lt_of_le_of_lt (Nat.le_add_right _ 4) K;rcases i with rfl|rfl|rfl|rfl|rfl|rfl|rfl
  ·exact K
  ·exact Nat.lt_of_le_of_lt (Nat.add_le_add_left (by decide) _) K
  ·exact Nat.lt_of_le_of_lt (Nat.add_le_add_left (by decide) _) K
  ·exact q3
  ·exact Nat.lt_of_le_of_lt (Nat.add_le_add_left (by decide) _) K
  ·exact Nat.lt_trans d0 q3
  ·exact Nat.lt_trans d1 q3
 ·refine au M.lim fun mc G J=>?_;exact Nat.lt_irrefl _ (Nat.lt_of_lt_of_le G.lt (b4 _ F))
 ·refine⟨fun A' E' m a2 y a7 g3 hA hp G z H J=>wpAny_pure ⟨rfl,a7.heap,a7.toks,rfl,fun J J a0=>a0⟩,fun A' E' m a2 y a7 g3 hA hp J G z H J=>?_⟩;refine dp hp fun x' y' L hy a0=>?_;obtain⟨rfl,rfl⟩:a2=x'∧y=y':=by simpa using congrArg Array.toList a0
  have l:Z.toList[m]? =some a2:=by simpa using L
  have d2:N.toList[m]? =some y:=by simpa using hy
  have lx:m<h.length:=by
   have:=(List.getElem?_eq_some_iff.mp l).1;rw[c4.length,List.length_map]at this;exact this
  have ly:m<b2.length:=by
   have:=(List.getElem?_eq_some_iff.mp d2).1;rw[c5.length,List.length_map]at this;exact this
  obtain⟨v1,R,t1,rfl⟩:=c4.get (i:=m) (d:= .int h[m]) (by simp[lx]);obtain⟨v2,e2,t2,rfl⟩:=c5.get (i:=m) (d:= .int b2[m]) (by simp[ly]);rw[l]at R;cases R;rw[d2]at e2;cases e2;refine wpAny_BinOp (wpAny_Name (wpAny_loadName_local (by refine(?_ :c8.kind=_);exact c2) (by refine(?_ :c8.names.lookup x=_);exact hi) G z (wpAny_Name (wpAny_loadName_local (by refine(?_ :c8.kind=_);exact c2) (by refine(?_ :c8.names.lookup a9=_);exact hj) G H ?_) e9)) e8);exact PyProof.Rows.add_int ⟨⟨(h[m],b2[m]),_,by rw[List.getElem?_zip_eq_some];simp[lx,ly],rfl⟩,a7.heap,_,rfl,fun J J a0=>a0⟩
 ·have d9:∀b0 a1,b.heap.get? b0=some a1→b0≠c.P→h5.get? b0=some a1:=fun b0 a1 a0 i=>c1 _ _ (C _ _ i (X _ _ a0));refine⟨fun b0 a1 a0=>c1 _ _ (P.K b0 a1 a0),?_⟩;have G:(passing (fun J=>true) (h.zip b2).length 0).length=(h.zip b2).length:=by rw[mZ _,List.length_range]
  refine call_tuple_gen (hsz:=by rw[G,List.length_zip,sizeLine_eq];omega) W.in4_3 (fun m st e0=>e0.1.typeIs) G0 (fun b0 i=>?_) List.mem_cons_self (fun j b3 F c7 g0=>?_)
  ·refine(?_ :b0<h5.objs.size);rw[f8];refine memC i (fun q=>?_) fun i=>?_
   ·rw[q];exact Nat.lt_succ_self _
   ·refine memC i (fun q=>?_) fun i=>?_
    ·rw[q];exact Nat.lt_succ_of_lt c9
    ·exact Nat.lt_succ_of_lt (Nat.lt_trans (List.mem_range.mp i) c9)
  ·have kz:∀b0 a1,b.heap.get? b0=some a1→b0≠c.P→j.heap.get? b0=some a1:=fun b0 a1 a0 i=>F.heap b0 a1 (fun hw=>by
    have lt:b0<b.heap.objs.size:=Heap.lt_size a0;refine memC hw (fun q=>?_) fun q=>?_
    ·exact Nat.lt_irrefl _ (Nat.lt_trans K (q▸Nat.lt_of_lt_of_le lt (Nat.le_add_right _ 4)))
    ·exact Nat.lt_irrefl _ (Nat.lt_of_lt_of_le lt (b4 _ q))) (d9 b0 a1 a0 i)
   have a3:j.heap.get? c.P=p.heap.get? c.P:=by
    refine ah P.cH fun a1 B=>?_;rw[B];refine F.heap _ _ (fun hw=>?_) (c1 _ _ B);refine memC hw (fun q=>?_) fun q=>?_
    ·exact Nat.lt_irrefl _ (Nat.lt_trans K (q▸Nat.lt_of_lt_of_le b9 (Nat.le_add_right _ 4)))
    ·exact Nat.lt_irrefl _ (Nat.lt_of_lt_of_le b9 (b4 _ q))
   have c6:j.heap.objs.size≠c.P:=by
    refine ah P.cH fun a1 B=>?_;rw[B]at a3;exact Nat.ne_of_gt (Heap.lt_size a3)
   have fN:V j.heap.objs.size=none:=by
    rcases a0:V j.heap.objs.size with _|a1
    ·rfl
    ·
     have z:=u.sub _ _ a0;exact absurd (Heap.lt_size (kz _ _ z.2 z.1)) (Nat.lt_irrefl _)
   have up:∀b0 a1,j.heap.get? b0=some a1→(j.heap.push {cls:= .type "tuple",data:= .seq b3}).get? b0=some a1:=fun b0 a1 a0=>Heap.get?_push_of_some _ a0;have I:p.gens=b.gens:=d8;have gq:∀m,m<b.gens.size→j.gens[m]? =b.gens[m]? :=fun m a=>by
    refine ay F.gens (fun q=>?_) fun g=>ai g fun J2 J=>ai J2 fun q q2=>?_
    ·rw[q];refine(?_ :(p.gens.push U)[m]? =_);rw[I,Array.getElem?_push_lt a,Array.getElem?_eq_getElem a]
    ·rw[q2 m (by rw[I];(exact Nat.ne_of_lt ‹_›))];refine(?_ :(p.gens.push U)[m]? =_);rw[I,Array.getElem?_push_lt a,Array.getElem?_eq_getElem a]
   have gz:j.gens.size=b.gens.size+1:=by
    refine ay F.gens (fun q=>?_) fun g=>ai g fun J2 J=>ai J2 fun q q2=>?_
    ·rw[q];refine(?_ :(p.gens.push U).size=_);rw[I,Array.size_push _]
    ·rw[q];refine(?_ :(p.gens.push U).size=_);rw[I,Array.size_push _]
   have gb:∀a2,j.gens[b.gens.size]? =some a2→a2.bare=true:=fun a2 L=>by
    refine ay F.gens (fun q=>?_) fun g=>ai g fun J q2=>?_
    ·rw[q]at L;have l:(p.gens.push U)[b.gens.size]? =some a2:=L;rw[I,Array.getElem?_push_size]at l;cases l;exact e3
    ·exact q2 a2 (by rw[I];exact L)
   refine hQ _ _ (V.add j.heap.objs.size {cls:= .type "tuple",data:= .seq b3}) ⟨fun b0 a1 i a0=>up _ _ (kz _ _ (u.keep b0 a1 i a0) i),?_,?_,fun m a=>?_,fun m a2 a L=>?_,?_,fun b0 a1 a0=>FH.fm fN b0 a1 (u.ext b0 a1 a0),fun b0 i=>?_,fun b0 a1 a0=>?_,g0⟩ ⟨_,_,0,b3,rfl,FH.aR ..,rfl,rfl,Vals.of_get ?_ fun m d v hd hv=>?_⟩
   ·refine u.tab.trans (fa.trans (.inl (by refine ah M.cH fun a1 B=>?_;rw[B];exact X _ _ B)) (S.tab.trans (.inl ?_)));refine(?_ :(j.heap.push _).get? c.P=p.heap.get? c.P);refine ah P.cH fun a1 B=>?_;rw[B]at a3⊢;exact up _ _ a3
   ·refine(?_ :s.gens.size≤j.gens.size);have:=u.aD;lia
   ·refine(?_ :j.gens[m]? =_);rw[gq m (Nat.lt_of_lt_of_le a u.aD)];exact u.gens m a
   ·have l:j.gens[m]? =some a2:=L;refine gu (Nat.lt_trichotomy m b.gens.size) (fun q=>?_) (fun q=>?_) fun q=>?_
    ·rw[gq m q]at l;exact u.bare m a2 a l
    ·subst q;exact gb a2 l
    ·rw[Array.getElem?_eq_none (by lia)]at l;contradiction
   ·refine(?_ :j.os=s.os);rw[F.os];refine(?_ :p.os=s.os);rw[S.os];exact u.os
   ·rw[FH.dh]
    ·exact u.old b0 i
    ·rintro rfl;have z:=u.has i;rcases a0:b.heap.get? j.heap.objs.size with _|a1
     ·exact z a0
     ·
      by_cases hP:j.heap.objs.size=c.P
      ·exact c6 hP
      ·exact absurd (Heap.lt_size (kz _ _ a0 hP)) (Nat.lt_irrefl _)
   ·by_cases i:b0=j.heap.objs.size
    ·subst i;rw[FH.aR]at a0;cases a0;exact⟨c6,Heap.get?_push_size _ rfl⟩
    ·rw[FH.dh i]at a0;have z:=u.sub b0 a1 a0;exact⟨z.1,up _ _ (kz _ _ z.2 z.1)⟩
   ·rw[Array.length_toList,c7.1,G,List.length_map _]
   ·obtain⟨m',a,q,t,hq,rfl⟩:=c7.2 m v (by simpa using hv);rw[mZ]at a;have f4:m=m':=by
     have:=List.getElem?_eq_some_iff.mp a;refine ah this fun z H=>?_;simpa using H
    subst f4;rw[List.getElem?_map,hq]at hd;cases hd;exact⟨t,rfl⟩
end
noncomputable def cb(b:List (Str×m))(k:Str)(v:m):List (Str×m):=
 if b.any (fun h=>h.1=k)then b.map (fun h=>if h.1=k then(h.1,v)else h)else b++[(k,v)]
noncomputable def aC(h:m→D)(l:List (Str×m)):List (Str×D):=l.map fun p=>(p.1,h p.2)
theorem dN(h:m→D)(l:List (Str×m))(k:Str)(v:m):dD (aC h l) k (h v)=aC h (cb l k v):=by
 unfold dD cb aC;have e:(List.map (fun p=>(p.1,h p.2)) l).any (fun b=>b.1=k)=l.any (fun b=>b.1=k):=by
  rw[List.any_map];rfl
 rw[e];split
 ·rw[List.map_map,List.map_map];refine List.map_congr_left fun p J=>?_;refine(?_ :(if p.1=k then(p.1,h v)else(p.1,h p.2))=((if p.1=k then(p.1,v)else p).1,h (if p.1=k then(p.1,v)else p).2));split<;>rfl
 ·rw[List.map_append];rfl
theorem lookup_enc(h:m→D)(l:List (Str×m))(k:Str):(aC h l).lookup k=(l.lookup k).map h:=by
 induction l with
 |nil=>rfl
 |cons p r b=>
  refine(?_ :List.lookup k ((p.1,h p.2)::aC h r)=(List.lookup k (p::r)).map h);rw[List.lookup_cons,List.lookup_cons,b];split<;>rfl
theorem hB(l:List (Str×m))(k:Str)(v:m):(cb l k v).length≤l.length+1:=by
 unfold cb;split<;>simp
noncomputable def fV(t a:List (Str×m)):List (Str×m):=t.foldl (fun a p=>cb a p.1 p.2) a
noncomputable def fb(h:m→m→m)(a:List (Str×m))(p:Str×m):List (Str×m):=cb a p.1 (match a.lookup p.1 with|some v=>h v p.2|none=>p.2)
noncomputable def dO(h:m→m→m)(t s:List (Str×m)):List (Str×m):=s.foldl (fb h) (fV t [])
theorem ma(h:∀a,(p8 a).ey=p8 a):∀l:List (Str×m),iF (aC p8 l)=aC p8 l:=by
 intro L
 induction L with
 |nil=>
  exact rfl
 |cons p r b=>
  refine(?_ :(p.1,(p8 p.2).ey)::iF (aC p8 r)=(p.1,p8 p.2)::aC p8 r);rw[h _,b]
theorem eJ(h:∀a,Clean (p8 a)):∀l:List (Str×m),dQ (aC p8 l):=by
 intro L
 induction L with
 |nil=>
  exact trivial
 |cons p r b=>
  exact⟨h p.2,b⟩
theorem ja(h:m→D)(l:List (Str×m)):(aC h l).map (fun p=>D.tup [.str p.1,p.2])=l.map fun p=>D.tup [.str p.1,h p.2]:=by
 unfold aC;rw[List.map_map];rfl
theorem qm(d:∀p∈r,p.2=none):∀z b,(z,some b)∈(x,some j)::(a9,some a5)::r→(z,b)∈[x,a9].zip [j,a5]:=fun z b h=>by
 refine memC h (fun q=>?_) fun q=>?_
 ·cases q;exact List.mem_cons_self
 ·refine memC q (fun q=>?_) fun q=>?_
  ·cases q;exact List.mem_cons_of_mem _ List.mem_cons_self
  ·have:=d _ q;contradiction
theorem eO.pair:eO (.Tuple [.Name x O,.Name a9 Y] n b1) (.tup [j,a5]) [(x,j),(a9,a5)]:=
 .tup (b:=[(x,j)]++([(a9,a5)]++[])) (.cons .name (.cons .name .nil))
theorem sy(e:x∈p)(i:x∉y.map (·.1))(k:a9∈p)(m:a9∉y.map (·.1)):∀z∈([(x,j),(a9,a5)]:List (Str×D)).map (·.1),z∈p∧z∉y.map (·.1):=fun z h=>by
 have:z=x∨z=a9:=by simpa using h
 refine ay this (fun b=>?_) fun d=>?_
 ·subst b;exact⟨e,i⟩
 ·subst d;exact⟨k,m⟩
theorem md:∀(t a:List (Str×m)),(fV t a).length≤a.length+t.length:=by
 intro L
 induction L with
 |nil=>
  intro a;simp[fV]
 |cons p t h=>
  intro a;have b:=h (cb a p.1 p.2);have d:=hB a p.1 p.2;refine(?_ :(fV t (cb a p.1 p.2)).length≤_);simp only[List.length_cons];lia
theorem me(a:List (Str×m))(p:Str×m):(fb p6 a p).length≤a.length+1:=hB _ _ _
theorem cY(h:(r.all fun p=>p.1 !=x||p.2.isNone)=true):∀d,(x,some d)∉r:=fun d b=>by
 have:=List.all_eq_true.mp h _ b;simp at this
structure bp(c:Cx):Prop extends Std c where
 code:sr c
 pl:c.pl=23
 pc:c.pc=42
theorem gG(S:bp c)(k:Nat)(t s:List (Str×Int))(r:t.length+s.length≤1000000):ak c.bare (k+2) (.ref 52) [.dict (aC .int t),.dict (aC .int s)] (.dict (aC .int (dO (· +·) t s))):=by
 have j:[N "target",N "source",N "func",N "caller"].Nodup:=by decide+kernel
 have b:∀l:List (Str×Int),dQ (aC .int l):=eJ fun J=>trivial;refine ak.lX S.toStd (p:=[N "target",N "source"]) (h2:=[N "target",N "source",N "new_callers",N "func",N "caller"]) (r:=[(N "target",some (.dict (aC .int t))),(N "source",some (.dict (aC .int s))),(N "func",none),(N "caller",none)]) rfl rfl (fq.of rfl rfl rfl rfl rfl rfl rfl (fun x h=>?_) rfl (by decide+kernel) rfl rfl (by intro a e;cases e;rfl)) rfl (qm (by simp)) ?_
 ·refine cP (xR h) fun v w n=>?_;subst n;rfl
 dsimp only;refine Wp.cons (av.gF (j:= .bW []) ig.nU (aa 2 rfl) (by exact cC rfl) (cY (by kernel_rfl)) (fun J=>rfl)) ?_;refine Wp.cons (a6:=[(N "target",some (.dict (aC .int t))),(N "source",some (.dict (aC .int s))),(N "func",none),(N "caller",none)]) (c9:=[(N "new_callers",.bW (aC .int (fV t [])))]) (av.for (aO.items (u:=aC .int t) (Ev.name (aa 0 rfl)) rfl) (by
  rw[ja _ _];refine ez.fold (e7:=Str×Int) (m:=List (Str×Int)) (fun p=> .tup [.str p.1,.int p.2]) (fun a p=>cb a p.1 p.2) (fun a=>[(N "target",some (.dict (aC .int t))),(N "source",some (.dict (aC .int s))),(N "func",none),(N "caller",none)]) (fun a=>[(N "new_callers",.bW (aC .int a))]) (fun a l=>a.length+l.length≤1000000) (fun a p l h=>⟨?_,?_⟩) t [] (by simp;lia)
  ·have:=hB a p.1 p.2;simp only[List.length_cons]at h;lia
  ·exact .mk eO.pair (.cons (by exact ar 2 rfl) (.cons (by exact ar 3 rfl) .nil)) (sy (aa 3 rfl) (by exact cu (by decide+kernel) (cC rfl)) (aa 4 rfl) (by exact cu (by decide+kernel) (cC rfl))) (by exact j) (Wp.cons (av.kR (a9:=p.1) (j:= .int p.2) (by rw[dN];exact .head) (b a) trivial (fun u=>Ev.name (ab (aa 3 rfl))) (fun u=>Ev.name (ab (aa 2 rfl))) (by unfold aC;rw[List.length_map _];lia) (fun J=>rfl)) Wp.nil) (by exact bG rfl))) ?_
 have o:=md t ([]:List (Str×Int));simp only[List.length_nil,Nat.zero_add]at o;refine Wp.cons (a6:=[(N "target",some (.dict (aC .int t))),(N "source",some (.dict (aC .int s))),(N "func",none),(N "caller",none)]) (c9:=[(N "new_callers",.bW (aC .int (dO (· +·) t s)))]) (av.for (aO.items (u:=aC .int s) (Ev.name (aa 1 rfl)) rfl) (by
  rw[ja _ _];refine ez.fold (e7:=Str×Int) (m:=List (Str×Int)) (fun p=> .tup [.str p.1,.int p.2]) (fb (· +·)) (fun a=>[(N "target",some (.dict (aC .int t))),(N "source",some (.dict (aC .int s))),(N "func",none),(N "caller",none)]) (fun a=>[(N "new_callers",.bW (aC .int a))]) (fun a l=>a.length+l.length≤1000000) (fun a p l h=>⟨?_,?_⟩) s (fV t []) (by lia)
  ·have:=me (p6:=(· +·)) a p;simp only[List.length_cons]at h;lia
  ·have m:(aC D.int a).length≤1000000:=by unfold aC;rw[List.length_map _];lia
   refine .mk (ρ2:=[(N "target",some (.dict (aC .int t))),(N "source",some (.dict (aC .int s))),(N "func",some (.str p.1)),(N "caller",some (.int p.2))]) eO.pair (.cons (by exact ar 2 rfl) (.cons (by exact ar 3 rfl) .nil)) (sy (aa 3 rfl) (by exact cu (by decide+kernel) (cC rfl)) (aa 4 rfl) (by exact cu (by decide+kernel) (cC rfl))) (by exact j) (Wp.cons (av.if (Q:=((aC D.int a).lookup p.1).isSome) (fun u=>?_) (fun h=>?_) (fun h=>?_)) Wp.nil) (by exact bG rfl)
   ·exact br.cmp (Ev.name (j:= .str p.1) (ab (aa 2 rfl))) (Ev.name (j:= .bW (aC .int a)) (cB (aa 0 rfl))) (aB.inDict rfl) (by kernel_rfl)
   ·rw[lookup_enc,Option.isSome_map]at h;refine ah (Option.isSome_iff_exists.mp h) fun v i=>?_;refine Wp.cons (av.if (Q:=false) (fun u=>br.val (Ev.call (S.b rfl (by decide+kernel)) (.builtin "isinstance") (ag.cons (Ev.name (j:= .int p.2) (ab (aa 3 rfl))) (ag.cons (Ev.glob (C:= .type "tuple") (j:= .ty "tuple") (S.b rfl (by decide+kernel)) (fun f=>rfl)) ag.nil)) ak.yj) jY.bool) (fun h=>nomatch h) (fun J=>?_)) Wp.nil;refine Wp.cons (av.Bn (a9:=p.1) (j:= .int v) (a5:= .int p.2) (i7:= .int (v+p.2)) ?_ (b a) trivial (fun u=>Ev.name (ab (aa 2 rfl))) m (by rw[lookup_enc _ _ _,i];rfl) (fun u=>Ev.name (ab (aa 3 rfl))) (fun u=>gn.add)) Wp.nil;unfold fb;rw[dN,i];exact .head
   ·rw[lookup_enc,Option.isSome_map]at h;have i:a.lookup p.1=none:=by simpa using h
    refine Wp.cons (av.kR (a9:=p.1) (j:= .int p.2) ?_ (b a) trivial (fun u=>Ev.name (ab (aa 3 rfl))) (fun u=>Ev.name (ab (aa 2 rfl))) m (fun J=>rfl)) Wp.nil;unfold fb;rw[dN,i];exact .head)) ?_
 refine dC.freeze ?_;simp only[sa,pV,ma (p8:=D.int) fun J=>rfl];exact Wp.ret (av.return (fun u=>Ev.name (ab (aa 0 rfl))) (b _))
noncomputable def bu(l:List Int):D:= .tup (l.map .int)
noncomputable def fW(v w:List Int):List Int:=(w.zip v).map fun q=>q.1+q.2
theorem sz:∀l:List Int,aS (l.map D.int):=by
 intro L
 induction L with
 |nil=>
  exact trivial
 |cons J r h=>
  exact⟨trivial,h⟩
theorem tV:∀l:List Int,fE (l.map D.int)=l.map D.int:=by
 intro L
 induction L with
 |nil=>
  exact rfl
 |cons i r h=>
  refine(?_ :D.int i::fE (r.map D.int)=_);rw[h];rfl
theorem du(l:List Int):Clean (bu l):=sz l
theorem qo(l:List Int):(bu l).ey=bu l:=by
 refine(?_ :D.tup (fE (l.map D.int))=_);rw[tV _];rfl
theorem om(S:bp c)(k:Nat)(t s:List (Str×List Int))(r:∀p∈s,p.2.length≤1000000)(g:t.length+s.length≤1000000):ak c.bare (k+2) (.ref 52) [.dict (aC bu t),.dict (aC bu s)] (.dict (aC bu (dO fW t s))):=by
 have m:[N "target",N "source",N "func",N "caller"].Nodup:=by decide+kernel
 have i:∀l:List (Str×List Int),dQ (aC bu l):=eJ du;refine ak.lX S.toStd (p:=[N "target",N "source"]) (h2:=[N "target",N "source",N "new_callers",N "func",N "caller"]) (r:=[(N "target",some (.dict (aC bu t))),(N "source",some (.dict (aC bu s))),(N "func",none),(N "caller",none)]) rfl rfl (fq.of rfl rfl rfl rfl rfl rfl rfl (fun A h=>?_) rfl (by decide+kernel) rfl rfl (by intro a e;cases e;rfl)) rfl (qm (by simp)) ?_
 ·refine cP (xR h) fun v w o=>?_;subst o;rfl
 dsimp only;refine Wp.cons (av.gF (j:= .bW []) ig.nU (aa 2 rfl) (by exact cC rfl) (cY (by kernel_rfl)) (fun J=>rfl)) ?_;refine Wp.cons (a6:=[(N "target",some (.dict (aC bu t))),(N "source",some (.dict (aC bu s))),(N "func",none),(N "caller",none)]) (c9:=[(N "new_callers",.bW (aC bu (fV t [])))]) (av.for (aO.items (u:=aC bu t) (Ev.name (aa 0 rfl)) rfl) (by
  rw[ja _ _];refine ez.fold (e7:=Str×List Int) (m:=List (Str×List Int)) (fun p=> .tup [.str p.1,bu p.2]) (fun a p=>cb a p.1 p.2) (fun a=>[(N "target",some (.dict (aC bu t))),(N "source",some (.dict (aC bu s))),(N "func",none),(N "caller",none)]) (fun a=>[(N "new_callers",.bW (aC bu a))]) (fun a l=>a.length+l.length≤1000000) (fun a p l h=>⟨?_,?_⟩) t [] (by simp;lia)
  ·have:=hB a p.1 p.2;simp only[List.length_cons]at h;lia
  ·exact .mk eO.pair (.cons (by exact ar 2 rfl) (.cons (by exact ar 3 rfl) .nil)) (sy (aa 3 rfl) (by exact cu (by decide+kernel) (cC rfl)) (aa 4 rfl) (by exact cu (by decide+kernel) (cC rfl))) (by exact m) (Wp.cons (av.kR (a9:=p.1) (j:=bu p.2) (by rw[dN];exact .head) (i a) (du _) (fun u=>Ev.name (ab (aa 3 rfl))) (fun u=>Ev.name (ab (aa 2 rfl))) (by unfold aC;rw[List.length_map _];lia) (fun J=>rfl)) Wp.nil) (by exact bG rfl))) ?_
 have x:=md t ([]:List (Str×List Int));simp only[List.length_nil,Nat.zero_add]at x;refine Wp.cons (a6:=[(N "target",some (.dict (aC bu t))),(N "source",some (.dict (aC bu s))),(N "func",none),(N "caller",none)]) (c9:=[(N "new_callers",.bW (aC bu (dO fW t s)))]) (av.for (aO.items (u:=aC bu s) (Ev.name (aa 1 rfl)) rfl) (by
  rw[ja _ _];refine ez.fold (e7:=Str×List Int) (m:=List (Str×List Int)) (fun p=> .tup [.str p.1,bu p.2]) (fb fW) (fun a=>[(N "target",some (.dict (aC bu t))),(N "source",some (.dict (aC bu s))),(N "func",none),(N "caller",none)]) (fun a=>[(N "new_callers",.bW (aC bu a))]) (fun a l=>a.length+l.length≤1000000∧∀p∈l,p.2.length≤1000000) (fun a p l b=>⟨?_,?_⟩) s (fV t []) ⟨by lia,r⟩
  ·have:=me (p6:=fW) a p;have h:=b.1;simp only[List.length_cons]at h;exact⟨by lia,fun q y=>b.2 q (List.mem_cons_of_mem _ y)⟩
  ·have h:=b.1;simp only[List.length_cons]at h;have n:(aC bu a).length≤1000000:=by unfold aC;rw[List.length_map _];lia
   refine .mk (ρ2:=[(N "target",some (.dict (aC bu t))),(N "source",some (.dict (aC bu s))),(N "func",some (.str p.1)),(N "caller",some (bu p.2))]) eO.pair (.cons (by exact ar 2 rfl) (.cons (by exact ar 3 rfl) .nil)) (sy (aa 3 rfl) (by exact cu (by decide+kernel) (cC rfl)) (aa 4 rfl) (by exact cu (by decide+kernel) (cC rfl))) (by exact m) (Wp.cons (av.if (Q:=((aC bu a).lookup p.1).isSome) (fun u=>?_) (fun h=>?_) (fun h=>?_)) Wp.nil) (by exact bG rfl)
   ·exact br.cmp (Ev.name (j:= .str p.1) (ab (aa 2 rfl))) (Ev.name (j:= .bW (aC bu a)) (cB (aa 0 rfl))) (aB.inDict rfl) (by kernel_rfl)
   ·rw[lookup_enc,Option.isSome_map]at h;refine ah (Option.isSome_iff_exists.mp h) fun v j=>?_;refine Wp.cons (av.if (Q:=true) (fun u=>br.val (Ev.call (S.b rfl (by decide+kernel)) (.builtin "isinstance") (ag.cons (Ev.name (j:=bu p.2) (ab (aa 3 rfl))) (ag.cons (Ev.glob (C:= .type "tuple") (j:= .ty "tuple") (S.b rfl (by decide+kernel)) (fun f=>rfl)) ag.nil)) ak.yk) jY.bool) (fun J=>?_) (fun h=>nomatch h)) Wp.nil;refine Wp.cons (av.kR (a9:=p.1) (j:=bu (fW v p.2)) ?_ (i a) (du _) (fun u=>?_) (fun u=>Ev.name (ab (aa 2 rfl))) n (fun J=>rfl)) Wp.nil
    ·unfold fb;rw[dN,j];exact .head
    ·have e:bu (fW v p.2)= .tup ((p.2.zip v).map fun q=>D.int (q.1+q.2)):=by
      unfold bu fW;rw[List.map_map];rfl
     rw[e];exact Ev.Bz S.code rfl S.pl S.pc (S.b rfl (by decide+kernel)) (S.b rfl (by decide+kernel))
      (ag.cons (Ev.name (ab (aa 3 rfl))) (ag.cons (Ev.sub (Ev.name (j:= .bW (aC bu a)) (cB (aa 0 rfl))) (Ev.name (j:= .str p.1) (ab (aa 2 rfl))) (az.dict rfl (by rw[lookup_enc _ _ _,j];rfl))) ag.nil))
      (b.2 p List.mem_cons_self) (by decide+kernel) rfl (by decide+kernel) (by decide+kernel) (by decide+kernel) (by decide+kernel) rfl (by decide+kernel) (by decide+kernel) (fun z=>rfl) (by decide+kernel) (by decide+kernel) rfl
   ·rw[lookup_enc,Option.isSome_map]at h;have j:a.lookup p.1=none:=by simpa using h
    refine Wp.cons (av.kR (a9:=p.1) (j:=bu p.2) ?_ (i a) (du _) (fun u=>Ev.name (ab (aa 3 rfl))) (fun u=>Ev.name (ab (aa 2 rfl))) n (fun J=>rfl)) Wp.nil;unfold fb;rw[dN,j];exact .head)) ?_
 refine dC.freeze ?_;simp only[sa,pV,ma qo];exact Wp.ret (av.return (fun u=>Ev.name (ab (aa 0 rfl))) (i _))
noncomputable def kn:Bool→List Nat→List Nat
 |_,[]=>[]
 |cr,c::r=>if c=13 then 13::10::kn true r else if c=10 then(if cr then kn false r else 13::10::kn false r)else c::kn false r
theorem v7:kn Q []=[]:=rfl
theorem oo:kn Q (n::i)=if n=13 then 13::10::kn true i else if n=10 then(if Q then kn false i else 13::10::kn false i)else n::kn false i:=rfl
noncomputable abbrev norm(l:List Nat):List Nat:=kn false l
noncomputable def bT:Bool→List Nat→List Nat
 |_,[]=>[]
 |b,c::r=>if b&&c==46 then 46::46::bT false r else c::bT (c==10) r
theorem tX:bT Q []=[]:=rfl
theorem ko:bT Q (n::i)=if Q&&n==46 then 46::46::bT false i else n::bT (n==10) i:=rfl
theorem kp(h:n≠13)(b:n≠10):norm (n::i)=n::norm i:=(if_neg h).trans (if_neg b)
theorem Aj(h:i.headD 0≠10):norm (13::i)=13::10::norm i:=by
 refine congrArg (fun z=>13::10::z) (?_ :kn true i=_);rcases i with _|⟨c,i⟩
 ·rfl
 ·unfold norm;rw[oo,oo];rw[if_neg h,if_neg h]
theorem kq(h:i.drop n=k::b6):i.toArray.getD n 0=k∧i.toArray.getD (n+1) 0=b6.headD 0∧n<i.length∧i.drop (n+1)=b6:=by
 have e:∀a0,i.toArray.getD (n+a0) 0=(k::b6).getD a0 0:=fun a0=>by
  rw[←h,Array.getD_eq_getD_getElem?,List.getElem?_toArray,List.getD_eq_getElem?_getD,List.getElem?_drop]
 refine cp (e 0) ((e 1).trans ?_) (Nat.lt_of_not_le fun q=>?_) (by rw[←List.drop_drop,h];rfl)
 ·rcases b6 with _|_<;>rfl
 ·rw[List.drop_of_length_le q]at h;contradiction
theorem tY(h:n<i.length):∃c r,i.drop n=c::r:=⟨_,_,List.drop_eq_getElem_cons h⟩
theorem Dh(l:List Nat):Rw (jr l.toArray) l [13,10] fun d=>norm (l.drop d) where
 fin:=by rw[List.drop_length];rfl
 no:=fun d c r h e=>by
  refine bQ (kq h) fun j m k i=>?_;unfold jr at e;rw[j]at e;rw[h,i];exact kp (fun q=>by rw[q]at e;revert e;rw[if_pos rfl];split<;>nofun) (fun q=>by rw[q]at e;contradiction)
 yes:=fun d n s e=>by
  refine cP (tY s) fun c r h=>?_;refine bQ (kq h) fun j m k i=>?_;unfold jr at e;rw[j,m]at e;rw[h];by_cases q:c=13
  ·subst q;by_cases b:r.headD 0=10
   ·rw[b]at e;obtain rfl:2=n:=Option.some.inj e;rcases r with _|⟨c,r⟩
    ·contradiction
    ·obtain rfl:c=10:=b;refine bQ (kq i) fun J J o p=>?_;exact bx (by decide) o (by rw[show d+2=d+1+1 from rfl,p];rfl)
   ·rw[if_pos (beq_self_eq_true 13),if_neg (fun z=>b (eq_of_beq z))]at e;obtain rfl:1=n:=Option.some.inj e;exact bx (by decide) k (by rw[i,Aj b];rfl)
  ·rw[if_neg (fun z=>q (eq_of_beq z))]at e;by_cases b:c=10
   ·subst b;obtain rfl:1=n:=Option.some.inj e;exact bx (by decide) k (by rw[i];rfl)
   ·rw[if_neg (fun z=>b (eq_of_beq z))]at e;contradiction
theorem Di(l:List Nat):Rw (jq l.toArray) l [46,46] fun d=>bT (d==0||l.toArray.getD (d-1) 0==10) (l.drop d) where
 fin:=by rw[List.drop_length];rfl
 no:=fun d c r h e=>by
  refine bQ (kq h) fun i o k j=>?_;unfold jq at e;rw[i]at e;rw[h,j,Nat.add_sub_cancel _ _,i];rcases b:((d==0||l.toArray.getD (d-1) 0==10)&&c==46)with _|_
  ·exact if_neg (by rw[b];decide)
  ·rw[b]at e;contradiction
 yes:=fun d n p e=>by
  refine cP (tY p) fun c r h=>?_;refine bQ (kq h) fun i o k j=>?_;unfold jq at e;rw[i]at e;rcases b:((d==0||l.toArray.getD (d-1) 0==10)&&c==46)with _|_
  ·rw[b]at e;contradiction
  ·have m:c=46:=eq_of_beq (Bool.and_eq_true_iff.mp b).2;rw[b]at e;obtain rfl:1=n:=Option.some.inj e;refine bx (by decide) k ?_;rw[h,j,Nat.add_sub_cancel _ _,i,m];exact if_pos (m▸b)
theorem Cs(l:List Nat)(b:l.length≤1000000):rB C3 l [13,10] (norm l):= .mk (Dh l) (N:=40) (by decide) (fun d h=>Cp h) rfl
theorem Ak(l:List Nat)(b:l.length≤1000000):rB C1 l [46,46] (bT true l):= .mk (Di l) (N:=8*1000001+8) (by decide) (fun d h=>(Cn h).le (Nat.add_le_add_right (Nat.mul_le_mul_left 8 (Nat.le_trans (Nat.sub_le _ _) (Nat.succ_le_succ (by rw[List.size_toArray];exact b)))) 8)) rfl
theorem v8(l:List Str):(Builtin.Str.glued Str.empty l).cps.toList=l.flatMap (·.cps.toList):=by
 rcases l with _|⟨y,r⟩
 ·rfl
 ·exact congrArg Array.toList (qf r y.cps.toList)
theorem kr:∀(l:List Nat)(b:Bool),(kn b l).length≤2*l.length:=by
 intro L
 induction L with
 |nil=>
  intro b;exact Nat.zero_le _
 |cons c r d=>
  intro b;have h:=d false;have e:=d true;rw[oo];rw[List.length_cons,Nat.mul_add _ _ _];split
  ·exact Nat.add_le_add_right e 2
  ·split
   ·split
    ·exact Nat.le_add_right_of_le h
    ·exact Nat.add_le_add_right h 2
   ·exact Nat.le_succ_of_le (Nat.succ_le_succ h)
theorem mf:∀(l:List Nat)(b:Bool),(bT b l).length≤2*l.length:=by
 intro L
 induction L with
 |nil=>
  intro b;exact Nat.zero_le _
 |cons c r h=>
  intro b;rw[ko];rw[List.length_cons,Nat.mul_add _ _ _];split
  ·exact Nat.add_le_add_right (h false) 2
  ·exact Nat.le_succ_of_le (Nat.succ_le_succ (h (c==10)))
theorem pG(h:x.cps.toList=i):x=S i:=by
 cases x;subst h;rfl
theorem B0(l:List Nat):(S l).cps.size=l.length:=List.size_toArray
theorem aE(l:List Nat):(S l).length=l.length:=B0 l
theorem CP(h:bp c):oV c.K 92 C1 0:= .mk (ca:=91) (by rw[h.K];rfl) (by rw[h.K];rfl) rfl (by decide+kernel)
theorem CQ(h:bp c):oV c.K 97 C1 1:= .mk (ca:=96) (by rw[h.K];rfl) (by rw[h.K];rfl) rfl (by decide+kernel)
theorem Ct(h:bp c):oV c.K 102 C3 0:= .mk (ca:=101) (by rw[h.K];rfl) (by rw[h.K];rfl) rfl (by decide+kernel)
theorem tZ(d:bp c)(l:List Nat)(i:l.length≤400000)(j:Ev (c.wo f) (n+1) e r o (.str (S l)))(m:e.names.lookup (N "_twin_re_3")=some .globalImplicit)(p:e.names.lookup (N "CRLF")=some .globalImplicit)(s:noStar [.Name (N "CRLF") f0,o])(t:∀b,starEach [.Name (N "CRLF") f0,o] b=(false,eval (.Name (N "CRLF") f0) b)::starEach [o] b)(u:∀b,starEach [o] b=(false,eval o b)::starEach [] b)(k:lB b1 [.Name (N "CRLF") f0,o])(q:(Y.endLine==b1.line)=true):
  Ev (c.wo f) (n+1) e r (.Call (.Attribute (.Name (N "_twin_re_3") O) "sub" Y) [.Name (N "CRLF") f0,o] [] b1) (.str (S (norm l))):=
 have h:=Nat.le_trans i (by decide:_≤1000000)
 Ev.sk (CO (by decide+kernel)) (Cs l h) (v:=102) (d.g (by kernel_rfl)) (Ct (c:=c) d) (ag.cons (Ev.glob (C:= .str (N "\r\n") 450) (d.g (by kernel_rfl)) (fun a0=>⟨450,by kernel_rfl⟩) p (by decide+kernel)) (ag.cons j ag.nil u) t) (.inl rfl) h (Nat.le_trans (kr l false) (Nat.le_trans (Nat.mul_le_mul_left 2 i) (by decide))) m (by decide+kernel) s (fun J=>rfl) k q
theorem mh(b:bp c)(k:Nat)(l:List Nat)(d:l.length≤400000):ak c.bare (k+2) (.ref 109) [.str (S l)] (.str (S (bT true (norm l)))):=by
 refine ak.lX b.toStd (p:=[N "data"]) (h2:=[N "data"]) (r:=[(N "data",some (.str (S l)))]) rfl rfl (fq.of rfl rfl rfl rfl rfl rfl rfl (fun n h=>?_) rfl (by decide+kernel) rfl rfl (by intro a e;cases e)) rfl (dZ (by simp)) ?_
 ·refine ah (List.length_eq_one_iff.mp h) fun v m=>?_;subst m;rfl
 dsimp only;have i:(norm l).length≤800000:=Nat.le_trans (kr l false) (Nat.mul_le_mul_left 2 d);have j:=Nat.le_trans i (by decide:_≤1000000);exact Wp.ret (av.return (fun u=>Ev.sk (CO (by decide+kernel)) (Ak (norm l) j) (v:=92) (b.g (by kernel_rfl)) (CP (c:=c) b) (ag.cons (Ev.cast Ev.aN (congrArg D.str (by decide+kernel))) (ag.cons (tZ b l d (Ev.name (ab (aa 0 rfl))) rfl rfl rfl (fun J=>rfl) (fun J=>rfl) (fun J=>rfl) rfl) ag.nil)) (.inl rfl) j (Nat.le_trans (mf (norm l) true) (Nat.le_trans (Nat.mul_le_mul_left 2 i) (by decide)))) trivial)
theorem yD(b:bp c)(k:Nat)(l:List Nat)(i:l.length≤400000):ak c.bare (k+2) (.ref 123) [.str (S l)] (.str (S (norm l))):=by
 refine ak.lX b.toStd (p:=[N "data"]) (h2:=[N "data"]) (r:=[(N "data",some (.str (S l)))]) rfl rfl (fq.of rfl rfl rfl rfl rfl rfl rfl (fun j h=>?_) rfl (by decide+kernel) rfl rfl (by intro a e;cases e)) rfl (dZ (by simp)) ?_
 ·refine ah (List.length_eq_one_iff.mp h) fun v d=>?_;subst d;rfl
 dsimp only;exact Wp.ret (av.return (fun u=>tZ b l i (Ev.name (ab (aa 0 rfl))) rfl rfl rfl (fun J=>rfl) (fun J=>rfl) (fun J=>rfl) rfl) trivial)
theorem oW(h:n<128):Str.utf8Of n=[n.toUInt8]:=if_pos h
theorem rD(h:¬n<128)(e:n<55296):Str.utf8Of n≠ []∧(Str.utf8Of n).length≤3∧∀x∈(Str.utf8Of n).map (·.toNat),128≤x:=by
 have d:∀k<64,128≤(128+k) % 256:=by decide
 have i:=d (n % 64) (Nat.mod_lt _ (by decide));by_cases b:n<2048
 ·rw[show Str.utf8Of n=[(0xC0+n / 64).toUInt8,(0x80+n % 64).toUInt8]from(if_neg h).trans (if_pos b)];exact bx nofun (Nat.le_succ 2) (List.forall_mem_cons.mpr ⟨(by decide:∀k<32,128≤(192+k) % 256) _ (Nat.div_lt_of_lt_mul b),List.forall_mem_singleton.mpr i⟩)
 ·rw[show Str.utf8Of n=[(0xE0+n / 4096).toUInt8,(0x80+n / 64 % 64).toUInt8,(0x80+n % 64).toUInt8]from(if_neg h).trans ((if_neg b).trans (if_pos (Nat.lt_trans e (by decide))))];exact bx nofun (Nat.le_refl 3) (List.forall_mem_cons.mpr ⟨(by decide:∀k<14,128≤(224+k) % 256) _ (Nat.div_lt_of_lt_mul (Nat.lt_trans e (by decide))),List.forall_mem_cons.mpr ⟨d _ (Nat.mod_lt _ (by decide)),List.forall_mem_singleton.mpr i⟩⟩)
theorem qp(h:128≤n):bT Q (n::i)=n::bT false i:=by
 have b:(n==46)=false:=beq_false_of_ne (Nat.ne_of_gt (Nat.lt_of_lt_of_le (by decide) h));have d:(n==10)=false:=beq_false_of_ne (Nat.ne_of_gt (Nat.lt_of_lt_of_le (by decide) h));rw[ko,b,d,Bool.and_false _];rfl
theorem t7(r:List Nat):∀(a:List Nat)(b:Bool),a≠ []→(∀c∈a,128≤c)→bT b (a++r)=a++bT false r:=by
 intro L
 induction L with
 |nil=>intro J h J;exact absurd rfl h
 |cons c a i=>
  intro b J h;refine(qp (h c List.mem_cons_self)).trans (congrArg (c::·) ?_);by_cases e:a=[]
  ·rw[e];rfl
  ·exact i false e fun x d=>h x (List.mem_cons_of_mem _ d)
noncomputable abbrev qr(l:List Nat):List Nat:=(utf8 l).map (·.toNat)
theorem oq(c:Nat)(r:List Nat):qr (c::r)=(Str.utf8Of c).map (·.toNat)++qr r:=List.map_append
theorem t8(l:List Nat):(∀c∈l,c<55296)→∀b,bT b (qr l)=qr (bT b l):=by
 induction l with
 |nil=>intro J b;rfl
 |cons c r d=>
  intro h b;have d:=d fun x m=>h x (List.mem_cons_of_mem _ m);by_cases i:c<128
  ·have e:∀z,qr (c::z)=c::qr z:=fun z=>by
    rw[oq _ _,oW i];exact congrArg (· ::qr z) (Nat.mod_eq_of_lt (Nat.lt_trans i (by decide)))
   rw[e _,ko,ko];split
   ·rw[d _];rfl
   ·rw[d _,e _]
  ·refine ba (rD i (h c List.mem_cons_self)) fun j J k=>?_;rw[oq _ _,t7 _ _ _ (fun q=>j (List.map_eq_nil_iff.mp q)) k,d _,qp (Nat.le_of_not_lt i),oq _ _]
theorem rE:∀(l:List Nat),(∀c∈l,c<55296)→(utf8 l).length≤3*l.length:=by
 intro L
 induction L with
 |nil=>
  intro J;exact Nat.zero_le _
 |cons c r e=>
  intro h;have b:(Str.utf8Of c).length≤3:=by
   by_cases q:c<128
   ·rw[oW q];exact Nat.le_add_left 1 2
   ·exact(rD q (h c List.mem_cons_self)).2.1
  rw[show utf8 (c::r)=Str.utf8Of c++utf8 r from rfl,List.length_append,List.length_cons,Nat.mul_add _ _ _,Nat.add_comm _ _];exact Nat.add_le_add (e fun x d=>h x (List.mem_cons_of_mem _ d)) b
theorem x1(l:List Nat):b8 (qr l)=(utf8 l).toArray:=by
 rw[b8,List.map_map];exact congrArg List.toArray ((List.map_congr_left fun b J=>UInt8.ofNat_toNat).trans (List.map_id _))
theorem qs(d:bp c)(k:Nat)(l:List Nat)(n:l.length≤300000)(i:∀x∈l,x<55296):ak c.bare (k+2) (.ref 116) [.bytes (utf8 l).toArray] (.bytes (utf8 (bT true l)).toArray):=by
 refine ak.lX d.toStd (p:=[N "bindata"]) (h2:=[N "bindata"]) (r:=[(N "bindata",some (.bytes (utf8 l).toArray))]) rfl rfl (fq.of rfl rfl rfl rfl rfl rfl rfl (fun p h=>?_) rfl (by decide+kernel) rfl rfl (by intro a e;cases e)) rfl (dZ (by simp)) ?_
 ·refine ah (List.length_eq_one_iff.mp h) fun v b=>?_;subst b;rfl
 dsimp only;have j:(qr l).length≤900000:=by rw[List.length_map _];exact Nat.le_trans (rE l i) (Nat.mul_le_mul_left 3 n)
 have m:=Nat.le_trans j (by decide:_≤1000000);refine Wp.ret (av.return (fun u=>?_) trivial);rw[←x1 _,←x1 _,←t8 l i _];exact Ev.sk (Dg (by decide+kernel)) (Ak (qr l) m) (v:=97) (d.g (by kernel_rfl)) (CQ (c:=c) d) (ag.cons (Ev.cast Ev.Bi (congrArg D.bytes (by decide+kernel))) (ag.cons (Ev.name (ab (aa 0 rfl))) ag.nil)) (.inr fun x o=>by
  refine bZ o fun y J b=>?_;subst b;exact y.toNat_lt) m (Nat.le_trans (mf (qr l) true) (Nat.le_trans (Nat.mul_le_mul_left 2 j) (by decide)))
theorem cU.CS(h:cU B u):kh B (u.map (·.2)) u:=by
 induction h with
 |nil=>exact .nil
 | @cons x p d B r _ e=>exact .cons (b:=[(x,d)]) (b':=r) .name e
theorem cU.asg(h:cU B u):eO (.Tuple B n O) (.tup (u.map (·.2))) u:= .tup h.CS
theorem t9{os:List Str}(e:u.map (·.1)=h2)(d:y.map (·.1)=os)(h:(h2.all fun x=>p.contains x&& !os.contains x)=true):∀x∈u.map (·.1),x∈p∧x∉y.map (·.1):=fun x b=>by
 rw[e]at b;have:=List.all_eq_true.mp h x b;rw[d];simpa using this
noncomputable def iG(a b c d:Int)(l:List (Str×List Int)):D:= .tup [.int a,.int b,.int c,.int d,.dict (aC bu l)]
set_option maxHeartbeats 1000000 in
theorem hM(x:bp c)(k:Nat)(b i j m n o q r:Int)(t s:List (Str×List Int))(A:∀p∈s,p.2.length≤1000000)(B:t.length+s.length≤1000000):
  ak c.bare (k+4) (.ref 45) [iG b i j m t,iG n o q r s] (iG (n+b) (o+i) (q+j) (r+m) (dO fW t s)):=by
 have y:∀l:List (Str×List Int),dQ (aC bu l):=eJ du;have f:[N "target",N "source",N "cc",N "nc",N "tt",N "ct",N "callers",N "t_cc",N "t_nc",N "t_tt",N "t_ct",N "t_callers"].Nodup:=by decide+kernel
 have z:∀(b i j m:Int)(t:List (Str×List Int)),Clean (iG b i j m t):=fun b i j m t=>⟨trivial,trivial,trivial,trivial,y t,trivial⟩;refine ak.lX x.toStd (p:=[N "target",N "source"]) (h2:=[N "target",N "source",N "cc",N "nc",N "tt",N "ct",N "callers",N "t_cc",N "t_nc",N "t_tt",N "t_ct",N "t_callers"])
  (r:=[(N "target",some (iG b i j m t)),(N "source",some (iG n o q r s)),(N "cc",none),(N "nc",none),(N "tt",none),(N "ct",none),(N "callers",none),(N "t_cc",none),(N "t_nc",none),(N "t_tt",none),(N "t_ct",none),(N "t_callers",none)]) rfl rfl (fq.of rfl rfl rfl rfl rfl rfl rfl (fun C h=>?_) rfl (by decide+kernel) rfl rfl (by intro a e;cases e)) rfl (qm (by simp)) ?_
 ·refine cP (xR h) fun v w g=>?_;subst g;rfl
 dsimp only;refine Wp.cons (av.jF (j:=iG n o q r s) (u:=[(N "cc",.int n),(N "nc",.int o),(N "tt",.int q),(N "ct",.int r),(N "callers",.dict (aC bu s))]) (fun u=>Ev.name (ab (aa 1 rfl))) (z _ _ _ _ _) (cU.asg (.cons (.cons (.cons (.cons (.cons .nil)))))) (.cons (ar 2 rfl) (.cons (ar 3 rfl) (.cons (ar 4 rfl) (.cons (ar 5 rfl) (.cons (ar 6 rfl) .nil))))) (t9 rfl rfl (by kernel_rfl)) (f) (fun J=>rfl) (fun J=>rfl)) ?_;refine Wp.cons (av.jF (j:=iG b i j m t) (u:=[(N "t_cc",.int b),(N "t_nc",.int i),(N "t_tt",.int j),(N "t_ct",.int m),(N "t_callers",.dict (aC bu t))]) (fun u=>Ev.name (ab (aa 0 rfl))) (z _ _ _ _ _) (cU.asg (.cons (.cons (.cons (.cons (.cons .nil)))))) (.cons (ar 7 rfl) (.cons (ar 8 rfl) (.cons (ar 9 rfl) (.cons (ar 10 rfl) (.cons (ar 11 rfl) .nil))))) (t9 rfl rfl (by kernel_rfl)) (f) (fun J=>rfl) (fun J=>rfl)) ?_;refine Wp.ret (av.return (fun u=>?_) (z _ _ _ _ _));refine Ev.tuple (ag.cons (Ev.bin (Ev.name (ab (aa 2 rfl))) (Ev.name (ab (aa 7 rfl))) aJ.add) (ag.cons (Ev.bin (Ev.name (ab (aa 3 rfl))) (Ev.name (ab (aa 8 rfl))) aJ.add) (ag.cons (Ev.bin (Ev.name (ab (aa 4 rfl))) (Ev.name (ab (aa 9 rfl))) aJ.add) (ag.cons (Ev.bin (Ev.name (ab (aa 5 rfl))) (Ev.name (ab (aa 10 rfl))) aJ.add) (ag.cons ?_ ag.nil))))) (by refine(?_ :5≤1000000);decide);exact Ev.call (x.g (by kernel_rfl)) (.fn (x.fn rfl) rfl) (ag.cons (Ev.name (ab (aa 11 rfl))) (ag.cons (Ev.name (ab (aa 6 rfl))) ag.nil)) (ak.wo (om x k t s A B) ⟨y _,y _,trivial⟩ (y _))
noncomputable def js(x:Str):D:=if(splitM x (N "'") 2).length≤2 then .tup [.none,.none,.str x]else .list ((splitM x (N "'") 2).map .str)
theorem ik:∀l:List Str,aS (l.map D.str):=by
 intro L
 induction L with
 |nil=>
  exact trivial
 |cons J r h=>
  exact⟨trivial,h⟩
theorem ka(i:bp c)(k:Nat)(x:Str)(n:x.length≤1000000)(o:(splitM x (N "'") 2).length≤1000):ak c.bare (k+3) (.ref 87) [.str x] (js x):=by
 have m:[N "s",N "parts"].Nodup:=by decide+kernel
 refine ak.lX i.toStd (p:=[N "s"]) (h2:=[N "s",N "parts"]) (r:=[(N "s",some (.str x)),(N "parts",none)]) rfl rfl (fq.of rfl rfl rfl rfl rfl rfl rfl (fun p h=>?_) rfl (by decide+kernel) rfl rfl (by intro a e;cases e)) rfl (dZ (by simp)) ?_
 ·refine ah (List.length_eq_one_iff.mp h) fun v j=>?_;subst j;rfl
 dsimp only;refine Wp.cons (av.assign (j:= .list ((splitM x (N "'") 2).map .str)) (fun u=>Ev.iA (Ev.name (j:= .str x) (ab (aa 0 rfl))) gA.str PySem.F.slot_str_split (ag.cons (Ev.glob (C:= .str (N "'") 332) (j:= .str (N "'")) (i.g (by kernel_rfl)) (fun f=>⟨_,rfl⟩)) (ag.cons Ev.int ag.nil)) (ak.splitMax (by decide) (by decide+kernel) n (by lia))) (ik _) (ar 1 rfl) (aa 1 rfl) (cC rfl) (m) (fun J=>rfl)) ?_;unfold js;by_cases h:(splitM x (N "'") 2).length≤2
 ·rw[if_pos h];refine Wp.ret (av.if (Q:=decide (((List.map D.str (splitM x (N "'") 2)).length:Int)≤2)) (fun u=>br.cmp (Ev.call (i.b rfl (by decide+kernel)) (.builtin "len") (ag.cons (Ev.name (ab (aa 1 rfl))) ag.nil) (ak.fs rfl (by rw[List.length_map _];lia))) Ev.int aB.CF) (fun J=>?_) (fun b=>?_))
  ·exact Wp.ret (av.return (fun u=>Ev.tuple (ag.cons Ev.iy (ag.cons Ev.iy (ag.cons (Ev.name (ab (aa 0 rfl))) ag.nil)))) ⟨trivial,trivial,trivial,trivial⟩)
  ·rw[List.length_map]at b;have:=of_decide_eq_false b;lia
 ·rw[if_neg h];refine Wp.cons (av.if (Q:=decide (((List.map D.str (splitM x (N "'") 2)).length:Int)≤2)) (fun u=>br.cmp (Ev.call (i.b rfl (by decide+kernel)) (.builtin "len") (ag.cons (Ev.name (ab (aa 1 rfl))) ag.nil) (ak.fs rfl (by rw[List.length_map _];lia))) Ev.int aB.CF) (fun b=>?_) (fun J=>Wp.nil)) ?_
  ·rw[List.length_map]at b;have:=of_decide_eq_true b;omega
  ·exact Wp.ret (av.return (fun u=>Ev.name (ab (aa 1 rfl))) (ik _))
noncomputable def BA(y:Str):Str:=(Str.ofString "{" ++S (bf y.cps.toList (some 1) (some (-1)) none))++Str.ofString "}"
noncomputable def lK(x:Str)(n:Int)(y:Str):Str:=
 if(x==N "~" &&n==0)=true then(if(Txt.startswith y (N "<")&&Txt.endswith y (N ">"))=true then BA y else y)
 else x++Str.ofString ":" ++Str.ofString (toString n)++Str.ofString "(" ++y++Str.ofString ")"
theorem rF(x:Str)(n:Int):PyData.eqv (D.tup [.str x,.int n]).py (D.tup [.str (N "~"),.int 0]).py=(x==N "~" &&n==0):=by
 simp[eC,eD,eE,eF,eG,eH,eI,fR,fH,PyData.eqv,PyData.eqvAll]
theorem ot(p:bp c)(k:Nat)(x y:Str)(n:Int)(g:x.length≤1000)(w:y.length≤1000)(s:0≤n)(t:n<10 ^ 10)(z:PyData.strOk x=true):ak c.bare (k+4) (.ref 38) [.tup [.str x,.int n,.str y]] (.str (lK x n y)):=by
 have r:[N "func_name",N "name"].Nodup:=by decide+kernel
 refine ak.lX p.toStd (p:=[N "func_name"]) (h2:=[N "func_name",N "name"]) (r:=[(N "func_name",some (.tup [.str x,.int n,.str y])),(N "name",none)]) rfl rfl (fq.of rfl rfl rfl rfl rfl rfl rfl (fun A h=>?_) rfl (by decide+kernel) rfl rfl (by intro a e;cases e)) rfl (dZ (by simp)) ?_
 ·refine ah (List.length_eq_one_iff.mp h) fun v o=>?_;subst o;rfl
 dsimp only;have f:(S (bf y.cps.toList (some 1) (some (-1)) none)).length≤1000:=by
  rw[aE _];have m:=(gw y.cps.toList (some 1) (some (-1))).length_le;rw[Array.length_toList]at m;exact Nat.le_trans m w
 refine Wp.ret (av.if (Q:=PyData.eqv (D.tup [.str x,.int n]).py (D.tup [.str (N "~"),.int 0]).py) (fun u=>br.cmp (j:= .tup [.str x,.int n]) (Ev.sub (Ev.name (j:= .tup [.str x,.int n,.str y]) (ab (aa 0 rfl))) (Ev.slice .none (.some Ev.int) .none) (az.vF (n:=2) (l:=[.str x,.int n,.str y]) (by simp) (by simp))) (Ev.tuple (ag.cons Ev.aN (ag.cons Ev.int ag.nil))) (aB.vA ⟨by simp[eC,eD,eE,eF,eG,eH,eI,fR,fH,PyData.canLay0,PyData.canLayAll0,z],Nat.le_of_ble_eq_true rfl⟩ ⟨by decide+kernel,by decide+kernel⟩)) (fun h=>?_) (fun h=>?_))
 ·rw[rF]at h;unfold lK;rw[if_pos h];refine Wp.cons (av.assign (j:= .str y) (fun u=>Ev.sub (Ev.name (ab (aa 0 rfl))) Ev.int (az.tup (n:=2) (by decide) (by decide) (by rfl) rfl)) trivial (ar 1 rfl) (aa 1 rfl) (cC rfl) (r) (fun J=>rfl)) ?_;refine Wp.ret (av.if (Q:=Txt.startswith y (N "<")&&(Txt.endswith y (N ">")&&true)) (fun u=>br.bool (dJ.and (br.val (Ev.iA (Ev.name (j:= .str y) (ab (aa 1 rfl))) gA.str PySem.F.slot_str_startswith (ag.cons Ev.aN ag.nil) ak.startswith) jY.bool) (fun J=>dJ.and (br.val (Ev.iA (Ev.name (j:= .str y) (ab (aa 1 rfl))) gA.str PySem.F.slot_str_endswith (ag.cons Ev.aN ag.nil) ak.endswith) jY.bool) (fun J=>dJ.kU)))) (fun i=>?_) (fun i=>?_))
  ·rw[Bool.and_true]at i;rw[if_pos i];exact Wp.ret (av.return (fun u=>Ev.bin Ev.aN (Ev.sub (Ev.name (j:= .str y) (ab (aa 1 rfl))) (Ev.slice (.some Ev.int) (.some (Ev.un Ev.int iz.neg)) .none) (az.fo (by lia))) (aJ.vH (by lia))) trivial)
  ·rw[Bool.and_true]at i;rw[if_neg (by rw[i];decide)];exact Wp.ret (av.return (fun u=>Ev.name (ab (aa 1 rfl))) trivial)
 ·rw[rF]at h;unfold lK;rw[if_neg (by rw[h];decide)];exact Wp.ret (av.return (fun u=>Ev.bin Ev.aN (Ev.name (ab (aa 0 rfl))) (aJ.yq (by lia) (by lia) s t)) trivial)
noncomputable def mi(k:Nat):Around:={handled:=none,depth:=900-20*k,frames:=none,guards:=none,units:=9000-60*k}
theorem yE(r:bJ n A)(b:Ctx)(h:b.Woken A.in1):b.Woken (mi n).in1:=by
 refine ai h fun d m=>gr d fun i j o p k=>?_;exact⟨⟨i.trans r.handled,Nat.le_trans j (Nat.le_sub_of_add_le r.depth),fun l e=>(by contradiction),fun g e=>(by contradiction),Nat.le_trans k (Nat.succ_le_succ (Nat.le_sub_of_add_le r.units))⟩,m⟩
theorem Al(b:k+z≤n)(h:T+a1+d8≤z):n-(k+z)+T+a1+d8+k≤n:=by
 rw[Nat.add_assoc _ T a1,Nat.add_assoc _ (T+a1) d8,Nat.add_assoc _ _ _];refine Nat.le_trans (Nat.add_le_add_left (Nat.add_le_add_right h k) _) ?_;rw[Nat.add_comm z k,Nat.sub_add_cancel b];exact Nat.le_refl _
theorem nf(h:20*(n+1)≤900∧60*(n+1)≤9000)(b:(marksOver e2 (none,none)).1=none)(e:frameCount (e2.map Frame.where_)+g8.weight≤15)(d:unitsOf (e2.map Frame.where_)+g8.cUnits≤50):bJ n ((mi (n+1)).in1.over g8 e2):=by
 refine⟨b,Al (T:=0) h.1 ?_,Al h.2 ?_⟩
 ·rw[Nat.zero_add _];exact Nat.le_trans e (by decide)
 ·rw[Nat.add_assoc _ _ _];exact Nat.le_trans (Nat.add_le_add_left d 1) (by decide)
theorem jH{R:GenEnd}{K:m→Sem Fin}(h:wpAny (model a7 b4) (A.over g8 e2) q3 (fun a b=>Seg (model a7 b4) A R f2 n s g8 (K a) e2 b) (fun J J=>False) t):Seg (model a7 b4) A R f2 n s g8 (q3.wrap K d2 k9 i3) e2 t:=
 seg_wrap (wpAny_mono h (fun J J q=>q) fun J J q=>q.elim)
theorem df{R:GenEnd}{k:m→Sem e7}{K:e7→Sem Fin}(h:wpAny (model a7 b4) (A.over g8 e2) q3 (fun a b=>Seg (model a7 b4) A R f2 n s g8 ((k a).wrap K d2 k9 i3) e2 b) (fun J J=>False) t):Seg (model a7 b4) A R f2 n s g8 ((q3>>=k).wrap K d2 k9 i3) e2 t:=
 seg_bind_wrap (wpAny_mono h (fun J J q=>q) fun J J q=>q.elim)
noncomputable def sA(env:Env)(K:Flow→Sem Fin)(H:Value→Sem Fin)(r:Result):Sem Fin:=
 ((match r with| .ok f=>(.pure f:Sem Flow)| .error e=> .raise e).onRaise fun(x:Value)=>do
    if(←field x 1)==Value.none then unsupported "frame.own-activation:exception-without-traceback"
    setFlight x env.frame).wrap K H id id
theorem Am{R:GenEnd}{K:Flow→Sem Fin}{iter:Expr}(i:∀x,foldedSetIterable iter q x=pure x)(h:wpAny (model a7 b4) (A.over g8 e2) (eval iter q) (fun x d=>wpAny (model a7 b4) (A.over g8 e2) (pyIter x) (fun b e=>
   ∀p,Seg (model a7 b4) A R f2 n s (.forLoop o b a3 [] q) ((model a7 b4).den (.forLoop o b a3 [] q)) (.ret (sA q K d2) none false [] g8 p []::e2) e) (fun J J=>False) d) (fun J J=>False) t):
  Seg (model a7 b4) A R f2 n s g8 ((exec (.For o iter a3 [] O) q).wrap K d2 id id) e2 t:=by
 rw[exec_For];refine df (wpAny_standAt ?_);refine df (wpAny_mono h (fun x d j=>?_) fun J J a0=>a0);refine df (wpAny_of_eq (i x) ?_);refine df (wpAny_standAt ?_);refine df (wpAny_holding (wpAny_mono j (fun b e k=>?_) fun J J a0=>a0));exact seg_call k
theorem ng{R:GenEnd}(h:wpAny (model a7 b4) (A.over (.forLoop o C a3 [] q) e2) (pyNext C) (fun r b=>match r with
   |none=>Seg (model a7 b4) A R f2 n s (.forLoop o C a3 [] q) (.pure (.again (.block [] q))) e2 b
   |some v=>wpAny (model a7 b4) (A.over (.forLoop o C a3 [] q) e2) (letOwnedTupleGo o C v) (fun J i=>wpAny (model a7 b4) (A.over (.forLoop o C a3 [] q) e2) (assign o q v) (fun J j=>
     Seg (model a7 b4) A R f2 n s (.forLoop o C a3 [] q) ((execs a3 q).wrap (fun f=>match f with
      | .next| .cont=> .pure (.again (.forLoop o C a3 [] q))
      | .brk=> .pure (.done .next)
      | .ret v=> .pure (.done (.ret v))) (fun e=>(do noteFrame e q;theTreesLotGoes e:Sem Unit).wrap (fun J=> .raise e) .raise id id) id id) e2 j) (fun J J=>False) i) (fun J J=>False) b) (fun J J=>False) t):
  Seg (model a7 b4) A R f2 n s (.forLoop o C a3 [] q) ((model a7 b4).den (.forLoop o C a3 [] q)) e2 t:=by
 show Seg _ A R f2 n s _ ((forTurn o C a3 [] q).onRaise (fun x=>do noteFrame x q;theTreesLotGoes x)) e2 t
 unfold forTurn;rw[Sem.onRaise_eq_wrap];refine df (wpAny_standAt ?_);refine df (wpAny_onRaise (wpAny_mono h (fun r b d=>?_) fun J J a0=>a0.elim));rcases r with _|v
 ·exact d
 ·
  refine df (wpAny_mono d (fun J i k=>?_) fun J J a0=>a0);refine df (wpAny_mono k (fun J j m=>?_) fun J J a0=>a0);rw[Sem.bind_eq_wrap',Sem.wrap_wrap];rw[Sem.wrap_congr (execs a3 q) _ _ (K':=fun f=>match f with
      | .next| .cont=> .pure (.again (.forLoop o C a3 [] q))
      | .brk=> .pure (.done .next)
      | .ret v=> .pure (.done (.ret v))) (H':=(fun e=>(do noteFrame e q;theTreesLotGoes e:Sem Unit).wrap (fun J=> .raise e) .raise id id))
    (fun f=>by rcases f with _|_<;>rfl)
    (fun e=>by first|exact Sem.bind_eq_wrap _ _|(show(do noteFrame e q;theTreesLotGoes e:Sem Unit).bind (fun J=> .raise e)=_;rw[Sem.bind_eq_wrap]))]
  exact m
theorem sC{R:GenEnd}{K:Flow→Sem Fin}{b:Code}{d:Env}(h:Seg (model a7 b4) A R f2 n s b (K .next) e2 t):
  Seg (model a7 b4) A R f2 n s g8 (.pure (.again (.block [] d))) (.ret (sA q K d2) none false [] b O []::e2) t:=by
 refine seg_again rfl ?_
 show Seg (model a7 b4) A R f2 n s (.block [] d) (leafOf (.ok .next)) (.ret (sA q K d2) none false [] b O []::e2) t
 exact seg_leaf (.ok .next) h
theorem sD{R:GenEnd}{K:Flow→Sem Fin}(h:wpAny (model a7 b4) (A.over g8 e2) (isTrue o q (eval o q)) (fun r d=>r=Q∧Seg (model a7 b4) A R f2 n s g8 ((execs (if Q then a3 else j6) q).wrap K d2 id id) e2 d) (fun J J=>False) t):
  Seg (model a7 b4) A R f2 n s g8 ((exec (.If o a3 j6 O) q).wrap K d2 id id) e2 t:=by
 rw[exec_If];refine df (wpAny_standAt ?_);refine df (wpAny_mono h (fun r d b=>?_) fun J J Q=>Q);obtain⟨rfl,b⟩:=b;rcases r with _|_<;>exact b
theorem ks{R:GenEnd}{K:Flow→Sem Fin}(w:splitAtGen e2=none)(u:e2.any Frame.guarded=false)(p:q.scope.isCoroutine=false)(x:interactive q=false)(h:wpAny (model a7 b4) (A.over g8 e2) (eval o q) (fun v e=>f2 n s v e fun r b=>match r with| .send .none=>Seg (model a7 b4) A R f2 n b g8 (K .next) e2 b|_=>False) (fun J J=>False) t)(j:∀m s v t k d,(∀b,k (.send .none) b→d (.send .none) b)→f2 m s v t k→f2 m s v t d):
  Seg (model a7 b4) A R f2 (n+1) s g8 ((exec (.Expr (.Yield (some o) O) Y) q).wrap K d2 id id) e2 t:=
 seg_Expr_Yield w rfl u (wpAny_mono h (fun v e i z y=>j _ _ _ _ _ _ (fun b a0=>y .none b a0) i) fun J J a0=>a0.elim) p x
noncomputable def jI:FH:=fun J=>none
theorem nh:Sub c jI U:=fun a o e=>by contradiction
structure Apart(c:Cx)(a:Addr):Prop where
 mg:a≠mainGlobals
 mb:a≠builtinsNs
 cs:a≠cStatics
 K:c.K.lookup a=none
 P:a≠c.P
 bm:c.mg "__builtins__" ≠some (.ref a)
 own:c.own a=none
theorem Apart.of(g:Gl c U)(h:U.get? v=none):Apart c v where
 mg:=by rintro rfl;refine cX g.g fun o J J e J=>?_;rw[h]at e;contradiction
 mb:=by rintro rfl;refine cX g.b fun o J J e J=>?_;rw[h]at e;contradiction
 cs:=by rintro rfl;refine au g.lim fun J d J=>cX d fun o J J e J=>?_;rw[h]at e;contradiction
 K:=by
  rcases e:c.K.lookup v with _|o
  ·rfl
  ·have:=g.K _ _ e;rw[h]at this;contradiction
 P:=by rintro rfl;refine ah g.cH fun o e=>?_;rw[h]at e;contradiction
 bm:=fun e=>by
  obtain⟨_,bm,k,b,j,i,_⟩:=g.dig;rw[e]at b;cases b;rw[h]at i;contradiction
 own:=by
  rcases e:c.own v with _|o
  ·rfl
  ·have:=(g.own _ _ e).2;rw[h]at this;contradiction
theorem Gl.stays{X:Addr→Prop}(g:Gl c U)(j:∀a o,¬X a→a≠c.P→U.get? a=some o→f5.get? a=some o)(t:fa c U f5)(i:∀a,X a→Apart c a):Gl c f5 where
 g:=cX g.g fun o d h e r=>⟨o,d,h,j _ _ (fun x=>(i _ x).mg rfl) (g.ne_of_ns ⟨o,d,h,e,r⟩) e,r⟩
 b:=cX g.b fun o d h e r=>⟨o,d,h,j _ _ (fun x=>(i _ x).mb rfl) (g.ne_of_ns ⟨o,d,h,e,r⟩) e,r⟩
 lim:=let⟨m,⟨o,d,h,e,r⟩,q⟩:=g.lim;⟨m,⟨o,d,h,j _ _ (fun x=>(i _ x).cs rfl) (g.ne_of_ns ⟨o,d,h,e,r⟩) e,r⟩,q⟩
 dig:=by
  obtain⟨⟨m,⟨o,d,h,e,r⟩,q⟩,bm,y,n,v,p,s,w⟩:=g.dig;exact⟨⟨m,⟨o,d,h,j _ _ (fun x=>(i _ x).cs rfl) (g.ne_of_ns ⟨o,d,h,e,r⟩) e,r⟩,q⟩,bm,y,n,v,j _ _ (fun x=>(i _ x).bm n) (g.ne_of_cls p (by rw[s];nofun)) p,s,w⟩
 K:=fun a o e=>j a o (fun x=>by rw[(i _ x).K]at e;contradiction) (by rintro rfl;rw[g.kP]at e;contradiction) (g.K a o e)
 kP:=g.kP
 own:=fun a o e=>⟨(g.own a o e).1,j a o (fun x=>by rw[(i _ x).own]at e;contradiction) (g.own a o e).1 (g.own a o e).2⟩
 tab:=by
  refine ay t (fun t=>?_) fun u=>?_
  ·rw[t];exact g.tab
  ·obtain⟨_,k,e⟩:=u;exact .inr ⟨k,e⟩
structure GI(c:Cx)(env:Env)(X:List Addr)(s₀:Shared)(f:FH)(s:Shared)(m:Str→Option Value):Prop where
 gx:dY c (· ∈X) jI s₀ f s
 fx:∀a∈X,f a=none
 gl:Gl c s.heap
 ns:s.heap.Ns env.locals m
 live:∀a∈X,s.heap.get? a≠none
 tk:0<s.toks
 ap:∀a∈X,Apart c a
 ou:env.locals∈X
theorem GI.st{X:List Addr}(I:GI c q X s f t c3)(b:q.cells=[])(i:∀x d,(x,some d)∈r→q.kindOf x=some .local∧∃v,c3 x=some v∧Val c f d v):St c f r q t:=
 ⟨I.gl,I.gx.sub,fun x d h=>let⟨k,v,e,j⟩:=i x d h;⟨v,.inl ⟨k,c3,I.ns,e⟩,j⟩,(fun n a e=>by rw[b]at e;contradiction),⟨c3,I.ns⟩,⟨(I.ap _ I.ou).own,(fun n a e=>by rw[b]at e;contradiction)⟩,I.tk⟩
theorem GI.go{X:List Addr}(I:GI c q X s f t c3)(g:Go c f t G c5):GI c q X s G c5 c3 where
 gx:=I.gx.trans g.toZ
 fx:=fun a h=>(g.old a (I.live a h)).trans (I.fx a h)
 gl:=g.gl I.gl
 ns:=Ns.go I.gl I.ns g.keep
 live:=fun a h=>g.has (I.live a h)
 tk:=Nat.lt_of_lt_of_le I.tk g.tk
 ap:=I.ap
 ou:=I.ou
theorem GI.store{X:List Addr}(I:GI c q X s f t c3)(v:q.kindOf x=some .local)(u:q.scope.kind= .function)(p:∀d,GI c q X s f d (fun y=>if y=x then some C else c3 y)→(∀a,a≠q.locals→d.heap.get? a=t.heap.get? a)→d.heap.objs.size=t.heap.objs.size→c6 () d):wpAny (model c.prog c.w) A (storeName q x C) c6 E t:=by
 refine wpAny_storeName_local v I.ns (fun j k h=>?_) (by rw[u];rfl);have m:=I.ap _ I.ou;have w:j.get? q.locals≠none:=by refine cX k fun o J J z J=>?_;rw[z];simp
 have b:dY c (· ∈X) f t f {t with heap:=j,toks:=t.toks+1}:=
  {keep:=fun a o g l e=>(h.2 a (fun a0=>g (a0▸I.ou))).trans e
   tab:= .inl (h.2 _ (Ne.symm m.P))
   aD:=Nat.le_refl _
   gens:=fun J J J=>rfl
   bare:=fun i x a0 e=>by
    refine ay a0 (fun a0=>?_) fun a0=>?_
    ·have n:t.gens[i]? =some x:=e;rw[Array.getElem?_eq_none a0]at n;contradiction
    ·exact a0.elim
   os:=rfl
   ext:=fun J J e=>e
   old:=fun J J=>rfl
   sub:=fun a o e=>⟨(I.gx.sub a o e).1,(h.2 a (by rintro rfl;rw[I.fx _ I.ou]at e;contradiction)).trans (I.gx.sub a o e).2⟩
   tk:=Nat.le_succ _
   has:=fun a e=>by
    by_cases a0:a=q.locals
    ·rw[a0];exact w
    ·refine(?_ :j.get? a≠none);rw[h.2 a a0];exact e}
 refine p _ ⟨I.gx.trans b,I.fx,I.gl.stays (X:=(· ∈X)) b.keep b.tab I.ap,k,fun a r=>b.has a (I.live a r),Nat.lt_succ_of_lt I.tk,I.ap,I.ou⟩ h.2 h.1
theorem GI.lW{X:List Addr}(I:GI c q X s f t c3)(g:GoX c g7 (fun J=>False) f t G c5)(i:∀a,g7 a→a∈X∧a≠q.locals∧c5.heap.get? a≠none):GI c q X s G c5 c3:=by
 have d:dY c (· ∈X) f t G c5:=⟨g.mono fun a h=>(i a h).1,fun a e=>by
  by_cases a0:g7 a
  ·exact(i a a0).2.2
  ·rcases j:t.heap.get? a with _|o
   ·exact absurd j e
   ·
    by_cases k:a=c.P
    ·subst k;exact g.tab.has e
    ·rw[g.keep a o a0 k j];simp⟩
 refine⟨I.gx.trans d,fun a b=>(g.old a (I.live a b)).trans (I.fx a b),I.gl.stays (X:=(· ∈X)) d.keep d.tab I.ap,?_,fun a b=>d.has a (I.live a b),Nat.lt_of_lt_of_le I.tk g.tk,I.ap,I.ou⟩;refine cX (id I.ns) fun o n m e r=>?_;exact lR o n m (g.keep _ _ (fun a0=>(i _ a0).2.1 rfl) (I.gl.ne_of_ns I.ns) e) r
theorem GI.more{X X':List Addr}(I:GI c q X s f t c3)(h:∀a∈X,a∈X')(d:∀a∈X',a∈X∨(f a=none∧t.heap.get? a≠none∧Apart c a)):GI c q X' s f t c3 where
 gx:=I.gx.mono h
 fx:=fun a b=>(d a b).elim (I.fx a) fun a0=>a0.1
 gl:=I.gl
 ns:=I.ns
 live:=fun a b=>(d a b).elim (I.live a) fun a0=>a0.2.1
 tk:=I.tk
 ap:=fun a b=>(d a b).elim (I.ap a) fun a0=>a0.2.2
 ou:=h _ I.ou
theorem sE{R:GenEnd}{a0:GenResult→Sem m}(H:∀i:Ctx,i.Woken A→i.Woken l9)(g:s.gens[k]? =some h3)(o:h3.Goes b9 l9 R f2 n m5 (s.setGen k .running))(I:∀x h,R n (s.setGen k .running) x h→wpAny b9 A (a0 (End.ret x).result) o6 E (h.setGen k .finished))(K:∀v h q,q.bare=true→f2 (n-1) (s.setGen k .running) v h (fun M O=>match n with|0=>False|a1+1=>q.Goes b9 l9 R f2 a1 M O)→
   wpAny b9 A (a0 (.yielded v)) o6 E (h.setGen k q)):
  wpAny b9 A (.resume k m5 Z a0) o6 E s:=by
 intro i p t;rw[Sem.wp_resume];have f:∀c,(i.wake c p).Woken l9:=fun c=>H _ (t.wake c p);have y:∀b h,SegEnd R f2 n (Seg.next b9 l9 R f2 n) (s.setGen k .running) b h→
   Sem.wp b9 i (a0 b.result) (fun a J w=>o6 a w) (fun e J w=>E e w) p (h.setGen k b.genState):=by
  intro b h d;cases b with
  |ret x=>exact I x h d i p t
  |susp v G C B j u z=>
   refine K v h _ (End.bare_of_quiet d.1) ?_ i p t;rcases n with _|a1
   ·exact d.2
   ·exact d.2
 have l:∀b h,SegEnd R f2 n (Seg.next b9 l9 R f2 n) (s.setGen k .running) b h→b.quiet=true:=by
  intro b h d;cases b with
  |ret x=>rfl
  |susp v G C B j u z=>exact d.1
 cases h3 with
 |fresh c=>
  refine ai o fun F L=>?_;subst F;refine bV (seg_iff.mp L (i.wake c p) p rfl (f c)) fun b h r d=>?_;exact bj _ _ (by unfold Wakes;rw[g];exact nI b h r (l b h d) rfl rfl) (y b h d)
 |suspended B C j u z P=>
  refine bV (seg_iff.mp o (i.wake j p) u rfl (f j)) fun b h r d=>?_;exact bj _ _ (by unfold Wakes;rw[g];exact nI b h r (l b h d) rfl rfl) (y b h d)
 |running=>exact o.elim
 |finished=>exact o.elim
theorem sG{P:Nat→Shared→Shared→Prop}(z:∀w:Ctx,w.Woken A.in1→w.Woken l9)(u:A.handled=none)(f:s.heap.NoLimit)(l:A.depth<recursionLimit)(i:s.heap.IsGen v n)(t:s.gens[n]? =some h3)(j:h3.Goes (model a7 b4) l9 (fun k p r h=>r= .ok (.ret .none)∧P k p h) f2 k (.send .none) (s.setGen n .running))(c:∀a0 h d,d.bare=true→f2 (k-1) (s.setGen n .running) a0 h (fun F G=>match k with
    |0=>False
    |m+1=>d.Goes (model a7 b4) l9 (fun k p r h=>r= .ok (.ret .none)∧P k p h) f2 m F G)→g1 (some a0) (h.setGen n d))(a:∀h,P k (s.setGen n .running) h→∀q,(∀b o,h.heap.get? b=some o→q.get? b=some o)→g1 none {h.setGen n .finished with heap:=q}):
  wpAny (model a7 b4) A (pyNext (.ref v)) g1 E s:=by
 unfold pyNext;refine wpAny_bind (wpAny_attempt (wpAny_callSpecial?_slot (name:=Str.ofString "__next__") i.typeIs slot_gen_next
  (wpAny_call_entry slot_gen_next i.typeIs entry_gen_next ?_ (args_gen_next _))))
 refine(?_ :wpAny _ A.in1 (Builtin.Generator.genWake (.ref v) (.send .none)) _ _ s);unfold Builtin.Generator.genWake;refine wpAny_bind (wpAny_holding (wpAny_genNumber i (wpAny_bind (wpAny_genState t ?_))));cases h3 with
 |running=>exact j.elim
 |finished=>exact j.elim
 |_=>
  refine wpAny_bind (wpAny_roomToWake f l ?_);refine(?_ :wpAny _ A.in1 (.resume n (.send .none) [] _) _ _ s);refine sE z t j (fun x h C=>?_) (fun a0 h d e B=>?_)
  ·refine ai C fun y g=>?_;subst y;refine(?_ :wpAny _ A.in1 (newExc (.type "StopIteration") []>>=_) _ _ _);refine wpAny_bind ?_;simp only[newExc,newTuple];refine wpAny_bind (wpAny_newObj_type ?_ (by size_fits));refine wpAny_bind (m:=firstArgMember _ _) (wpAny_of_eq (a:=Value.none) (by first|rfl|(simp only[firstArgMember];rfl)) ?_);refine wpAny_newObj_type ?_ (by size_fits);simp only[raiseNew];refine wpAny_bind (wpAny_bind (wpAny_handled ?_))
   first|rw[show A.in1.handled=none from u]|rw[u]
   refine wpAny_throw ?_;refine wpAny_bind (wpAny_isInstance (T:="StopIteration") (b:=true) ⟨_,Heap.get?_push_size _ rfl,rfl⟩ isSubtype_stop ?_);exact wpAny_pure (a h g _ fun b o e=>Heap.get?_push_of_some _ (Heap.get?_push_of_some _ e))
  ·exact wpAny_pure ⟨a0,rfl,wpAny_pure (c a0 h d e B)⟩
noncomputable def aW:Bool→Nat→List Nat→List (Nat×List Nat)
 |true,p,[]=>[(p-1,[92])]
 |false,_,[]=>[]
 |true,p,h::r=>(p,[92,h])::aW false (p+1) r
 |false,p,h::r=>if h=92 then aW true (p+1) r else(p,[h])::aW false (p+1) r
theorem qt:aW true n []=[(n-1,[92])]:=rfl
theorem qu:aW false n []=[]:=rfl
theorem sH:aW true n (k::i)=(n,[92,k])::aW false (n+1) i:=rfl
theorem sI:aW false n (k::i)=if k=92 then aW true (n+1) i else(n,[k])::aW false (n+1) i:=rfl
noncomputable def dm(q:Nat×List Nat):D:= .tup [.int q.1,.str (S q.2)]
noncomputable def GY(c:Cx)(X:List Addr)(i:List D):Protocol:=fun m s₀ v e j=>
 ∃b d,i[i.length-1-m]? =some d∧dY c (· ∈X) jI s₀ b e∧(∀a∈X,b a=none∧e.heap.get? a≠none)∧Val c b d v∧
  ∀h,(∀a∈X,∀o,e.heap.get? a=some o→h.heap.get? a=some o)→Gl c h.heap→0<h.toks→j (.send .none) h
noncomputable def GP(c:Cx)(X:List Addr):Nat→Shared→Shared→Prop:=fun n s₀ b=>n=0∧∃h,dY c (· ∈X) jI s₀ h b∧∀a∈X,h a=none
noncomputable abbrev sJ(c:Cx)(X:List Addr):GenEnd:=fun n s₀ r h=>r= .ok (.ret .none)∧GP c X n s₀ h
theorem GY.mono{X:List Addr}:∀m j v s(k i:Resume→Shared→Prop),(∀e,k (.send .none) e→i (.send .none) e)→GY c X l m j v s k→GY c X l m j v s i:=by
 rintro m j v s k i h ⟨n,d,o,p,q,r,u⟩;exact nJ n d o p q r (fun e a b t=>h e (u e a b t))
noncomputable abbrev eK:Str:=Str.ofString "pos"
noncomputable abbrev mj:Str:=Str.ofString "ch"
noncomputable abbrev ft:Str:=Str.ofString "escape"
noncomputable abbrev fX:Str:=Str.ofString "addr"
noncomputable abbrev ua:Str:=Str.ofString "\\"
noncomputable def ub(q:Nat→Pos):Expr:= .Tuple [.Name eK (q 32),.Name mj (q 33)] 0 (q 34)
noncomputable def sL(q:Nat→Pos):List Stmt:=[.If (.Name ft (q 1)) [.Expr (.Yield (some (.Tuple [.Name eK (q 2),.BinOp (.Constant (.str ua) 0 (q 3)) .Add (.Name mj (q 4)) (q 5)] 0 (q 6))) (q 7)) (q 8),.Assign [.Name ft (q 9)] (.Constant (.bool false) 0 (q 10)) (q 11)]
 [.If (.Compare (.Name mj (q 12)) [.Eq] [.Constant (.str ua) 0 (q 13)] (q 14)) [.Assign [.Name ft (q 15)] (.Constant (.bool true) 0 (q 16)) (q 17)] [.Expr (.Yield (some (.Tuple [.Name eK (q 18),.Name mj (q 19)] 0 (q 20))) (q 21)) (q 22)] (q 23)] (q 24)]
noncomputable def v9(q:Nat→Pos):List Stmt:=[.If (.Name ft (q 25)) [.Expr (.Yield (some (.Tuple [.Name eK (q 26),.Constant (.str ua) 0 (q 27)] 0 (q 28))) (q 29)) (q 30)] [] (q 31)]
set_option backward.match.sparseCases true in
noncomputable def K0:Flow→Sem Fin:=fun f=> .pure (.done (.ret (match f with| .ret v=>v|_=> .none)))
set_option backward.match.sparseCases true in
noncomputable def KR(q:Nat→Pos)(env:Env)(H:Value→Sem Fin):Flow→Sem Fin:=fun f=>match f with| .next=>(execs (v9 q) env).wrap K0 H id id|f=>K0 f
structure qv(env:Env)(sc:Scope):Prop where
 ok:bE env sc
 cells:env.cells=[]
 pos:env.kindOf eK=some .local
 ch:env.kindOf mj=some .local
 qw:env.kindOf ft=some .local
 addr:env.kindOf fX=some .local
 co:env.scope.isCoroutine=false
 int:interactive env=false
theorem GI.again{X:List Addr}(I:GI c q X s f t c3)(b:∀a∈X,∀o,t.heap.get? a=some o→c5.heap.get? a=some o)(g:Gl c c5.heap)(j:0<c5.toks):GI c q X c5 jI c5 c3 where
 gx:=dY.refl nh
 fx:=fun J J=>rfl
 gl:=g
 ns:=by refine cX I.ns fun o i d e r=>?_;exact lR o i d (b _ I.ou _ e) r
 live:=fun a h=>by
  rcases e:t.heap.get? a with _|o
  ·exact absurd e (I.live a h)
  ·rw[b a h o e];simp
 tk:=j
 ap:=I.ap
 ou:=I.ou
theorem sM{dn:List D}{r:List (Nat×List Nat)}(h:l=dn++(k3::r).map dm):l[l.length-1-r.length]? =some (dm k3):=by
 subst h;rw[List.length_append,List.map_cons,List.length_cons,List.length_map _];rw[show dn.length+(r.length+1)-1-r.length=dn.length by(simp+arith),List.getElem?_append_right (Nat.le_refl _),Nat.sub_self _];rfl
theorem uc{X:List Addr}(h:∀a∈X,f a=none)(g:dY c (· ∈X) jI s f t):Seg (model c.prog c.w) A (sJ c X) (GY c X l) 0 s g8 (K0 .next) [] t:=
 seg_end (.ok (.ret .none)) ⟨rfl,rfl,f,g,h⟩
theorem yF{X:List Addr}{dn:List D}(b:qv q e)(F:20*(k+2)≤900∧60*(k+2)≤9000)(I:GI c q X s f t c3)(C:c3 ft=some (.bool Q))(H:Q=true→∃a1,c3 eK=some (.int z a1))(E:l=dn++(if Q then [(z,[92])]else []).map dm):
  Seg (model c.prog c.w) (mi (k+2)).in1 (sJ c X) (GY c X l) (if Q then 1 else 0) s (.func a3 q) (KR f6 q d2 .next) [] t:=by
 have u:bJ (k+1) ((mi (k+2)).in1.over (.func a3 q) []):=nf (n:=k+1) F rfl (Nat.le_of_ble_eq_true rfl) (Nat.le_of_ble_eq_true rfl);unfold KR v9;refine seg_execs_cons ?_;have L:St c f [(ft,some (.bool Q))] q t:=I.st b.cells fun x d h=>by
  refine memC h (fun a0=>?_) fun a0=>?_
  ·cases a0;exact⟨b.qw,_,C,rfl⟩
  ·contradiction
 refine sD (Q:=Q) ((br.val (n:=k) (e:=e) (r:=[(ft,some (.bool Q))]) (Ev.name List.mem_cons_self) jY.bool) _ q f t _ _ u b.ok L fun w o g=>⟨rfl,?_⟩);have i:=I.go g;rcases Q with _|_
 ·exact seg_execs_nil (uc i.fx i.gx)
 ·
  refine ah (H rfl) fun a1 J=>?_;rw[if_pos rfl];refine seg_execs_cons (ks (n:=0) rfl rfl b.co b.int ?_ GY.mono);have M:St c o [(eK,some (.int z))] q w:=i.st b.cells fun x d h=>by
   refine memC h (fun a0=>?_) fun a0=>?_
   ·cases a0;exact⟨b.pos,_,J,_,rfl⟩
   ·contradiction
  refine(Ev.tuple (n:=k+1) (e:=e) (r:=[(eK,some (.int z))]) (ag.cons (Ev.name List.mem_cons_self) (ag.cons Ev.aN ag.nil))) _ q o w _ _ u b.ok M fun v P y A K=>?_;have j:=i.go A;refine nJ y (dm (z,[92])) (sM (r:=[]) E) j.gx (fun a p=>⟨j.fx a p,j.live a p⟩) K (fun T G B O=>?_);have m:=j.again G B O;exact seg_execs_nil (uc m.fx m.gx)
noncomputable def ni(q:Nat→Pos)(e:Addr)(env:Env):Code:= .forLoop (ub q) (.ref e) (sL q) [] env
noncomputable def Fr(q:Nat→Pos)(env:Env)(H:Value→Sem Fin)(h:List Stmt)(b:Pos):Frame:= .ret (sA env (KR q env H) H) none false [] (.func h env) b []
set_option backward.match.sparseCases true in
noncomputable def KL(q:Nat→Pos)(e:Addr)(env:Env):Flow→Sem Fin:=fun f=>match f with
 | .next| .cont=> .pure (.again (ni q e env))
 | .brk=> .pure (.done .next)
 | .ret v=> .pure (.done (.ret v))
noncomputable def HL(env:Env):Value→Sem Fin:=fun e=>(do noteFrame e env;theTreesLotGoes e:Sem Unit).wrap (fun J=> .raise e) .raise id id
theorem yG{X:List Addr}{dn:List D}(j:qv q e)(hk:20*(n+2)≤900∧60*(n+2)≤9000)(I:GI c q X s f t c3)(y:c3 ft=some (.bool Q))(p:∃a0,c3 eK=some (.int k a0))(r:∃a0,c3 mj=some (.str (S [z]) a0))(A:l=dn++(aW Q k (z::i)).map dm)(next:∀(G:Bool)(a6:List D)(a5 s':Shared)(f':FH)(V:Str→Option Value),l=a6++(aW G (k+1) i).map dm→GI c q X a5 f' s' V→V ft=some (.bool G)→(G=true→∃a0,V eK=some (.int k a0))→(∀a∈X,a≠q.locals→∀o,t.heap.get? a=some o→s'.heap.get? a=some o)→
   Seg (model c.prog c.w) (mi (n+2)).in1 (sJ c X) (GY c X l) (aW G (k+1) i).length a5 (ni f6 v q) (.pure (.again (ni f6 v q))) [Fr f6 q d2 a3 O] s'):
  Seg (model c.prog c.w) (mi (n+2)).in1 (sJ c X) (GY c X l) (aW Q k (z::i)).length s (ni f6 v q) ((execs (sL f6) q).wrap (KL f6 v q) (HL q) id id) [Fr f6 q d2 a3 O] t:=by
 have B:bJ (n+1) ((mi (n+2)).in1.over (ni f6 v q) [Fr f6 q d2 a3 O]):=nf (n:=n+1) hk rfl (Nat.le_of_ble_eq_true rfl) (Nat.le_of_ble_eq_true rfl);refine ah p fun tp p=>?_;refine ah r fun tc r=>?_;unfold sL;refine seg_execs_cons ?_;have T:∀{f t c3},GI c q X s f t c3→c3 ft=some (.bool Q)→c3 eK=some (.int k tp)→c3 mj=some (.str (S [z]) tc)→St c f [(ft,some (.bool Q)),(eK,some (.int k)),(mj,some (.str (S [z])))] q t:=fun I y p r=>I.st j.cells fun x d h=>by
  refine memC h (fun v=>?_) fun h=>?_
  ·cases v;exact⟨j.qw,_,y,rfl⟩
  ·refine memC h (fun v=>?_) fun h=>?_
   ·cases v;exact⟨j.pos,_,p,_,rfl⟩
   ·refine memC h (fun v=>?_) fun h=>?_
    ·cases v;exact⟨j.ch,_,r,_,rfl⟩
    ·contradiction
 have a4:q.scope.kind= .function:=by rw[j.ok.scope];exact j.ok.kind
 refine sD (Q:=Q) ((br.val (n:=n) (e:=e) (r:=[(ft,some (.bool Q)),(eK,some (.int k)),(mj,some (.str (S [z])))]) (Ev.name List.mem_cons_self) jY.bool) _ q f t _ _ B j.ok (T I y p r) fun s1 f1 g1=>⟨rfl,?_⟩);have F:=I.go g1;have R:∀a∈X,∀o,t.heap.get? a=some o→s1.heap.get? a=some o:=fun a b o w=>g1.keep a o (I.ap a b).P w;rcases Q with _|_
 ·
  rw[if_neg (by decide)];refine seg_execs_cons ?_;refine sD (Q:=(S [z]==ua)) ((br.cmp (n:=n) (e:=e) (r:=[(ft,some (.bool false)),(eK,some (.int k)),(mj,some (.str (S [z])))]) (Ev.name (List.Mem.tail _ (List.Mem.tail _ (List.Mem.head _)))) Ev.aN aB.eqs) _ q f1 s1 _ _ B j.ok (T F y p r) fun s2 H g=>⟨rfl,?_⟩);have m:=F.go g;have hq:(S [z]==ua)=decide (z=92):=by
   have e0:ua=S [92]:=by decide+kernel
   rw[e0];by_cases h:z=92
   ·subst h;decide+kernel
   ·rw[decide_eq_false h];exact beq_eq_false_iff_ne.mpr fun v=>h (by
     have:=congrArg (fun x:Str=>x.cps.toList) v;simpa [S]using this)
  rw[hq];by_cases K:z=92
  ·rw[decide_eq_true K,if_pos rfl];have L:aW false k (z::i)=aW true (k+1) i:=by refine(?_ :(if z=92 then _ else _)=_);rw[if_pos K]
   rw[L];refine seg_execs_cons (jH (wpAny_Assign_Name ?_ rfl));refine Ev.lU (n:=n) (r:=[]) _ q H s2 _ _ (B.le (by(simp+arith))) j.ok (m.st j.cells fun x d h=>nomatch h) fun v4 P Z E Y=>?_;obtain rfl:v4= .bool true:=Y;have C:=m.go E;refine C.store j.qw a4 fun s5 U W J=>?_;refine seg_execs_nil (seg_execs_nil (seg_execs_nil (next true dn s s5 Z _ (by rw[A,L]) U (by simp) (fun J=>⟨tp,by rw[if_neg (by decide+kernel)];exact p⟩) fun a b M o w=>?_)));rw[W a M];exact E.keep a o (I.ap a b).P (g.keep a o (I.ap a b).P (R a b o w))
  ·rw[decide_eq_false K,if_neg (by decide)];have L:aW false k (z::i)=(k,[z])::aW false (k+1) i:=by refine(?_ :(if z=92 then _ else _)=_);rw[if_neg K]
   rw[L]at A⊢;rw[List.length_cons];refine seg_execs_cons (ks rfl rfl j.co j.int ?_ GY.mono);refine(Ev.tuple (n:=n+1) (e:=e) (r:=[(ft,some (.bool false)),(eK,some (.int k)),(mj,some (.str (S [z])))]) (ag.cons (Ev.name (List.Mem.tail _ (List.Mem.head _))) (ag.cons (Ev.name (List.Mem.tail _ (List.Mem.tail _ (List.Mem.head _)))) ag.nil))) _ q H s2 _ _ B j.ok (T m y p r) fun b0 s3 f3 g3 N=>?_;have u:=m.go g3;refine nJ f3 (dm (k,[z])) (sM A) u.gx (fun a b=>⟨u.fx a b,u.live a b⟩) N (fun P a2 a8 t4=>?_);have C:=u.again a2 a8 t4;refine seg_execs_nil (seg_execs_nil (seg_execs_nil (next false (dn++[dm (k,[z])]) P P jI c3 (by rw[A];simp) C y (fun h=>nomatch h) fun a b M o w=>?_)));exact a2 a b o (g3.keep a o (I.ap a b).P (g.keep a o (I.ap a b).P (R a b o w)))
 ·
  rw[if_pos rfl];have a9:(aW true k (z::i)).length=(aW false (k+1) i).length+1:=rfl;rw[a9];refine seg_execs_cons (ks rfl rfl j.co j.int ?_ GY.mono);refine(Ev.tuple (n:=n+1) (e:=e) (r:=[(ft,some (.bool true)),(eK,some (.int k)),(mj,some (.str (S [z])))]) (ag.cons (Ev.name (List.Mem.tail _ (List.Mem.head _))) (ag.cons (Ev.bin (i7:= .str (ua++S [z])) Ev.aN (Ev.name (List.Mem.tail _ (List.Mem.tail _ (List.Mem.head _)))) (aJ.cat (by rw[aE,sizeLine_eq,show ua.length=1 by decide+kernel]at⊢;simp))) ag.nil))) _ q f1 s1 _ _ B j.ok (T F y p r) fun b0 s2 H g N=>?_;have m:=F.go g;refine nJ H (dm (k,[92,z])) (sM A) m.gx (fun a b=>⟨m.fx a b,m.live a b⟩) N (fun s3 a1 a7 t3=>?_);have u:=m.again a1 a7 t3;refine seg_execs_cons (jH (wpAny_Assign_Name ?_ rfl));refine Ev.lU (n:=n) (r:=[]) _ q jI s3 _ _ (B.le (by(simp+arith))) j.ok (u.st j.cells fun x d h=>nomatch h) fun v4 P Z E Y=>?_;obtain rfl:v4= .bool false:=Y;have C:=u.go E;refine C.store j.qw a4 fun s5 U W J=>?_;refine seg_execs_nil (seg_execs_nil (next false (dn++[dm (k,[92,z])]) s3 s5 Z _ (by rw[A];simp[qt,qu,sH,sI]) U (by simp) (fun h=>nomatch h) fun a b M o w=>?_));rw[W a M];exact E.keep a o (I.ap a b).P (a1 a b o (g.keep a o (I.ap a b).P (R a b o w)))
theorem An(i:A.handled=none)(p:IsEnum s.heap v b7 I C)(j:s.heap.IsStrIter b7 "str_ascii_iterator" x d6 n)(t:x.cps[n]? =none)(q:∀e,Heap.ExtBut b7 s.heap e→e.get? b7≠none→g1 none {s with heap:=e}):wpAny (model a7 b4) A (pyNext (.ref v)) g1 E s:=by
 have k:s.TypeIs (.ref v) "enumerate" :=⟨_,p,rfl⟩;refine bA (id j) fun o d w h=>?_;unfold pyNext;refine wpAny_bind (wpAny_attempt (wpAny_callSpecial?_slot (name:=Str.ofString "__next__") k F.slot_enumerate_next
  (wpAny_call_entry F.slot_enumerate_next k F.entry_enumerate_next ?_ (F.args_enumerate_next_1 _))))
 refine(?_ :wpAny _ A.in1 (field (.ref v) 2>>=_) _ _ _);refine wpAny_bind (wpAny_field p rfl (x:= .ref b7) rfl ?_);refine wpAny_bind ?_;unfold Builtin.SmallTypes.nextOf;refine wpAny_bind (wpAny_callSpecial?_slot (name:=Str.ofString "__next__") j.typeIs F.slot_str_ascii_iterator_next
  (wpAny_call_entry F.slot_str_ascii_iterator_next j.typeIs F.entry_str_ascii_iterator_next ?_ (F.args_str_ascii_iterator_next_1 _)))
 refine(?_ :wpAny _ _ (field (.ref b7) 0>>=_) _ _ s);refine wpAny_bind (wpAny_field d h (x:= .str x d6) rfl ?_);refine(?_ :wpAny _ _ (field (.ref b7) 1>>=_) _ _ s);refine wpAny_bind (wpAny_field d h (x:= .int n 0) rfl ?_);simp only[Int.toNat_natCast,t];refine wpAny_bind (wpAny_rule (wpAny_bind (wpAny_setField d h (by simp) (wpAny_bind (wpAny_letGo ?_)))));have r:=Heap.get?_update_self (Obj.mapFields fun u=>u.setIfInBounds 0 Value.none) d (Obj.isFreed_of_fields (Obj.data_mapFields h _));refine(?_ :wpAny _ _ (newExc (.type "StopIteration") []>>=_) _ _ _);refine wpAny_bind ?_;simp only[newExc,newTuple];refine wpAny_bind (wpAny_newObj_type ?_ (by size_fits));refine wpAny_bind (m:=firstArgMember _ _) (wpAny_of_eq (a:=Value.none) (by first|rfl|(simp only[firstArgMember];rfl)) ?_);refine wpAny_newObj_type ?_ (by size_fits);simp only[raiseNew];refine wpAny_bind (wpAny_handled ?_)
 first|rw[show A.in1.in1.handled=none from i]|rw[show A.in1.handled=none from i]|rw[i]
 refine wpAny_bind (wpAny_pure (wpAny_throw ?_));refine wpAny_bind (wpAny_isInstance (T:="StopIteration") (b:=true) ⟨_,Heap.get?_push_size _ rfl,rfl⟩ isSubtype_stop ?_);refine wpAny_pure (q _ (((Heap.SameBut.update ..).extBut.push _).push _) ?_);rw[Heap.get?_push_of_some _ (Heap.get?_push_of_some _ r)];simp
noncomputable def rG(e b:Addr)(x:Str)(t:Tok)(i:Nat)(h:Heap):Prop:=(∃d,IsEnum h e b i d)∧h.IsStrIter b "str_ascii_iterator" x t i
noncomputable def nj(l:List Nat):List D:=l.zipIdx.map fun y=> .tup [.int y.2,.str (S [y.1])]
theorem rG.kept(s:rG v b7 x d6 n U)(h:∀o,U.get? v=some o→f5.get? v=some o)(d:∀o,U.get? b7=some o→f5.get? b7=some o):rG v b7 x d6 n f5:=
 ⟨ah s.1 fun e a=>⟨e,h _ a⟩,au s.2 fun o a b=>⟨o,d _ a,b⟩⟩
theorem Ao(s:v≠b7)(l:c.P≠v)(C:c.P≠b7):kg c n v (.Tuple B k O) [v,b7] (· ∈[v,b7]) (fun J=>False) (nj i) (r7 jI [v,b7] (rG v b7 (S i) d6)):=
 kg.kK jI (fun A g=>WalksT.enumerateD (Draws.strAscii (A:=A.in1) g b7 (S i) d6) v s (by simpa using s) (by simp)) (by rw[B0 _];simp[nj]) (fun a0 d L p F=>by
  refine bV F fun u x e j=>bV e fun I a1 r t=>?_;subst t;subst j;unfold nj at p;rw[List.getElem?_map,Option.map_eq_some_iff]at p;refine au p fun e q j=>?_;obtain⟨a,b⟩:=e;subst j;rw[List.getElem?_zipIdx,Option.map_eq_some_iff]at q;refine au q fun H E w=>?_;have y:(S i).cps[a0]? =i[a0]? :=by simp[S]
  rw[y,E]at r;cases r;cases w;exact aF _ rfl (⟨_,_,rfl,⟨u,by simp⟩,_,_,rfl,⟨a1,rfl⟩,rfl⟩)) (by simp[l,C]) (fun a0 h G a m=>by
  obtain⟨⟨K,z⟩,o,f,_⟩:=G;refine memC m (fun e=>?_) fun m=>?_
  ·subst e;rw[show h.get? _=_ from z];simp
  ·rw[List.mem_singleton.mp m,f];simp)
theorem yH(y:qv q e)(X:20*(k+2)≤900∧60*(k+2)≤9000)(b3:v≠b7)(F:q.locals≠v)(z:q.locals≠b7):
  ∀(r j:List Nat)(b:Bool)(dn:List D)(B s:Shared)(f:FH)(m:Str→Option Value),j++r=i→l=dn++(aW b j.length r).map dm→GI c q [q.locals,v,b7] B f s m→rG v b7 (S i) d6 j.length s.heap→m ft=some (.bool b)→(b=true→∃d6,m eK=some (.int ((j.length-1:Nat):Int) d6))→
   Seg (model c.prog c.w) (mi (k+2)).in1 (sJ c [q.locals,v,b7]) (GY c [q.locals,v,b7] l) (aW b j.length r).length B (ni f6 v q) ((model c.prog c.w).den (ni f6 v q)) [Fr f6 q d2 a3 O] s:=by
 intro r;have W:bJ (k+1) ((mi (k+2)).in1.over (ni f6 v q) [Fr f6 q d2 a3 O]):=nf (n:=k+1) X rfl (Nat.le_of_ble_eq_true rfl) (Nat.le_of_ble_eq_true rfl);have V:q.scope.kind= .function:=by rw[y.ok.scope];exact y.ok.kind
 induction r with
 |nil=>
  intro j b dn B s f m g Q I N P hp;rw[List.append_nil]at g;subst g;refine ng ?_;refine ai N fun u U=>ah u fun b9 he=>?_;refine An (A:=(mi (k+2)).in1.over (ni f6 v q) [Fr f6 q d2 a3 O]) W.handled he U (by simp[S]) fun h' Y b2=>?_;have K:GoX c (· =b7) (fun J=>False) f s f {s with heap:=h'}:=
   ⟨fun a o t J d=>Y a o t d,.inl (by refine ah I.gl.cH fun o ho=>?_;rw[ho];exact Y _ _ (Ne.symm (I.ap b7 (by simp)).P) ho),Nat.le_refl _,fun J J J=>rfl,fun b6 x h d=>by
    refine ay h (fun h=>?_) fun h=>?_
    ·have e':s.gens[b6]? =some x:=d;rw[Array.getElem?_eq_none h]at e';contradiction
    ·exact h.elim,rfl,fun J J d=>d,fun J J=>rfl,fun a o d=>⟨(I.gx.sub a o d).1,Y a o (by rintro rfl;rw[I.fx _ (by simp)]at d;contradiction) (I.gx.sub a o d).2⟩,Nat.le_refl _⟩
  have I1:=I.lW K (fun a t=>by
   have a7:a=b7:=t;subst a7;exact bx (by simp) (Ne.symm z) b2)
  have e1:(aW b j.length ([]:List Nat)).length=if b then 1 else 0:=by rcases b with _|_<;>rfl
  rw[e1];refine sC (yF y X I1 P hp (dn:=dn) ?_);rw[Q];rcases b with _|_<;>rfl
 |cons w r ih=>
  intro j b dn B s f m g Q I N P hp;refine ng ?_;have U:=Ao (c:=c) (n:=k+1) (i:=i) (d6:=d6) (B:=[.Name eK (f6 32),.Name mj (f6 33)]) (k:=0) (O:=f6 34) b3 (Ne.symm (I.ap v (by simp)).P) (Ne.symm (I.ap b7 (by simp)).P);have b1:(nj i)[j.length]? =some (.tup [.int j.length,.str (S [w])]):=by
   unfold nj;rw[List.getElem?_map,List.getElem?_zipIdx,←g];simp
  refine wpAny_mono (U.item _ j.length f s _ (fun J J=>False) W b1 ⟨N,(fun a o h=>by contradiction),fun a t=>I.fx a (List.mem_cons_of_mem _ t)⟩ I.gl I.gx.sub I.tk) (fun r1 s1 L=>?_) fun J J f6=>f6;refine au L fun c4 u k1=>?_;subst u;refine wpAny_mono k1 (fun J s2 M=>?_) fun J J f6=>f6;obtain⟨f2,K,hv,a2,_,_⟩:=M;have E:=I.lW K (fun a t=>by
   refine bx (List.mem_cons_of_mem _ t) ?_ ?_
   ·refine memC t (fun u=>?_) fun t=>?_
    ·subst u;exact Ne.symm F
    ·rw[List.mem_singleton.mp t];exact Ne.symm z
   ·obtain⟨⟨b9,L⟩,o,M,_⟩:=a2;refine memC t (fun u=>?_) fun t=>?_
    ·subst u;rw[show s2.heap.get? _=_ from L];simp
    ·rw[List.mem_singleton.mp t,M];simp)
  refine dp (hv.isTup E.gx.sub) fun T c2 u hT b5=>?_;subst u;obtain⟨va,c5,ev,⟨H,rfl⟩,vb,c3,rfl,⟨C,rfl⟩,a6⟩:=b5;obtain rfl:c3=[]:=a6;have a5:c2=#[.int (j.length:Int) H,.str (S [w]) C]:=by
   apply Array.ext';rw[ev]
  subst a5;refine wpAny_assign_Tuple W.handled (items:=#[.int (j.length:Int) H,.str (S [w]) C]) hT rfl rfl fun h3 Z=>?_;have I3:GI c q [q.locals,v,b7] B f2 {s2 with heap:=h3} m:=E.go ((Go.refl E.gx.sub).heap (fun a o d=>Z a o (Nat.ne_of_lt (Heap.lt_size d)) d) E.gl.cH);refine(?_ :wpAny _ _ (do PySem.holding [.str (S [w]) C] (assign (.Name eK (f6 32)) q (.int (j.length:Int) H));do PySem.holding [] (assign (.Name mj (f6 33)) q (.str (S [w]) C));pure ()) _ _ _);refine wpAny_bind (wpAny_holding (wpAny_assign_Name (I3.store y.pos V fun s4 I4 a0 J=>?_)));refine wpAny_bind (wpAny_holding (wpAny_assign_Name (I4.store y.ch V fun s5 I5 a1 J=>wpAny_pure ?_)));have c0:rG v b7 (S i) d6 (j.length+1) s5.heap:=a2.kept (fun o d=>by
    rw[a1 _ (Ne.symm F),a0 _ (Ne.symm F)];exact Z _ _ (Nat.ne_of_lt (Heap.lt_size d)) d) fun o d=>by
    rw[a1 _ (Ne.symm z),a0 _ (Ne.symm z)];exact Z _ _ (Nat.ne_of_lt (Heap.lt_size d)) d
  refine yG y X I5 (Q:=b) (k:=j.length) (z:=w) (i:=r) (by rw[if_neg (by decide+kernel),if_neg (by decide+kernel)];exact P) ⟨H,by rw[if_neg (by decide+kernel),if_pos rfl]⟩ ⟨C,if_pos rfl⟩ Q fun b' a4 c1 s' f' m' b0 I' a8 b4 R=>?_;have G:(j++[w]).length=j.length+1:=by simp
  have:=ih (j++[w]) b' a4 c1 s' f' m' (by rw[←g];simp) (by rw[G];exact b0) I' (by rw[G];exact c0.kept (fun o d=>R v (by simp) (Ne.symm F) o d) fun o d=>R b7 (by simp) (Ne.symm z) o d) a8 (fun a9=>by rw[G];exact b4 a9);rw[G]at this;exact seg_again rfl this
noncomputable def ku(q:Nat→Pos):List Stmt:=[.Assign [.Name eK (q 35)] (.Constant (.int 0) 0 (q 36)) (q 37),.Assign [.Name ft (q 38)] (.Constant (.bool false) 0 (q 39)) (q 40),
 .For (ub q) (.Call (.Name (Str.ofString "enumerate") (q 41)) [.Name fX (q 42)] [] (q 43)) (sL q) [] (q 44)]++v9 q
theorem yI(b:qv q e)(v:20*(n+2)≤900∧60*(n+2)≤9000)(H:lC c (Str.ofString "enumerate") (.type "enumerate"))(E:e.names.lookup (Str.ofString "enumerate")=some .globalImplicit)(C:i.all (· <128)=true)(I:GI c q [q.locals] s jI s c3)(A:c3 fX=some (.str (S i) d6)):
  Seg (model c.prog c.w) (mi (n+2)).in1 (sJ c [q.locals,s.heap.objs.size+1,s.heap.objs.size]) (GY c [q.locals,s.heap.objs.size+1,s.heap.objs.size] ((aW false 0 i).map dm)) (aW false 0 i).length s (.func (ku f6) q) ((model c.prog c.w).den (.func (ku f6) q)) [] s:=by
 have M:bJ (n+1) ((mi (n+2)).in1.over (.func (ku f6) q) []):=nf (n:=n+1) v rfl (Nat.le_of_ble_eq_true rfl) (Nat.le_of_ble_eq_true rfl);have r:q.scope.kind= .function:=by rw[b.ok.scope];exact b.ok.kind
 refine seg_func ?_;unfold ku;refine seg_execs_cons (jH (wpAny_Assign_Name (wpAny_Constant_int ?_) rfl));have z:GI c q [q.locals] s jI {s with toks:=s.toks+1} c3:=I.go (Go.toks (t:=s) (Go.refl nh));refine z.store b.pos r fun X f P K=>?_;refine seg_execs_cons (jH (wpAny_Assign_Name (show wpAny _ _ (pure (Value.bool false)) _ _ _ from wpAny_pure ?_) rfl));refine f.store b.qw r fun t j Q L=>?_;refine seg_execs_cons (Am (fun J=>rfl) ?_);have O:St c jI [] q t:=j.st b.cells fun x d h=>nomatch h;have w:t.heap.objs.size=s.heap.objs.size:=L.trans K;have B:(fun y=>if y=ft then some (Value.bool false)else if y=eK then some (Value.int 0 s.toks)else c3 y) fX=some (.str (S i) d6):=by
  refine(?_ :(if fX=ft then _ else if fX=eK then _ else c3 fX)=_);rw[if_neg (by decide+kernel),if_neg (by decide+kernel)];exact A
 refine lJ H (.type "enumerate") E rfl (by decide+kernel) M b.ok O (mY rfl (wpAny_Name (wpAny_loadName_local r b.addr j.ns B ⟨j.gl.K,?_⟩) (by decide+kernel)));refine call_enumerate_str fun p k m T F=>wpAny_pyIter_enum k fun U=>?_;rw[w]at k m;have G:strIterType (S i)="str_ascii_iterator" :=by
  unfold strIterType;rw[if_pos];refine(?_ :(i.toArray.all _)=true);rw[List.all_toArray];exact C
 rw[G]at m;have fresh:∀a,s.heap.objs.size≤a→s.heap.get? a=none:=fun a h=>Heap.get?_none_of_le h;have g:GI c q [q.locals] s jI {t with heap:=p} _:=j.go ((Go.refl nh).heap F j.gl.cH);have u:q.locals<s.heap.objs.size:=by refine cX I.ns fun o J J a0 J=>?_;exact Heap.lt_size a0
 have l:=g.more (X':=[q.locals,s.heap.objs.size+1,s.heap.objs.size]) (fun a h=>by rw[List.mem_singleton.mp h];exact List.mem_cons_self) (fun a h=>by
  refine memC h (fun h=>?_) fun h=>?_
  ·exact .inl (by rw[h];simp)
  ·refine memC h (fun h=>?_) fun h=>?_
   ·subst h;exact .inr ⟨rfl,by rw[show p.get? _=_ from k];simp,Apart.of I.gl (fresh _ (Nat.le_succ _))⟩
   ·rw[List.mem_singleton.mp h];exact .inr ⟨rfl,by refine au m fun o a0 J=>?_;refine(?_ :p.get? _≠none);rw[a0];simp,Apart.of I.gl (fresh _ (Nat.le_refl _))⟩)
 rw[w];exact yH (c:=c) (k:=n) (i:=i) (d6:=d6) (f6:=f6) (l:=(aW false 0 i).map dm) b v (Nat.succ_ne_self _) (Nat.ne_of_lt (Nat.lt_succ_of_lt u)) (Nat.ne_of_lt u) i [] false [] s _ jI _ rfl rfl l ⟨⟨_,k⟩,m⟩ (if_pos rfl) (fun h=>nomatch h)
structure x2(c:Cx)(k:Nat)(I:Addr)(G:Nat)(tg:Expr)(ds:List D)(T:Nat→List Addr→FH→Shared→Prop):Prop where
 keep:∀i F f s f' s',T i F f s→(∀a o,f a=some o→f' a=some o)→(∀a∈F,f' a=f a)→(∀a∈F,∀o,s.heap.get? a=some o→s'.heap.get? a=some o)→s'.gens[G]? =s.gens[G]? →T i F f' s'
 item:∀A i F f s d E,bJ k A→ds[i]? =some d→T i F f s→Gl c s.heap→Sub c f s.heap→0<s.toks→
   wpAny (model c.prog c.w) A (pyNext (.ref I)) (fun r s1=>∃v,r=some v∧wpAny (model c.prog c.w) A (letOwnedTupleGo tg (.ref I) v) (fun J s'=>∃f' F',(∀a∈F',a∈F∨s.heap.get? a=none)∧GoX c (· ∈F) (· =G) f s f' s'∧Val c f' d v∧T (i+1) F' f' s') E s1) E s
 done:∀A F f s E,bJ k A→T ds.length F f s→Gl c s.heap→Sub c f s.heap→0<s.toks→wpAny (model c.prog c.w) A (pyNext (.ref I)) (fun r s'=>r=none∧∃f',GoX c (· ∈F) (· =G) f s f' s') E s
 live:∀i F f s,T i F f s→∀a∈F,s.heap.get? a≠none
noncomputable def ov(c:Cx)(k:Nat)(i:Scope)(n:bD)(e m:Expr)(d:List D):Prop:=
 ∀(A:Around)(env:Env)(f:FH)(s:Shared)(Q:Value→Shared→Prop)(E:Value→Shared→Prop),bJ k A→bE env i→St c f n env s→
  (∀I G F h b T,Go c f s b h→x2 c k I G m d T→T 0 F b h→(∀a∈F,s.heap.get? a=none)→s.gens.size≤G∧G<h.gens.size→Q (.ref I) h)→
  wpAny (model c.prog c.w) A (eval e env) (fun x j=>wpAny (model c.prog c.w) A (pyIter x) Q E j) E s
noncomputable def Off(c:Cx)(env:Env)(h:List Str)(u:FH)(a:Addr):Prop:=a≠c.P∧¬Zn env h u a∧a≠env.locals∧∀n b,env.cells.lookup n=some b→a≠b
theorem Run.off(R:Run c p q s f r y a2 G t)(h:t.heap.get? v=none):Off c q p a2 v:=by
 refine cp ?_ ?_ ?_ (fun n b e=>?_)
 ·rintro rfl;refine ah R.base.gl.cH fun o e=>?_;have d:t.heap.get? c.P=some o:=e;rw[h]at d;contradiction
 ·rintro(⟨z,i,j⟩|a0)
  ·exact R.live i j h
  ·exact R.vq a0 h
 ·rintro rfl;exact R.nV h
 ·rintro rfl;exact R.nW e h
noncomputable def BB(c:Cx)(k:Nat)(r:Scope)(b:List Str)(n:Expr)(o:List Stmt)(p:List D)(t:bD)(v:Omega)(q:Out):Prop:=
 ∀{A:Around}{env:Env}{s₀ h s:Shared}{f₀ j f d u:FH}{I:Addr}{G:Nat}{F:List Addr}{T:Nat→List Addr→FH→Shared→Prop}{pre:List D}{R:Result→Shared→Prop},
  bJ k A→bE env r→Gl c.bare s₀.heap→bS c (Zn env b d) j h f s→(∀a,u a≠none→d a≠none∨h.heap.get? a=none)→Run c b env s₀ f₀ t v u f s→(∀a,s₀.heap.get? a≠none→h.heap.get? a≠none)→s₀.gens.size≤h.gens.size→
  x2 (c.wo noOwn) k I G n (pre++p) T→T pre.length F f s→(∀a∈F,h.heap.get? a=none∧Off c env b u a)→(h.gens.size≤G∧G<s.gens.size)→
  (∀m e i,bS c (Zn env b d) j h i e→rA c b env s₀ f₀ d h q m i e→R (.ok m) e)→codeAny (model c.prog c.w) A (.forLoop n (.ref I) o [] env) R s
theorem yJ:BB c n e p o a3 [] r y (.next r y):=by
 intro A l w W s X U f D u I G F T Z R a1 a2 B g O RR M L P t d q H;refine eP (wpAny_mono (P.done A F f s (notedBy (model c.prog c.w) A l fun a0 Q=>R (.error a0) Q) a1 (by rw[List.append_nil _];exact t) (RR.base.gl.cT) RR.base.sub RR.base.tk) (fun x v E=>?_) fun J J a0=>a0);obtain⟨rfl,m,h⟩:=E;have K:∀a∈F,w.heap.get? a=none:=fun a b=>by
  rcases a0:w.heap.get? a with _|Y
  ·rfl
  ·exact absurd (d a b).1 (M a (by rw[a0];simp))
 have z:=RR.lW B h (fun a b=>⟨K a b,(d a b).2.2⟩) fun i j=>by
  have k:i=G:=j;subst k;exact Nat.le_trans L q.1
 refine wpAny_execs_nil (H .next v m ?_ (.next z O));have C:GoX c (· ∈F) (· =G) f s m v:=⟨h.keep,h.tab,h.aD,h.gens,h.bare,h.os,h.ext,h.old,h.sub,h.tk⟩;exact g.lT C (fun a b=>(d a b).1) fun i j=>by
  have k:i=G:=j;subst k;exact q.1
theorem rH(d:eO o j u)(c1:dk r u a6)(b9:∀x∈u.map (·.1),x∈p∧x∉y.map (·.1))(hn:(r.map (·.1)).Nodup)(hb:(∃a8 a9 b0,Wp c n e p a6 y a3 (.next a8 b0)∧(∀x j,(x,some j)∈a9→(x,some j)∈a8)∧BB c n e p o a3 l a9 b0 g4)∨∃a0,g4= .ret a0∧Wp c n e p a6 y a3 (.ret a0)):BB c n e p o a3 (j::l) r y g4:=by
 intro A k X m s b1 fF f Y a2 I G F T a7 R a1 a4 C WF hu RR b3 b2 M t L E hR;refine eP (wpAny_mono (M.item A a7.length F f s j (notedBy (model c.prog c.w) A k fun a0 s'=>R (.error a0) s') a1 (by simp) t (RR.base.gl.cT) RR.base.sub RR.base.tk) (fun x s1 V=>?_) fun J J a0=>a0);refine au V fun v g k1=>?_;subst g;refine wpAny_mono k1 (fun J U h2=>?_) fun J J a0=>a0;refine hJ h2 fun w Z b6 b hv t2=>?_;have b7:∀a∈F,X.heap.get? a=none:=fun a d=>by
  rcases a0:X.heap.get? a with _|O
  ·rfl
  ·exact absurd (L a d).1 (b3 a (by rw[a0];simp))
 have R2:=RR.lW C b (fun a d=>⟨b7 a d,(L a d).2.2⟩) fun i hi=>by
  have a5:i=G:=hi;subst a5;exact Nat.le_trans b2 E.1
 have b5:GoX c (· ∈F) (· =G) f s w U:=⟨b.keep,b.tab,b.aD,b.gens,b.bare,b.os,b.ext,b.old,b.sub,b.tk⟩;have W2:bS c (Zn k p Y) fF m w U:=WF.lT b5 (fun a d=>(L a d).1) fun i hi=>by
  have a5:i=G:=hi;subst a5;exact E.1
 have b4:∀a∈Z,U.heap.get? a≠none:=M.live _ _ _ _ t2;have Q:∀a∈Z,m.heap.get? a=none∧Off c k p a2 a:=fun a d=>by
  refine ay (b6 a d) (fun h=>?_) fun h=>?_
  ·exact L a h
  ·refine⟨?_,RR.off h⟩;rcases a0:m.heap.get? a with _|O
   ·rfl
   ·exact absurd h (WF.has a (by rw[a0];simp))
 refine R2.pY a1.handled a4 C d b9 hv c1 hn fun s3 R3 W=>?_;have zu:∀a,Zn k p a2 a→Zn k p Y a∨m.heap.get? a=none:=lV hu;have N:bS c (Zn k p Y) fF m w s3:=W2.trans W.pz zu;refine ay hb (fun g=>jB g fun a8 a9 b0 hw c0 next=>?_) fun J2=>au J2 fun a0 J3 hw=>?_
 ·refine hw A k X b1 w s3 a2 _ _ a1 a4 C R3 fun fl s4 S K P=>?_;obtain⟨rfl,u4,R4,hd⟩:=P;have B:bS c (Zn k p a2) w U S s4:=W.pz.trans K fun J h=> .inl h;have c2:∀a,u4 a≠none→Y a≠none∨m.heap.get? a=none:=fun a q=>by
   refine ay (hd a q) (fun t=>?_) fun t=>?_
   ·exact hu a t
   ·refine .inr ?_;rcases a0:m.heap.get? a with _|O
    ·rfl
    ·exact absurd t (N.has a (by rw[a0];simp))
  refine next (F:=Z) (pre:=a7++[j]) a1 a4 C (N.trans K zu) c2 (R4.weaken c0) b3 b2 (by rw[List.append_assoc _ _ _];exact M) ?_ ?_ ?_ hR
  ·rw[List.length_append];exact M.keep _ _ _ _ _ _ t2 B.ext (fun a d=>B.old a (Q a d).2.2.1 (b4 a d)) (fun a H O a0=>B.keep a O (Q a H).2.2.1 (Q a H).2.1 a0) (B.gens G (Nat.lt_of_lt_of_le E.2 b.aD))
  ·intro a H;refine bQ (Q a H) fun h0 V h3 h4=>?_;refine cp h0 V ?_ h4;rintro(z|z)
   ·exact h3 (.inl z)
   ·refine ay (hd a z) (fun q=>?_) fun q=>?_
    ·exact h3 (.inr q)
    ·exact absurd q (W.has a (b4 a H))
  ·exact⟨E.1,Nat.lt_of_lt_of_le E.2 (Nat.le_trans b.aD B.aD)⟩
 ·subst J3;refine hw A k X b1 w s3 a2 _ _ a1 a4 C R3 fun fl s4 S K P=>?_;refine bA P fun v' g G' c3=>?_;subst g;exact hR _ s4 S (N.trans K zu) ⟨v',rfl,G',c3⟩
theorem ez.Cu(h:ez c n e p o a3 l r y g4):BB c n e p o a3 l r y g4:=by
 induction h with
 |done=>exact yJ
 |step b j d i k m _ q=>exact rH b j d i (.inl ⟨_,_,_,k,m,q⟩)
 |ret b j d i k=>exact rH b j d i (.inr ⟨_,rfl,k⟩)
theorem av.Ap{iter:Expr}(H:ov (c.wo noOwn) n e r iter o l)(J:ez c n e p o a3 l r y g4)(K:gC iter=true:=by rfl):av c n e p r y (.For o iter a3 [] O) g4:=fun A b Y X f s u Q E a1 a0 g R C=>by
 refine wpAny_For (H A b f s _ E a1 a0 R.stN fun I G F U w T d L t i B=>?_) fun x=>gU K b x;have k:=R.step (d.kl.tF (u:=u));have m:bS c (Zn b p u) f s w U:= .ry d.kl;refine J.Cu (pre:=[]) a1 a0 g m (fun a q=> .inl q) k (fun a q=>R.go.has q) R.go.aD L t (fun a j=>⟨i a j,?_⟩) B fun z M v W P=>C z M v W P;have h:=R.off (i a j);exact h
theorem wa(i:s.heap.IsGen v k)(b:c6 () s):
  wpAny (model a7 b4) A (letOwnedTupleGo (.Tuple B n O) (.ref v) (.ref b7)) c6 E s:=by
 refine zL i fun o m p j d e J=>?_;unfold letOwnedTupleGo;refine wpAny_bind (wpAny_load j ?_);rw[d,e];refine(?_ :wpAny _ A (if(["enumerate","zip","dict_itemiterator","dict_reverseitemiterator","odict_iterator","itertools.zip_longest","itertools.pairwise"].contains "generator" &&
   (#[.int k 0,m,p]:Array Value)[0]? ==some (rawInt b7))=true then _ else _) c6 E s)
 rw[if_neg (by
  intro h;rw[show(["enumerate","zip","dict_itemiterator","dict_reverseitemiterator","odict_iterator","itertools.zip_longest","itertools.pairwise"].contains "generator")=false from by decide,Bool.false_and]at h;contradiction)]
 exact wpAny_pure b
theorem ji(h:k≠n):(s.setGen n h3).gens[k]? =s.gens[k]? :=(GenOnly.setGen s n h3).2 k h
theorem fY:(s.setGen n h3).gens.size=s.gens.size:=(GenOnly.setGen s n h3).1
theorem ud{X F:List Addr}{j:GenState}(P:Sub c f s.heap)(C:∀x∈F,f x=none)(E:∀x∈X,x∈F∨s.heap.get? x=none)(d:dY c (· ∈X) jI (s.setGen n .running) G t)(I:s.gens[n]? =some h3)(H:j.bare=true)(m:∀b o,t.heap.get? b=some o→U.get? b=some o)(A:Gl c s.heap):GoX c (· ∈F) (· =n) f s (f.er G) {t.setGen n j with heap:=U}:=by
 have L:n<s.gens.size:=by
  refine ay (Nat.lt_or_ge n s.gens.size) (fun q=>?_) fun q=>?_
  ·exact q
  ·rw[Array.getElem?_eq_none q]at I;contradiction
 have y:s.gens.size≤t.gens.size:=by have:=d.aD;rw[fY]at this;exact this
 have l:∀a,s.heap.get? a≠none→G a=none:=fun a h=>d.old a h;have z:∀a o,a∉F→a≠c.P→s.heap.get? a=some o→t.heap.get? a=some o:=fun a o r p e=>d.keep a o (fun v=>by
  refine ay (E a v) (fun q=>?_) fun q=>?_
  ·exact r q
  ·rw[q]at e;contradiction) p e
 refine⟨fun a o r p e=>m a o (z a o r p e),?_,?_,fun i K w=>?_,fun i x h e=>?_,d.os,fun a o e=>FH.dG e,fun a h=>?_,fun a o e=>?_,d.tk⟩
 ·refine(show fa c s.heap t.heap from d.tab).trans (.inl ?_);refine ah A.cH fun o O=>?_;have:t.heap.get? c.P≠none:=(show fa c s.heap t.heap from d.tab).has (by rw[O];simp);rcases e:t.heap.get? c.P with _|Q
  ·exact absurd e this
  ·exact m _ _ e
 ·refine(?_ :s.gens.size≤(t.setGen n j).gens.size);rw[fY];exact y
 ·refine(?_ :(t.setGen n j).gens[i]? =_);rw[ji w];have:=d.gens i (by rw[fY];exact K) id;rw[this,ji w]
 ·have k:(t.setGen n j).gens[i]? =some x:=e;by_cases u:i=n
  ·subst u;have M:i<t.gens.size:=Nat.lt_of_lt_of_le L y;have B:t.gens[i]? =some t.gens[i]:=Array.getElem?_eq_getElem M;rw[setGen_self B]at k;cases k;exact H
  ·refine ay h (fun h=>?_) fun h=>?_
   ·rw[ji u]at k;exact d.bare i x (.inl (by rw[fY];exact h)) k
   ·exact absurd h u
 ·rcases q:f a with _|o
  ·rw[FH.dH q];exact l a h
  ·exact FH.dG q
 ·refine ay (FH.gE e) (fun q=>?_) fun g=>ai g fun J q=>?_
  ·have:=P a o q;exact⟨this.1,m _ _ (z a o (fun v=>by rw[C a v]at q;contradiction) this.1 this.2)⟩
  ·have:=d.sub a o q;exact⟨this.1,m _ _ this.2⟩
theorem Aq{X:List Addr}(k:Sub c f s.heap)(b:dY c (· ∈X) jI (s.setGen n .running) G t)(h:Val c G j C):Val c (f.er G) j C:=h.mono fun a o e=>by
 rw[FH.dH]
 ·exact e
 ·rcases q:f a with _|m
  ·rfl
  ·
   have d:=(k a m q).2;have i:=b.old a (by refine(?_ :s.heap.get? a≠none);rw[d];simp);rw[e]at i;contradiction
noncomputable def eT(c:Cx)(k:Nat)(env:Env)(q:Nat→Pos)(l:List Nat)(t:Tok)(a:Addr)(g i:Nat)(F:List Addr)(f:FH)(s:Shared):Prop:=
 s.heap.IsGen a g∧(∀x∈F,f x=none∧s.heap.get? x≠none∧Apart c x)∧a∈F∧a≠env.locals∧
 ((i=0∧F=[a,env.locals]∧s.gens[g]? =some (.fresh (.func (ku q) env))∧∃m,s.heap.Ns env.locals m∧m fX=some (.str (S l) t))∨
  ∃e h d,F=[a,env.locals,e,h]∧a≠e∧a≠h∧s.gens[g]? =some d∧∀b:Shared,(∀x∈[env.locals,e,h],∀o,s.heap.get? x=some o→b.heap.get? x=some o)→Gl c b.heap→0<b.toks→
   d.Goes (model c.prog c.w) (mi (k+2)).in1 (sJ c [env.locals,e,h]) (GY c [env.locals,e,h] ((aW false 0 l).map dm)) (((aW false 0 l).map dm).length-i) (.send .none) b)
theorem wb(h:n<k):k-n=k-(n+1)+1:=(Nat.succ_pred_eq_of_pos (Nat.sub_pos_of_lt h)).symm
theorem yK(h:n<k):k-1-(k-(n+1)+1-1)=n:=by
 refine ah (Nat.exists_eq_add_of_lt h) fun a0 b=>?_;subst b;refine(?_ :n+a0-(n+a0+1-(n+1))=n);rw[Nat.add_sub_add_right _ _ _,Nat.add_sub_cancel_left _ _,Nat.add_sub_cancel _ _]
theorem eT.next(V:qv q e)(hk:20*(k+2)≤900∧60*(k+2)≤9000)(Z:lC c (Str.ofString "enumerate") (.type "enumerate"))(hg:e.names.lookup (Str.ofString "enumerate")=some .globalImplicit)(a5:i.all (· <128)=true){F:List Addr}(a2:eT c k q f6 i d6 v z T F f s)(y:Gl c s.heap)(hs:Sub c f s.heap)(Y:0<s.toks)(r:bJ (k+2) A)(hY:∀(X:List Addr)(a0 u:Addr) a1 t l w d,X=[q.locals,a0,u]→(∀x∈X,x∈F∨s.heap.get? x=none)→(∀x∈F,x=v∨x∈X)→v≠a0→v≠u→l.bare=true→T<((aW false 0 i).map dm).length→((aW false 0 i).map dm)[T]? =some d→dY c (· ∈X) jI (s.setGen z .running) w t→(∀x∈X,w x=none∧t.heap.get? x≠none∧Apart c x)→Val c w d a1→
   (∀K,(∀x∈X,∀o,t.heap.get? x=some o→K.heap.get? x=some o)→Gl c K.heap→0<K.toks→l.Goes (model c.prog c.w) (mi (k+2)).in1 (sJ c X) (GY c X ((aW false 0 i).map dm)) (((aW false 0 i).map dm).length-(T+1)) (.send .none) K)→g1 (some a1) (t.setGen z l))(hP:∀(X:List Addr) t w,(∀x∈X,x∈F∨s.heap.get? x=none)→((aW false 0 i).map dm).length≤T→dY c (· ∈X) jI (s.setGen z .running) w t→∀G,(∀b o,t.heap.get? b=some o→G.get? b=some o)→g1 none {t.setGen z .finished with heap:=G}):
  wpAny (model c.prog c.w) A (pyNext (.ref v)) g1 E s:=by
 refine gr a2 fun a6 B a4 b1 a2=>?_;have a8:((aW false 0 i).map dm).length=(aW false 0 i).length:=List.length_map _;have R:∀(X:List Addr)(a0 u:Addr)(g:GenState),X=[q.locals,a0,u]→(∀x∈X,x∈F∨s.heap.get? x=none)→(∀x∈F,x=v∨x∈X)→v≠a0→v≠u→(∀x∈X,Apart c x)→s.gens[z]? =some g→
   g.Goes (model c.prog c.w) (mi (k+2)).in1 (sJ c X) (GY c X ((aW false 0 i).map dm)) (((aW false 0 i).map dm).length-T) (.send .none) (s.setGen z .running)→wpAny (model c.prog c.w) A (pyNext (.ref v)) g1 E s:=by
  intro X a0 u g hX D a3 L M N C Q;refine sG (P:=GP c X) (k:=((aW false 0 i).map dm).length-T) (yE r) r.handled y.lim r.lim a6 C Q (fun a1 t l hb Z=>?_) (fun t hp G a7=>?_)
  ·refine kc Z fun w d O a j a9 I=>?_;by_cases H:T<((aW false 0 i).map dm).length
   ·rw[wb H]at O I;rw[yK H]at O;exact hY X a0 u a1 t l w d hX D a3 L M hb H O a (fun x W=>⟨(j x W).1,(j x W).2,N x W⟩) a9 I
   ·rw[Nat.sub_eq_zero_of_le (Nat.le_of_not_lt H)]at I;exact(I t (fun J J J h=>h) (Gl.stays (X:=(· ∈X)) (U:=s.heap) y a.keep a.tab N) (Nat.lt_of_lt_of_le Y a.tk)).elim
  ·obtain⟨U,w,a,_⟩:=hp;exact hP X t w D (Nat.le_of_sub_eq_zero U) a G a7
 refine ay a2 (fun p=>?_) fun J2=>bR J2 fun a0 u g J3 L M C Q=>?_
 ·obtain⟨rfl,rfl,C,m,U,hm⟩:=p;have fresh:∀x,s.heap.objs.size≤x→s.heap.get? x=none:=fun x h=>Heap.get?_none_of_le h;have b0:∀{x},s.heap.get? x≠none→x<s.heap.objs.size:=fun{x} h=>by
   rcases a0:s.heap.get? x with _|o
   ·exact absurd a0 h
   ·exact Heap.lt_size a0
  have S:=b0 (B v a4).2.1;refine R [q.locals,s.heap.objs.size+1,s.heap.objs.size] (s.heap.objs.size+1) s.heap.objs.size _ rfl (fun x j=>?_) (fun x j=>?_) (Nat.ne_of_lt (Nat.lt_succ_of_lt S)) (Nat.ne_of_lt S) (fun x j=>?_) C ⟨rfl,?_⟩
  ·refine memC j (fun p=>?_) fun j=>?_
   ·subst p;exact .inl (by simp)
   ·refine .inr (fresh _ ?_);refine memC j (fun p=>?_) fun j=>?_
    ·subst p;exact Nat.le_succ _
    ·rw[List.mem_singleton.mp j];exact Nat.le_refl _
  ·refine memC j (fun p=>?_) fun j=>?_
   ·subst p;exact .inl rfl
   ·rw[List.mem_singleton.mp j];exact .inr (by simp)
  ·refine memC j (fun p=>?_) fun j=>?_
   ·subst p;exact(B _ (by simp)).2.2
   ·refine memC j (fun p=>?_) fun j=>?_
    ·subst p;exact Apart.of y (fresh _ (Nat.le_succ _))
    ·rw[List.mem_singleton.mp j];exact Apart.of y (fresh _ (Nat.le_refl _))
  ·rw[a8];exact yI (c:=c) (n:=k) (s:=s.setGen z .running) (i:=i) (d6:=d6) (c3:=m) V hk Z hg a5 ⟨dY.refl nh,fun J J=>rfl,y,U,fun x j=>by rw[List.mem_singleton.mp j];exact(B _ (by simp)).2.1,Y,fun x j=>by rw[List.mem_singleton.mp j];exact(B _ (by simp)).2.2,List.mem_cons_self⟩ hm
 ·subst J3;refine R [q.locals,a0,u] a0 u g rfl (fun x j=> .inl (List.mem_cons_of_mem _ j)) (fun x j=>?_) L M (fun x j=>(B x (List.mem_cons_of_mem _ j)).2.2) C (Q (s.setGen z .running) (fun J J J h=>h) y Y);refine memC j (fun p=>?_) fun j=>?_
  ·subst p;exact .inl rfl
  ·exact .inr j
theorem yL{g:Nat}(a6:qv q e)(hk:20*(n+2)≤900∧60*(n+2)≤9000)(hv:lC c (Str.ofString "enumerate") (.type "enumerate"))(hg:e.names.lookup (Str.ofString "enumerate")=some .globalImplicit)(a9:i.all (· <128)=true):x2 c (n+2) v g (.Tuple B k O) ((aW false 0 i).map dm) (eT c n q f6 i d6 v g) where
 live:=fun b4 F f s T x b=>(T.2.1 x b).2.1
 keep:=fun b4 F f s f' s' T hf hF Y b1=>by
  refine gr T fun a2 p w Q T=>?_;have lv:∀x∈F,s'.heap.get? x≠none:=fun x b=>by
   rcases a0:s.heap.get? x with _|o
   ·exact absurd a0 (p x b).2.1
   ·rw[Y x b o a0];simp
  refine gv ?_ (fun x b=>⟨(hF x b).trans (p x b).1,lv x b,(p x b).2.2⟩) w Q ?_
  ·refine cX a2 fun o nm qn z r=>?_;exact lR o nm qn (Y v w o z) r
  ·refine ay T (fun j=>?_) fun I=>bR I fun a0 P a J3 L M y c0=>?_
   ·obtain⟨rfl,rfl,y,m,⟨o,es,ep,z,r⟩,hm⟩:=j;exact .inl ⟨rfl,rfl,b1.trans y,m,⟨o,es,ep,Y _ (by simp) o z,r⟩,hm⟩
   ·subst J3;exact .inr ⟨a0,P,a,rfl,L,M,b1.trans y,fun D S R V=>c0 D (fun x b o z=>S x b o (Y x (List.mem_cons_of_mem _ b) o z)) R V⟩
 item:=fun A b4 F f s d E r hd T gl C a4=>by
  have T0:=T;refine gr T0 fun a2 p w Q J=>?_;have a3:∃a,s.gens[g]? =some a:=by
   refine ay T.2.2.2.2 (fun j=>bQ j fun J J y J=>?_) fun I=>bR I fun J J a J J J y J=>?_ <;>exact⟨_,y⟩
  refine ah a3 fun b5 U=>?_;refine T.next a6 hk hv hg a9 gl C a4 r (fun X a0 P c2 u N K d' H l b7 L M hb Z a1 t b a5 b3=>?_) (fun X u K l Z t h' b2=>?_)
  ·rw[hd]at a1;cases a1;have b0:=hd;rw[List.getElem?_map,Option.map_eq_some_iff]at b0;refine au b0 fun pr J j=>?_;subst j;refine dp (a5.isTup t.sub) fun T1 c4 j c3 J=>?_;subst j;have b9:v∉X:=by
    rw[H];simp only[List.mem_cons,List.not_mem_nil,or_false,not_or];exact bx Q L M
   have a8:∀o,s.heap.get? v=some o→u.heap.get? v=some o:=fun o z=>t.keep v o b9 (p v w).2.2.P z;have a7:u.heap.IsGen v g:=by
    refine cX a2 fun o nm qn z r=>?_;exact lR o nm qn (a8 o z) r
   refine aF _ rfl (wa (s:=u.setGen g N) a7 ⟨f.er K,[v,q.locals,a0,P],fun x G=>?_,?_,Aq C t a5,a7,fun x G=>?_,List.mem_cons_self,Q,.inr ⟨a0,P,N,rfl,L,M,?_,fun D S R V=>?_⟩⟩)
   ·refine memC G (fun j=>?_) fun G=>?_
    ·subst j;exact .inl w
    ·exact l x (by rw[H];exact G)
   ·exact ud C (fun x b=>(p x b).1) l t U hb (fun J J h=>h) gl
   ·have fz:∀x,s.heap.get? x=none→f x=none:=fun x h=>by
     rcases a0:f x with _|o
     ·rfl
     ·have:=(C x o a0).2;rw[h]at this;contradiction
    refine memC G (fun j=>?_) fun G=>?_
    ·subst j;refine bx ?_ ?_ ((p _ w).2.2)
     ·rw[FH.dH (p _ w).1];exact t.old _ (p _ w).2.1
     ·rcases a0:s.heap.get? x with _|o
      ·exact absurd a0 (p _ w).2.1
      ·refine(?_ :u.heap.get? x≠none);rw[a8 o a0];simp
    ·have W:x∈X:=by rw[H];exact G
     refine bx ?_ ((b x W).2.1) ((b x W).2.2);rw[FH.dH]
     ·exact(b x W).1
     ·refine ay (l x W) (fun h=>?_) fun h=>?_
      ·exact(p x h).1
      ·exact fz x h
   ·have hz:s.gens.size≤u.gens.size:=by have:=t.aD;rw[fY]at this;exact this
    have c1:g<u.gens.size:=Nat.lt_of_lt_of_le (Array.getElem?_eq_some_iff.mp U).1 hz;exact setGen_self (Array.getElem?_eq_getElem c1)
   ·have b6:∀x∈X,∀o,u.heap.get? x=some o→D.heap.get? x=some o:=by rw[H];exact S
    rw[←H];exact b3 D b6 R V
  ·exact absurd (List.getElem?_eq_some_iff.mp hd).1 (by lia)
 done:=fun A F f s E r T gl C a4=>by
  have p:=T.2.1;have a3:∃a,s.gens[g]? =some a:=by
   refine ay T.2.2.2.2 (fun j=>bQ j fun J J y J=>?_) fun I=>bR I fun J J a J J J y J=>?_ <;>exact⟨_,y⟩
  refine ah a3 fun b5 U=>?_;refine T.next a6 hk hv hg a9 gl C a4 r (fun X a0 P c2 u N K d' H l b7 L M hb Z a1 t b a5 b3=>absurd Z (by(simp+arith))) (fun X u K l Z t h' b2=>?_);exact⟨rfl,f.er K,ud C (fun x b=>(p x b).1) l t U rfl b2 gl⟩
noncomputable def qE:Nat→Pos:=fun n=>([default,⟨40,11,40,17⟩,⟨41,19,41,22⟩,⟨41,24,41,28⟩,⟨41,31,41,33⟩,⟨41,24,41,33⟩,⟨41,18,41,34⟩,⟨41,12,41,34⟩,⟨41,12,41,34⟩,⟨42,12,42,18⟩,⟨42,21,42,26⟩,⟨42,12,42,26⟩,⟨43,13,43,15⟩,⟨43,19,43,23⟩,⟨43,13,43,23⟩,⟨44,12,44,18⟩,⟨44,21,44,25⟩,⟨44,12,44,25⟩,⟨46,19,46,22⟩,⟨46,24,46,26⟩,⟨46,18,46,27⟩,⟨46,12,46,27⟩,⟨46,12,46,27⟩,⟨43,8,46,27⟩,⟨40,8,46,27⟩,⟨47,7,47,13⟩,⟨48,15,48,18⟩,⟨48,20,48,24⟩,⟨48,14,48,25⟩,⟨48,8,48,25⟩,⟨48,8,48,25⟩,⟨47,4,48,25⟩,⟨39,8,39,11⟩,⟨39,13,39,15⟩,⟨39,8,39,15⟩,⟨37,4,37,7⟩,⟨37,10,37,11⟩,⟨37,4,37,11⟩,⟨38,4,38,10⟩,⟨38,13,38,18⟩,⟨38,4,38,18⟩,⟨39,19,39,28⟩,⟨39,29,39,33⟩,⟨39,19,39,34⟩,⟨39,4,46,27⟩]:List Pos).getD n default
theorem bp.bare(b:bp c):bp c.bare:=⟨⟨b.K,ah b.here fun h g=>⟨h,g.bare⟩,b.bl⟩,b.code,b.pl,b.pc⟩
structure Ar(fd:FuncData)(q:Nat→Pos):Prop where
 body:fd.body= .stmts (ku q)
 Bo:fd.closure=[]
 globals:fd.globals=mainGlobals
 builtins:fd.builtins=builtinsNs
 co:fd.scope.isCoroutine=false
 gen:fd.scope.isGenerator=true
 kind:fd.scope.kind= .function
 bind:∀v,bindArgs fd ⟨[v],[]⟩=pure [(fX,v)]
 cells:∀L,cellsFrom L fd.scope.names []=[]
 addr:fd.scope.names.lookup fX=some .local
 pos:fd.scope.names.lookup eK=some .local
 ch:fd.scope.names.lookup mj=some .local
 qw:fd.scope.names.lookup ft=some .local
 enum:fd.scope.names.lookup (Str.ofString "enumerate")=some .globalImplicit
 free:∀n,fd.scope.names.lookup n≠some .free
 BC:∀n,fd.scope.names.lookup n≠some .cell
 code:codeOf fd.scope=none
 int:∀L a,interactive (callEnvC fd L a)=false
theorem yM(hk:20*(n+2)≤900∧60*(n+2)≤9000)(y:c.K.lookup v=some d1)(hd:d1.data= .func f1)(a2:codeIn c.K f1.code f1.qualname=true)(G:Ar f1 f6)(hv:lC c (Str.ofString "enumerate") (.type "enumerate"))(a1:i.all (· <128)=true)(r:bJ (n+2) A)(g:Gl c s.heap)(N:Sub c f s.heap)(a8:0<s.toks)(hQ:∀I G F H T,Go c f s f H→x2 c (n+2) I G (.Tuple B k O) ((aW false 0 i).map dm) T→T 0 F f H→(∀v∈F,s.heap.get? v=none)→s.gens.size≤G∧G<H.gens.size→E (.ref I) H):
  wpAny (model c.prog c.w) A (call (.ref v) [.str (S i) d6]) (fun x a6=>wpAny (model c.prog c.w) A (pyIter x) E V a6) V s:=by
 refine wpAny_call ?_;refine codeAny_call_generator r.lim (g.K _ _ y) hd G.co G.gen G.body (codeRec_of g.K a2) ?_;rw[G.bind _,G.Bo];refine wpAny_pure (bM (wpAny_newFunctionEnv_cells G.kind (fun x m=>?_) fun j W d X R=>?_))
 ·rw[List.mem_singleton.mp m];exact .inl G.addr
 obtain⟨⟨h1,tk,L⟩,P,a3,a7⟩:=X.toInCall;have q:callEnvC f1 s.heap.objs.size v=j:=W.symm;clear W;have M:j.scope=f1.scope:=by rw[←q];rfl
 have w:j.locals=s.heap.objs.size:=by rw[←q];rfl
 have U:j.cells=[]:=by rw[←q];exact G.cells _
 have z:∀x,j.kindOf x=f1.scope.names.lookup x:=fun x=>by refine(?_ :j.scope.names.lookup x=_);rw[M]
 have eo:bE j f1.scope:=⟨M,G.kind,by rw[←q];exact G.globals,by rw[←q];exact G.builtins,fun k n' b e u=>(by rw[U]at e;contradiction),fun k h=>(by
  refine ay h (fun h=>?_) fun h=>?_
  ·exact absurd h (G.BC k)
  ·exact absurd h (G.free k)),fun v e=>(by rw[G.code]at e;contradiction)⟩
 have Q:qv j f1.scope:=⟨eo,U,(z _).trans G.pos,(z _).trans G.ch,(z _).trans G.qw,(z _).trans G.addr,by rw[M];exact G.co,by rw[←q];exact G.int _ _⟩;have a4:∀b t,s.heap.get? b=some t→h1.get? b=some t:=fun b t e=>by have:=a3 b t e;rw[L]at this;exact this
 have p:Go c f s f d:=by
  rw[L];exact(Go.refl (c:=c) N).heap a4 g.cH (by rw[L]at R;exact R)
 have Z:=p.gl g;have C:s.heap.objs.size<d.heap.objs.size:=by
  refine cX P fun t J J y J=>?_;rw[←w];exact Heap.lt_size y
 refine⟨Z.lim,?_⟩;have hm:bindL j.kindOf [(fX,Value.str (S i) d6)] (fun J=>none) fX=some (.str (S i) d6):=by
  exact(nY j.kindOf [(fX,Value.str (S i) d6)] (fun J=>none) (fun J=>none) fX _ (by simp) List.mem_cons_self).1 Q.addr
 have G2:Go c f s f {d with gens:=d.gens.push (.fresh (.func (ku f6) j)),toks:=d.toks+1+1,heap:=d.heap.push {cls:= .type "generator",data:= .fields #[.int d.gens.size 0,.str f1.name d.toks,.str f1.qualname (d.toks+1)]}}:=by
  have o:=p.push (o:={cls:= .type "generator",data:= .fields #[.int d.gens.size 0,.str f1.name d.toks,.str f1.qualname (d.toks+1)]}) Z;have a5:=p.aD;refine⟨o.keep,o.tab,?_,fun a0 l=>?_,fun a0 x l e=>?_,o.os,o.ext,o.old,o.sub,Nat.le_trans o.tk (Nat.le_add_right _ 2)⟩
  ·refine(?_ :s.gens.size≤(d.gens.push _).size);rw[Array.size_push _];(exact Nat.le_succ_of_le ‹_›)
  ·refine(?_ :(d.gens.push _)[a0]? =_);rw[Array.getElem?_push,if_neg (Nat.ne_of_lt (Nat.lt_of_lt_of_le l a5))];exact p.gens a0 l
  ·have u:(d.gens.push _)[a0]? =some x:=e;rw[Array.getElem?_push]at u;split at u
   ·cases u;rfl
   ·exact p.bare a0 x l u
 have D:Heap.IsGen (d.heap.push {cls:= .type "generator",data:= .fields #[.int d.gens.size 0,.str f1.name d.toks,.str f1.qualname (d.toks+1)]}) d.heap.objs.size d.gens.size:=⟨_,_,_,Heap.get?_push_size _ rfl,rfl,rfl,rfl⟩;have a:∀x,s.heap.objs.size≤x→s.heap.get? x=none:=fun x h=>Heap.get?_none_of_le h;have Y:∀x,s.heap.objs.size≤x→f x=none:=fun x h=>(Go.refl N).cj h;refine wpAny_pyIter_gen (s:={d with gens:=d.gens.push (.fresh (.func (ku f6) j)),toks:=d.toks+1+1,heap:=d.heap.push {cls:= .type "generator",data:= .fields #[.int d.gens.size 0,.str f1.name d.toks,.str f1.qualname (d.toks+1)]}}) D ?_;refine hQ d.heap.objs.size d.gens.size [d.heap.objs.size,j.locals] _ (eT c n j f6 i d6 d.heap.objs.size d.gens.size) G2 (yL Q hk hv G.enum a1) ⟨D,fun x m=>?_,List.mem_cons_self,by rw[w];exact Nat.ne_of_gt C,.inl ⟨rfl,rfl,Array.getElem?_push_size ..,_,P.push _,hm⟩⟩ (fun x m=>?_) ⟨p.aD,?_⟩
 ·refine memC m (fun K=>?_) fun m=>?_
  ·subst K;exact bx (Y _ (Nat.le_of_lt C)) (by rw[Heap.get?_push_size _ rfl];simp) (Apart.of g (a _ (Nat.le_of_lt C)))
  ·rw[List.mem_singleton.mp m];refine bx (Y _ (by rw[w];exact Nat.le_refl _)) ?_ (Apart.of g (a _ (by rw[w];exact Nat.le_refl _)));refine cX P fun t J J y J=>?_;rw[Heap.get?_push_of_some _ y];simp
 ·refine memC m (fun K=>?_) fun m=>?_
  ·subst K;exact a _ (Nat.le_of_lt C)
  ·rw[List.mem_singleton.mp m];exact a _ (by rw[w];exact Nat.le_refl _)
 ·refine(?_ :d.gens.size<(d.gens.push _).size);rw[Array.size_push _];(simp+arith)
theorem As(P:Params)(h:fdOf P 66=some f1):Ar f1 qE:=by
 have e:fdOf P 66=some _:=rfl;rw[h]at e;cases e;exact⟨rfl,rfl,rfl,rfl,rfl,rfl,rfl,fun v=>rfl,fun L=>rfl,rfl,rfl,rfl,rfl,rfl,fun n e=>by have:=List.all_eq_true.mp (show(_:List (Str×NameKind)).all (fun p=>p.2 != .free)=true from rfl) _ (mem_of_lookup e);simp at this,fun n e=>by have:=List.all_eq_true.mp (show(_:List (Str×NameKind)).all (fun p=>p.2 != .cell)=true from rfl) _ (mem_of_lookup e);simp at this,rfl,fun J J=>rfl⟩
theorem ov.qw(a:bp c)(U:20*(n+2)≤900∧60*(n+2)≤9000)(K:Ev c.bare (n+2) e r o (.str (S i)))(L:i.all (· <128)=true)(P:e.names.lookup (N "_iter_escaped_chars")=some .globalImplicit)(D:∀j,starEach [o] j=(false,eval o j)::starEach [] j)(X:noStar [o]):ov c.bare (n+2) e r (.Call (.Name (N "_iter_escaped_chars") O) [o] [] Y) (.Tuple B k b1) ((aW false 0 i).map dm):=fun A j f s Q E a1 a2 y J=>by
 have b:=a.bare;refine iu (c:=c.bare) (C:= .ref 66) (b.g (by kernel_rfl)) (.fn (a:=66) (by rw[b.K];rfl) rfl) (ag.cons K ag.nil D) P X (by decide+kernel) a1 a2 y fun vs s1 l h g=>?_;obtain⟨v,a3,rfl,⟨t,rfl⟩,a0⟩:=g;obtain rfl:a3=[]:=a0;obtain⟨d,p⟩:∃d,fdOf c.w.params 66=some d:=⟨_,rfl⟩;have z:=As c.w.params p;have W:∃q u w,(Mine.hd.heap_39 c.w.params).lookup 66=some ⟨q,u,.func d,w⟩∧codeIn (Mine.hd.heap_39 c.w.params) d.code d.qualname=true:=by
  have a0:fdOf c.w.params 66=some _:=rfl;rw[p]at a0;cases a0;exact lR _ _ _ rfl rfl
 refine cX W fun q u w Z M=>?_;refine yM U (c:=c.bare) (B:=B) (k:=k) (O:=b1) (by rw[b.K];exact Z) rfl (by rw[b.K];exact M) z (b.b rfl (by decide+kernel)) L a1 (y.go h).gl h.sub (y.go h).tk fun I G F s' T C V t0 H m=>?_;refine J I G F s' l T (h.trans C) V t0 (fun x R=>?_) ⟨Nat.le_trans h.aD m.1,m.2⟩;rcases a0:s.heap.get? x with _|ob
 ·rfl
 ·exact absurd (H x R) (h.has (by rw[a0];simp))
structure SQ where
 st:Nat
 op:Option Nat
 res:List (List Nat)
noncomputable def ck(l:List Nat)(a:SQ)(p:Nat×List Nat):SQ:=
 if p.2=[34]then match a.op with
  |none=>{a with op:=some p.1}
  |some o=>{st:=p.1+1,op:=none,res:=if a.st=o then a.res else a.res++[bf l (some (a.st:Int)) (some (o:Int)) none]}
 else a
noncomputable def dw(l:List Nat):SQ:=(aW false 0 l).foldl (ck l) ⟨0,none,[]⟩
noncomputable def cI(l:List Nat)(a:SQ):List (List Nat):=if a.st<l.length then a.res++[bf l (some (a.st:Int)) none none]else a.res
noncomputable def wc(l:List Nat):Bool:=(Builtin.Str.occurrences (S l) (N "\"") 0 (S l).length 1).isEmpty
noncomputable def cn(l:List Nat):List Nat:=if wc l then l else(cI l (dw l)).flatten
noncomputable def CT:Option Nat→D
 |none=> .none
 |some n=> .int n
noncomputable def aH(l:List (List Nat)):List D:=l.map fun x=> .str (S x)
theorem dz:∀l,aS (aH l):=by
 intro L
 induction L with
 |nil=>
  exact trivial
 |cons J r h=>
  exact⟨trivial,h⟩
theorem iH(a b:List Nat):(S a==S b)=decide (a=b):=by
 by_cases h:a=b
 ·subst h;simp
 ·rw[decide_eq_false h];exact beq_eq_false_iff_ne.mpr fun e=>h (by
   have:=congrArg (fun x:Str=>x.cps.toList) e;simpa [S]using this)
theorem rI:∀(l:List Nat)(b:Bool)(p:Nat),(aW b p l).length≤l.length+1:=by
 intro L
 induction L with
 |nil=>intro b p;cases b<;>simp[qt,qu]
 |cons c r h=>
  intro b p;rcases b with _|_
  ·rw[sI];have d:=h true (p+1);have e:=h false (p+1);split<;>simp<;>omega
  ·have:=h false (p+1);rw[sH];simp;omega
theorem ue(l:List (List Nat)):Builtin.Str.glued (N "") (l.map S)=S l.flatten:=by
 apply pG;have e:N "" =Str.empty:=by decide+kernel
 rw[e,v8 _]
 induction l with
 |nil=>rfl
 |cons x r h=>rw[List.map_cons,List.flatMap_cons,h,List.flatten_cons];rfl
theorem qx(l:List Nat)(a:SQ)(p:Nat×List Nat):(ck l a p).res.length≤a.res.length+1:=by
 unfold ck;split
 ·split
  ·simp
  ·dsimp only;split<;>simp
 ·simp
theorem aB.rJ:aB c .NotIn (.str a9) (.str x) (!(!(Builtin.Str.occurrences x a9 0 x.length 1).isEmpty)):=fun A f s k m Q E r g h d e i=>by
 refine ah d fun t b=>?_;subst b;refine ah e fun j b=>?_;subst b;exact PyProof.Rows.notIn_str (i _ s f (Go.refl h) rfl)
noncomputable abbrev x3(l:List Nat)(a:SQ)(p h:Option D):bD:=[(N "addr",some (.str (S l))),(N "start",some (.int a.st)),(N "open_pos",some (CT a.op)),(N "pos",p),(N "ch",h)]
noncomputable abbrev x4(l:List Nat)(b:Nat)(d:D)(p h:Option D):bD:=[(N "addr",some (.str (S l))),(N "start",some (.int b)),(N "open_pos",some d),(N "pos",p),(N "ch",h)]
theorem Au(r:List (List Nat)):∀{m:Nat},(∀x∈r,x.length≤n)→r.length≤m→r.flatten.length≤m*n:=by
 induction r with
 |nil=>intro m J J;exact Nat.zero_le _
 |cons x r e=>
  intro m h b;rcases m with _|m
  ·exact absurd b (Nat.not_succ_le_zero _)
  ·rw[List.flatten_cons,List.length_append,Nat.add_mul _ _ _,Nat.add_comm _ _,Nat.one_mul];exact Nat.add_le_add (e (fun y d=>h y (List.mem_cons_of_mem _ d)) (Nat.le_of_succ_le_succ b)) (h x List.mem_cons_self)
theorem yN(l:List Nat)(a:SQ)(p:Nat×List Nat)(h:∀x∈a.res,x.length≤l.length):∀x∈(ck l a p).res,x.length≤l.length:=by
 unfold ck;split
 ·split
  ·exact h
  ·dsimp only;split
   ·exact h
   ·intro x b;refine dd b (fun q=>?_) fun q=>?_
    ·exact h x q
    ·rw[List.mem_singleton.mp q];exact(gw l _ _).length_le
 ·exact h
theorem Av(l:List Nat):∀(r:List (Nat×List Nat))(a:SQ),(∀x∈a.res,x.length≤l.length)→∀x∈(r.foldl (ck l) a).res,x.length≤l.length:=by
 intro L
 induction L with
 |nil=>
  intro a h;exact h
 |cons p r b=>
  intro a h;exact b (ck l a p) (yN l a p h)
theorem yO(l:List Nat):∀(r:List (Nat×List Nat))(a:SQ),(r.foldl (ck l) a).res.length≤a.res.length+r.length:=by
 intro L
 induction L with
 |nil=>
  intro a;simp
 |cons p r h=>
  intro a;have b:=h (ck l a p);have d:=qx l a p;simp only[List.foldl_cons,List.length_cons];lia
theorem wd(l:List (List Nat)):(l.map S).toArray.foldl (· +·.length+(N "").length) 0=l.flatten.length:=by
 have e:(N "").length=0:=by decide+kernel
 rw[e,←Array.foldl_toList _];have b:∀(l:List (List Nat))(a:Nat),(l.map S).foldl (fun d i=>d+i.length+0) a=a+l.flatten.length:=by
  intro l
  induction l with
  |nil=>intro a;simp
  |cons x r h=>intro a;rw[List.map_cons,List.foldl_cons,h _,List.flatten_cons,List.length_append,aE _];(simp+arith)
 have:=b l 0;simpa using this
theorem jt(t:bp c)(k:Nat)(L:20*(k+4)≤900∧60*(k+4)≤9000)(l:List Nat)(M:l.length≤900)(K:l.all (· <128)=true):ak c.bare (k+5) (.ref 73) [.str (S l)] (.str (S (cn l))):=by
 have j:[N "addr",N "start",N "open_pos",N "pos",N "ch"].Nodup:=by decide+kernel
 refine ak.lX t.toStd (p:=[N "addr"]) (h2:=[N "addr",N "start",N "open_pos",N "result",N "pos",N "ch"]) (r:=[(N "addr",some (.str (S l))),(N "start",none),(N "open_pos",none),(N "pos",none),(N "ch",none)]) rfl rfl (fq.of rfl rfl rfl rfl rfl rfl rfl (fun Y h=>?_) rfl (by decide+kernel) rfl rfl (by intro a e;cases e)) rfl (dZ (by simp)) ?_
 ·refine ah (List.length_eq_one_iff.mp h) fun v G=>?_;subst G;rfl
 dsimp only;unfold cn;rcases F:wc l with _|_
 ·
  rw[if_neg (by decide)];refine Wp.cons (av.if (Q:= !(!(wc l))) (fun u=>br.cmp Ev.aN (Ev.name (j:= .str (S l)) (ab (aa 0 rfl))) aB.rJ) (fun h=>by rw[F]at h;contradiction) (fun J=>Wp.nil)) ?_;refine Wp.cons (av.assign (j:= .int 0) (fun u=>Ev.int) trivial (ar 1 rfl) (aa 1 rfl) (cC rfl) (j) (fun J=>rfl)) ?_;refine Wp.cons (av.assign (j:= .none) (fun u=>Ev.iy) trivial (ar 2 rfl) (aa 2 rfl) (cC rfl) (j) (fun J=>rfl)) ?_;refine Wp.cons (av.gF (j:= .ao []) (ig.list (fun u=>ag.nil) trivial) (aa 3 rfl) (by exact cC rfl) (cY (by kernel_rfl)) (fun J=>rfl)) ?_;refine Wp.cons (a6:=x3 l (dw l) none none) (c9:=[(N "result",.ao (aH (dw l).res))]) (av.Ap (ov.qw t L (Ev.name (aa 0 rfl)) K rfl (fun J=>rfl) rfl) (by
   refine ez.fold (e7:=Nat×List Nat) (m:=SQ) dm (ck l) (fun a=>x3 l a none none) (fun a=>[(N "result",.ao (aH a.res))]) (fun a r=>a.res.length+r.length≤500000) (fun a p r f=>⟨?_,?_⟩) (aW false 0 l) ⟨0,none,[]⟩ (by have:=rI l false 0;simp;lia)
   ·have:=qx l a p;simp only[List.length_cons]at f;lia
   ·simp only[List.length_cons]at f;have Q:(aH a.res).length≤1000000:=by unfold aH;rw[List.length_map _];lia
    refine .mk (ρ2:=x3 l (ck l a p) (some (.int p.1)) (some (.str (S p.2)))) eO.pair (.cons (by exact ar 3 rfl) (.cons (by exact ar 4 rfl) .nil)) (sy (aa 4 rfl) (by exact cu (by decide+kernel) (cC rfl)) (aa 5 rfl) (by exact cu (by decide+kernel) (cC rfl))) (by exact j) (Wp.cons (av.if (Q:=(S p.2==N "\"")) (fun u=>br.cmp (Ev.name (j:= .str (S p.2)) (ab (aa 4 rfl))) Ev.aN aB.eqs) (fun h=>?_) (fun h=>?_)) Wp.nil) (by exact bG rfl)
    ·have s:p.2=[34]:=by
      have w:N "\"" =S [34]:=by decide+kernel
      rw[w,iH]at h;exact of_decide_eq_true h
     obtain⟨b,U,m⟩:=a;rcases U with _|o
     ·
      have i:ck l ⟨b,none,m⟩ p=⟨b,some p.1,m⟩:=by unfold ck;rw[if_pos s]
      rw[i];refine Wp.cons (av.if (Q:=true) (fun u=>br.cmp (Ev.name (j:= .none) (ab (aa 2 rfl))) Ev.iy aB.isNone) (fun J=>?_) (fun h=>nomatch h)) Wp.nil;exact Wp.cons (a6:=x4 l b (.int p.1) (some (.int p.1)) (some (.str (S p.2)))) (av.assign (j:= .int p.1) (fun u=>Ev.name (ab (aa 3 rfl))) trivial (ar 2 rfl) (aa 2 rfl) (cu (by decide+kernel) (cC rfl)) (j) (fun J=>rfl)) Wp.nil
     ·
      have i:ck l ⟨b,some o,m⟩ p=⟨p.1+1,none,if b=o then m else m++[bf l (some (b:Int)) (some (o:Int)) none]⟩:=by unfold ck;rw[if_pos s]
      rw[i];refine Wp.cons (av.if (Q:=false) (fun u=>br.cmp (Ev.name (j:= .int o) (ab (aa 2 rfl))) Ev.iy aB.vC) (fun h=>nomatch h) (fun J=>?_)) Wp.nil;by_cases z:b=o
      ·rw[if_pos z];refine Wp.cons (av.if (Q:=((b:Int) !=(o:Int))) (fun u=>br.cmp (Ev.name (j:= .int b) (ab (aa 1 rfl))) (Ev.name (j:= .int o) (ab (aa 2 rfl))) aB.vf) (fun h=>by rw[z]at h;simp at h) (fun J=>Wp.nil)) ?_;refine Wp.cons (av.assign (j:= .int ((p.1+1:Nat):Int)) (fun u=>Ev.bin (Ev.name (j:= .int p.1) (ab (aa 3 rfl))) Ev.int aJ.add) trivial (ar 1 rfl) (aa 1 rfl) (cu (by decide+kernel) (cC rfl)) (j) (fun J=>rfl)) ?_;exact Wp.cons (a6:=x4 l (p.1+1) .none (some (.int p.1)) (some (.str (S p.2)))) (av.assign (j:= .none) (fun u=>Ev.iy) trivial (ar 2 rfl) (aa 2 rfl) (cu (by decide+kernel) (cC rfl)) (j) (fun J=>rfl)) Wp.nil
      ·rw[if_neg z];refine Wp.cons (a6:=x4 l b (.int o) (some (.int p.1)) (some (.str (S p.2)))) (c9:=[(N "result",.ao (aH (m++[bf l (some (b:Int)) (some (o:Int)) none])))]) (av.if (Q:=((b:Int) !=(o:Int))) (fun u=>br.cmp (Ev.name (j:= .int b) (ab (aa 1 rfl))) (Ev.name (j:= .int o) (ab (aa 2 rfl))) aB.vf) (fun J=>?_) (fun h=>by simp at h;lia)) ?_
       ·refine Wp.cons (av.append (j:= .str (S (bf l (some (b:Int)) (some (o:Int)) none))) (by unfold aH;rw[List.map_append];exact .head) (dz _) trivial (fun u=>?_) Q) Wp.nil;have y:=az.fo (c:=c.wo u) (x:=S l) (e6:=some (b:Int)) (f9:=some (o:Int)) (by rw[aE _];lia);exact Ev.sub (Ev.name (j:= .str (S l)) (ab (aa 0 rfl))) (Ev.slice (.some (Ev.name (j:= .int b) (ab (aa 1 rfl)))) (.some (Ev.name (j:= .int o) (ab (aa 2 rfl)))) .none) y
       ·refine Wp.cons (av.assign (j:= .int ((p.1+1:Nat):Int)) (fun u=>Ev.bin (Ev.name (j:= .int p.1) (ab (aa 3 rfl))) Ev.int aJ.add) trivial (ar 1 rfl) (aa 1 rfl) (cu (by decide+kernel) (cC rfl)) (j) (fun J=>rfl)) ?_;exact Wp.cons (a6:=x4 l (p.1+1) .none (some (.int p.1)) (some (.str (S p.2)))) (av.assign (j:= .none) (fun u=>Ev.iy) trivial (ar 2 rfl) (aa 2 rfl) (cu (by decide+kernel) (cC rfl)) (j) (fun J=>rfl)) Wp.nil
    ·have s:p.2≠ [34]:=fun n=>by
      have w:N "\"" =S [34]:=by decide+kernel
      rw[w,iH,n]at h;simp at h
     have i:ck l a p=a:=by unfold ck;rw[if_neg s]
     rw[i];exact Wp.nil)) ?_
  have X:(dw l).res.length≤901:=by
   have g:=yO l (aW false 0 l) ⟨0,none,[]⟩;have I:=rI l false 0;unfold dw;simp at g;lia
  have B:∀x∈(dw l).res,x.length≤l.length:=Av l _ ⟨0,none,[]⟩ fun x h=>nomatch h;have H:∀r:List (List Nat),aH r=(r.map S).map D.str:=fun r=>by unfold aH;rw[List.map_map];rfl
  have P:(cI l (dw l)).length≤902:=by
   unfold cI;split
   ·simp;omega
   ·(exact Nat.le_succ_of_le ‹_›)
  have O:∀x∈cI l (dw l),x.length≤l.length:=by
   unfold cI;split
   ·intro x T;refine dd T (fun q=>?_) fun q=>?_
    ·exact B x q
    ·rw[List.mem_singleton.mp q];exact(gw l _ _).length_le
   ·exact B
  have A:(cI l (dw l)).flatten.length≤1000000:=by
   have g:=Au (cI l (dw l)) O P;have I:902*l.length≤902*900:=Nat.mul_le_mul_left _ M;lia
  refine Wp.cons (a6:=x3 l (dw l) none none) (c9:=[(N "result",.ao (aH (cI l (dw l))))]) (av.if (Q:=decide (((dw l).st:Int)<((S l).length:Int))) (fun u=>br.cmp (Ev.name (j:= .int (dw l).st) (ab (aa 1 rfl))) (Ev.call (t.b rfl (by decide+kernel)) (.builtin "len") (ag.cons (Ev.name (j:= .str (S l)) (ab (aa 0 rfl))) ag.nil) (ak.Bq (by rw[aE _];lia))) aB.Bj) (fun h=>?_) (fun h=>?_)) ?_
  ·rw[aE]at h;have n:(dw l).st<l.length:=by have:=of_decide_eq_true h;lia
   have i:cI l (dw l)=(dw l).res++[bf l (some ((dw l).st:Int)) none none]:=by unfold cI;rw[if_pos n]
   rw[i];refine Wp.cons (av.append (l:=aH (dw l).res) (j:= .str (S (bf l (some ((dw l).st:Int)) none none))) (by unfold aH;rw[List.map_append];exact .head) (dz _) trivial (fun u=>?_) (by unfold aH;rw[List.length_map _];lia)) Wp.nil;have y:=az.fo (c:=c.wo u) (x:=S l) (e6:=some ((dw l).st:Int)) (f9:=none) (by rw[aE _];lia);exact Ev.sub (Ev.name (j:= .str (S l)) (ab (aa 0 rfl))) (Ev.slice (.some (Ev.name (j:= .int (dw l).st) (ab (aa 1 rfl)))) .none .none) y
  ·rw[aE]at h;have n:¬(dw l).st<l.length:=by have:=of_decide_eq_false h;lia
   have i:cI l (dw l)=(dw l).res:=by unfold cI;rw[if_neg n]
   rw[i];exact Wp.nil
  ·refine Wp.ret (av.return (fun u=>?_) trivial);have C:ak (c.wo u) (k+3) (.builtin "str.join") [.str (N ""),.ao (aH (cI l (dw l)))] (.str (Builtin.Str.glued (N "") ((cI l (dw l)).map S))):=
    ak.join (p:=(cI l (dw l)).map S) (congrArg some (H _)) (by rw[wd _];exact A) (by rw[ue _,aE _];exact A)
   rw[ue]at C;generalize E:Expr.Constant (Const.str (Str.ofString "")) 0 {line:=66,col:=11,endLine:=66,endCol:=13}=o;exact Ev.iA (by subst E;exact Ev.aN) gA.str PySem.F.slot_str_join (ag.cons (Ev.name (cB (aa 0 rfl))) ag.nil) C rfl rfl (by intro J;subst E;rfl)
 ·
  rw[if_pos rfl];exact Wp.ret (av.if (Q:= !(!(wc l))) (fun u=>br.cmp Ev.aN (Ev.name (j:= .str (S l)) (ab (aa 0 rfl))) aB.rJ) (fun J=>Wp.ret (av.return (fun u=>Ev.name (ab (aa 0 rfl))) trivial)) (fun h=>by rw[F]at h;contradiction))
noncomputable def fZ:Int→List (Nat×List Nat)→Option Int
 |o,[]=>some o
 |o,p::r=>if p.2=[40]then fZ (o+1) r else if p.2=[41]then(if o-1<0 then none else fZ (o-1) r)else fZ o r
noncomputable def cN(l:List Nat):Bool:=match fZ 0 (aW false 0 (cn l))with
 |some o=>o==0
 |none=>false
theorem we(l:List Nat)(b:∀x∈l,x<128)(a:SQ)(p:Nat×List Nat)(h:∀r∈a.res,∀x∈r,x<128):∀r∈(ck l a p).res,∀x∈r,x<128:=by
 unfold ck;split
 ·split
  ·exact h
  ·dsimp only;split
   ·exact h
   ·intro r d;refine dd d (fun q=>?_) fun q=>?_
    ·exact h r q
    ·rw[List.mem_singleton.mp q];exact fun x e=>b x ((gw l _ _).subset e)
 ·exact h
theorem yP(l:List Nat)(b:∀x∈l,x<128):∀(r:List (Nat×List Nat))(a:SQ),(∀r∈a.res,∀x∈r,x<128)→∀y∈(r.foldl (ck l) a).res,∀x∈y,x<128:=by
 intro L
 induction L with
 |nil=>
  intro a h;exact h
 |cons p r d=>
  intro a h;exact d (ck l a p) (we l b a p h)
theorem oX(l:List Nat)(j:l.all (· <128)=true):(cn l).all (· <128)=true:=by
 have k:∀x∈l,x<128:=fun x e=>by simpa using List.all_eq_true.mp j x e
 unfold cn;split
 ·exact j
 ·rw[List.all_eq_true];intro x e;refine au (List.mem_flatten.mp e) fun r b d=>?_;have i:=yP l k (aW false 0 l) ⟨0,none,[]⟩ (fun r h=>nomatch h);have:x<128:=by
   unfold cI at b;split at b
   ·refine dd b (fun q=>?_) fun q=>?_
    ·exact i r q x d
    ·rw[List.mem_singleton.mp q]at d;exact k x ((gw l _ _).subset d)
   ·exact i r b x d
  simpa using this
noncomputable abbrev kx(l:List Nat)(o:Int)(p h:Option D):bD:=[(N "addr",some (.str (S l))),(N "opens",some (.int o)),(N "pos",p),(N "ch",h)]
noncomputable def Aw(l:List Nat)(o:Option Int):Out:=match o with
 |some o=> .next (kx l o none none) []
 |none=> .ret (.bool false)
theorem ml(i:bp c)(k:Nat)(hk:20*(k+6)≤900∧60*(k+6)≤9000)(l:List Nat)(H:l.length≤900)(s:l.all (· <128)=true):ak c.bare (k+7) (.ref 80) [.str (S l)] (.bool (cN l)):=by
 have b:[N "addr",N "opens",N "pos",N "ch"].Nodup:=by decide+kernel
 refine ak.lX i.toStd (p:=[N "addr"]) (h2:=[N "addr",N "opens",N "pos",N "ch"]) (r:=[(N "addr",some (.str (S l))),(N "opens",none),(N "pos",none),(N "ch",none)]) rfl rfl (fq.of rfl rfl rfl rfl rfl rfl rfl (fun a1 h=>?_) rfl (by decide+kernel) rfl rfl (by intro a e;cases e)) rfl (dZ (by simp)) ?_
 ·refine ah (List.length_eq_one_iff.mp h) fun v J1=>?_;subst J1;rfl
 dsimp only;have a0:=ak.wo (f:=noOwn) (jt i k (by lia) l H s) ⟨trivial,trivial⟩ trivial;refine Wp.cons (av.assign (j:= .str (S (cn l))) (fun u=>Ev.call (i.g (by kernel_rfl)) (.fn (a:=73) (i.fn rfl) rfl) (ag.cons (Ev.name (j:= .str (S l)) (ab (aa 0 rfl))) ag.nil) (ak.wo (jt i k (by lia) l H s) ⟨trivial,trivial⟩ trivial)) trivial (ar 0 rfl) (aa 0 rfl) (cC rfl) (b) (fun J=>rfl)) ?_;refine Wp.cons (av.assign (j:= .int 0) (fun u=>Ev.int) trivial (ar 1 rfl) (aa 1 rfl) (cC rfl) (b) (fun J=>rfl)) ?_;have K:∀{L Y V B C E p7 p8 p9 f g A M O P Q T U X Z W D R:Pos}{t:Scope}(r:List (Nat×List Nat))(o:Int),ez c (k+6) t [N "addr",N "opens",N "pos",N "ch"] (.Tuple [.Name (N "pos") L,.Name (N "ch") Y] 0 V)
   [.If (.Compare (.Name (N "ch") B) [.Eq] [.Constant (.str (N "(")) 0 C] E) [.AugAssign (.Name (N "opens") p7) .Add (.Constant (.int 1) 0 p8) p9]
    [.If (.Compare (.Name (N "ch") f) [.Eq] [.Constant (.str (N ")")) 0 g] A) [.AugAssign (.Name (N "opens") M) .Sub (.Constant (.int 1) 0 O) P,.If (.Compare (.Name (N "opens") Q) [.Lt] [.Constant (.int 0) 0 T] U) [.Return (some (.Constant (.bool false) 0 X)) Z] [] W] [] D] R]
   (r.map dm) (kx (cn l) o none none) [] (Aw (cn l) (fZ o r)):=by
  intro L Y V B C E p7 p8 p9 f g A M O P Q T U X Z W D R t r;have G:N "(" =S [40]:=by decide+kernel
  have x:N ")" =S [41]:=by decide+kernel
  induction r with
  |nil=>intro o;exact .done
  |cons p r z=>
   intro o;have w:∀u:FH,br (c.wo u) (k+6) t (allOf (kx (cn l) o (some (.int p.1)) (some (.str (S p.2)))) []) (.Compare (.Name (N "ch") B) [.Eq] [.Constant (.str (N "(")) 0 C] E) (S p.2==N "("):=fun u=>br.cmp (Ev.name (j:= .str (S p.2)) (ab (aa 3 rfl))) Ev.aN aB.eqs;have F:∀u:FH,br (c.wo u) (k+6) t (allOf (kx (cn l) o (some (.int p.1)) (some (.str (S p.2)))) []) (.Compare (.Name (N "ch") f) [.Eq] [.Constant (.str (N ")")) 0 g] A) (S p.2==N ")"):=fun u=>br.cmp (Ev.name (j:= .str (S p.2)) (ab (aa 3 rfl))) Ev.aN aB.eqs;rw[List.map_cons];by_cases j:p.2=[40]
   ·have e:fZ o (p::r)=fZ (o+1) r:=by refine(?_ :(if p.2=[40]then _ else _)=_);rw[if_pos j]
    rw[e];refine .step (ρ2:=kx (cn l) (o+1) (some (.int p.1)) (some (.str (S p.2)))) (ρ3:=kx (cn l) (o+1) none none) eO.pair (.cons (by exact ar 2 rfl) (.cons (by exact ar 3 rfl) .nil)) (sy (aa 2 rfl) (by exact cC rfl) (aa 3 rfl) (by exact cC rfl)) (by exact b) (Wp.cons (av.if w (fun J=>?_) (fun h=>by rw[G,iH,j]at h;simp at h)) Wp.nil) (by exact bG rfl) (z (o+1));exact Wp.cons (av.aug (j:= .int o) (a5:= .int 1) (aa 1 rfl) (fun u=>Ev.int) (fun u=>gn.add) trivial (by exact ar 1 rfl) (aa 1 rfl) (by exact cC rfl) (by exact b)) Wp.nil
   ·have y:∀h:(S p.2==N "(")=true,False:=fun h=>by rw[G,iH]at h;exact j (of_decide_eq_true h)
    by_cases m:p.2=[41]
    ·by_cases n:o-1<0
     ·have e:fZ o (p::r)=none:=by refine(?_ :(if p.2=[40]then _ else if p.2=[41]then _ else _)=_);rw[if_neg j,if_pos m,if_pos n]
      rw[e];refine .ret eO.pair (.cons (by exact ar 2 rfl) (.cons (by exact ar 3 rfl) .nil)) (sy (aa 2 rfl) (by exact cC rfl) (aa 3 rfl) (by exact cC rfl)) (by exact b) (Wp.ret (av.if w (fun h=>(y h).elim) (fun J=>Wp.ret (av.if F (fun J=>?_) (fun h=>by rw[x,iH,m]at h;simp at h)))));refine Wp.cons (av.aug (j:= .int o) (a5:= .int 1) (aa 1 rfl) (fun u=>Ev.int) (fun u=>gn.sub) trivial (by exact ar 1 rfl) (aa 1 rfl) (by exact cC rfl) (by exact b)) ?_;exact Wp.ret (av.if (Q:=decide (o-1<0)) (fun u=>br.cmp (Ev.name (j:= .int (o-1)) (ab (aa 1 rfl))) Ev.int aB.Bj) (fun J=>Wp.ret (av.return (fun u=>Ev.lU) trivial)) (fun h=>absurd n (of_decide_eq_false h)))
     ·have e:fZ o (p::r)=fZ (o-1) r:=by refine(?_ :(if p.2=[40]then _ else if p.2=[41]then _ else _)=_);rw[if_neg j,if_pos m,if_neg n]
      rw[e];refine .step (ρ2:=kx (cn l) (o-1) (some (.int p.1)) (some (.str (S p.2)))) (ρ3:=kx (cn l) (o-1) none none) eO.pair (.cons (by exact ar 2 rfl) (.cons (by exact ar 3 rfl) .nil)) (sy (aa 2 rfl) (by exact cC rfl) (aa 3 rfl) (by exact cC rfl)) (by exact b) (Wp.cons (av.if w (fun h=>(y h).elim) (fun J=>Wp.cons (av.if F (fun J=>?_) (fun h=>by rw[x,iH,m]at h;simp at h)) Wp.nil)) Wp.nil) (by exact bG rfl) (z (o-1));refine Wp.cons (av.aug (j:= .int o) (a5:= .int 1) (aa 1 rfl) (fun u=>Ev.int) (fun u=>gn.sub) trivial (by exact ar 1 rfl) (aa 1 rfl) (by exact cC rfl) (by exact b)) ?_;exact Wp.cons (av.if (Q:=decide (o-1<0)) (fun u=>br.cmp (Ev.name (j:= .int (o-1)) (ab (aa 1 rfl))) Ev.int aB.Bj) (fun h=>absurd (of_decide_eq_true h) n) (fun J=>Wp.nil)) Wp.nil
    ·have e:fZ o (p::r)=fZ o r:=by refine(?_ :(if p.2=[40]then _ else if p.2=[41]then _ else _)=_);rw[if_neg j,if_neg m]
     rw[e];exact .step (ρ2:=kx (cn l) o (some (.int p.1)) (some (.str (S p.2)))) (ρ3:=kx (cn l) o none none) eO.pair (.cons (by exact ar 2 rfl) (.cons (by exact ar 3 rfl) .nil)) (sy (aa 2 rfl) (by exact cC rfl) (aa 3 rfl) (by exact cC rfl)) (by exact b) (Wp.cons (av.if w (fun h=>(y h).elim) (fun J=>Wp.cons (av.if F (fun h=>by rw[x,iH]at h;exact absurd (of_decide_eq_true h) m) (fun J=>Wp.nil)) Wp.nil)) Wp.nil) (by exact bG rfl) (z o)
 unfold cN;rcases I:fZ 0 (aW false 0 (cn l))with _|o
 ·
  exact Wp.ret (av.Ap (ov.qw i (n:=k+4) (by omega) (Ev.name (aa 0 rfl)) (oX l s) rfl (fun J=>rfl) rfl) (by exact Eq.mp (congrArg (ez _ _ _ _ _ _ _ _ _) (congrArg (Aw (cn l)) I)) (K (aW false 0 (cn l)) 0)))
 ·
  refine Wp.cons (a6:=kx (cn l) o none none) (c9:=[]) (av.Ap (ov.qw i (n:=k+4) (by omega) (Ev.name (aa 0 rfl)) (oX l s) rfl (fun J=>rfl) rfl) (by exact Eq.mp (congrArg (ez _ _ _ _ _ _ _ _ _) (congrArg (Aw (cn l)) I)) (K (aW false 0 (cn l)) 0))) ?_;exact Wp.ret (av.return (fun u=>Ev.cmp (Ev.name (j:= .int o) (ab (aa 1 rfl))) Ev.int aB.ra) trivial)
noncomputable def eR:List Str→Bool
 | []=>true
 |x::r=> !r.contains x&&eR r
theorem dT:∀{l:List Str},eR l=true→l.Nodup:=by
 intro L
 induction L with
 |nil=>
  intro J;exact List.nodup_nil
 |cons x r b=>
  intro h;have h:=Bool.and_eq_true_iff.mp (h:(!r.contains x&&eR r)=true);exact List.nodup_cons.mpr ⟨by simpa using h.1,b h.2⟩
noncomputable def isFn:ScopeKind→Bool
 | .function=>true
 |_=>false
noncomputable def nk(h b:Scope)(d iter:Expr):Bool:=
 isFn h.kind&&(h.names.lookup (".0" :Str)==some NameKind.local)&&eR (h.names.map (·.1))&&(h.names.all fun p=>p.2 != .free||b.names.lookup p.1==some .cell||b.names.lookup p.1==some .free)
  &&gC iter&&((kL d).all fun x=>(ownNames h).contains x)&&(codeOf (cW h b)).isNone
theorem dS.of{iter:Expr}(h:nk e c8 o iter=true):dS e c8 [⟨o,iter,B,0⟩]:=by
 unfold nk at h;simp only[Bool.and_eq_true]at h;refine ai h fun d u=>ai d fun i t=>ai i fun j s=>ai j fun k r=>ai k fun m q=>ai m fun b p=>?_;refine⟨?_,by simpa using p,dT q,fun n w=>?_,fun g v=>?_,by simpa using u⟩
 ·cases a0:e.kind<;>rw[a0]at b<;>first|rfl|(simp[isFn]at b)
 ·have:=List.all_eq_true.mp r _ w;simp at this;exact this
 ·obtain rfl:=List.mem_singleton.mp v;exact bx rfl s (fun x y=>by simpa using List.all_eq_true.mp t x y)
theorem bN.lc(j g:m→D)(q:m→Bool)(l:List m){iter:Expr}(v:∀a∈l,iD c n (cW c8 e) ((x,some (j a))::r) B (q a))(z:∀a∈l,q a=true→Ev c n (cW c8 e) ((x,some (j a))::r) o (g a))(C:eR (x::r.map (·.1))=true)(G:l.length≤1000000):
  bN c n (cW c8 e) (dx o [⟨.Name x O,iter,B,0⟩] c8 Y) 0 ⟨.Name x O,iter,B,0⟩ ((x,none)::r) (l.map j) (.list []) (.list ((l.filter q).map g)):=by
 have A:=dT C;have E:∀d,(x,some d)∉((x,none)::r:bD):=fun d f=>by
  refine memC f (fun a1=>?_) fun a1=>?_
  ·cases a1
  ·exact(List.nodup_cons.mp A).1 (List.mem_map.mpr ⟨_,a1,rfl⟩)
 have H:∀(a0:List m)(i:List D),(∀a∈a0,a∈l)→i.length+a0.length≤1000000→bN c n (cW c8 e) (dx o [⟨.Name x O,iter,B,0⟩] c8 Y) 0 ⟨.Name x O,iter,B,0⟩ ((x,none)::r) (a0.map j) (.list i) (.list (i++(a0.filter q).map g)):=by
  intro a0
  induction a0 with
  |nil=>intro i J J;simpa using bN.done
  |cons a a0 w=>
   intro i k t;have u:gZ ((x,none)::r) [(x,j a)]:=fun y F d=>by
    have:y=x:=by simpa using F
    subst this;exact E d
   rw[List.map_cons];rcases p:q a with _|_
   ·
    rw[List.filter_cons_of_neg (by rw[p];decide)];exact .no .name u (.cons .head .nil) (p▸v a (k a List.mem_cons_self)) (w i (fun b s=>k b (List.mem_cons_of_mem _ s)) (by simp at t;(exact Nat.le_of_lt ‹_›)))
   ·
    rw[List.filter_cons_of_pos p,List.map_cons];have:=w (i++[g a]) (fun b s=>k b (List.mem_cons_of_mem _ s)) (by simp at t⊢;lia);rw[List.append_assoc]at this;exact .yes .name u (.cons .head .nil) (p▸v a (k a List.mem_cons_self)) (.emit rfl (jg.list (z a (k a List.mem_cons_self) p) (by simp at t;rw[sizeLine_eq];lia))) this
 have:=H l [] (fun J h=>h) (by simpa using G);simpa using this
theorem Ev.lc(h g:m→D)(q:m→Bool)(l:List m){iter:Expr}(i:aO c n e r iter (.Name x O) (l.map h))(u:nk c8 e (.Name x O) iter=true)(k:∀a∈l,iD c n (cW c8 e) ((x,some (h a))::a6) B (q a))(d:∀a∈l,q a=true→Ev c n (cW c8 e) ((x,some (h a))::a6) o (g a))(b:eR (x::a6.map (·.1))=true)(t:∀p∈a6,p∈r∧c8.names.lookup p.1=some .free)(s:l.length≤1000000):
  Ev c n e r (.ListComp o [⟨.Name x O,iter,B,0⟩] c8 Y) (.list ((l.filter q).map g)):=
 Ev.nR (a6:=(x,none)::a6) i (bN.lc h g q l k d b s) (dS.of u) (dT b) fun p j=>by
  refine memC j (fun a0=>?_) fun a0=>?_
  ·exact .inl (by rw[a0])
  ·exact .inr (t p a0)
theorem av.iw(h g:m→D)(q:m→Bool)(l:List m){iter:Expr}{scope:Scope}(k:∀u,aO (c.wo u) n e (allOf r y) iter (.Name a9 b1) (l.map h))(F:nk scope e (.Name a9 b1) iter=true)(w:∀u,∀a∈l,iD (c.wo u) n (cW scope e) ((a9,some (h a))::l2) B (q a))(j:∀u,∀a∈l,q a=true→Ev (c.wo u) n (cW scope e) ((a9,some (h a))::l2) o (g a))(b:eR (a9::l2.map (·.1))=true)(C:∀a0∈l2,a0∈allOf r y∧scope.names.lookup a0.1=some .free)(A:l.length≤1000000)(i:aS ((l.filter q).map g))(z:Upd r x (.list ((l.filter q).map g)) a6)(f:x∈p)(E:x∉y.map (·.1))(s:(r.map (·.1)).Nodup)(v:∀d:Env,swapsWith (.ListComp o [⟨.Name a9 b1,iter,B,0⟩] scope f0) (some (.Name x O)) Y.line {d with scope:=e}=pure true):
  av c n e p r y (.Assign [.Name x O] (.ListComp o [⟨.Name a9 b1,iter,B,0⟩] scope f0) Y) (.next a6 y):=
 av.oR (l2:=(a9,none)::l2) (b5:=⟨.Name a9 b1,iter,B,0⟩) (e1:=[]) k (fun u=>bN.lc h g q l (w u) (j u) b A) (dS.of F) (dT b) (fun a0 t=>by
  refine memC t (fun a1=>?_) fun a1=>?_
  ·exact .inl (by rw[a1])
  ·exact .inr (C a0 a1)) i z f E s v
theorem Ev.lcm(h g:m→D)(l:List m){iter:Expr}(i:aO c n e r iter (.Name x O) (l.map h))(s:nk c8 e (.Name x O) iter=true)(d:∀a∈l,Ev c n (cW c8 e) ((x,some (h a))::a6) o (g a))(j:eR (x::a6.map (·.1))=true)(q:∀p∈a6,p∈r∧c8.names.lookup p.1=some .free)(k:l.length≤1000000):
  Ev c n e r (.ListComp o [⟨.Name x O,iter,[],0⟩] c8 Y) (.list (l.map g)):=by
 have:=Ev.lc (c:=c) (n:=n) (e:=e) (r:=r) h g (fun J=>true) l i s (fun a J=> .nil) (fun a b J=>d a b) j q k (Y:=Y)
 rwa [List.filter_eq_self.mpr (fun J J=>rfl)]at this
section
open Builtin.Str StrLaws
noncomputable def brk(y:List Nat):Nat→Nat→List Nat→List Nat→List (List Nat)
 |_,_,h,[]=>[h]
 |lim,b+1,h,_::r=>brk y lim b h r
 |lim,0,h,c::r=>if 0<lim∧y.isPrefixOf (c::r)=true then h::brk y (lim-1) (y.length-1) [] r else brk y lim 0 (h++[c]) r
theorem iI:brk i n k b6 []=[b6]:=by cases k<;>rfl
theorem iJ:brk i n 0 b6 (k::i0)=if 0<n∧i.isPrefixOf (k::i0)=true then b6::brk i (n-1) (i.length-1) [] i0 else brk i n 0 (b6++[k]) i0:=rfl
noncomputable def hW(P:Nat→Bool)(w:Nat):Nat→Nat→Nat→Nat→List Nat
 |_,0,_,_=>[]
 |lim,n+1,i,h=>if 0<lim∧h≤i∧P i=true then i::hW P w (lim-1) n (i+1) (i+w)else hW P w lim n (i+1) h
theorem BD{P:Nat→Bool}:hW P n k 0 z T=[]:=rfl
theorem pH{P:Nat→Bool}:hW P n k (z+1) T a1=if 0<k∧a1≤T∧P T=true then T::hW P n (k-1) z (T+1) (T+n)else hW P n k z (T+1) a1:=rfl
noncomputable def fc(y l:List Nat)(i:Nat):Bool:=y.isPrefixOf (l.drop i)
theorem prefix_at:i.isPrefixOf b6=(decide (i.length≤b6.length)&&b6.take i.length==i):=by
 rw[Bool.eq_iff_iff,List.isPrefixOf_iff_prefix,Bool.and_eq_true _ _,decide_eq_true_eq,beq_iff_eq];constructor
 ·rintro⟨t,rfl⟩;simp
 ·rintro⟨b,h⟩;exact⟨b6.drop i.length,by have:=List.take_append_drop i.length b6;rw[h]at this;exact this⟩
theorem Ax(y l:List Nat)(i:Nat):(decide (i+y.length≤l.length)&&subAt (S l) (S y) i)=(decide (i≤l.length)&&fc y l i):=by
 unfold fc;rw[prefix_at,subAt_eq _ _ _];have e:(S l).cps.toList=l:=by simp[S]
 have j:(S y).cps.toList=y:=by simp[S]
 rw[e,j,aE _,List.length_drop];by_cases h:i+y.length≤l.length
 ·have b:i≤l.length:=Nat.le_trans (Nat.le_add_right _ _) h;have d:y.length≤l.length-i:=Nat.le_sub_of_add_le' h;simp[h,b,d]
 ·by_cases b:i≤l.length
  ·have d:¬y.length≤l.length-i:=fun q=>h (Nat.add_le_of_le_sub' b q);simp[h,d]
  ·simp[h,b]
theorem Cv(y l:List Nat)(d:Nat):occurrences (S l) (S y) 0 (S l).length d=hW (fc y l) y.length d (l.length+1) 0 0:=by
 rw[occ_eq];have t:∀(n i e:Nat)(h:Array Nat),i+n=l.length+1→(forIn (List.range' i n) (h,e) (occBody (S l) (S y) (S l).length d)).run.fst.toList=h.toList++hW (fc y l) y.length (d-h.size) n i e:=by
  intro n
  induction n with
  |zero=>intro i e h J;simp[BD]
  |succ n m=>
   intro i e h k;rw[List.range'_succ,List.forIn_cons];unfold occBody;have s:i≤l.length:=Nat.le_of_lt_succ (Nat.lt_of_lt_of_eq (Nat.lt_add_of_pos_right (Nat.succ_pos n)) k);have j:=Ax y l i;rw[decide_eq_true s,Bool.true_and]at j;by_cases b:((h.size<d∧e≤i)∧i+(S y).length≤(S l).length)∧subAt (S l) (S y) i=true
   ·rw[if_pos b];have r:fc y l i=true:=by
     rw[←j,b.2,Bool.and_true _];have:=b.1.2;rw[aE,aE]at this;exact decide_eq_true this
    refine(?_ :(forIn (List.range' (i+1) n) (h.push i,i+(S y).length) (occBody (S l) (S y) (S l).length d)).run.fst.toList=_);rw[m (i+1) _ _ ((Nat.add_right_comm i 1 n).trans k)]
    conv=>rhs;rw[pH]
    rw[if_pos ⟨Nat.sub_pos_of_lt b.1.1.1,b.1.1.2,r⟩,aE _,Array.size_push _,Array.toList_push,List.append_assoc _ _ _];congr 3
   ·rw[if_neg b];refine(?_ :(forIn (List.range' (i+1) n) (h,e) (occBody (S l) (S y) (S l).length d)).run.fst.toList=_);rw[m (i+1) _ _ ((Nat.add_right_comm i 1 n).trans k)]
    conv=>rhs;rw[pH]
    rw[if_neg];rintro⟨o,p,q⟩;rw[q,Bool.and_eq_true,decide_eq_true_eq]at j;exact b ⟨⟨⟨Nat.lt_of_sub_pos o,p⟩,by rw[aE _,aE _];exact j.1⟩,j.2⟩
 have:=t (l.length+1) 0 0 #[] (Nat.add_comm _ _);rw[aE _,Nat.sub_zero _];simpa using this
theorem ju(l:List Nat)(a b:Nat):strSub (S l) a b=S ((l.take b).drop a):=by
 apply pG;refine(?_ :((S l).cps.extract a b).toList=_);rw[Array.toList_extract];simp[S,List.extract_eq_take_drop,List.drop_take]
theorem wg(P:Nat→Bool)(w:Nat):∀(n d i f e:Nat),f≤i→e≤i→hW P w d n i f=hW P w d n i e:=by
 intro L
 induction L with
 |zero=>
  intro J J J J J J;exact rfl
 |succ n k=>
  intro d i f e h j;rw[pH,pH];by_cases b:0<d∧P i=true
  ·rw[if_pos ⟨b.1,h,b.2⟩,if_pos ⟨b.1,j,b.2⟩]
  ·rw[if_neg (fun q=>b ⟨q.1,q.2.2⟩),if_neg (fun q=>b ⟨q.1,q.2.2⟩)];exact k d (i+1) f e (Nat.le_succ_of_le ‹_›) (Nat.le_succ_of_le ‹_›)
theorem wh(y l:List Nat)(g:y≠ []):∀(r:List Nat)(i j d a:Nat),l.drop i=r→i≤l.length→(d=0→a≤i)→(0<d→a=i+d)→
  partsFrom (S l) y.length a (hW (fc y l) y.length j (r.length+1) i (i+d))=(brk y j d (if d=0 then(l.take i).drop a else []) r).map S:=by
 intro r
 induction r with
 |nil=>
  intro i j d a o v z s;have q:i=l.length:=Nat.le_antisymm v (List.drop_eq_nil_iff.mp o);have B:fc y l i=false:=by
   unfold fc;rw[o];rcases y with _|⟨c,y⟩
   ·exact absurd rfl g
   ·rfl
  have e:hW (fc y l) y.length j ([]:List Nat).length.succ i (i+d)=[]:=by
   refine(?_ :(if 0<j∧i+d≤i∧fc y l i=true then _ else hW _ _ j 0 (i+1) _)=_);rw[if_neg (by rw[B];simp)];rfl
  refine(?_ :partsFrom (S l) y.length a (hW (fc y l) y.length j ([]:List Nat).length.succ i (i+d))=_);rw[e];refine(?_ :[strSub (S l) a (S l).length]=_);rw[ju _ _ _,aE _,List.take_length];refine(?_ :_=[S _]);congr 2;by_cases k:d=0
  ·rw[if_pos k,q,List.take_length]
  ·rw[if_neg k,s (Nat.pos_of_ne_zero ‹_›),List.drop_of_length_le (Nat.le_trans (Nat.le_of_eq q.symm) (Nat.le_add_right _ _))]
 |cons m r w=>
  intro i j d a o v z s;have q:i<l.length:=Nat.lt_of_not_le fun h=>nomatch (List.drop_of_length_le h).symm.trans o;refine ai (List.cons.inj ((List.drop_eq_getElem_cons q).symm.trans o)) fun C u=>?_;have E:∀b,b≤i→(l.take (i+1)).drop b=(l.take i).drop b++[m]:=fun b t=>by
   rw[List.take_succ_eq_append_getElem q,List.drop_append_of_le_length (by rw[List.length_take,Nat.min_eq_left v];exact t),C]
  refine(?_ :partsFrom (S l) y.length a (if 0<j∧i+d≤i∧fc y l i=true then i::hW (fc y l) y.length (j-1) (r.length+1) (i+1) (i+y.length)else hW (fc y l) y.length j (r.length+1) (i+1) (i+d))=_);rcases d with _|d
  ·
   rw[if_pos rfl];have n:=z rfl;have f:fc y l i=y.isPrefixOf (m::r):=by unfold fc;rw[o]
   refine(?_ :_=(if 0<j∧y.isPrefixOf (m::r)=true then _::brk y (j-1) (y.length-1) [] r else brk y j 0 (_++[m]) r).map S);by_cases p:0<j∧y.isPrefixOf (m::r)=true
   ·rw[if_pos ⟨p.1,by(exact Nat.le_refl _),by rw[f];exact p.2⟩,if_pos p];have A:0<y.length:=List.length_pos_iff.mpr g;have x:i+1+(y.length-1)=i+y.length:=by rw[Nat.add_assoc _ _ _,Nat.add_sub_cancel' A]
    have:=w (i+1) (j-1) (y.length-1) (i+y.length) u (by assumption) (fun h=>Nat.add_le_add_left (Nat.le_of_sub_eq_zero h) i) (fun J=>x.symm);rw[x]at this;refine(?_ :strSub (S l) a i::partsFrom (S l) y.length (i+y.length) _=S _::(brk y (j-1) (y.length-1) [] r).map S);rw[this,ju _ _ _];congr 2;by_cases k:y.length-1=0
    ·rw[if_pos k,List.drop_of_length_le (Nat.le_trans (List.length_take_le _ _) (Nat.add_le_add_left A i))]
    ·rw[if_neg k]
   ·rw[if_neg (fun h=>p ⟨h.1,by rw[←f];exact h.2.2⟩),if_neg p];have:=w (i+1) j 0 a u (by assumption) (fun J=>Nat.le_succ_of_le n) (fun h=>absurd h (Nat.lt_irrefl 0));rw[if_pos rfl,E a n]at this;rw[wg _ _ _ _ _ (i+0) (i+1+0) (Nat.le_succ _) (Nat.le_refl _)];exact this
  ·
   rw[if_neg (by(simp+arith))];have t:brk y j (d+1) (if d+1=0 then(l.take i).drop a else []) (m::r)=brk y j d [] r:=by
    rw[if_neg (by(simp+arith))];rfl
   rw[t];have n:=s (Nat.succ_pos _);have:=w (i+1) j d a u (by assumption) (fun h=>by rw[n,h];exact Nat.le_refl _) (fun J=>n.trans (Nat.add_right_comm i d 1));rw[show i+1+d=i+(d+1)by(exact Nat.add_right_comm _ _ _)]at this;rw[this];by_cases k:d=0
   ·rw[if_pos k,n,k,List.drop_of_length_le (List.length_take_le _ _)]
   ·rw[if_neg k]
theorem jv(y l:List Nat)(d:y≠ [])(b:Nat):partsBetween (S l) (occurrences (S l) (S y) 0 (S l).length b) (S y).length=(brk y b 0 [] l).map S:=by
 rw[partsBetween_eq _ _ _,Cv _ _ _,aE _];have:=wh y l d l 0 b 0 0 rfl (by(simp+arith)) (fun J=>by(exact Nat.le_refl _)) (fun h=>by rfl);simpa using this
end
section
open Builtin.Str StrLaws
noncomputable def cK(z:List Nat):List (List Nat)→List Nat
 | []=>[]
 |p::r=>p++r.flatMap (z++·)
theorem fu:cK i []=[]:=rfl
theorem eL:cK i (b6::f8)=b6++f8.flatMap (i++·):=rfl
theorem dU(z:List Nat)(b:List (List Nat)):glued (S z) (b.map S)=S (cK z b):=by
 apply pG;unfold glued;rcases b with _|⟨p,r⟩
 ·rfl
 ·
  refine(?_ :(((r.map S).foldl (fun h(q:Str)=>h++(S z).cps++q.cps) (S p).cps):Array Nat).toList=p++r.flatMap (z++·));have e:∀(r:List (List Nat))(a:Array Nat),((r.map S).foldl (fun h(q:Str)=>h++(S z).cps++q.cps) a).toList=a.toList++r.flatMap (z++·):=by
   intro r
   induction r with
   |nil=>intro a;simp
   |cons x r d=>intro a;rw[List.map_cons,List.foldl_cons,d _];simp[S]
  rw[e _ _];simp[S]
theorem qy(y l:List Nat)(h:l.length<y.length)(b:Nat):occurrences (S l) (S y) 0 (S l).length b=[]:=by
 rcases e:occurrences (S l) (S y) 0 (S l).length b with _|⟨i,r⟩
 ·rfl
 ·
  have:=(occ_spec (S l) (S y) 0 (S l).length b i (by rw[e];simp)).1;rw[aE,aE]at this;lia
theorem gH(y l:List Nat)(d:y≠ [])(b:Nat)(h:occurrences (S l) (S y) 0 (S l).length b=[]):(brk y b 0 [] l).map S=[S l]:=by
 rw[←jv y l d _,h,partsBetween_eq _ _ _];refine(?_ :[strSub (S l) 0 (S l).length]=_);rw[ju _ _ _,aE _];simp
theorem rK(x:Str):1≤Builtin.Str.strKind x:=by
 unfold Builtin.Str.strKind;split
 ·exact Nat.le_refl _
 ·split<;>(exact Nat.succ_pos _)
theorem oY(y l:List Nat)(b:y≠ [])(d:Builtin.Str.strKind (S y)=1):eQ (S l) (S y)=(brk y (l.length+1) 0 [] l).map S:=by
 unfold eQ;have e:=rK (S l);split
 ·rename_i h;rw[Bool.or_eq_true,decide_eq_true_eq,decide_eq_true_eq,aE,aE,d]at h;rw[gH y l b _ (qy y l (by lia) _)]
 ·split
  ·rename_i h;rw[List.isEmpty_iff,aE]at h;rw[gH y l b _ (by rw[aE _];exact h)]
  ·rw[jv y l b _,aE _]
theorem uf(y l:List Nat)(b:y≠ [])(d:Builtin.Str.strKind (S y)=1)(n:Int):splitM (S l) (S y) n=(brk y (limitOf (S l) n) 0 [] l).map S:=by
 unfold splitM;have e:=rK (S l);split
 ·rename_i h;rw[Bool.or_eq_true,decide_eq_true_eq,decide_eq_true_eq,aE,aE,d]at h;rw[gH y l b _ (qy y l (by lia) _)]
 ·split
  ·rename_i h;rw[List.isEmpty_iff]at h;rw[gH y l b _ h]
  ·rw[jv y l b _]
theorem wi(h:S i=S b6):i=b6:=by
 have:=congrArg (fun x:Str=>x.cps.toList) h;simpa [S]using this
theorem mm{b:List (List Nat)}(h:f8.map S=b.map S):f8=b:=by
 induction f8 generalizing b with
 |nil=>cases b with
  |nil=>rfl
  |cons x r=>contradiction
 |cons x r i=>cases b with
  |nil=>contradiction
  |cons y s=>
   rw[List.map_cons,List.map_cons]at h;refine ai (List.cons.inj h) fun d e=>?_;rw[wi d,i e]
theorem nq(y z l:List Nat)(b:y≠ []):Txt.replace (S l) (S y) (S z)=S (cK z (brk y (l.length+1) 0 [] l)):=by
 unfold Txt.replace;have d:((S y).length==0)=false:=by rw[aE _];cases y with
  |nil=>exact absurd rfl b
  |cons c y=>rfl
 rw[d,Bool.false_and _,Bool.or_false _];split
 ·rename_i h;rw[List.isEmpty_iff,aE]at h;have:=gH y l b _ (by rw[aE _];exact h);have:brk y (l.length+1) 0 [] l=[l]:=mm this;rw[this];simp[fu,eL]
 ·rw[jv y l b _,aE _,dU _ _]
noncomputable def sN(y l:List Nat):Int:=match brk y 1 0 [] l with
 | [p,_]=>p.length
 |_=> -1
theorem yQ(y l:List Nat)(d:y≠ []):Txt.find (S l) (S y)=sN y l:=by
 unfold Txt.find sN;have h:=jv y l d 1;have b:=occ_length_le (S l) (S y) 0 (S l).length 1;rcases e:occurrences (S l) (S y) 0 (S l).length 1 with _|⟨i,r⟩
 ·
  have j:brk y 1 0 [] l=[l]:=mm (gH y l d 1 e);rw[j]
 ·
  rw[e]at b h;obtain rfl:r=[]:=by simpa using b
  rw[partsBetween_eq]at h;have k:=(occ_spec (S l) (S y) 0 (S l).length 1 i (by rw[e];simp)).1;rw[aE,aE]at k;have:brk y 1 0 [] l=[l.take i,(l.take l.length).drop (i+(S y).length)]:=by
   apply mm;rw[←h];refine(?_ :[strSub (S l) 0 i,strSub (S l) (i+(S y).length) (S l).length]=_);rw[ju _ _ _,ju _ _ _,aE _];simp
  rw[this];simp;lia
end
noncomputable def lD(s:Nat):List Nat→List Nat→List (List Nat)
 |cur,[]=>[cur]
 |cur,c::r=>if c=s then cur::lD s [] r else lD s (cur++[c]) r
theorem ox:lD n i []=[i]:=rfl
theorem mn:lD n i (k::b6)=if k=n then i::lD n [] b6 else lD n (i++[k]) b6:=rfl
theorem Ay:([n]:List Nat).isPrefixOf (k::i)=decide (k=n):=by
 rw[Bool.eq_iff_iff,List.isPrefixOf_iff_prefix,decide_eq_true_eq];constructor
 ·rintro⟨t,h⟩;exact(List.cons.inj h).1.symm
 ·rintro rfl;exact⟨i,rfl⟩
theorem ug(s:Nat):∀(l d:List Nat)(b:Nat),l.length<b→brk [s] b 0 d l=lD s d l:=by
 intro L
 induction L with
 |nil=>
  intro d b h;simp[iI,ox]
 |cons c r i=>
  intro d b h;simp only[List.length_cons]at h;rw[iJ,mn];rw[Ay];by_cases e:c=s
  ·rw[if_pos ⟨by lia,by simp[e]⟩,if_pos e];refine(?_ :d::brk [s] (b-1) 0 [] r=_);rw[i [] (b-1) (by omega)]
  ·rw[if_neg (by simp[e]),if_neg e];exact i _ b (Nat.le_of_lt ‹_›)
theorem sO(s:Nat):∀(l h:List Nat),∃p r,lD s h l=p::r:=by
 intro L
 induction L with
 |nil=>
  intro h;exact⟨_,_,rfl⟩
 |cons c r b=>
  intro h;rw[mn];split
  ·exact r2 _ _ rfl
  ·exact b _
theorem jb(z p:List Nat)(r:List (List Nat))(h:r≠ []):cK z (p::r)=p++z++cK z r:=by
 rcases r with _|⟨q,r⟩
 ·exact absurd rfl h
 ·simp[fu,eL]
theorem qz(z:List Nat)(s:Nat):∀(l h:List Nat),cK z (lD s h l)=h++l.flatMap fun c=>if c=s then z else [c]:=by
 intro L
 induction L with
 |nil=>
  intro h;simp[ox,fu,eL]
 |cons c r b=>
  intro h;rw[mn];rw[List.flatMap_cons];split
  ·refine cP (sO s r []) fun p q e=>?_;rw[jb _ _ _ (by rw[e];simp),b []];simp
  ·rw[b _];simp
noncomputable def rep2(z:List Nat):List Nat→List Nat
 | []=>[]
 | [c]=>[c]
 |c::d::r=>if c=13∧d=10 then z++rep2 z r else c::rep2 z (d::r)
theorem kY:rep2 i []=[]:=rfl
theorem jJ:rep2 i [n]=[n]:=rfl
theorem sP:rep2 i (n::k::b6)=if n=13∧k=10 then i++rep2 i b6 else n::rep2 i (k::b6):=rfl
theorem B1:([n,k]:List Nat).isPrefixOf (z::i)=(decide (z=n)&&decide (i.head? =some k)):=by
 rw[Bool.eq_iff_iff,List.isPrefixOf_iff_prefix,Bool.and_eq_true _ _,decide_eq_true_eq,decide_eq_true_eq];constructor
 ·rintro⟨t,h⟩;refine ai (List.cons.inj h) fun b e=>?_;exact⟨b.symm,by rw[←e];rfl⟩
 ·rintro⟨rfl,h⟩;rcases i with _|⟨d,i⟩
  ·contradiction
  ·cases h;exact⟨i,rfl⟩
theorem wj(z:List Nat):∀(n:Nat)(l e:List Nat)(b:Nat),l.length≤n→l.length<b→cK z (brk [13,10] b 0 e l)=e++rep2 z l∧brk [13,10] b 0 e l≠ []:=by
 intro n
 induction n with
 |zero=>intro l e b h J;obtain rfl:l=[]:=List.length_eq_zero_iff.mp (by lia);simp[iI,fu,eL,kY,jJ]
 |succ n k=>
  intro l e b h j;rcases l with _|⟨c,r⟩
  ·simp[iI,fu,eL,kY,jJ]
  ·
   simp only[List.length_cons]at h j;rcases r with _|⟨d,r⟩
   ·
    rw[iJ];rw[B1,if_neg (by simp)];simp[iI,fu,eL,kY,jJ]
   ·
    simp only[List.length_cons]at h j;rw[iJ];rw[B1];rw[sP];by_cases i:c=13∧d=10
    ·rw[if_pos ⟨by lia,by simp[i]⟩,if_pos i];refine(?_ :cK z (e::brk [13,10] (b-1) 0 [] r)=_∧_);have:=k r [] (b-1) (by lia) (by lia);rw[jb _ _ _ this.2,this.1];simp
    ·rw[if_neg (by simp only[List.head?_cons,Option.some.injEq,Bool.and_eq_true,decide_eq_true_eq];exact fun q=>i q.2),if_neg i];have:=k (d::r) (e++[c]) b (by simp;(exact Nat.le_of_lt_succ ‹_›)) (by simp;(exact Nat.le_of_lt ‹_›));rw[this.1];simp[this.2]
noncomputable def fe:Bool→List Nat→List Nat
 |_,[]=>[]
 |cr,c::r=>if c=13 then 10::fe true r else if c=10 then(if cr then fe false r else 10::fe false r)else c::fe false r
theorem sQ:fe Q []=[]:=rfl
theorem oy:fe Q (n::i)=if n=13 then 10::fe true i else if n=10 then(if Q then fe false i else 10::fe false i)else n::fe false i:=rfl
theorem Az:∀(n:Nat)(l:List Nat),l.length≤n→(rep2 [10] l).flatMap (fun c=>if c=13 then [10]else [c])=fe false l:=by
 intro n
 induction n with
 |zero=>intro l h;obtain rfl:l=[]:=List.length_eq_zero_iff.mp (by lia);rfl
 |succ n j=>
  intro l h;rcases l with _|⟨c,r⟩
  ·rfl
  ·
   simp only[List.length_cons]at h;rcases r with _|⟨d,r⟩
   ·
    rw[jJ,oy];by_cases b:c=13
    ·simp[b,sQ]
    ·by_cases e:c=10
     ·simp[e,sQ]
     ·simp[b,e,sQ]
   ·
    simp only[List.length_cons]at h;rw[sP];by_cases i:c=13∧d=10
    ·rw[if_pos i];refine ai i fun k m=>?_;subst k;subst m;refine(?_ :10::(rep2 [10] r).flatMap _=10::fe false r);rw[j r (by lia)]
    ·rw[if_neg i,List.flatMap_cons,j (d::r) (by simp;(exact Nat.le_of_lt_succ ‹_›))];by_cases b:c=13
     ·have o:d≠10:=fun h=>i ⟨b,h⟩;subst b;refine(?_ :10::fe false (d::r)=10::fe true (d::r));rw[oy,oy];simp[o]
     ·rw[if_neg b];refine(?_ :c::fe false (d::r)=if c=13 then _ else if c=10 then 10::fe false (d::r)else c::fe false (d::r));rw[if_neg b];split
      ·rename_i e;rw[e]
      ·rfl
noncomputable def cD(l:List Nat):List (List Nat):=lD 10 [] (fe false l)
theorem uh:∀(l:List Nat)(b:Bool),(fe b l).flatMap (fun c=>if c=10 then [13,10]else [c])=kn b l:=by
 intro L
 induction L with
 |nil=>
  intro b;exact rfl
 |cons c r e=>
  intro b;rw[oy,oo];by_cases d:c=13
  ·rw[if_pos d,if_pos d];refine(?_ :13::10::(fe true r).flatMap _=_);rw[e true]
  ·rw[if_neg d,if_neg d];by_cases h:c=10
   ·rw[if_pos h,if_pos h];rcases b with _|_
    ·
     refine(?_ :13::10::(fe false r).flatMap _=13::10::kn false r);rw[e false]
    ·exact e false
   ·rw[if_neg h,if_neg h,List.flatMap_cons,if_neg h,e false];rfl
theorem join_rows(l:List Nat):cK [13,10] (cD l)=norm l:=by
 unfold cD;rw[qz,uh _ _];rfl
noncomputable def cz(r:List Nat):List Nat:=if r.head? =some 46 then 46::r else r
theorem rL:∀(l:List Nat)(b:Bool),∀c∈fe b l,c≠13:=by
 intro L
 induction L with
 |nil=>
  intro b c h;exact nomatch h
 |cons d r i=>
  intro b c h;rw[oy]at h;split at h
  ·refine memC h (fun e=>?_) fun h=>?_
   ·subst e;decide
   ·exact i _ c h
  ·split at h
   ·split at h
    ·exact i _ c h
    ·refine memC h (fun e=>?_) fun h=>?_
     ·subst e;decide
     ·exact i _ c h
   ·refine memC h (fun e=>?_) fun h=>?_
    ·subst e;assumption
    ·exact i _ c h
theorem jc(b:Bool)(c:Nat)(r:List Nat):bT b (c::r)=if b&&c==46 then 46::46::bT false r else c::bT (c==10) r:=rfl
theorem wk:∀(w b:List Nat),(∀c∈w,c≠13)→cK [13,10] ((lD 10 b w).map cz)=if b=[]then bT true (w.flatMap fun c=>if c=10 then [13,10]else [c])else cz b++bT false (w.flatMap fun c=>if c=10 then [13,10]else [c]):=by
 intro L
 induction L with
 |nil=>
  intro b J;by_cases h:b=[]
  ·subst h;rfl
  ·rw[if_neg h];simp[ox,fu,eL,tX]
 |cons c r n=>
  intro b s;have m:∀d∈r,d≠13:=fun d o=>s d (List.mem_cons_of_mem _ o);rw[mn];by_cases i:c=10
  ·rw[if_pos i,List.map_cons];refine cP (sO 10 r []) fun p q e=>?_;rw[jb _ _ _ (by rw[e];simp),n [] m,if_pos rfl,List.flatMap_cons,if_pos i];by_cases h:b=[]
   ·subst h;rfl
   ·rw[if_neg h];simp[ko]
  ·rw[if_neg i,n (b++[c]) m,if_neg (by simp),List.flatMap_cons,if_neg i];by_cases h:b=[]
   ·subst h;rw[if_pos rfl];refine(?_ :cz [c]++_=bT true (c::_));rw[jc _ _ _];unfold cz;by_cases k:c=46
    ·simp[k]
    ·have j:(c==10)=false:=by simp[i]
     simp[k,j]
   ·rw[if_neg h];have e:cz (b++[c])=cz b++[c]:=by
     unfold cz;rcases b with _|⟨x,y⟩
     ·exact absurd rfl h
     ·simp;split<;>simp
    have j:(c==10)=false:=by simp[i]
    rw[e];refine(?_ :cz b++[c]++_=cz b++bT false (c::_));rw[jc _ _ _];simp[j]
theorem jK(l:List Nat):cK [13,10] ((cD l).map cz)=bT true (norm l):=by
 unfold cD;rw[wk _ _ (rL l false),if_pos rfl,uh _ _]
theorem BF(s:Nat):∀(l e:List Nat),(∀c∈e,c≠s)→∀p∈lD s e l,(∀c∈p,c≠s)∧∀c∈p,c∈e∨c∈l:=by
 intro L
 induction L with
 |nil=>
  intro e i p b;have:p=e:=by simpa [ox]using b
  subst this;exact⟨i,fun c h=> .inl h⟩
 |cons d r j=>
  intro e i p b;rw[mn]at b;split at b
  ·refine memC b (fun k=>?_) fun b=>?_
   ·subst k;exact⟨i,fun c h=> .inl h⟩
   ·have:=j [] (fun J h=>nomatch h) p b;exact⟨this.1,fun c h=> .inr (List.mem_cons_of_mem _ ((this.2 c h).resolve_left fun q=>nomatch q))⟩
  ·rename_i m;have:=j (e++[d]) (fun c h=>by
    refine dd h (fun h=>?_) fun h=>?_
    ·exact i c h
    ·rw[List.mem_singleton.mp h];exact m) p b
   refine⟨this.1,fun c h=>?_⟩;refine ay (this.2 c h) (fun q=>?_) fun q=>?_
   ·refine dd q (fun q=>?_) fun q=>?_
    ·exact .inl q
    ·exact .inr (by rw[List.mem_singleton.mp q];exact List.mem_cons_self)
   ·exact .inr (List.mem_cons_of_mem _ q)
theorem oZ(l:List Nat):∀p∈cD l,∀c∈p,c≠10∧c≠13:=fun p d c b=>by
 have h:=BF 10 (fe false l) [] (fun J h=>nomatch h) p d;exact⟨h.1 c b,rL l false c ((h.2 c b).resolve_left fun q=>nomatch q)⟩
theorem yR(h:n∈cz i):n=46∨n∈i:=by
 unfold cz at h;split at h
 ·refine memC h (fun h=>?_) fun h=>?_
  ·exact .inl h
  ·exact .inr h
 ·exact .inr h
theorem gc(l:List m)(b:Nat):bf l none (some (b:Int)) none=l.take b:=by
 rw[dR _ _ _];refine(?_ :(l.drop 0).take (clipAt l.length b-0)=_);rw[clipAt_nat _ _,List.drop_zero,Nat.sub_zero _,Nat.min_comm _ _];by_cases h:b≤l.length
 ·rw[Nat.min_eq_right h]
 ·rw[Nat.min_eq_left (by lia),List.take_length,List.take_of_length_le (by lia)]
theorem gd(l:List m)(a:Nat):bf l (some (a:Int)) none none=l.drop a:=by
 rw[dR _ _ _];refine(?_ :(l.drop (clipAt l.length a)).take (l.length-clipAt l.length a)=_);rw[clipAt_nat _ _];by_cases h:a≤l.length
 ·rw[Nat.min_eq_left h,List.take_of_length_le (by simp)]
 ·rw[Nat.min_eq_right (by lia),List.drop_of_length_le (Nat.le_refl _),List.drop_of_length_le (by lia)];simp
theorem lL(l:List m)(a b:Nat)(h:b≤l.length):bf l (some (a:Int)) (some (b:Int)) none=(l.take b).drop a:=by
 rw[dR _ _ _];refine(?_ :(l.drop (clipAt l.length a)).take (clipAt l.length b-clipAt l.length a)=_);rw[clipAt_nat _ _,clipAt_nat _ _,List.drop_take,Nat.min_eq_left h];by_cases d:a≤l.length
 ·rw[Nat.min_eq_left d]
 ·rw[Nat.min_eq_right (by lia),List.drop_of_length_le (Nat.le_refl _),List.drop_of_length_le (by lia)];simp
theorem ui(l:List m):bf l (some 1) (some (-1)) none=(l.take (l.length-1)).drop 1:=by
 rw[dR _ _ _];refine(?_ :(l.drop (clipAt l.length 1)).take (clipAt l.length (-1)-clipAt l.length 1)=_);rw[show clipAt l.length (-1)=_ from clipAt_neg _ 1 (by decide)];rcases l with _|⟨a,l⟩
 ·rfl
 ·rw[show clipAt (a::l).length 1=1 from(clipAt_nat _ 1).trans (Nat.min_eq_left (Nat.succ_pos _)),List.drop_take]
theorem wm(l:List m):bf l none (some (-1)) none=l.take (l.length-1):=by
 rw[dR _ _ _];refine(?_ :(l.drop 0).take (clipAt l.length (-1)-0)=_);rw[show clipAt l.length (-1)=_ from clipAt_neg _ 1 (by decide)];rfl
noncomputable abbrev CR:List Nat:=[13,10]
noncomputable abbrev TM:List Nat:=[13,10,46,13,10]
theorem oz(y:List Nat)(m:y.head? =some 13):∀(u v e:List Nat)(b:Nat),(∀c∈u,c≠13)→brk y b 0 e (u++v)=brk y b 0 (e++u) v:=by
 intro L
 induction L with
 |nil=>
  intro v e b J;simp
 |cons c u n=>
  intro v e b h;have i:=h c List.mem_cons_self;have k:y.isPrefixOf (c::(u++v))=false:=by
   rcases y with _|⟨d,y⟩
   ·contradiction
   ·cases m;simp[List.isPrefixOf,Ne.symm i]
  refine(?_ :(if 0<b∧y.isPrefixOf (c::(u++v))=true then _ else brk y b 0 (e++[c]) (u++v))=_);rw[if_neg (by rw[k];simp),n v _ b fun d j=>h d (List.mem_cons_of_mem _ j)];simp
noncomputable def x5(p:List Nat):Prop:=∀c∈p,c≠10∧c≠13
theorem rM(h:x5 i):∀c∈cz i,c≠13:=fun c d=>by
 refine ay (yR d) (fun b=>?_) fun q=>?_
 ·subst b;decide
 ·exact(h c q).2
theorem wq(i:List Nat):∀(j:List (List Nat))(k:List Nat),(∀r∈j,x5 r)→brk TM 1 0 k (j.flatMap (fun r=>CR++cz r)++(TM++i))=[k++j.flatMap (fun r=>CR++cz r),i]:=by
 intro L
 induction L with
 |nil=>
  intro k J;refine(?_ :(if 0<1∧TM.isPrefixOf (13::([10,46,13,10]++i))=true then k::brk TM 0 4 [] ([10,46,13,10]++i)else _)=_);rw[if_pos ⟨by decide,by simp[List.isPrefixOf]⟩];have e:∀(l c:List Nat),brk TM 0 0 c l=[c++l]:=fun l=>by
   induction l with
   |nil=>intro c;simp[iI]
   |cons d l n=>intro c;rw[iJ];rw[if_neg (by simp),n _];simp
  refine(?_ :k::brk TM 0 0 [] i=_);rw[e _ _];simp
 |cons r j n=>
  intro k h;have t:=h r List.mem_cons_self;have u:=fun x w=>h x (List.mem_cons_of_mem _ w);have v:∃o,j.flatMap (fun r=>CR++cz r)++(TM++i)=13::o:=by
   rcases j with _|⟨a,b⟩
   ·exact⟨_,rfl⟩
   ·exact⟨_,rfl⟩
  refine ah v fun o p=>?_;have s:TM.isPrefixOf (13::(10::(cz r++(j.flatMap (fun r=>CR++cz r)++(TM++i)))))=false:=by
   rw[p];unfold cz;rcases r with _|⟨c,r⟩
   ·simp[List.isPrefixOf]
   ·
    by_cases m:c=46
    ·subst m;simp[List.isPrefixOf]
    ·have:(some c=some 46)=False:=by simp[m]
     simp[List.isPrefixOf,this];intro h;exact absurd h.symm m
  rw[List.flatMap_cons,List.append_assoc _ _ _];refine(?_ :brk TM 1 0 k (13::(10::(cz r++(j.flatMap (fun r=>CR++cz r)++(TM++i)))))=_);rw[iJ];rw[if_neg (by rw[s];simp)];have q:TM.isPrefixOf (10::(cz r++(j.flatMap (fun r=>CR++cz r)++(TM++i))))=false:=by simp[List.isPrefixOf]
  rw[iJ];rw[if_neg (by rw[q];simp),oz TM rfl _ _ _ 1 (rM t),n _ u];simp[CR]
theorem uj:∀(b:List (List Nat)),b≠ []→CR++cK CR b=b.flatMap fun p=>CR++p:=by
 intro L
 induction L with
 |nil=>
  intro h;exact absurd rfl h
 |cons p b d=>
  intro J;simp[fu,eL,List.flatMap_cons]
theorem yS:∀(d:List (List Nat))(p e:List Nat)(b:Nat),(∀q∈p::d,∀c∈q,c≠13)→d.length<b→brk CR b 0 e (cK CR (p::d))=(e++p)::d:=by
 intro L
 induction L with
 |nil=>
  intro p e b h i;have:=oz CR rfl p [] e b (h p List.mem_cons_self);rw[List.append_nil]at this;refine(?_ :brk CR b 0 e (p++[])=_);rw[List.append_nil _,this];simp[iI]
 |cons q d k=>
  intro p e b h i;simp only[List.length_cons]at i;rw[jb _ _ _ (by simp),List.append_assoc _ _ _,oz CR rfl p _ e b (h p List.mem_cons_self)];refine(?_ :(if 0<b∧CR.isPrefixOf (13::(10::cK CR (q::d)))=true then _::brk CR (b-1) 1 [] (10::cK CR (q::d))else _)=_);rw[if_pos ⟨by lia,by simp[List.isPrefixOf]⟩];refine(?_ :_::brk CR (b-1) 0 [] (cK CR (q::d))=_);rw[k q [] (b-1) (fun x j=>h x (List.mem_cons_of_mem _ j)) (by omega)];rfl
noncomputable def uk(x:List Nat):List Nat:=if x.take 1=[46]then x.drop 1 else x
theorem um(r:List Nat):uk (cz r)=r:=by
 unfold uk cz;rcases r with _|⟨c,r⟩
 ·rfl
 ·
  by_cases h:c=46
  ·subst h;simp
  ·have:(some c=some 46)=False:=by simp[h]
   simp[this,h]
theorem jw(l:List Nat):∃p r,cD l=p::r:=sO 10 _ _
noncomputable def aI(t:List Nat):List Nat:=bT true (norm t)
theorem wt(t b:List Nat):sN TM (CR++(aI t++TM++b))=((aI t).length+2:Nat):=by
 have e:CR++(aI t++TM++b)=(cD t).flatMap (fun r=>CR++cz r)++(TM++b):=by
  refine cP (jw t) fun p r e=>?_;have h:=uj ((cD t).map cz) (by rw[e];simp);rw[jK,List.flatMap_map]at h;rw[←h];simp[aI]
 unfold sN;rw[e,wq b _ [] (fun r d=>oZ t r d)];have h:([]:List Nat)++(cD t).flatMap (fun r=>CR++cz r)=CR++aI t:=by
  refine cP (jw t) fun p r e=>?_;have h:=uj ((cD t).map cz) (by rw[e];simp);rw[jK,List.flatMap_map]at h;rw[←h];rfl
 rw[h];refine(?_ :((CR++aI t).length:Int)=_);rw[List.length_append];simp;(simp+arith)
theorem uo(t:List Nat)(d:Nat)(h:(aI t).length<d):(brk CR d 0 [] (aI t)).map uk=cD t:=by
 refine cP (jw t) fun p r e=>?_;have b:aI t=cK CR ((cD t).map cz):=(jK t).symm;have n:r.length≤(aI t).length:=by
  rw[b,e,List.map_cons];rw[eL];rw[List.length_append,List.length_flatMap];have:∀(r:List (List Nat)),r.length≤((r.map cz).map fun x=>(CR++x).length).sum:=fun r=>by
   induction r with
   |nil=>simp
   |cons a r m=>simp at m⊢;lia
  have:=this r;lia
 rw[b,e,List.map_cons,yS (r.map cz) (cz p) [] d (fun q b c j=>?_) (by simp;(exact Nat.lt_of_le_of_lt ‹_› ‹_›))]at⊢
 ·simp only[List.nil_append,List.map_cons,List.map_map];congr 1
  ·exact um p
  ·conv=>rhs;rw[←List.map_id r]
   exact List.map_congr_left fun x J=>um x
 ·have:q∈(cD t).map cz:=by rw[e];exact b
  refine bZ this fun x k i=>?_;subst i;exact rM (oZ t x k) c j
theorem qA:N "\r\n" =S CR:=by decide+kernel
theorem CU:N "\r" =S [13]:=by decide+kernel
theorem AA:N "\n" =S [10]:=by decide+kernel
theorem AB:N "\r\n.\r\n" =S TM:=by decide+kernel
theorem AD:N "." =S [46]:=by decide+kernel
theorem sR:N "'" =S [39]:=by decide+kernel
theorem cL(a b:List Nat):S a++S b=S (a++b):=by
 apply pG;refine(?_ :((S a).cps++(S b).cps).toList=_);simp[S]
theorem yT:∀(n:Nat)(l:List Nat),l.length≤n→(rep2 [10] l).length≤l.length:=by
 intro n
 induction n with
 |zero=>intro l h;obtain rfl:l=[]:=List.length_eq_zero_iff.mp (by lia);simp[kY,jJ]
 |succ n b=>
  intro l h;rcases l with _|⟨c,r⟩
  ·simp[kY,jJ]
  ·
   simp only[List.length_cons]at h;rcases r with _|⟨d,r⟩
   ·simp[kY,jJ]
   ·
    simp only[List.length_cons]at h;rw[sP];split
    ·have:=b r (by lia);simp;(exact Nat.le_succ_of_le ‹_›)
    ·have:=b (d::r) (by simp;(exact Nat.le_of_lt_succ ‹_›));simp at this⊢;omega
theorem qB:∀(l:List Nat)(b:Bool),(fe b l).length≤l.length:=by
 intro L
 induction L with
 |nil=>
  intro b;simp[sQ]
 |cons c r h=>
  intro b;have d:=h true;have e:=h false;rw[oy];split
  ·simp;omega
  ·split
   ·split
    ·simp;(exact Nat.le_succ_of_le ‹_›)
    ·simp;omega
   ·simp;omega
theorem uq(s:Nat):∀(l h:List Nat),(lD s h l).length≤l.length+1:=by
 intro L
 induction L with
 |nil=>
  intro h;simp[ox]
 |cons c r b=>
  intro h;rw[mn];split
  ·have:=b [];simp;omega
  ·have:=b (h++[c]);simp;(exact Nat.le_succ_of_le ‹_›)
theorem kZ(l:List Nat):Txt.replace (S l) (N "\r\n") (N "\n")=S (rep2 [10] l):=by
 rw[qA,AA,nq _ _ _ (by decide),(wj [10] l.length l [] _ (Nat.le_refl _) (by(simp+arith))).1];rfl
theorem oA(l:List Nat):Txt.replace (S (rep2 [10] l)) (N "\r") (N "\n")=S (fe false l):=by
 rw[CU,AA,nq _ _ _ (by decide),ug _ _ _ _ (by(simp+arith)),qz,List.nil_append _,Az l.length l (Nat.le_refl _)]
theorem ur(l:List Nat):eQ (S (fe false l)) (N "\n")=(cD l).map S:=by
 rw[AA,oY _ _ (by decide) (by decide+kernel),ug _ _ _ _ (by(simp+arith))];rfl
theorem rN(j:bp c)(k:Nat)(l:List Nat)(t:l.length≤400000):ak c.bare (k+3) (.ref 130) [.str (S l)] (.list (aH (cD l))):=by
 refine ak.lX j.toStd (p:=[N "text"]) (h2:=[N "text"]) (r:=[(N "text",some (.str (S l)))]) rfl rfl (fq.of rfl rfl rfl rfl rfl rfl rfl (fun w h=>?_) rfl (by decide+kernel) rfl rfl (by intro a e;cases e)) rfl (dZ (by simp)) ?_
 ·refine ah (List.length_eq_one_iff.mp h) fun v i=>?_;subst i;rfl
 dsimp only;have q:=yT l.length l (Nat.le_refl _);have r:=qB l false;have s:=uq 10 (fe false l) [];have p:(eQ (S (fe false l)) (N "\n")).length≤1000001:=by rw[ur _,List.length_map _];refine(?_ :(lD 10 [] (fe false l)).length≤_);lia
 have o:aH (cD l)=(eQ (S (fe false l)) (N "\n")).map D.str:=by rw[ur _,List.map_map];rfl
 rw[o,←oA _,←kZ _];refine Wp.ret (av.return (fun u=>?_) (ik _));have b:(N "\n").length=1:=by decide+kernel
 have m:(S l).length+((S l).length+1)*(N "\n").length≤16777216:=by rw[b,aE _];lia
 have n:(Txt.replace (S l) (N "\r\n") (N "\n")).length+((Txt.replace (S l) (N "\r\n") (N "\n")).length+1)*(N "\n").length≤16777216:=by rw[b,kZ _,aE _];lia
 refine Ev.iA (Ev.replace (Ev.replace (Ev.name (j:= .str (S l)) (ab (aa 0 rfl))) (by decide+kernel) m) (by decide+kernel) n) gA.str PySem.F.slot_str_split (ag.cons Ev.aN ag.nil) (ak.split (by decide+kernel) ?_ ?_)
 ·rw[show Txt.replace (S l) _ _=_ from kZ l,show Txt.replace (S (rep2 [10] l)) _ _=_ from oA l,aE _];lia
 ·rw[show Txt.replace (S l) _ _=_ from kZ l,show Txt.replace (S (rep2 [10] l)) _ _=_ from oA l];exact p
theorem AE(y:List Nat):∀(l:List Nat)(d h:Nat)(b:List Nat),(brk y d h b l).length≤l.length+1:=by
 intro L
 induction L with
 |nil=>intro d h b;rw[iI];exact Nat.le_refl _
 |cons c r e=>
  intro d h b;rcases h with _|h
  ·rw[iJ];split
   ·exact Nat.succ_le_succ (e _ _ _)
   ·exact Nat.le_succ_of_le (e _ _ _)
  ·exact Nat.le_succ_of_le (e d h b)
theorem AF(y:List Nat):∀(l:List Nat)(d e:Nat)(b:List Nat),∀p∈brk y d e b l,p.length≤b.length+l.length:=by
 intro L
 induction L with
 |nil=>
  intro d e b p h;rw[iI]at h;rw[List.mem_singleton.mp h];simp
 |cons c r i=>
  intro d e b p h;rcases e with _|e
  ·rw[iJ]at h;split at h
   ·refine memC h (fun j=>?_) fun h=>?_
    ·subst j;(simp+arith)
    ·have:=i (d-1) (y.length-1) [] p h;simp at this⊢;lia
   ·have:=i d 0 (b++[c]) p h;simp at this⊢;lia
  ·exact Nat.le_succ_of_le (i d e b p h)
theorem wu(r:List Nat):(if(S (bf r none (some 1) none)==N ".")=true then D.str (S (bf r (some 1) none none))else D.str (S r))=D.str (S (uk r)):=by
 have b:bf r none (some 1) none=r.take 1:=gc r 1;have d:bf r (some 1) none none=r.drop 1:=gd r 1;rw[b,d,AD,iH _ _];unfold uk;by_cases h:r.take 1=[46]
 ·rw[decide_eq_true h,if_pos rfl,if_pos h]
 ·rw[decide_eq_false h,if_neg (by decide),if_neg h]
theorem la:∀(l:List Nat)(b:Bool),l.length≤(bT b l).length:=by
 intro L
 induction L with
 |nil=>
  intro b;simp
 |cons c r h=>
  intro b;rw[jc _ _ _];split
  ·have:=h false;simp;(exact Nat.le_succ_of_le ‹_›)
  ·have:=h (c==10);simp;omega
theorem oB(z:List Nat):∀(l:List (List Nat)),l≠ []→(l.map S).toArray.foldl (· +·.length+(S z).length) 0=(cK z l).length+z.length:=by
 intro L
 induction L with
 |nil=>
  intro h;exact absurd rfl h
 |cons p l e=>
  intro J;rw[←Array.foldl_toList _];have i:∀(l:List (List Nat))(a:Nat),(l.map S).foldl (fun b d=>b+d.length+(S z).length) a=a+(l.flatMap (z++·)).length:=by
   intro l
   induction l with
   |nil=>intro a;simp
   |cons x r e=>intro a;rw[List.map_cons,List.foldl_cons,e _,List.flatMap_cons,List.length_append,List.length_append,aE _,aE _];lia
  refine(?_ :(l.map S).foldl (fun b d=>b+d.length+(S z).length) (0+(S p).length+(S z).length)=(p++l.flatMap (z++·)).length+z.length);rw[i _ _,List.length_append,aE _,aE _];lia
theorem wx(w:bp c)(k:Nat)(t b:List Nat)(hl:(aI t).length+b.length≤400000)(A:(splitM (S (norm t)) (N "'") 2).length≤1000):ak c.bare (k+5) (.ref 135) [.str (S (aI t++TM++b))] (.tup [js (S (norm t)),.str (S b)]):=by
 have H:[N "stream",N "end",N "rows"].Nodup:=by decide+kernel
 refine ak.lX w.toStd (p:=[N "stream"]) (h2:=[N "stream",N "end",N "rows"]) (r:=[(N "stream",some (.str (S (aI t++TM++b)))),(N "end",none),(N "rows",none)]) rfl rfl (fq.of rfl rfl rfl rfl rfl rfl rfl (fun a7 h=>?_) rfl (by decide+kernel) rfl rfl (by intro a e;cases e)) rfl (dZ (by simp)) ?_
 ·refine ah (List.length_eq_one_iff.mp h) fun v U=>?_;subst U;rfl
 dsimp only;have L:(aI t++TM++b).length=(aI t).length+5+b.length:=by simp;(simp+arith)
 have C:N "\r\n" ++S (aI t++TM++b)=S (CR++(aI t++TM++b)):=by rw[qA,cL _ _]
 have a4:(N "\r\n").length+(S (aI t++TM++b)).length≤sizeLine:=by rw[qA,aE _,aE _,L,sizeLine_eq];simp;lia
 have Z:Txt.find (N "\r\n" ++S (aI t++TM++b)) (N "\r\n.\r\n")=((aI t).length+2:Nat):=by
  rw[C,AB,yQ _ _ (by decide)];exact wt t b
 have F:∀(u:FH)(q:Scope)(i:bD)(j m n:Pos),(N "stream",some (.str (S (aI t++TM++b))))∈i→Ev (c.wo u) (k+4) q i (.BinOp (.Constant (.str (N "\r\n")) 0 j) .Add (.Name (N "stream") m) n) (.str (N "\r\n" ++S (aI t++TM++b))):=fun u q i j m n W=>Ev.bin Ev.aN (Ev.name W) (aJ.cat a4);refine Wp.cons (av.assign (j:= .int ((aI t).length+2:Nat)) (fun u=>?_) trivial (ar 1 rfl) (aa 1 rfl) (cC rfl) (H) (fun J=>rfl)) ?_
 ·rw[←Z];exact Ev.iA (F _ _ _ _ _ _ (ab (aa 0 rfl))) gA.str PySem.F.slot_str_find (ag.cons Ev.aN ag.nil) ak.find
 have a1:bf (CR++(aI t++TM++b)) (some (2:Nat)) (some (((aI t).length+2:Nat):Int)) none=aI t:=by
  rw[lL _ _ _ (by simp)];have e:CR++(aI t++TM++b)=(CR++aI t)++(TM++b):=by simp
  rw[e,List.take_append_of_le_length (by simp),List.take_of_length_le (by simp)];rfl
 have R:(aI t).length<(aI t).length+1:=by(simp+arith)
 have M:eQ (S (aI t)) (N "\r\n")=(brk CR ((aI t).length+1) 0 [] (aI t)).map S:=by rw[qA,oY _ _ (by decide) (by decide+kernel)]
 have a5:=AE CR (aI t) ((aI t).length+1) 0 [];have a0:((brk CR ((aI t).length+1) 0 [] (aI t)).map uk)=cD t:=uo t _ R;refine Wp.cons (a6:=[(N "stream",some (.str (S (aI t++TM++b)))),(N "end",some (.int ((aI t).length+2:Nat))),(N "rows",some (.list (aH (cD t))))]) (c9:=[]) ?_ ?_
 ·have B:aH (cD t)=((brk CR ((aI t).length+1) 0 [] (aI t)).filter fun J=>true).map fun r=>D.str (S (uk r)):=by
   rw[List.filter_eq_self.mpr (fun J J=>rfl),←a0];unfold aH;rw[List.map_map];rfl
  rw[B];have a3:∀(u:FH)(q:Scope)(i:bD)(j m n O P Q T:Pos),(N "stream",some (.str (S (aI t++TM++b))))∈i→(N "end",some (.int ((aI t).length+2:Nat)))∈i→
    Ev (c.wo u) (k+4) q i (.Subscript (.BinOp (.Constant (.str (N "\r\n")) 0 j) .Add (.Name (N "stream") m) n) (.Slice (some (.Constant (.int 2) 0 O)) (some (.Name (N "end") P)) none Q) T) (.str (S (aI t))):=fun u q i j m n O P Q T X f=>by
   have s:=az.fo (c:=c.wo u) (x:=S (CR++(aI t++TM++b))) (e6:=some ((2:Nat):Int)) (f9:=some (((aI t).length+2:Nat):Int)) (by rw[aE _];simp;lia);have g:(S (CR++(aI t++TM++b))).cps.toList=CR++(aI t++TM++b):=rfl;rw[g,a1]at s;have z:=F u q i j m n X;rw[C]at z;exact Ev.sub z (Ev.slice (.some Ev.int) (.some (Ev.name f)) .none) s
  have a2:∀u:FH,ak (c.wo u) (k+3) (.builtin "str.split") [.str (S (aI t)),.str (N "\r\n")] (.list ((brk CR ((aI t).length+1) 0 [] (aI t)).map fun r=>D.str (S r))):=fun u=>by
   have:=ak.split (c:=c.wo u) (n:=k+3) (x:=S (aI t)) (a9:=N "\r\n") (by decide+kernel) (by rw[aE _];lia) (by rw[M,List.length_map _];lia);rw[M,List.map_map]at this;exact this
  refine av.iw (fun r=>D.str (S r)) (fun r=>D.str (S (uk r))) (fun J=>true) (brk CR ((aI t).length+1) 0 [] (aI t)) (l2:=[]) (fun u=>aO.list (Ev.iA (a3 _ _ _ _ _ _ _ _ _ _ (ab (aa 0 rfl)) (ab (aa 1 rfl))) gA.str PySem.F.slot_str_split (ag.cons Ev.aN ag.nil) (a2 u)) rfl) (by kernel_rfl) (fun J J J=> .nil) (fun u r V J=>?_) (by kernel_rfl) (fun p A=>nomatch A) (by lia) ?_ (ar 2 rfl) (aa 2 rfl) (cC rfl) (H) (fun J=>rfl)
  ·rw[←wu r];have K:(S r).length≤1000000:=by
    rw[aE _];have:=AF CR _ _ _ _ r V;simp at this;lia
   refine Ev.ite (br.cmp (Ev.sub (Ev.name (j:= .str (S r)) (aa 0 rfl)) (Ev.slice .none (.some Ev.int) .none) (az.fo (e6:=none) (f9:=some 1) K)) Ev.aN aB.eqs) (fun J=>?_) (fun J=>Ev.name (aa 0 rfl));exact Ev.sub (Ev.name (j:= .str (S r)) (aa 0 rfl)) (Ev.slice (.some Ev.int) .none .none) (az.fo (e6:=some 1) (f9:=none) K)
  ·rw[←B];exact dz _
 ·have Y:∀u:FH,ak (c.wo u) (k+3) (.builtin "str.join") [.str (N "\r\n"),.list (aH (cD t))] (.str (S (norm t))):=fun u=>by
   have G:=ak.join (c:=c.wo u) (n:=k+3) (x:=S CR) (j:= .list (aH (cD t))) (p:=(cD t).map S) (congrArg some (by unfold aH;rw[List.map_map];rfl)) (by
    refine cP (jw t) fun p r e=>?_;rw[oB CR _ (by rw[e];simp),join_rows _];have:=la (norm t) true;refine(?_ :(norm t).length+2≤_);have f:(bT true (norm t)).length=(aI t).length:=rfl;lia) (by
    rw[dU _ _,join_rows _,aE _];have:=la (norm t) true;have f:(bT true (norm t)).length=(aI t).length:=rfl;lia)
   rw[dU,join_rows,←qA]at G;exact G
  have a6:(norm t).length≤400000:=by
   have:=la (norm t) true;have f:(bT true (norm t)).length=(aI t).length:=rfl;lia
  have E:Clean (js (S (norm t))):=by
   unfold js;split
   ·exact cp trivial trivial trivial trivial
   ·exact ik _
  refine Wp.ret (av.return (fun u=>Ev.tuple (ag.cons (Ev.call (w.g (by kernel_rfl)) (.fn (a:=87) (w.fn rfl) rfl) (ag.cons (j:= .str (S (norm t))) ?_ ag.nil) (ak.wo (ka w k (S (norm t)) (by rw[aE _];lia) A) ⟨trivial,trivial⟩ E)) (ag.cons ?_ ag.nil))) ⟨E,trivial,trivial⟩)
  ·generalize I:Expr.Constant (Const.str (Str.ofString "\r\n")) 0 _=o;exact Ev.iA (by subst I;exact Ev.aN) gA.str PySem.F.slot_str_join (ag.cons (Ev.name (ab (aa 2 rfl))) ag.nil) (Y u) rfl rfl (by intro J;subst I;rfl)
  ·have s:=az.fo (c:=c.wo u) (x:=S (aI t++TM++b)) (e6:=some (((aI t).length+2:Nat)+3:Int)) (f9:=none) (by rw[aE _,L];lia);have g:(S (aI t++TM++b)).cps.toList=aI t++TM++b:=rfl;have z:bf (aI t++TM++b) (some (((aI t).length+2:Nat)+3:Int)) none none=b:=by
    have:=gd (aI t++TM++b) ((aI t).length+5);rw[show(((aI t).length+2:Nat)+3:Int)=((aI t).length+5:Nat)by rfl,this,List.append_assoc _ _ _,List.drop_append,List.drop_of_length_le (by(simp+arith))];simp
   rw[g,z]at s;exact Ev.sub (Ev.name (ab (aa 0 rfl))) (Ev.slice (.some (Ev.bin (Ev.name (j:= .int ((aI t).length+2:Nat)) (ab (aa 1 rfl))) Ev.int aJ.add)) .none .none) s
noncomputable abbrev Row3:=Str×Int×Int
noncomputable def cG(r:Row3):D:= .tup [.str r.1,.int r.2.1,.int r.2.2]
noncomputable abbrev cM(h:List Row3)(x:Str):List Row3:=h.filter fun r=>r.1==x
noncomputable def iK(l:List Row3):List Int:=[(l.length:Int),(l.map (·.2.1)).sum,(l.map (·.2.2)).sum]
noncomputable def fA(h:List Row3):List (Str×List Int):=(h.map (·.1)).foldl (fun a x=>cb a x (iK (cM h x))) []
noncomputable def ff(h:List Row3):D:= .tup [.int h.length,.int (h.map (·.2.1)).sum,.int (h.map (·.2.2)).sum,.dict (aC bu (fA h))]
theorem oC:∀l:List Row3,aS (l.map cG):=by
 intro L
 induction L with
 |nil=>
  exact trivial
 |cons r l h=>
  exact⟨⟨trivial,trivial,trivial,trivial⟩,h⟩
theorem nr(m:bp c)(i:Nat)(q:i=1∨i=2){h:Pos}(l:List Row3)(s:l.length≤1000000)(u:(x,some (.list (l.map cG)))∈r)(w:(x==("__debug__" :Str))=false)(v:(x==("__classdict__" :Str))=false)(y:nk c8 e (.Name (N "row") f0) (.Name x h)=true)(o:e.names.lookup (N "sum")=some .globalImplicit):
  Ev (c.wo f) (n+2) e r (.Call (.Name (N "sum") O) [.ListComp (.Subscript (.Name (N "row") Y) (.Constant (.int i) 0 b1) k0) [⟨.Name (N "row") f0,.Name x h,[],0⟩] c8 m2] [] n2) (.int (l.map (fun a0:Row3=>if i=1 then a0.2.1 else a0.2.2)).sum):=by
 refine Ev.call (m.b rfl (by decide+kernel)) (.builtin "sum") (ag.cons (Ev.lcm cG (fun a0=> .int (if i=1 then a0.2.1 else a0.2.2)) l (a6:=[]) (aO.list (Ev.name u w v) rfl) y (fun a0 J=>?_) (by kernel_rfl) (fun p t=>nomatch t) s) ag.nil) (ak.sum (by rw[show D.bt (D.list _)=some _ from rfl,List.map_map];rfl)) o;refine ay q (fun b=>?_) fun k=>?_
 ·subst b;exact Ev.sub (Ev.name (j:=cG a0) (aa 0 rfl)) Ev.int (az.tup (n:=1) (by decide) (by decide) (by rfl) rfl)
 ·subst k;exact Ev.sub (Ev.name (j:=cG a0) (aa 0 rfl)) Ev.int (az.tup (n:=2) (by decide) (by decide) (by rfl) rfl)
theorem rO(i:bp c)(k:Nat)(b:List Row3)(s:b.length≤1000):ak c.bare (k+3) (.ref 145) [.list (b.map cG)] (ff b):=by
 have o:[N "rows",N "name",N "mine"].Nodup:=by decide+kernel
 refine ak.lX i.toStd (p:=[N "rows"]) (h2:=[N "rows",N "name",N "mine",N "table"]) (r:=[(N "rows",some (.list (b.map cG))),(N "name",none),(N "mine",none)]) rfl rfl (fq.of rfl rfl rfl rfl rfl rfl rfl (fun w h=>?_) rfl (by decide+kernel) rfl rfl (by intro a e;cases e)) rfl (dZ (by simp)) ?_
 ·refine ah (List.length_eq_one_iff.mp h) fun v q=>?_;subst q;rfl
 dsimp only;have n:∀l:List (Str×List Int),dQ (aC bu l):=eJ du;refine Wp.cons (av.gF (j:= .bW []) ig.nU (aa 3 rfl) (cC rfl) (cY (by kernel_rfl)) (fun J=>rfl)) ?_;refine Wp.cons (a6:=[(N "rows",some (.list (b.map cG))),(N "name",none),(N "mine",none)]) (c9:=[(N "table",.bW (aC bu (fA b)))]) (av.for (l:=(b.map (·.1)).map D.str) (aO.list (Ev.lcm cG (fun r=> .str r.1) b (a6:=[]) (aO.list (Ev.name (aa 0 rfl)) rfl) (by kernel_rfl) (fun r J=>Ev.sub (Ev.name (j:=cG r) (aa 0 rfl)) Ev.int (az.tup (n:=0) (by decide) (by decide) (by rfl) rfl)) (by kernel_rfl) (fun p m=>nomatch m) (by lia)) (by rw[List.map_map];rfl)) (by
  refine ez.fold (e7:=Str) (m:=List (Str×List Int)) D.str (fun a x=>cb a x (iK (cM b x))) (fun a=>[(N "rows",some (.list (b.map cG))),(N "name",none),(N "mine",none)]) (fun a=>[(N "table",.bW (aC bu a))]) (fun a l=>a.length+l.length≤2000) (fun a x l h=>⟨?_,?_⟩) (b.map (·.1)) [] (by simp;lia)
  ·have:=hB a x (iK (cM b x));simp only[List.length_cons]at h;lia
  ·simp only[List.length_cons]at h;have t:(cM b x).length≤b.length:=List.length_filter_le _ _;refine .mk (ρ2:=[(N "rows",some (.list (b.map cG))),(N "name",some (.str x)),(N "mine",some (.list ((cM b x).map cG)))]) .name (.cons (by exact ar 1 rfl) .nil) (CL (aa 1 rfl) (by exact cu (by decide+kernel) (cC rfl))) (by exact o) (Wp.cons (av.iw cG cG (fun r=>r.1==x) b (l2:=[(N "name",some (.str x))]) (fun u=>aO.list (Ev.name (ab (aa 0 rfl))) rfl) (by kernel_rfl) (fun u r J=> .one (br.cmp (Ev.sub (Ev.name (j:=cG r) (aa 0 rfl)) Ev.int (az.tup (n:=0) (by decide) (by decide) (by rfl) rfl)) (Ev.name (j:= .str x) (aa 1 rfl)) aB.eqs)) (fun u r J J=>Ev.name (aa 0 rfl)) (by kernel_rfl) ?_ (by lia) (oC _) (by exact ar 2 rfl) (aa 2 rfl) (by exact cu (by decide+kernel) (cC rfl)) (by exact o) (fun J=>rfl)) (Wp.cons (av.kR (a9:=x) (j:=bu (iK (cM b x))) (by rw[dN];exact .head) (n a) (du _) (fun u=>?_) (fun u=>Ev.name (ab (aa 1 rfl))) (by unfold aC;rw[List.length_map _];lia) (fun J=>rfl)) Wp.nil)) (by exact bG rfl)
   ·intro p m;rw[List.mem_singleton.mp m];exact⟨ab (aa 1 rfl),rfl⟩
   ·refine Ev.tuple (ag.cons (Ev.call (i.b rfl (by decide+kernel)) (.builtin "len") (ag.cons (Ev.name (j:= .list ((cM b x).map cG)) (ab (aa 2 rfl))) ag.nil) ?_) (ag.cons (nr i 1 (.inl rfl) (cM b x) (by lia) (ab (aa 2 rfl)) (by decide+kernel) (by decide+kernel) (by kernel_rfl) rfl) (ag.cons (nr i 2 (.inr rfl) (cM b x) (by lia) (ab (aa 2 rfl)) (by decide+kernel) (by decide+kernel) (by kernel_rfl) rfl) ag.nil)));have:=ak.fs (c:=c.wo u) (n:=k+1) (j:= .list ((cM b x).map cG)) (l:=(cM b x).map cG) rfl (by rw[List.length_map _];lia);rw[List.length_map]at this;exact this)) ?_
 refine dC.freeze ?_;simp only[sa,pV,ma (p8:=bu) qo];refine Wp.ret (av.return (fun u=>Ev.tuple (ag.cons (Ev.call (i.b rfl (by decide+kernel)) (.builtin "len") (ag.cons (Ev.name (j:= .list (b.map cG)) (ab (aa 1 rfl))) ag.nil) ?_) (ag.cons (nr i 1 (.inl rfl) b (by lia) (ab (aa 1 rfl)) (by decide+kernel) (by decide+kernel) (by kernel_rfl) rfl) (ag.cons (nr i 2 (.inr rfl) b (by lia) (ab (aa 1 rfl)) (by decide+kernel) (by decide+kernel) (by kernel_rfl) rfl) (ag.cons (Ev.name (ab (aa 0 rfl))) ag.nil))))) ⟨trivial,trivial,trivial,n _,trivial⟩);have:=ak.fs (c:=c.wo u) (n:=k+1) (j:= .list (b.map cG)) (l:=b.map cG) rfl (by rw[List.length_map _];lia);rw[List.length_map]at this;exact this
structure cm where
 bb:Nat
 to:Nat
 tail:List Nat
 hour:Nat
 took:Option Nat
set_option genInjectivity true in
inductive Itm where
 |bw (n:Nat)
 |bY (k:Nat)
inductive Kd where
 |give
 |take
 |rest
structure cA where
 kd:Kd
 place:Nat
 way:Nat
 tail:List Nat
structure BK where
 cc:Int
 nc:Int
 tt:Int
 ct:Int
 gk:List (Str×List Int)
structure RS where
 box:Nat→List Itm
 aK:Nat→List (Str×Int)
 cf:Nat→Int
 bk:Nat→BK
 aq:Nat→Int
 aw:List Int
 ae:List cm
 log:List (Bool×Nat)
 steps:List (Bool×Bool)
 bq:List Int
noncomputable def upd(f:Nat→m)(k:Nat)(v:m):Nat→m:=fun j=>if j=k then v else f j
noncomputable def three(f:Nat→m):List m:=[f 0,f 1,f 2]
noncomputable def dg(n:Nat):List Nat:=(N (toString (n:Int))).cps.toList
variable{d:RS}{L:cA}{b3:List Itm}{c0:RS×Int}{c4:List cA}{f7:cm}{g3:List Row3}{h9:RS}{j3:List Row3}{j4:BK}{n0:Itm}
section
variable(nm:Nat→List Nat)(sums:List Int)
noncomputable def bK(n:Nat)(m:cm):List Nat:=nm m.bb++39::(dg n++39::m.tail)
noncomputable def af(s:RS)(n:Nat):cm:=s.ae.getD n ⟨0,0,[],0,none⟩
noncomputable def fg(s:RS):Itm→List Nat
 | .bw n=>aI (bK nm n (af s n))++TM
 | .bY k=>aI (nm k)++TM
theorem AG:fg nm d (.bw n)=aI (bK nm n (af d n))++TM:=rfl
theorem AH:fg nm d (.bY n)=aI (nm n)++TM:=rfl
noncomputable def cv(s:RS)(k:Nat):List Nat:=(s.box k).flatMap (fg nm s)
noncomputable def gV:Kd→Bool
 | .take=>true
 |_=>false
theorem uu:gV .take=true:=rfl
theorem uv:gV .give=false:=rfl
theorem uw:gV .rest=false:=rfl
noncomputable def aX(s:RS)(d:cA):List Nat:=[0,1,2].filter fun k=>if gV d.kd then !(s.box k).isEmpty else s.aw.contains (k:Int)
noncomputable def handOf(s:RS)(d:cA):Nat:=(aX s d++[0]).getD (d.place % max 1 (aX s d).length) 0
noncomputable def cQ(a b:BK):BK:=⟨b.cc+a.cc,b.nc+a.nc,b.tt+a.tt,b.ct+a.ct,dO fW a.gk b.gk⟩
noncomputable def bC(s:RS)(d:cA)(e b h:Nat):RS:=
 {s with ae:=s.ae++[⟨b,h,d.tail,e,none⟩],aK:=upd s.aK b (dO (· +·) (s.aK b) [(S (nm h),1)]),box:=upd s.box h (s.box h++[.bw s.ae.length])}
noncomputable def aL(s:RS)(b h n:Nat)(d:List Itm):RS×Int:=
 let m:=af s n
 let first:=s.aq h== -1
 ({s with
   box:=upd s.box h d
   ae:=s.ae.set n {m with took:=some b}
   aq:=if first then upd s.aq h m.bb else s.aq
   log:=if first then s.log++[(true,h)]else s.log
   bk:=upd s.bk h (cQ (s.bk h) ⟨if first then 1 else 0,1,(b:Int)-m.hour,sums.getD n 0,[(S (nm m.bb),[1,(b:Int)-m.hour,sums.getD n 0])]⟩)
   aw:=if s.aw.contains (h:Int)then s.aw else s.aw++[(h:Int)]},if first then-1 else m.bb)
noncomputable def cJ(s:RS)(h k:Nat)(b:List Itm):RS:=
 {s with box:=upd s.box h b,aK:=upd s.aK h (dO (· +·) [(S (nm k),-1)] (s.aK h)),cf:=upd s.cf h (s.cf h-1)}
noncomputable def ky(s:RS)(h:Nat):RS:={s with aw:=s.aw.erase (h:Int)}
noncomputable def aP(s:RS)(d:cA)(e:Nat):RS×Int:=
 let h:=handOf s d
 if(aX s d).isEmpty then(s,-1)else
 match d.kd with
 | .give=>(bC nm s d e h ((h+1+d.way) % 3),-1)
 | .rest=>(ky s h,-1)
 | .take=>match s.box h with
  | .bw n::b=>aL nm sums s e h n b
  | .bY k::b=>(cJ nm s h k b,-1)
  | []=>(s,-1)
noncomputable def bh(l:List (Str×Int)):Int:=l.foldl (fun a p=>a+p.2) 0
noncomputable def aG(p:RS×Int)(h:Nat):RS×Int:=
 let s:=p.1
 if s.aq h≠ -1∧s.aw.contains (h:Int)=false∧bh (s.aK h)=0 then({s with aq:=upd s.aq h (-1),log:=s.log++[(false,h)]},s.aq h)else p
noncomputable def aY(p:RS×Int)(h:Nat):RS:=
 let s:=p.1
 if p.2≠ -1∧p.2≠h then{s with box:=upd s.box p.2.toNat (s.box p.2.toNat++[.bY h]),cf:=upd s.cf p.2.toNat (s.cf p.2.toNat+1)}else s
noncomputable def eA(s:RS):Bool:= !((s.box 0).isEmpty&&(s.box 1).isEmpty&&(s.box 2).isEmpty)
noncomputable def mq(s:RS):RS:={s with steps:=s.steps++[(s.aq 0 != -1,!s.aw.isEmpty||eA s)]}
noncomputable def gI(s:RS)(k:Nat):Nat:=([0,1,2].filter fun n=>s.aq n==(k:Int)&&n !=k).length
noncomputable def hO(s:RS)(k:Nat):Nat:=(s.ae.filter fun m=>m.bb==k&&m.took.isNone).length
noncomputable def fB(s:RS)(k:Nat):List (Str×Int):=[(N "led",-(gI s k:Int)),(N "out",-(hO s k:Int)),(N "come",-(s.cf k))]
noncomputable def eS(s:RS)(k:Nat):Int:=bh (dO (· +·) (fB s k) (s.aK k))
noncomputable def gJ(s:RS)(h:Nat):RS:=if h<9 then{s with bq:=s.bq++three (eS s)}else s
noncomputable def aU(s:RS)(h:Nat)(d:cA):RS:=
 gJ (mq (aY (aG (aP nm sums s d h) (handOf s d)) (handOf s d))) h
noncomputable def cE(s:RS):Nat→List cA→RS
 |_,[]=>s
 |h,d::r=>cE (aU nm sums s h d) (h+1) r
theorem BG:cE nm sums d n []=d:=rfl
theorem BH:cE nm sums d n (L::c4)=cE nm sums (aU nm sums d n L) (n+1) c4:=rfl
noncomputable def bF:RS:=⟨fun J=>[],fun J=>[],fun J=>0,fun J=>⟨0,0,0,0,[]⟩,fun k=>if k=0 then 0 else-1,[0],[],[(true,0)],[],[]⟩
noncomputable def gK:Kd→Str
 | .give=>N "give"
 | .take=>N "take"
 | .rest=>N "rest"
noncomputable def bO(d:cA):D:= .tup [.str (gK d.kd),.int d.place,.int d.way,.str (S d.tail)]
noncomputable def bP(n:Nat)(m:cm):List D:=[.int m.bb,.int m.to,.str (S (bK nm n m)),.int m.hour]++(match m.took with|none=>[]|some h=>[.int h])
noncomputable def eZ(n:Nat)(m:cm):D:= .list [.str (S (nm m.bb)),.str (S (dg n)),.str (S (norm m.tail))]
noncomputable def jx(b:BK):D:=iG b.cc b.nc b.tt b.ct b.gk
noncomputable def gf(b:Bool):Str:=if b then N "(" else N ")"
noncomputable def bL(s:RS):List D:=three fun k=> .str (S (cv nm s k))
noncomputable def dq(s:RS):List D:=three fun k=> .dict (aC .int (s.aK k))
noncomputable def gL(s:RS):List D:=three fun k=> .int (s.cf k)
noncomputable def dW(s:RS):List D:=three fun k=>jx (s.bk k)
noncomputable def dA(s:RS):List D:=three fun k=> .int (s.aq k)
noncomputable def cg(s:RS):List D:=s.ae.zipIdx.map fun p=> .ao (bP nm p.2 p.1)
noncomputable def cR(s:RS):List D:=s.ae.zipIdx.map fun p=>eZ nm p.2 p.1
noncomputable def eB(s:RS):List D:=s.log.map fun p=> .tup [.str (gf p.1),.int p.2]
noncomputable def eU(s:RS):List D:=s.steps.map fun p=> .tup [.bool p.1,.bool p.2]
noncomputable abbrev bz(s:RS):Omega:=[(N "debts",.ao (s.bq.map .int)),(N "steps",.ao (eU s)),(N "log",.ao (eB s)),(N "dues",.ao (cR nm s)),(N "mails",.ao (cg nm s)),(N "awake",.ao (s.aw.map .int)),(N "boss",.ao (dA s)),
 (N "books",.ao (dW s)),(N "answers",.ao (gL s)),(N "owed",.ao (dq s)),(N "boxes",.ao (bL nm s))]
end
structure aT(nm:Nat→List Nat):Prop where
 len:∀k,k<3→(nm k).length≤20
 ne:∀k,k<3→nm k≠ []
 pl:∀k,k<3→∀c∈nm k,c<128∧c≠10∧c≠13∧c≠39∧c≠34∧c≠92
 inj:∀i j,i<3→j<3→nm i=nm j→i=j
theorem oD:∀n,n<10→(dg n).length≤2∧∀c∈dg n,48≤c∧c≤57:=by decide+kernel
theorem BI:∀m,m<10→∀n,n<10→dg m=dg n→m=n:=by decide+kernel
theorem x6(n:Nat):S (dg n)=N (toString (n:Int)):=rfl
theorem oE:∀(a b:List Nat),(∀c∈a,c≠10∧c≠13)→norm (a++b)=a++norm b:=by
 intro L
 induction L with
 |nil=>
  intro b J;exact rfl
 |cons c a j=>
  intro b h;have e:=h c List.mem_cons_self;refine(?_ :norm (c::(a++b))=_);rw[kp e.2 e.1,j b fun d i=>h d (List.mem_cons_of_mem _ i)];rfl
theorem qC(a:List Nat)(h:∀c∈a,c≠10∧c≠13):norm a=a:=by
 have:=oE a [] h;simpa [norm,v7]using this
theorem gM(s:Nat):∀(u v e:List Nat)(b:Nat),(∀c∈u,c≠s)→brk [s] b 0 e (u++v)=brk [s] b 0 (e++u) v:=by
 intro L
 induction L with
 |nil=>
  intro v e b J;simp
 |cons c u k=>
  intro v e b h;have i:=h c List.mem_cons_self;refine(?_ :brk [s] b 0 e (c::(u++v))=_)
  conv=>lhs;rw[iJ]
  rw[Ay,if_neg (by simp[i])];rw[k v _ b fun d j=>h d (List.mem_cons_of_mem _ j)];refine(?_ :brk [s] b 0 (e++[c]++u) v=brk [s] b 0 (e++(c::u)) v);simp
theorem lb(s:Nat)(v h:List Nat)(b:Nat):brk [s] (b+1) 0 h (s::v)=h::brk [s] b 0 [] v:=by
 conv=>lhs;rw[iJ]
 rw[Ay,if_pos ⟨by(exact Nat.succ_pos _),by simp⟩];rfl
theorem B2(y:List Nat):∀(v h:List Nat),brk y 0 0 h v=[h++v]:=by
 intro L
 induction L with
 |nil=>
  intro h;simp[iI]
 |cons c v b=>
  intro h;rw[iJ];rw[if_neg (by simp),b _];simp
theorem BJ(l:List Nat):limitOf (S l) 2=2:=by rfl
theorem lg(l:List Nat):splitM (S l) (N "'") 2=(brk [39] 2 0 [] l).map S:=by
 rw[sR,uf _ _ (by decide) (by decide+kernel),BJ _]
theorem AI(a:List Nat)(h:∀c∈a,c≠39):brk [39] 2 0 [] a=[a]:=by
 have:=gM 39 a [] [] 2 h;rw[List.append_nil]at this;rw[this];simp[iI]
theorem ux(a b:List Nat)(h:∀c∈a,c≠39)(d:∀c∈b,c≠39):brk [39] 2 0 [] (a++39::b)=[a,b]:=by
 rw[gM 39 a _ [] 2 h,lb];have:=gM 39 b [] [] 1 d;rw[List.append_nil]at this;rw[this];simp[iI]
theorem wy(a b t:List Nat)(h:∀c∈a,c≠39)(d:∀c∈b,c≠39):brk [39] 2 0 [] (a++39::(b++39::t))=[a,b,t]:=by
 rw[gM 39 a _ [] 2 h,lb,gM 39 b _ [] 1 d,lb,B2 _ _ _];rfl
theorem wz(O:aT a)(d:f7.bb<3)(e:n<10):norm (bK a n f7)=a f7.bb++39::(dg n++39::norm f7.tail):=by
 unfold bK;rw[oE _ _ fun c h=>⟨(O.pl _ d c h).2.1,(O.pl _ d c h).2.2.1⟩];have b:∀r,norm (39::r)=39::norm r:=fun r=>kp (by decide) (by decide);rw[b _,oE _ _ fun c h=>(by have:=(oD n e).2 c h;lia),b _]
theorem qD(O:aT a)(b:f7.bb<3)(d:n<10):splitM (S (norm (bK a n f7))) (N "'") 2=[S (a f7.bb),S (dg n),S (norm f7.tail)]:=by
 rw[lg _,wz O b d,wy _ _ _ (fun c h=>(O.pl _ b c h).2.2.2.1) fun c h=>(by have:=(oD n d).2 c h;lia)];rfl
theorem wA(O:aT a)(h:f7.bb<3)(b:n<10):js (S (norm (bK a n f7)))=eZ a n f7:=by
 unfold js;rw[qD O h b,if_neg (by simp)];rfl
theorem rP(O:aT a)(b:n<3):splitM (S (norm (a n))) (N "'") 2=[S (a n)]:=by
 rw[qC _ fun c h=>⟨(O.pl _ b c h).2.1,(O.pl _ b c h).2.2.1⟩,lg _,AI _ fun c h=>(O.pl _ b c h).2.2.2.1];rfl
theorem yU(O:aT a)(h:n<3):js (S (norm (a n)))= .tup [.none,.none,.str (S (a n))]:=by
 unfold js;rw[rP O h,if_pos (by simp),qC _ fun c b=>⟨(O.pl _ h c b).2.1,(O.pl _ h c b).2.2.1⟩]
theorem wC(O:aT a)(d:n<3):js (S (a n++[39]))= .tup [.none,.none,.str (S (a n++[39]))]:=by
 unfold js;rw[lg _,ux _ [] (fun c b=>(O.pl _ d c b).2.2.2.1) (fun J h=>nomatch h),if_pos (by simp)]
theorem mr(O:aT a)(h:f7.bb<3)(b:n<10)(i:f7.tail.length≤20):(bK a n f7).length≤50:=by
 have d:=O.len _ h;have e:=(oD n b).1;unfold bK;simp;lia
theorem jy(t:List Nat):(aI t).length≤4*t.length:=by
 have h:=mf (norm t) true;have b:(norm t).length≤2*t.length:=kr t false;unfold aI;lia
structure Good0(nm:Nat→List Nat)(s:RS)(H b g:Nat):Prop where
 len:s.ae.length≤9
 fh:∀m∈s.ae,m.bb<3∧m.to<3∧m.hour<H∧m.tail.length≤20∧∀c∈m.tail,c<55296
 qF:(s.ae.map (·.hour)).Nodup
 dK:∀k n,Itm.bw n∈s.box k→n<s.ae.length∧(af s n).took=none∧(af s n).to=k
 iL:∀k,((s.box k).filterMap fun i=>match i with| .bw n=>some n| .bY _=>none).Nodup
 fL:∀k j,Itm.bY j∈s.box k→j<3
 iM:∀k,(s.box k).length≤b
 aq:∀k,-1≤s.aq k∧s.aq k<3
 nt:∀a∈s.aw,0≤a∧a<3
 pD:s.aw.Nodup
 mu:∀k,(s.aK k).length≤H
 oF:∀k,(s.bk k).gk.length≤H
 nu:s.log.length≤g
 kA:∀p∈s.log,p.2<3
structure Good(nm:Nat→List Nat)(s:RS)(H:Nat):Prop extends Good0 nm s H (2*H) (2*H+1) where
 Cw:s.steps.length≤H
 dbl:s.bq.length≤3*H
theorem wD(O:aT a)(G:Good0 a d n k z)(h:n0∈d.box T):(fg a d n0).length≤205:=by
 rcases n0 with a0|j
 ·
  have e:=G.dK T a0 h;have o:af d a0∈d.ae:=by
   unfold af;rw[List.getD_eq_getElem?_getD,List.getElem?_eq_getElem e.1];exact List.getElem_mem e.1
  have b:=G.fh _ o;have i:=mr O (n:=a0) b.1 (by have:=G.len;lia) b.2.2.2.1;have m:=jy (bK a a0 (af d a0));refine(?_ :(aI _++TM).length≤_);rw[List.length_append];simp;lia
 ·
  have i:=O.len j (G.fL T j h);have m:=jy (a j);refine(?_ :(aI _++TM).length≤_);rw[List.length_append];simp;lia
theorem rQ(g:m→List Nat)(b:Nat):∀(l:List m),(∀x∈l,(g x).length≤b)→(l.flatMap g).length≤l.length*b:=by
 intro L
 induction L with
 |nil=>
  intro J;simp
 |cons x r e=>
  intro h;have i:=e fun y d=>h y (List.mem_cons_of_mem _ d);have j:=h x List.mem_cons_self;rw[List.flatMap_cons,List.length_append,List.length_cons,Nat.add_mul _ _ _];lia
theorem oG(O:aT a)(G:Good0 a d n k z)(j:k≤200)(a0:Nat):(cv a d a0).length≤50000:=by
 have b:=rQ (fg a d) 205 (d.box a0) fun x h=>wD O G h;have e:=G.iM a0;have i:(d.box a0).length*205≤200*205:=Nat.mul_le_mul_right _ (Nat.le_trans ‹_› ‹_›);unfold cv;lia
theorem rR(s:RS)(k:Nat):(cv a s k=[])↔s.box k=[]:=by
 unfold cv;rcases h:s.box k with _|⟨i,r⟩
 ·simp
 ·
  constructor
  ·intro e;rw[List.flatMap_cons]at e;have:=(List.append_eq_nil_iff.mp e).1;rcases i with _|_<;>simp[AG,AH]at this
  ·intro e;contradiction
noncomputable def AJ:Itm→Option Nat
 | .bw n=>some n
 | .bY _=>none
structure cZ(d:cA):Prop where
 tl:d.tail.length≤20
 tc:∀c∈d.tail,c<55296
theorem ax(f:Nat→m)(k:Nat)(v:m):upd f k v k=v:=if_pos rfl
theorem aA(h:k≠n):upd q5 n p0 k=q5 k:=if_neg h
theorem cx(h:n<d.ae.length):af d n∈d.ae:=by
 unfold af;rw[List.getD_eq_getElem?_getD,List.getElem?_eq_getElem h];exact List.getElem_mem h
theorem mv(s:RS)(d:cA):(aX s d=[]∧handOf s d=0)∨(handOf s d∈aX s d):=by
 rcases h:aX s d with _|⟨a,r⟩
 ·
  refine .inl ⟨rfl,?_⟩;unfold handOf;rw[h];have:d.place % max 1 ([]:List Nat).length=0:=Nat.mod_one _;rw[this];rfl
 ·
  right;unfold handOf;rw[h];have b:d.place % max 1 (a::r).length<(a::r).length:=by
   have:max 1 (a::r).length=(a::r).length:=Nat.max_eq_right (by simp);rw[this];exact Nat.mod_lt _ (by simp)
  rw[List.getD_eq_getElem?_getD,List.getElem?_append_left b,List.getElem?_eq_getElem b];exact List.getElem_mem b
theorem jL(h:n∈aX d L):n<3∧(if gV L.kd then(d.box n).isEmpty=false else d.aw.contains (n:Int)=true):=by
 unfold aX at h;rw[List.mem_filter]at h;refine⟨?_,?_⟩
 ·have:=h.1;simp at this;lia
 ·have:=h.2;split
  ·rename_i b;rw[if_pos b]at this;simpa using this
  ·rename_i b;rw[if_neg b]at this;exact this
theorem cq(s:RS)(d:cA):handOf s d<3:=by
 refine ay (mv s d) (fun b=>ai b fun J h=>?_) fun h=>?_
 ·lia
 ·exact(jL h).1
theorem lh(h:m→m→m)(t r:List (Str×m)):(dO h t r).length≤t.length+r.length:=by
 have b:=md t ([]:List (Str×m));have d:∀(r a:List (Str×m)),(r.foldl (fb h) a).length≤a.length+r.length:=by
  intro r
  induction r with
  |nil=>intro a;simp
  |cons p r e=>intro a;have b:=e (fb h a p);have d:=me (p6:=h) a p;simp only[List.foldl_cons,List.length_cons];lia
 have i:=d r (fV t []);simp at b;unfold dO;lia
theorem Good0.up{H' b' g':Nat}(G:Good0 a d n k z)(h:n≤H')(b:k≤b')(e:z≤g'):Good0 a d H' b' g':=
 ⟨G.len,fun m i=>bQ (G.fh m i) fun a1 k c a2=>⟨a1,k,by(exact Nat.le_trans ‹_› ‹_›),a2⟩,G.qF,G.dK,G.iL,G.fL,fun a0=>Nat.le_trans (G.iM a0) b,G.aq,G.nt,G.pD,fun a0=>Nat.le_trans (G.mu a0) h,fun a0=>Nat.le_trans (G.oF a0) h,Nat.le_trans G.nu e,G.kA⟩
theorem wF(G:Good0 a d n k z)(D:cZ L)(g:T<3)(C:a1<3)(E:d.ae.length<9):Good0 a (bC a d L n T a1) (n+1) (k+1) z:=by
 have f:∀a2,a2<d.ae.length→af (bC a d L n T a1) a2=af d a2:=fun a2 t=>by
  unfold af bC;simp only[List.getD_eq_getElem?_getD];rw[List.getElem?_append_left t]
 have B:af (bC a d L n T a1) d.ae.length=⟨T,a1,L.tail,n,none⟩:=by
  unfold af bC;simp
 refine⟨?_,fun m s=>?_,?_,fun a0 a2 t=>?_,fun a0=>?_,fun a0 j A=>?_,fun a0=>?_,G.aq,G.nt,G.pD,fun a0=>?_,fun a0=>Nat.le_succ_of_le (G.oF a0),G.nu,G.kA⟩
 ·refine(?_ :(d.ae++[_]).length≤9);simp;(exact Nat.le_of_lt_succ ‹_›)
 ·refine dd (show m∈d.ae++[_]from s) (fun h=>?_) fun h=>?_
  ·refine bQ (G.fh m h) fun a3 k c L=>?_;exact cp a3 k (Nat.lt_succ_of_lt ‹_›) L
  ·rw[List.mem_singleton.mp h];exact gv g C (Nat.lt_succ_self _) D.tl D.tc
 ·refine(?_ :((d.ae++[(⟨T,a1,L.tail,n,none⟩:cm)]).map (·.hour)).Nodup);rw[List.map_append,List.nodup_append];refine bx G.qF (by simp) (fun a3 q c r=>?_);refine bZ q fun m s v=>?_;subst v;have:=(G.fh m s).2.2.1;simp at r;lia
 ·have p:Itm.bw a2∈upd d.box a1 (d.box a1++[.bw d.ae.length]) a0:=t;have u:Itm.bw a2∈d.box a0→a2<(bC a d L n T a1).ae.length∧(af (bC a d L n T a1) a2).took=none∧(af (bC a d L n T a1) a2).to=a0:=fun h=>by
   refine ba (G.dK a0 a2 h) fun w x y=>?_;rw[f a2 w];exact bx (by refine(?_ :a2<(d.ae++[_]).length);simp;(exact Nat.lt_succ_of_lt ‹_›)) x y
  by_cases b:a0=a1
  ·subst b;rw[ax]at p;refine dd p (fun h=>?_) fun h=>?_
   ·exact u h
   ·have:a2=d.ae.length:=by simpa using h
    subst this;rw[B];exact bx (by refine(?_ :d.ae.length<(d.ae++[_]).length);simp) rfl rfl
  ·rw[aA b]at p;exact u p
 ·refine(?_ :((upd d.box a1 (d.box a1++[.bw d.ae.length]) a0).filterMap _).Nodup);by_cases b:a0=a1
  ·subst b;rw[ax _ _ _,List.filterMap_append,List.nodup_append];refine bx (G.iL a0) (by simp) (fun a3 q c r=>?_);refine au (List.mem_filterMap.mp q) fun i l e=>?_;rcases i with a2|j
   ·
    cases e;have:=(G.dK a0 a3 l).1;simp at r;lia
   ·contradiction
  ·rw[aA b];exact G.iL a0
 ·have o:Itm.bY j∈upd d.box a1 (d.box a1++[.bw d.ae.length]) a0:=A;by_cases b:a0=a1
  ·subst b;rw[ax]at o;refine dd o (fun h=>?_) fun h=>?_
   ·exact G.fL a0 j h
   ·simp at h
  ·rw[aA b]at o;exact G.fL a0 j o
 ·refine(?_ :(upd d.box a1 (d.box a1++[.bw d.ae.length]) a0).length≤_);by_cases b:a0=a1
  ·subst b;rw[ax _ _ _];have:=G.iM a0;simp;omega
  ·rw[aA b];have:=G.iM a0;(exact Nat.le_succ_of_le ‹_›)
 ·refine(?_ :(upd d.aK T (dO (· +·) (d.aK T) [(S (a a1),1)]) a0).length≤_);by_cases b:a0=T
  ·subst b;rw[ax _ _ _];have:=G.mu a0;have:=lh (· +·) (d.aK a0) [(S (a a1),(1:Int))];simp at this;lia
  ·rw[aA b];have:=G.mu a0;(exact Nat.le_succ_of_le ‹_›)
theorem jd{l:List cm}:(l.set n f7).getD k ⟨0,0,[],0,none⟩=if k=n∧n<l.length then f7 else l.getD k ⟨0,0,[],0,none⟩:=by
 rw[List.getD_eq_getElem?_getD,List.getD_eq_getElem?_getD,List.getElem?_set];by_cases h:n=k
 ·subst h;by_cases b:n<l.length
  ·simp[b]
  ·simp[b]
 ·have:¬(k=n∧n<l.length):=fun q=>h q.1.symm;rw[if_neg this,if_neg h]
theorem oH(e:d.box n=n0::b3):∀k x,x∈upd d.box n b3 k→x∈d.box k:=fun k x h=>by
 by_cases b:k=n
 ·subst b;rw[ax]at h;rw[e];exact List.mem_cons_of_mem _ h
 ·rw[aA b]at h;exact h
theorem qG(G:Good0 a d n k z)(F:T<3)(e:d.box T= .bw a1::b3):Good0 a (aL a h d n T a1 b3).1 (n+1) k (z+1):=by
 refine ba (G.dK T a1 (by rw[e];simp)) fun s O M=>?_;have I:=cx s;have r:=G.fh _ I;have x:=oH e;have K:∀a0,a1∉(upd d.box T b3 a0).filterMap AJ:=fun a0 J=>by
  refine au (List.mem_filterMap.mp J) fun i v l=>?_;rcases i with j|j
  ·
   cases l;have b:=(G.dK a0 a1 (x a0 _ v)).2.2;have:a0=T:=b.symm.trans M;subst this;rw[ax]at v;have:=G.iL a0;rw[e]at this;have:=List.nodup_cons.mp (show(a1::b3.filterMap AJ).Nodup from this);exact this.1 (List.mem_filterMap.mpr ⟨_,v,rfl⟩)
  ·contradiction
 have B:∀j,j≠a1→af (aL a h d n T a1 b3).1 j=af d j:=fun j o=>by
  refine(?_ :(d.ae.set a1 _).getD j _=_);rw[jd,if_neg (fun q=>o q.1)];rfl
 refine⟨?_,fun m a2=>?_,?_,fun a0 j o=>?_,fun a0=>?_,fun a0 j o=>G.fL a0 j (x a0 _ o),fun a0=>?_,fun a0=>?_,fun a3 t=>?_,?_,fun a0=>Nat.le_succ_of_le (G.mu a0),fun a0=>?_,?_,fun p L=>?_⟩
 ·refine(?_ :(d.ae.set a1 _).length≤9);simp;exact G.len
 ·have A:m∈d.ae.set a1 {af d a1 with took:=some n}:=a2;refine ay (List.mem_or_eq_of_mem_set A) (fun q=>?_) fun q=>?_
  ·refine bQ (G.fh m q) fun a3 k c a4=>?_;exact cp a3 k (Nat.lt_succ_of_lt ‹_›) a4
  ·rw[q];exact cp r.1 r.2.1 (Nat.lt_succ_of_lt r.2.2.1) r.2.2.2
 ·refine(?_ :((d.ae.set a1 {af d a1 with took:=some n}).map (·.hour)).Nodup);have:(d.ae.set a1 {af d a1 with took:=some n}).map (·.hour)=d.ae.map (·.hour):=by
   rw[List.map_set];have g:(d.ae.map (·.hour))[a1]? =some (af d a1).hour:=by
    rw[List.getElem?_map,List.getElem?_eq_getElem s];unfold af;rw[List.getD_eq_getElem?_getD,List.getElem?_eq_getElem s];rfl
   apply List.ext_getElem?;intro j;rw[List.getElem?_set];split
   ·rename_i o;subst o;rw[g];simp[s]
   ·rfl
  rw[this];exact G.qF
 ·have y:=G.dK a0 j (x a0 _ o);have H:j≠a1:=by
   rintro rfl;exact K a0 (List.mem_filterMap.mpr ⟨_,o,rfl⟩)
  rw[B j H];exact⟨by refine(?_ :j<(d.ae.set a1 _).length);simp;exact y.1,y.2⟩
 ·refine(?_ :((upd d.box T b3 a0).filterMap _).Nodup);by_cases b:a0=T
  ·subst b;rw[ax _ _ _];have:=G.iL a0;rw[e]at this;exact(List.nodup_cons.mp (show(a1::b3.filterMap AJ).Nodup from this)).2
  ·rw[aA b];exact G.iL a0
 ·refine(?_ :(upd d.box T b3 a0).length≤_);by_cases b:a0=T
  ·subst b;rw[ax _ _ _];have:=G.iM a0;rw[e]at this;simp at this;(exact Nat.le_of_lt ‹_›)
  ·rw[aA b];exact G.iM a0
 ·refine(?_ : -1≤(if(d.aq T== -1)=true then upd d.aq T (af d a1).bb else d.aq) a0∧(if(d.aq T== -1)=true then upd d.aq T (af d a1).bb else d.aq) a0<3);split
  ·by_cases b:a0=T
   ·subst b;rw[ax _ _ _];have:=r.1;omega
   ·rw[aA b];exact G.aq a0
  ·exact G.aq a0
 ·have u:a3∈(if d.aw.contains (T:Int)then d.aw else d.aw++[(T:Int)]):=t;split at u
  ·exact G.nt a3 u
  ·refine dd u (fun a2=>?_) fun a2=>?_
   ·exact G.nt a3 a2
   ·rw[List.mem_singleton.mp a2];lia
 ·refine(?_ :(if d.aw.contains (T:Int)then d.aw else d.aw++[(T:Int)]).Nodup);split
  ·exact G.pD
  ·rename_i C;rw[List.nodup_append];refine bx G.pD (by simp) (fun a3 t c E=>?_);rw[List.mem_singleton.mp E];rintro rfl;exact C (by simpa using t)
 ·refine(?_ :(upd d.bk T (cQ (d.bk T) ⟨_,_,_,_,[_]⟩) a0).gk.length≤_);by_cases b:a0=T
  ·subst b;rw[ax _ _ _];have:=G.oF a0;have f:=lh fW (d.bk a0).gk [(S (a (af d a1).bb),[1,(n:Int)-(af d a1).hour,h.getD a1 0])];rw[List.length_singleton]at f;refine Nat.le_trans f ?_
   (exact Nat.lt_succ_of_le ‹_›)
  ·rw[aA b];have:=G.oF a0;(exact Nat.le_succ_of_le ‹_›)
 ·refine(?_ :(if(d.aq T== -1)=true then d.log++[(true,T)]else d.log).length≤_);have:=G.nu;split
  ·simp;omega
  ·(exact Nat.le_succ_of_le ‹_›)
 ·have w:p∈(if(d.aq T== -1)=true then d.log++[(true,T)]else d.log):=L;split at w
  ·refine dd w (fun a2=>?_) fun a2=>?_
   ·exact G.kA p a2
   ·rw[List.mem_singleton.mp a2];exact F
  ·exact G.kA p w
theorem rj(G:Good0 a d n k z)(e:d.box T= .bY a1::b3):Good0 a (cJ a d T a1 b3) (n+1) k z:=by
 have i:=oH e;refine⟨G.len,fun m p=>bQ (G.fh m p) fun a2 k c a3=>⟨a2,k,by(exact Nat.lt_succ_of_lt ‹_›),a3⟩,G.qF,fun a0 a4 q=>G.dK a0 a4 (i a0 _ q),fun a0=>?_,fun a0 j o=>G.fL a0 j (i a0 _ o),fun a0=>?_,G.aq,G.nt,G.pD,fun a0=>?_,fun a0=>Nat.le_succ_of_le (G.oF a0),G.nu,G.kA⟩
 ·refine(?_ :((upd d.box T b3 a0).filterMap _).Nodup);by_cases h:a0=T
  ·subst h;rw[ax _ _ _];have:=G.iL a0;rw[e]at this;exact this
  ·rw[aA h];exact G.iL a0
 ·refine(?_ :(upd d.box T b3 a0).length≤_);by_cases h:a0=T
  ·subst h;rw[ax _ _ _];have:=G.iM a0;rw[e]at this;simp at this;(exact Nat.le_of_lt ‹_›)
  ·rw[aA h];exact G.iM a0
 ·refine(?_ :(upd d.aK T (dO (· +·) [(S (a a1),-1)] (d.aK T)) a0).length≤_);by_cases h:a0=T
  ·subst h;rw[ax _ _ _];have:=G.mu a0;have b:=lh (· +·) [(S (a a1),(-1:Int))] (d.aK a0);rw[List.length_singleton]at b;refine Nat.le_trans b ?_;lia
  ·rw[aA h];have:=G.mu a0;(exact Nat.le_succ_of_le ‹_›)
theorem wG(G:Good0 a d n k z):Good0 a (ky d T) (n+1) k z:=
 ⟨G.len,fun m b=>bQ (G.fh m b) fun a0 k c a2=>⟨a0,k,by(exact Nat.lt_succ_of_lt ‹_›),a2⟩,G.qF,G.dK,G.iL,G.fL,G.iM,G.aq,fun a0 h=>G.nt a0 (List.mem_of_mem_erase h),G.pD.erase _,fun a1=>Nat.le_succ_of_le (G.mu a1),fun a1=>Nat.le_succ_of_le (G.oF a1),G.nu,G.kA⟩
theorem ll(G:Good0 a d n k z)(D:cZ L)(b:L.kd= .give→d.ae.length<9):Good0 a (aP a h d L n).1 (n+1) (k+1) (z+1):=by
 unfold aP;dsimp only;split
 ·exact G.up (by(simp+arith)) (by(simp+arith)) (by(simp+arith))
 ·split
  ·rename_i a0;exact(wF G D (cq d L) (Nat.mod_lt _ (by decide)) (b a0)).up (Nat.le_refl _) (Nat.le_refl _) (by(simp+arith))
  ·exact(wG G).up (Nat.le_refl _) (by(simp+arith)) (by(simp+arith))
  ·split
   ·rename_i a2 i e;exact(qG G (cq d L) e).up (Nat.le_refl _) (by(simp+arith)) (Nat.le_refl _)
   ·rename_i a1 i e;exact(rj G e).up (Nat.le_refl _) (by(simp+arith)) (by(simp+arith))
   ·exact G.up (by(simp+arith)) (by(simp+arith)) (by(simp+arith))
theorem pa(d:T<3)(G:Good0 a c0.1 n k z):Good0 a (aG c0 T).1 n k (z+1):=by
 unfold aG;dsimp only;split
 ·refine⟨G.len,G.fh,G.qF,G.dK,G.iL,G.fL,G.iM,fun a0=>?_,G.nt,G.pD,G.mu,G.oF,?_,fun q e=>?_⟩
  ·refine(?_ : -1≤upd c0.1.aq T (-1) a0∧upd c0.1.aq T (-1) a0<3);by_cases b:a0=T
   ·subst b;rw[ax _ _ _];decide
   ·rw[aA b];exact G.aq a0
  ·refine(?_ :(c0.1.log++[(false,T)]).length≤_);have:=G.nu;simp;omega
  ·refine dd (show q∈c0.1.log++[(false,T)]from e) (fun h=>?_) fun h=>?_
   ·exact G.kA q h
   ·rw[List.mem_singleton.mp h];exact d
 ·exact G.up (Nat.le_refl _) (Nat.le_refl _) (by(simp+arith))
theorem rS(G:Good0 a d n k z): -1≤(aP a h d L n).2∧(aP a h d L n).2<3:=by
 have b:(-1:Int)≤ -1∧(-1:Int)<3:=by decide
 unfold aP;dsimp only;split
 ·exact b
 ·split
  ·exact b
  ·exact b
  ·split
   ·rename_i a0 j e;refine(?_ : -1≤(if(d.aq (handOf d L)== -1)=true then(-1:Int)else(af d a0).bb)∧(if(d.aq (handOf d L)== -1)=true then(-1:Int)else(af d a0).bb)<3);have i:=G.dK (handOf d L) a0 (by rw[e];simp);have:=(G.fh _ (cx i.1)).1;split<;>omega
   ·exact b
   ·exact b
theorem pb(G:Good0 a c0.1 n k z)(h: -1≤c0.2∧c0.2<3): -1≤(aG c0 T).2∧(aG c0 T).2<3:=by
 unfold aG;dsimp only;split
 ·exact G.aq T
 ·exact h
theorem qH(i:T<3)(G:Good0 a c0.1 n k z):Good0 a (aY c0 T) n (k+1) z:=by
 unfold aY;dsimp only;split
 ·refine⟨G.len,G.fh,G.qF,fun a0 a1 o=>?_,fun a0=>?_,fun a0 j m=>?_,fun a0=>?_,G.aq,G.nt,G.pD,G.mu,G.oF,G.nu,G.kA⟩
  ·have e:Itm.bw a1∈upd c0.1.box c0.2.toNat (c0.1.box c0.2.toNat++[.bY T]) a0:=o;by_cases b:a0=c0.2.toNat
   ·subst b;rw[ax]at e;refine dd e (fun h=>?_) fun h=>?_
    ·exact G.dK _ a1 h
    ·simp at h
   ·rw[aA b]at e;exact G.dK a0 a1 e
  ·refine(?_ :((upd c0.1.box c0.2.toNat (c0.1.box c0.2.toNat++[.bY T]) a0).filterMap _).Nodup);by_cases b:a0=c0.2.toNat
   ·subst b;rw[ax _ _ _,List.filterMap_append];simpa using G.iL c0.2.toNat
   ·rw[aA b];exact G.iL a0
  ·have d:Itm.bY j∈upd c0.1.box c0.2.toNat (c0.1.box c0.2.toNat++[.bY T]) a0:=m;by_cases b:a0=c0.2.toNat
   ·subst b;rw[ax]at d;refine dd d (fun h=>?_) fun h=>?_
    ·exact G.fL _ j h
    ·have:j=T:=by simpa using h
     rw[this];exact i
   ·rw[aA b]at d;exact G.fL a0 j d
  ·refine(?_ :(upd c0.1.box c0.2.toNat (c0.1.box c0.2.toNat++[.bY T]) a0).length≤_);by_cases b:a0=c0.2.toNat
   ·subst b;rw[ax _ _ _];have:=G.iM c0.2.toNat;simp;omega
   ·rw[aA b];have:=G.iM a0;(exact Nat.le_succ_of_le ‹_›)
 ·exact G.up (Nat.le_refl _) (by(simp+arith)) (Nat.le_refl _)
theorem gN:(aP a h d L n).1.steps=d.steps∧(aP a h d L n).1.bq=d.bq:=by
 unfold aP;dsimp only;split
 ·exact⟨rfl,rfl⟩
 ·split
  ·exact⟨rfl,rfl⟩
  ·exact⟨rfl,rfl⟩
  ·split<;>exact⟨rfl,rfl⟩
theorem eV:(aG c0 n).1.steps=c0.1.steps∧(aG c0 n).1.bq=c0.1.bq:=by
 unfold aG;dsimp only;split<;>exact⟨rfl,rfl⟩
theorem fM:(aY c0 n).steps=c0.1.steps∧(aY c0 n).bq=c0.1.bq:=by
 unfold aY;dsimp only;split<;>exact⟨rfl,rfl⟩
theorem Good.step{sums:List Int}(G:Good a d n)(D:cZ L)(m:L.kd= .give→d.ae.length<9):Good a (aU a sums d n L) (n+1):=by
 have j:=ll (h:=sums) G.toGood0 D m;have k:=pa (cq d L) j;have i:=qH (cq d L) k;have b:(aY (aG (aP a sums d L n) (handOf d L)) (handOf d L)).steps=d.steps:=(fM.1.trans eV.1).trans gN.1;have e:(aY (aG (aP a sums d L n) (handOf d L)) (handOf d L)).bq=d.bq:=(fM.2.trans eV.2).trans gN.2;unfold aU;generalize aY (aG (aP a sums d L n) (handOf d L)) (handOf d L)=s3 at i b e;have h:Good0 a (mq s3) (n+1) (2*(n+1)) (2*(n+1)+1):=by
  have:=i.up (H':=n+1) (b':=2*(n+1)) (g':=2*(n+1)+1) (Nat.le_refl _) (Nat.le_refl _) (Nat.le_refl _);exact⟨this.len,this.fh,this.qF,this.dK,this.iL,this.fL,this.iM,this.aq,this.nt,this.pD,this.mu,this.oF,this.nu,this.kA⟩
 have p:=G.Cw;have o:=G.dbl;unfold gJ;split
 ·refine⟨⟨h.len,h.fh,h.qF,h.dK,h.iL,h.fL,h.iM,h.aq,h.nt,h.pD,h.mu,h.oF,h.nu,h.kA⟩,?_,?_⟩
  ·refine(?_ :(s3.steps++[_]).length≤_);rw[b];simp;omega
  ·refine(?_ :(s3.bq++three _).length≤_);rw[e];simp[three];lia
 ·refine⟨h,?_,?_⟩
  ·refine(?_ :(s3.steps++[_]).length≤_);rw[b];simp;omega
  ·refine(?_ :s3.bq.length≤_);rw[e];lia
theorem wH:(aP a h d L n).1.ae.length=d.ae.length+(if(aX d L).isEmpty then 0 else match L.kd with| .give=>1|_=>0):=by
 unfold aP;dsimp only;split
 ·rfl
 ·cases b:L.kd with
  |give=>refine(?_ :(d.ae++[_]).length=_);simp
  |rest=>rfl
  |take=>
   dsimp only;split
   ·refine(?_ :(d.ae.set _ _).length=_);simp
   ·rfl
   ·rfl
theorem pd:(aU a h d n L).ae.length≤d.ae.length+(match L.kd with| .give=>1|_=>0):=by
 have b:∀(d:RS) a0,(gJ d a0).ae=d.ae:=fun d a0=>by unfold gJ;split<;>rfl
 have i:∀(p:RS×Int) a0,(aY p a0).ae=p.1.ae:=fun p a0=>by unfold aY;dsimp only;split<;>rfl
 have j:∀(p:RS×Int) a0,(aG p a0).1.ae=p.1.ae:=fun p a0=>by unfold aG;dsimp only;split<;>rfl
 have e:(aU a h d n L).ae=(aP a h d L n).1.ae:=by
  unfold aU;rw[b _ _];refine(?_ :(aY _ _).ae=_);rw[i _ _,j _ _]
 rw[e,wH];split<;>(simp+arith)
theorem Good.start(e:Nat→List Nat):Good e bF 0:=by
 have b:∀(k:Nat),((bF).box k)=[]:=fun J=>rfl;refine⟨⟨Nat.zero_le _,(fun m o=>by contradiction),List.nodup_nil,(fun k n b=>by contradiction),(fun k=>List.nodup_nil),(fun k j i=>by contradiction),(fun k=>Nat.le_refl _),fun k=>?_,fun a h=>?_,by simp[bF],(fun k=>Nat.le_refl _),(fun k=>Nat.le_refl _),Nat.le_refl _,fun p d=>?_⟩,Nat.le_refl _,Nat.le_refl _⟩
 ·refine(?_ : -1≤(if k=0 then(0:Int)else-1)∧(if k=0 then(0:Int)else-1)<3);split<;>decide
 ·have:a=0:=by simpa [bF]using h
  subst this;decide
 ·have:p=(true,0):=by simpa [bF]using d
  subst this;decide
theorem aZ(f:Nat→m)(h:n<3):(three f)[n]? =some (f n):=mN (P:=fun n=>(three f)[n]? =some (f n)) rfl rfl rfl n h
theorem lM(h:n<3):(n:Int)<((3:Nat):Int):=Int.ofNat_lt.mpr h
theorem rk:3≤1000000:=by decide
theorem az.three(e:j.bt=some l)(h:n<3)(q:l[n]? =some a5):az c j (.int n) a5:=az.list e (Int.natCast_nonneg n) (Int.ofNat_lt.mpr (Nat.lt_trans h (by decide))) q
theorem dX(g:e7→m)(f:Nat→e7)(h:n<3)(v:e7):(three fun j=>g (f j)).set n (g v)=three fun j=>g (upd f n v j):=mN (P:=fun n=>(three fun j=>g (f j)).set n (g v)=three fun j=>g (upd f n v j)) rfl rfl rfl n h
theorem jM{g:Nat→m}(h:∀k,k<3→q5 k=g k):three q5=three g:=by
 unfold three;rw[h 0 (Nat.succ_pos _),h 1 (Nat.le_succ _),h 2 (Nat.le_refl _)]
theorem AK(k:Kd):(gK k==N "take")=gV k:=by rcases k with _|_<;>decide+kernel
theorem uy(l:List Int)(i:Int):((bB (l.map .int)).any fun y=>PyData.eqv y (D.int i).py)=l.contains i:=by
 rw[mS _,List.map_map,List.any_map]
 induction l with
 |nil=>rfl
 |cons a r b=>
  rw[List.any_cons,List.contains_cons,b];congr 1;refine(?_ :(a==i)=(i==a));exact Bool.eq_iff_iff.mpr ⟨fun h=>by simpa using(eq_of_beq h).symm,fun h=>by simpa using(eq_of_beq h).symm⟩
theorem kC(i:Int):Lay (.int i):=⟨by simp[eC,eD,eE,eF,eG,eH,eI,PyData.canLay0],by refine(?_ :PyData.depth (.int i)≤64);simp[PyData.depth]⟩
theorem lay_ints(l:List Int):PyData.canLayAll0 (bB (l.map .int))=true:=by
 induction l with
 |nil=>rfl
 |cons a r h=>simp[fR,fH,eC,eD,eE,eF,eG,eH,eI,PyData.canLayAll0,PyData.canLay0,h]
theorem hC(l:List Int):PyData.depthAll (bB (l.map .int))≤1:=by
 induction l with
 |nil=>simp[fR,fH,PyData.depthAll]
 |cons a r h=>simp[fR,fH,eC,eD,eE,eF,eG,eH,eI,PyData.depthAll,PyData.depth]at h⊢;omega
theorem AL(l:List D):PyData.eqv (D.list l).py (D.list []).py=l.isEmpty:=by
 rcases l with _|_<;>simp[eC,eD,eE,eF,eG,eH,eI,fR,fH,PyData.eqv,PyData.eqvAll]
theorem yV(l:List D):PyData.eqv (D.ao l).py (D.list []).py=l.isEmpty:=by
 rcases l with _|_<;>simp[eC,eD,eE,eF,eG,eH,eI,fR,fH,PyData.eqv,PyData.eqvAll]
theorem uz(l:List Nat):(S l !=N "")= !l.isEmpty:=by
 have e:N "" =S []:=by decide+kernel
 rw[e];rcases l with _|⟨a,r⟩
 ·decide+kernel
 ·
  have:¬(S (a::r)=S []):=fun h=>by
   have b:=congrArg (fun x=>x.cps.toList) h;simp[S]at b
  have d:(S (a::r)==S [])=false:=by simpa using this
  refine(?_ :(!(S (a::r)==S []))=_);rw[d];rfl
theorem da(a b:Nat):Int.fmod (a:Int) (b:Int)=((a % b:Nat):Int):=by
 rw[Int.fmod_eq_emod_of_nonneg _ (by(simp+arith))];rfl
theorem aB.cast(h:aB c k8 j a5 Q)(e:Q=e3):aB c k8 j a5 e3:=e▸h
theorem br.cast(h:br c n e r o Q)(q:Q=e3):br c n e r o e3:=q▸h
theorem aB.BL(a0:j.bt=some (h.map .int)):aB c .In (.int I) j (h.contains I):=(aB.inl a0 (kC I) (lay_ints h) (Nat.le_trans (hC h) (by decide))).cast (uy h I)
theorem aB.qI(a0:j.bt=some (h.map .int)):aB c .NotIn (.int I) j (!h.contains I):=(aB.Bp a0 (kC I) (lay_ints h) (Nat.le_trans (hC h) (by decide))).cast (by rw[uy _ _])
noncomputable def jN(P:Params)(i:Nat):Option (Scope×Stmt):=match fdOf P 140 with
 |some h=>match h.body with
  | .stmts b=>match(b[4]? :Option Stmt)with
   |some (.For _ _ d _ _)=>(d[i]?).map fun e=>(h.scope,e)
   |_=>none
  |_=>none
 |none=>none
noncomputable def jO(P:Params):Scope:=(fdOf P 140).elim default (·.scope)
noncomputable abbrev lN:List Str:=[N "deeds",N "names",N "sums",N "none",N "blank",N "boxes",N "owed",N "answers",N "books",N "boss",N "awake",N "mails",N "dues",N "log",N "steps",N "debts",N "hour",N "kind",N "place",N "way",N "tail",N "able",N "deed",N "hand",N "told",N "other",N "parts",N "rest",N "number",N "giver",N "wait",N "first",N "entry",N "led",N "out",N "less"]
noncomputable abbrev RR(d:List cA)(m:Nat→List Nat)(o:List Int)(i j n r p h b e q:Option D):bD:=
 [(N "hour",i),(N "kind",j),(N "place",n),(N "way",r),(N "tail",p),(N "able",h),(N "deed",b),(N "hand",e),(N "told",q),(N "deeds",some (.list (d.map bO))),(N "names",some (.list (three fun k=> .str (S (m k))))),(N "sums",some (.list (o.map .int))),
  (N "other",none),(N "parts",none),(N "rest",none),(N "number",none),(N "giver",none),(N "wait",none),(N "first",none),(N "entry",none),(N "led",none),(N "out",none),(N "less",none),(N "none",none),(N "blank",none)]
theorem et{b d e i j k m n:Option D}:((RR c4 a h m1 b d e i j k m n).map (·.1)).Nodup:=by
 refine(?_ :[N "hour",N "kind",N "place",N "way",N "tail",N "able",N "deed",N "hand",N "told",N "deeds",N "names",N "sums",N "other",N "parts",N "rest",N "number",N "giver",N "wait",N "first",N "entry",N "led",N "out",N "less",N "none",N "blank"].Nodup);decide+kernel
theorem yW(z:bp c):∃o v,jN c.w.params 0=some (o,v)∧∀(k:Nat)(s:RS)(d:cA)(a1 p w t:D),av c (k+5) o lN (RR c4 a h (some a1) (some (.str (gK d.kd))) (some p) (some w) (some t) none none none none) (bz a s) v
  (.next (RR c4 a h (some a1) (some (.str (gK d.kd))) (some p) (some w) (some t) (some (.list ((aX s d).map fun k:Nat=>D.int (k:Int)))) none none none) (bz a s)):=by
 refine bj (jO c.w.params) _ rfl (fun k s d a1 p w t=>?_);unfold aX;refine av.iw (fun j:Nat=>D.int j) (fun j:Nat=>D.int j) (fun k=>if gV d.kd then !(s.box k).isEmpty else s.aw.contains (k:Int)) [0,1,2] (l2:=[(N "boxes",some (.ao (bL a s))),(N "awake",some (.ao (s.aw.map .int))),(N "kind",some (.str (gK d.kd)))]) (fun u=>aO.range (k:=3) (z.b rfl (by decide+kernel)) Ev.int (by decide)) (by kernel_rfl) (fun u a0 g=> .one (br.vd (Q:=gV d.kd) (br.cmp (Ev.name (j:= .str (gK d.kd)) (aa 3 rfl)) Ev.aN (aB.eqs.cast (AK _))) (fun i=>?_) (fun i=>?_))) (fun u a0 J J=>Ev.name (aa 0 rfl)) (by kernel_rfl) ?_ (by decide) ?_ (ar 5 rfl) (aa 21 rfl) (lY rfl (by decide+kernel)) et (fun J=>rfl)
 ·rw[if_pos i];have l:a0<3:=by simp at g;lia
  refine br.cmp (Ev.sub (j:= .ao (bL a s)) (i7:= .str (S (cv a s a0))) (Ev.name (aa 1 rfl)) (Ev.name (j:= .int a0) (aa 0 rfl)) (az.list rfl (by(simp+arith)) (by omega) (aZ _ l))) Ev.aN (aB.Dc.cast ?_);rw[uz _];congr 1;have:=rR (a:=a) s a0;rcases m:cv a s a0 with _|⟨x,r⟩
  ·rw[this.mp m];rfl
  ·
   rcases f:s.box a0 with _|⟨y,r⟩
   ·rw[this.mpr f]at m;contradiction
   ·rfl
 ·rw[if_neg (by rw[i];simp)];exact br.cmp (Ev.name (j:= .int a0) (aa 0 rfl)) (Ev.name (j:= .ao (s.aw.map .int)) (aa 2 rfl)) (aB.BL rfl)
 ·intro p e;refine memC e (fun b=>?_) fun e=>?_
  ·subst b;exact⟨cB (aa 10 rfl),rfl⟩
  ·refine memC e (fun b=>?_) fun e=>?_
   ·subst b;exact⟨cB (aa 5 rfl),rfl⟩
   ·rw[List.mem_singleton.mp e];exact⟨ab (aa 1 rfl),rfl⟩
 ·exact bI.mpr fun d A=>by
   refine bZ A fun j J b=>?_;subst b;trivial
noncomputable def gO(s:RS)(d:cA):D:= .list ((aX s d).map fun k:Nat=>D.int (k:Int))
noncomputable def eu(s:RS)(d:cA):Str:=if(aX s d).isEmpty then N "" else gK d.kd
theorem wJ(s:RS)(d:cA):(aX s d).length≤3:=List.length_filter_le _ [0,1,2]
theorem yX(s:RS)(d:cA):Lay (gO s d):=by
 have e:gO s d= .list (((aX s d).map fun k:Nat=>(k:Int)).map .int):=by unfold gO;rw[List.map_map];rfl
 rw[e];refine⟨?_,?_⟩
 ·refine(?_ :PyData.canLay0 (.list _)=true);have:=lay_ints ((aX s d).map fun k:Nat=>(k:Int));simpa [PyData.canLay0]using this
 ·refine(?_ :PyData.depth (.list _)≤64);have:=hC ((aX s d).map fun k:Nat=>(k:Int));simp only[PyData.depth];lia
theorem uA:Lay (.list []):=⟨by decide+kernel,by decide+kernel⟩
theorem AM(n:Nat):(if(n:Int)>1 then(n:Int)else 1)=((max 1 n:Nat):Int):=by
 split<;>lia
theorem yY(i:bp c):∃n o,jN c.w.params 1=some (n,o)∧∀(k:Nat)(s:RS)(d:cA)(a0 w t:D),av c (k+5) n lN (RR c4 a h (some a0) (some (.str (gK d.kd))) (some (.int d.place)) (some w) (some t) (some (gO s d)) none none none) (bz a s) o
  (.next (RR c4 a h (some a0) (some (.str (gK d.kd))) (some (.int d.place)) (some w) (some t) (some (gO s d)) (some (.str (eu s d))) (some (.int (handOf s d))) (some (.int (-1)))) (bz a s)):=by
 refine bj (jO c.w.params) _ rfl (fun k s d a0 w t=>?_);have z:=wJ s d;have y:(gO s d).bt=some ((aX s d).map fun k:Nat=>D.int (k:Int)):=rfl;refine av.iU (u:=[(N "deed",.str (eu s d)),(N "hand",.int (handOf s d)),(N "told",.int (-1))]) (fun u=>Ev.tuple (ag.cons ?_ (ag.cons ?_ (ag.cons (Ev.un Ev.int iz.neg) ag.nil)))) ⟨trivial,trivial,trivial,trivial⟩ (.cons (ar 8 rfl) (.cons (ar 7 rfl) (.cons (ar 6 rfl) .nil))) ?_ et (fun J=>rfl) (fun J=>rfl)
 ·refine Ev.vd (Q:= !(aX s d).isEmpty) (br.cmp (Ev.name (j:=gO s d) (ab (aa 5 rfl))) (Ev.list ag.nil) ((aB.Ck (yX s d) uA).cast ?_)) (fun b=>?_) (fun b=>?_)
  ·unfold gO;rw[AL _,List.isEmpty_map]
  ·exact(Ev.name (j:= .str (gK d.kd)) (ab (aa 1 rfl))).cast (by unfold eu;rw[if_neg (by simpa using b)])
  ·exact Ev.aN.cast (by unfold eu;rw[if_pos (by simpa using b)])
 ·refine Ev.sub (j:= .list (((aX s d).map fun k:Nat=>D.int (k:Int))++[.int 0])) (a5:= .int ((d.place % max 1 (aX s d).length:Nat):Int)) (Ev.bin (Ev.name (j:=gO s d) (ab (aa 5 rfl))) (Ev.list (ag.cons Ev.int ag.nil)) (aJ.xS rfl rfl (by simp;lia))) (Ev.bin (Ev.name (j:= .int d.place) (ab (aa 2 rfl))) (Ev.call (i.b rfl (by decide+kernel)) (.builtin "max") (ag.cons Ev.int (ag.cons (Ev.call (i.b rfl (by decide+kernel)) (.builtin "len") (ag.cons (Ev.name (j:=gO s d) (ab (aa 5 rfl))) ag.nil) (ak.fs y (by simp;lia))) ag.nil)) ak.max) ?_) (az.list rfl (by omega) ?_ ?_)
  ·rw[List.length_map _,AM _,←da _ _];exact aJ.mod (by(simp+arith))
  ·have:d.place % max 1 (aX s d).length<max 1 (aX s d).length:=Nat.mod_lt _ (by lia);omega
  ·have:d.place % max 1 (aX s d).length<max 1 (aX s d).length:=Nat.mod_lt _ (by lia);have e:((aX s d).map fun k:Nat=>D.int (k:Int))++[.int 0]=(aX s d++[0]).map fun k:Nat=>D.int (k:Int):=by simp
   have j:d.place % max 1 (aX s d).length<(aX s d++[0]).length:=by simp;lia
   rw[e,Int.toNat_natCast _,List.getElem?_map,List.getElem?_eq_getElem j];unfold handOf;rw[List.getD_eq_getElem?_getD,List.getElem?_eq_getElem j];rfl
 ·intro x m;simp only[List.map_cons,List.map_nil,List.mem_cons,List.not_mem_nil,or_false]at m;refine gu m (fun p=>?_) (fun r=>?_) fun v=>?_
  ·subst p;exact⟨by exact aa 22 rfl,by exact lY rfl (by decide+kernel)⟩
  ·subst r;exact⟨by exact aa 23 rfl,by exact lY rfl (by decide+kernel)⟩
  ·subst v;exact⟨by exact aa 24 rfl,by exact lY rfl (by decide+kernel)⟩
theorem nv(l:List m)(a0:m):(l++[a0]).zipIdx=l.zipIdx++[(a0,l.length)]:=by simp[List.zipIdx_append]
theorem sS:cg a (bC a d L n k z)=cg a d++[.ao (bP a d.ae.length ⟨k,z,L.tail,n,none⟩)]:=by
 refine(?_ :((d.ae++[_]).zipIdx.map _)=_);rw[nv _ _,List.map_append];rfl
theorem uB:cR a (bC a d L n k z)=cR a d++[eZ a d.ae.length ⟨k,z,L.tail,n,none⟩]:=by
 refine(?_ :((d.ae++[_]).zipIdx.map _)=_);rw[nv _ _,List.map_append];rfl
theorem uC{f g:m→List Nat}:∀{l:List m},(∀x∈l,f x=g x)→l.flatMap f=l.flatMap g:=by
 intro L
 induction L with
 |nil=>
  intro J;exact rfl
 |cons x r d=>
  intro h;rw[List.flatMap_cons,List.flatMap_cons,h x List.mem_cons_self,d fun y b=>h y (List.mem_cons_of_mem _ b)]
theorem B3(h:∀j,(af h9 j).bb=(af d j).bb∧(af h9 j).tail=(af d j).tail)(i:Itm):fg a h9 i=fg a d i:=by
 rcases i with j|k
 ·refine(?_ :aI (bK a j (af h9 j))++TM=aI (bK a j (af d j))++TM);unfold bK;rw[(h j).1,(h j).2]
 ·rfl
theorem kD(h:∀j,Itm.bw j∈b3→(af h9 j).bb=(af d j).bb∧(af h9 j).tail=(af d j).tail):b3.flatMap (fg a h9)=b3.flatMap (fg a d):=
 uC fun i b=>by
  rcases i with j|k
  ·refine(?_ :aI (bK a j (af h9 j))++TM=aI (bK a j (af d j))++TM);unfold bK;rw[(h j b).1,(h j b).2]
  ·rfl
theorem yZ(G:Good0 a d T a1 d8)(p:z<3):bL a (bC a d L n k z)=(bL a d).set z (.str (S (cv a d z++(aI (bK a d.ae.length ⟨k,z,L.tail,n,none⟩)++TM)))):=by
 have b:∀a2,a2<d.ae.length→af (bC a d L n k z) a2=af d a2:=fun a2 m=>by
  unfold af bC;simp only[List.getD_eq_getElem?_getD];rw[List.getElem?_append_left m]
 have o:af (bC a d L n k z) d.ae.length=⟨k,z,L.tail,n,none⟩:=by
  unfold af bC;simp
 unfold bL;rw[dX (fun t=>D.str (S t)) (cv a d) p];refine jM fun a0 q=>?_;congr 2;have h:∀a0,(d.box a0).flatMap (fg a (bC a d L n k z))=cv a d a0:=fun a0=>kD fun j i=>by rw[b j (G.dK a0 j i).1];exact⟨rfl,rfl⟩
 refine(?_ :(upd d.box z (d.box z++[.bw d.ae.length]) a0).flatMap _=_);by_cases e:a0=z
 ·subst e;rw[ax _ _ _,ax _ _ _,List.flatMap_append,h _,List.flatMap_singleton _ _];refine(?_ :_++(aI (bK a d.ae.length (af _ _))++TM)=_);rw[o]
 ·rw[aA e,aA e,h _]
theorem wK(h:k<3):dq (bC a d L n k z)=(dq d).set k (.dict (aC .int (dO (· +·) (d.aK k) [(S (a z),1)]))):=by
 unfold dq;rw[dX (fun l=>D.dict (aC .int l)) d.aK h];rfl
theorem jP(h:n<d.ae.length):(cg a d)[n]? =some (.ao (bP a n (af d n))):=by
 unfold cg af;rw[List.getElem?_map,List.getElem?_zipIdx,List.getElem?_eq_getElem h,List.getD_eq_getElem?_getD,List.getElem?_eq_getElem h];simp
theorem jz(h:n<d.ae.length):(cR a d)[n]? =some (eZ a n (af d n)):=by
 unfold cR af;rw[List.getElem?_map,List.getElem?_zipIdx,List.getElem?_eq_getElem h,List.getD_eq_getElem?_getD,List.getElem?_eq_getElem h];simp
theorem pe:(cg a d).length=d.ae.length:=by unfold cg;simp
theorem mw:(cR a d).length=d.ae.length:=by unfold cR;simp
theorem uD(G:Good0 a d n k z):kT (cg a d) (d.ae.map fun m=>(m.hour:Int)):=by
 refine⟨by rw[pe,List.length_map],fun i h e=>?_,?_⟩
 ·rw[List.getElem?_map]at e;have b:i<d.ae.length:=by
   refine ay (Nat.lt_or_ge i d.ae.length) (fun q=>?_) fun q=>?_
   ·exact q
   ·rw[List.getElem?_eq_none q]at e;contradiction
  rw[List.getElem?_eq_getElem b]at e;have j:h=((af d i).hour:Int):=by
   unfold af;rw[List.getD_eq_getElem?_getD,List.getElem?_eq_getElem b];exact(Option.some.inj e).symm
  refine lQ _ (jP b) ?_ (⟨_,rfl⟩) (by rw[j];rfl);unfold bP;rcases(af d i).took with _|t
  ·exact gv trivial trivial trivial trivial trivial
  ·exact kf trivial trivial trivial trivial trivial trivial
 ·have e:(d.ae.map fun m=>(m.hour:Int))=(d.ae.map (·.hour)).map fun h:Nat=>(h:Int):=by rw[List.map_map];rfl
  rw[e];exact List.Pairwise.map _ (fun a0 k h q=>h (by exact_mod_cast q)) G.qF
theorem sT:aS (cR a d):=bI.mpr fun a0 b=>by
 refine bZ b fun p J h=>?_;subst h;exact cp trivial trivial trivial trivial
theorem fv{f:Nat→D}(h:∀k,Clean (f k)):aS (three f):=⟨h 0,h 1,h 2,trivial⟩
theorem cy(l:List (Str×Int)):dQ (aC .int l):=eJ (p8:=D.int) (fun J=>trivial) l
theorem je(s:RS):aS (dq s):=fv fun k=>cy _
theorem jQ(h:Nat→List Nat)(s:RS):aS (bL h s):=fv fun k=>trivial
theorem pf(s:RS):aS (gL s):=fv fun k=>trivial
theorem pg(s:RS):aS (dA s):=fv fun k=>trivial
theorem bU(a b c d:Int)(l:List (Str×List Int)):Clean (iG a b c d l):=⟨trivial,trivial,trivial,trivial,eJ du _,trivial⟩
theorem jR(s:RS):aS (dW s):=fv fun k=>bU _ _ _ _ _
theorem jS(s:RS):aS (eB s):=bI.mpr fun d b=>by
 refine bZ b fun p J h=>?_;subst h;exact bx trivial trivial trivial
theorem jT(s:RS):aS (eU s):=bI.mpr fun d b=>by
 refine bZ b fun p J h=>?_;subst h;exact bx trivial trivial trivial
theorem fO(l:List Int):aS (l.map .int):=bI.mpr fun d b=>by
 refine bZ b fun p J h=>?_;subst h;trivial
theorem Ev.wL(w:x=S i)(m:Ev c (n+1) e r o j)(d:j.bt=some ((f8.map S).map D.str))(u:f8≠ [])(y:(cK i f8).length+i.length≤1000000)(t:noStar [o]:=by rfl)(v:∀h,starEach [o] h=(false,eval o h)::starEach [] h:=by intro J;rfl)(p:lB b1 [o]:=by intro J;rfl)(s:(Y.endLine==b1.line)=true:=by rfl):Ev c (n+1) e r (.Call (.Attribute (.Constant (.str x) k O) (Str.ofString "join") Y) [o] [] b1) (.str (S (cK i f8))):=by
 have q:ak c n (.builtin "str.join") [.str x,j] (.str (S (cK i f8))):=by
  subst w;have:=ak.join (c:=c) (n:=n) (x:=S i) (j:=j) (p:=f8.map S) d (by rw[oB i f8 u];omega) (by rw[dU _ _,aE _];lia);rw[dU]at this;exact this
 generalize b:Expr.Constant (Const.str x) k O=a0;exact Ev.iA (by subst b;exact Ev.aN) gA.str PySem.F.slot_str_join (ag.cons m ag.nil v) q rfl t (by intro J;subst b;rfl) p s
noncomputable def BM(P:Params):Option (Scope×List Stmt):=match jN P 2 with
 |some (h,.If _ a _ _)=>some (h,a)
 |_=>none
noncomputable abbrev bH(h:Nat→List Nat):D:= .list (three fun k=> .str (S (h k)))
theorem y0{i:Nat→List Nat}(o:bp c)(O:aT i):∃C b,BM c.w.params=some (C,b)∧∀(k:Nat)(s:RS)(d:cA)(q n H y g:Nat),Good0 i s H y g→cZ d→n<3→s.ae.length<9→H≤60→y≤200→
  Wp c (k+10) C lN (RR c4 i h (some (.int q)) (some (.str (gK d.kd))) (some (.int d.place)) (some (.int d.way)) (some (.str (S d.tail))) (some (gO s d)) (some (.str (eu s d))) (some (.int n)) (some (.int (-1)))) (bz i s) b
  (.next (RR c4 i h (some (.int q)) none none none none none none (some (.int n)) (some (.int (-1)))) (bz i (bC i s d q n ((n+1+d.way) % 3)))):=by
 refine bj (jO c.w.params) _ rfl (fun k s d q n H y g G P t hl R Q=>?_);have w:(n+1+d.way) % 3<3:=Nat.mod_lt _ (by decide);generalize Y:(n+1+d.way) % 3=other at w;have T:=P.tl;have U:(cg i s).length=s.ae.length:=pe;generalize v:(⟨n,other,d.tail,q,none⟩:cm)=m;have f:m.bb=n:=by rw[←v]
 have A:m.tail=d.tail:=by rw[←v]
 have V:(bK i s.ae.length m).length≤50:=mr O (by rw[f];exact t) (Nat.lt_succ_of_lt ‹_›) (by rw[A];exact T);refine Wp.cons (av.iU (u:=[(N "other",.int (other:Nat)),(N "parts",.list [.str (S (i n)),.str (S (dg s.ae.length)),.str (S d.tail)])]) (fun u=>Ev.tuple (ag.cons ?_ (ag.cons ?_ ag.nil))) ⟨trivial,⟨trivial,trivial,trivial,trivial⟩,trivial⟩ (.cons (ar 13 rfl) (.cons (ar 12 rfl) .nil)) ?_ et (fun J=>rfl) (fun J=>rfl)) ?_
 ·refine Ev.cast (Ev.bin (Ev.bin (Ev.bin (Ev.name (j:= .int n) (ab (aa 7 rfl))) Ev.int aJ.add) (Ev.name (j:= .int d.way) (ab (aa 3 rfl))) aJ.add) Ev.int (aJ.mod (by decide))) ?_;congr 1;rw[←Y];exact da (n+1+d.way) 3
 ·refine Ev.list (ag.cons (Ev.sub (j:=bH i) (a5:= .int n) (Ev.name (ab (aa 10 rfl))) (Ev.name (ab (aa 7 rfl))) (az.three rfl t (aZ (fun k=>D.str (S (i k))) t))) (ag.cons (Ev.call (o.b rfl (by decide+kernel)) (.type "str") (ag.cons (Ev.call (o.b rfl (by decide+kernel)) (.builtin "len") (ag.cons (Ev.name (j:= .ao (cg i s)) (cB (aa 4 rfl))) ag.nil) (ak.fs rfl (by lia))) ag.nil) ?_) (ag.cons (Ev.name (ab (aa 4 rfl))) ag.nil)));rw[U];exact ak.xT (Nat.lt_of_le_of_lt (Nat.log2_le_self _) (by lia))
 ·intro x B;simp only[List.map_cons,List.map_nil,List.mem_cons,List.not_mem_nil,or_false]at B;refine ay B (fun E=>?_) fun F=>?_
  ·subst E;exact⟨by exact aa 25 rfl,by exact lY rfl (by decide+kernel)⟩
  ·subst F;exact⟨by exact aa 26 rfl,by exact lY rfl (by decide+kernel)⟩
 refine Wp.cons (av.append (j:=eZ i s.ae.length m) (de 3 rfl) sT ⟨trivial,trivial,trivial,trivial⟩ (fun u=>?_) (by rw[mw];lia)) ?_
 ·have e:eZ i s.ae.length m= .list (bf [D.str (S (i n)),.str (S (dg s.ae.length)),.str (S d.tail)] none (some (2:Nat)) none++[.str (S (cK CR (cD d.tail)))]):=by
   rw[gc _ _,join_rows _,←f,←A];rfl
  rw[e];have a1:(norm d.tail).length≤2*d.tail.length:=kr d.tail false;refine Ev.bin (Ev.sub (Ev.name (j:= .list [.str (S (i n)),.str (S (dg s.ae.length)),.str (S d.tail)]) (ab (aa 13 rfl))) (Ev.slice .none (.some Ev.int) .none) (az.ed rfl (by decide) (by simp))) (Ev.list (ag.cons (Ev.wL (f8:=cD d.tail) (i:=CR) qA (Ev.call (o.g (by kernel_rfl)) (.fn (a:=130) (o.fn rfl) rfl) (ag.cons (Ev.name (j:= .str (S d.tail)) (ab (aa 4 rfl))) ag.nil) (ak.wo (rN o (k+6) d.tail (by lia)) ⟨trivial,trivial⟩ (dz _))) ?_ ?_ ?_) ag.nil)) (aJ.xS rfl rfl ?_)
  ·exact congrArg some (by unfold aH;rw[List.map_map];rfl)
  ·refine cP (jw d.tail) fun p r e=>?_;rw[e];simp
  ·rw[join_rows _];simp;lia
  ·rw[gc _ _];simp
 refine Wp.cons (av.vx (h0:=0) (c7:=bP i s.ae.length m) (de 4 rfl) (uD G) ?_ (by lia)) ?_
 ·have e:bP i s.ae.length m=[.int n,.int other,.str (S (cK [39] [i n,dg s.ae.length,d.tail])),.int q]:=by
   rw[←v];refine(?_ :[D.int n,.int other,.str (S (bK i _ _)),.int q]++[]=_);rw[List.append_nil _];congr 4;simp[fu,eL,bK]
  rw[e];refine ig.list (fun u=>ag.cons (Ev.name (ab (aa 7 rfl))) (ag.cons (Ev.name (ab (aa 12 rfl))) (ag.cons (Ev.wL (f8:=[i n,dg s.ae.length,d.tail]) (i:=[39]) sR (Ev.name (j:= .list [.str (S (i n)),.str (S (dg s.ae.length)),.str (S d.tail)]) (ab (aa 13 rfl))) rfl (by simp) ?_) (ag.cons (Ev.name (ab (aa 0 rfl))) ag.nil)))) ⟨trivial,trivial,trivial,trivial,trivial⟩;have Z:=O.len n t;have W:=(oD s.ae.length (Nat.lt_succ_of_lt ‹_›)).1;simp[fu,eL];lia
 have X:∀r:List D,(r++[D.ao (bP i s.ae.length m)])[((-1:Int)+((r++[D.ao (bP i s.ae.length m)]).length:Nat)).toNat]? =some (.ao (bP i s.ae.length m)):=fun r=>by
  have:((-1:Int)+((r++[D.ao (bP i s.ae.length m)]).length:Nat)).toNat=r.length:=by rw[List.length_append,List.length_singleton];(simp+arith)
  rw[this,List.getElem?_append_right (Nat.le_refl _)];simp
 refine Wp.cons (av.setItem (I:=n) (j:= .dict (aC .int (dO (· +·) (s.aK n) [(S (i other),1)]))) (de 9 rfl) (je s) (cy _) (fun u=>?_) (fun u=>Ev.name (ab (aa 7 rfl))) (Int.natCast_nonneg n) (lM t) rk (fun J=>rfl)) ?_
 ·refine Ev.call (o.g (by kernel_rfl)) (.fn (a:=52) (o.fn rfl) rfl) (ag.cons (j:= .dict (aC .int (s.aK n))) (Ev.sub (j:= .ao (dq s)) (Ev.name (cB (aa 9 rfl))) (Ev.name (j:= .int n) (ab (aa 7 rfl))) (az.three rfl t (aZ _ t))) (ag.cons (j:= .dict (aC .int [(S (i other),1)])) (Ev.dict (i6:=[(_,_)]) (.cons (Ev.sub (j:=bH i) (a5:= .int other) (Ev.name (ab (aa 10 rfl))) (Ev.name (ab (aa 12 rfl))) (az.three rfl w (aZ (fun k=>D.str (S (i k))) w))) Ev.int .nil) rfl rfl (by simp) (by refine(?_ :1≤15);decide)) ag.nil)) (ak.wo (gG o (k+7) (s.aK n) [(S (i other),1)] ?_) ⟨cy _,cy _,trivial⟩ (cy _));have:=G.mu n;simp;lia
 have a0:=oG O G Q other;have a2:=jy (bK i s.ae.length m);refine Wp.cons (av.mP (I:=other) (j:= .str (S (cv i s other))) (a5:= .str (S (aI (bK i s.ae.length m)++TM))) (i7:= .str (S (cv i s other++(aI (bK i s.ae.length m)++TM)))) (de 10 rfl) (jQ i s) trivial (fun u=>Ev.name (ab (aa 12 rfl))) (Int.natCast_nonneg other) (lM w) rk (aZ _ w) (fun u=>?_) (fun u=>?_)) ?_
 ·rw[←cL _ _];refine Ev.bin (Ev.call (o.g (by kernel_rfl)) (.fn (a:=109) (o.fn rfl) rfl) (ag.cons (j:= .str (S (bK i s.ae.length m))) (Ev.sub (j:= .ao (bP i s.ae.length m)) (Ev.sub (j:= .ao (cg i s++[.ao (bP i s.ae.length m)])) (Ev.name (cB (aa 4 rfl))) (Ev.un Ev.int iz.neg) (az.kH rfl (by decide) ?_ (by decide) (X _))) Ev.int (az.list rfl (by decide) (by decide) rfl)) ag.nil) (ak.wo (mh o (k+7) (bK i s.ae.length m) (by lia)) ⟨trivial,trivial⟩ trivial)) (Ev.aN.cast (congrArg D.str AB)) (aJ.cat ?_)
  ·simp;(simp+arith)
  ·rw[aE _,aE _,sizeLine_eq];refine(?_ :(aI (bK i s.ae.length m)).length+TM.length≤_);simp;lia
 ·rw[←cL (cv i s other) _];refine gn.cat ?_;rw[aE _,aE _,sizeLine_eq];simp;lia
 have I:cg i (bC i s d q n other)=cg i s++[.ao (bP i s.ae.length m)]:=by rw[←v];exact sS
 have K:cR i (bC i s d q n other)=cR i s++[eZ i s.ae.length m]:=by rw[←v];exact uB
 have L:bL i (bC i s d q n other)=(bL i s).set other (.str (S (cv i s other++(aI (bK i s.ae.length m)++TM)))):=by rw[←v];exact yZ G w
 have M:dq (bC i s d q n other)=(dq s).set n (.dict (aC .int (dO (· +·) (s.aK n) [(S (i other),1)]))):=wK t;unfold bz;rw[I,K,L,M];exact dC.weaken Wp.nil (bG rfl)
theorem sU(m:13<n):∀(l:List Nat)(b:Bool),(∀c∈l,c<n)→∀c∈kn b l,c<n:=by
 intro L
 induction L with
 |nil=>
  intro b J c d;rcases b with _|_
  ·simp[v7]at d
  ·simp[v7]at d
 |cons x r k=>
  intro b h c d;have o:=h x List.mem_cons_self;have j:∀c∈r,c<n:=fun c d=>h c (List.mem_cons_of_mem _ d);have e:=k true j;have i:=k false j;rw[oo]at d
  repeat' split at d
  all_goals(repeat' (refine memC d (fun q=>?_) fun d=>?_ <;>try(first|omega|exact e _ d|exact i _ d)))
  all_goals(first|omega|exact e _ d|exact i _ d)
theorem hG(h:∀c∈i,c<1114112):PyData.strOk (S i)=true:=by
 refine(?_ :(S i).cps.all _=true);rw[←Array.all_toList];exact List.all_eq_true.mpr fun x b=>decide_eq_true (h x b)
theorem rT(O:aT a)(i:f7.bb<3)(j:n<10)(k:∀c∈f7.tail,c<55296):PyData.canLay0 (eZ a n f7).py=true∧PyData.depth (eZ a n f7).py≤2:=by
 have b:PyData.strOk (S (a f7.bb))=true:=hG fun c h=>by have:=(O.pl _ i c h).1;lia
 have d:PyData.strOk (S (dg n))=true:=hG fun c h=>by have:=(oD n j).2 c h;lia
 have e:PyData.strOk (S (norm f7.tail))=true:=hG fun c h=>by have:=sU (n:=55296) (by decide) f7.tail false k c h;lia
 refine⟨by simp[eZ,eC,eD,eE,eF,eG,eH,eI,fR,fH,PyData.canLay0,PyData.canLayAll0,b,d,e],?_⟩;simp[eZ,eC,eD,eE,eF,eG,eH,eI,fR,fH,PyData.depth,PyData.depthAll]
theorem iN(l:List D)(h:∀d∈l,PyData.canLay0 d.py=true∧PyData.depth d.py≤60):PyData.canLayAll0 (bB l)=true∧PyData.depthAll (bB l)≤60:=by
 induction l with
 |nil=>exact⟨rfl,by simp[fR,fH,PyData.depthAll]⟩
 |cons a r j=>
  have b:=h a List.mem_cons_self;have e:=j fun d i=>h d (List.mem_cons_of_mem _ i);refine⟨by simp[fR,fH,PyData.canLayAll0,b.1,e.1],?_⟩;simp only[fR,fH,PyData.depthAll];have:=b.2;have:=e.2;lia
theorem wM(O:aT a)(G:Good0 a d k z T):PyData.canLayAll0 (bB (cR a d))=true∧PyData.depthAll (bB (cR a d))≤60:=iN _ fun a0 o=>by
 obtain⟨i,h,rfl⟩:=List.getElem_of_mem o;have b:i<d.ae.length:=by rw[mw]at h;exact h
 have e:=jz (a:=a) b;rw[List.getElem?_eq_getElem h]at e;rw[Option.some.inj e];have j:=G.fh _ (cx b);have:=rT O (n:=i) (f7:=af d i) j.1 (by have:=G.len;lia) j.2.2.2.2;exact⟨this.1,by(exact Nat.succ_pos _)⟩
theorem AN{e:cm}(b:n<10)(d:k<10)(h:n≠k):PyData.eqv (eZ a n f7).py (eZ a k e).py=false:=by
 have:(S (dg n)==S (dg k))=false:=by
  rw[iH _ _];exact decide_eq_false fun q=>h (BI n b k d q)
 simp[eZ,eC,eD,eE,eF,eG,eH,eI,fR,fH,PyData.eqv,PyData.eqvAll,this]
theorem lO:PyData.eqv (eZ a n f7).py (eZ a n f7).py=true:=by
 simp[eZ,eC,eD,eE,eF,eG,eH,eI,fR,fH,PyData.eqv,PyData.eqvAll]
theorem wN(k:Nat):((bB (cR a d)).any fun y=>PyData.eqv y (D.tup [.none,.none,.str (S (a k))]).py)=false:=by
 rw[mS _,List.any_map];refine List.any_eq_false.mpr fun a0 b=>?_;refine bZ b fun p J h=>?_;subst h;simp[eZ,eC,eD,eE,eF,eG,eH,eI,fR,fH,PyData.eqv]
theorem pI(h:l[n]? =some j):(bB l)[n]? =some j.py:=by rw[mS _,List.getElem?_map,h];rfl
theorem y1(h:n<d.ae.length):((bB (cR a d)).any fun y=>PyData.eqv y (eZ a n (af d n)).py)=true:=by
 rw[List.any_eq_true];exact aF _ (List.mem_of_getElem? (pI (jz h))) lO
theorem uE(b:d.ae.length≤9)(h:n<d.ae.length):((bB (cR a d))[n]?.map fun y=>PyData.eqv y (eZ a n (af d n)).py)=some true∧∀m,m<n→((bB (cR a d))[m]?.map fun y=>PyData.eqv y (eZ a n (af d n)).py)=some false:=by
 refine⟨by rw[pI (jz h),Option.map_some _ _,lO],fun m e=>?_⟩;rw[pI (jz (by(exact Nat.lt_trans ‹_› ‹_›):m<d.ae.length)),Option.map_some _ _,AN (by lia) (by lia) (by(exact Nat.ne_of_lt ‹_›))]
theorem uF(j:Nat):(af (aL a h d n k z b3).1 j).bb=(af d j).bb∧(af (aL a h d n k z b3).1 j).tail=(af d j).tail:=by
 have e:af (aL a h d n k z b3).1 j=(d.ae.set z {af d z with took:=some n}).getD j ⟨0,0,[],0,none⟩:=rfl;rw[e,jd];split
 ·rename_i a0;rw[a0.1];exact⟨rfl,rfl⟩
 ·exact⟨rfl,rfl⟩
theorem iO{f:Nat→List Nat}(b:n<3)(t:List Nat)(h:∀k,k≠n→f k=cv a d k)(i:f n=t):(three fun k=>D.str (S (f k)))=(bL a d).set n (.str (S t)):=by
 unfold bL;rw[dX (fun t=>D.str (S t)) (cv a d) b];refine jM fun k j=>?_;congr 2;by_cases e:k=n
 ·subst e;rw[ax _ _ _,i]
 ·rw[aA e,h k e]
theorem y3(b:k<3):bL a (aL a h d n k z b3).1=(bL a d).set k (.str (S (b3.flatMap (fg a d)))):=by
 refine iO (f:=cv a (aL a h d n k z b3).1) b _ (fun a0 e=>?_) ?_
 ·refine(?_ :(upd d.box k b3 a0).flatMap _=_);rw[aA e];exact kD fun j J=>uF j
 ·refine(?_ :(upd d.box k b3 k).flatMap _=_);rw[ax _ _ _];exact kD fun j J=>uF j
theorem AO(h:n<3):bL a (cJ a d n k b3)=(bL a d).set n (.str (S (b3.flatMap (fg a d)))):=by
 refine iO (f:=cv a (cJ a d n k b3)) h _ (fun a0 b=>?_) ?_
 ·refine(?_ :(upd d.box n b3 a0).flatMap _=_);rw[aA b];rfl
 ·refine(?_ :(upd d.box n b3 n).flatMap _=_);rw[ax _ _ _];rfl
theorem uG(l:List m)(n:Nat)(x:m):(l.set n x).zipIdx=l.zipIdx.set n (x,n):=by
 apply List.ext_getElem?;intro j;rw[List.getElem?_zipIdx,List.getElem?_set,List.getElem?_set,List.getElem?_zipIdx,List.length_zipIdx];by_cases h:n=j
 ·subst h;simp only[if_true];split<;>simp
 ·rw[if_neg h,if_neg h]
theorem uH(e:z<d.ae.length)(b:(af d z).took=none):cg a (aL a h d n k z b3).1=(cg a d).set z (.ao (bP a z (af d z)++[.int n])):=by
 refine(?_ :((d.ae.set z {af d z with took:=some n}).zipIdx.map _)=_);rw[uG _ _ _,List.map_set];unfold cg;congr 2;unfold bP;rw[b];refine(?_ :[D.int _,_,_,_]++[D.int n]=[D.int _,_,_,_]++[]++[D.int n]);rw[List.append_nil _];rfl
theorem wO(b:z<d.ae.length):cR a (aL a h d n k z b3).1=cR a d:=by
 refine(?_ :((d.ae.set z {af d z with took:=some n}).zipIdx.map _)=_);rw[uG _ _ _,List.map_set];unfold cR;apply List.ext_getElem?;intro j;rw[List.getElem?_set];split
 ·rename_i a0;subst a0;have:=jz (a:=a) b;unfold cR at this;rw[this,if_pos (by simpa using b)];rfl
 ·rfl
theorem wQ(b:k<3):dA (aL a h d n k z b3).1=if(d.aq k== -1)=true then(dA d).set k (.int (af d z).bb)else dA d:=by
 unfold dA;split
 ·rename_i a0;rw[dX D.int d.aq b _];refine jM fun a1 e=>?_;refine(?_ :D.int ((if(d.aq k== -1)=true then upd d.aq k (af d z).bb else d.aq) a1)=_);rw[if_pos a0]
 ·rename_i a0;refine jM fun a1 e=>?_;refine(?_ :D.int ((if(d.aq k== -1)=true then upd d.aq k (af d z).bb else d.aq) a1)=_);rw[if_neg a0]
theorem uI(h:n<3)(e:BK):dW {d with bk:=upd d.bk n (cQ (d.bk n) e)}=(dW d).set n (jx (cQ (d.bk n) e)):=by
 unfold dW;rw[dX jx d.bk h _]
theorem y6(h:n<3):dq (cJ a d n k b3)=(dq d).set n (.dict (aC .int (dO (· +·) [(S (a k),-1)] (d.aK n)))):=by
 unfold dq;rw[dX (fun l=>D.dict (aC .int l)) d.aK h];rfl
theorem y7(h:n<3):gL (cJ a d n k b3)=(gL d).set n (.int (d.cf n-1)):=by
 unfold gL;rw[dX D.int d.cf h _];rfl
noncomputable def BN(P:Params):Option (Scope×List Stmt):=match jN P 2 with
 |some (h,.If _ _ (.If _ a _ _::_) _)=>some (h,a)
 |_=>none
noncomputable def rU(h:Nat→List Nat)(s:RS):Itm→List Nat
 | .bw n=>bK h n (af s n)
 | .bY k=>h k
noncomputable def hZ(h:Nat→List Nat)(s:RS):Itm→D
 | .bw n=>eZ h n (af s n)
 | .bY k=> .tup [.none,.none,.str (S (h k))]
noncomputable def BO:Itm→Bool
 | .bw _=>true
 | .bY _=>false
noncomputable def fi(b:Nat→List Nat)(i:List Int)(s:RS)(e h:Nat)(d:List Itm):Itm→RS×Int
 | .bw n=>aL b i s e h n d
 | .bY k=>(cJ b s h k d,-1)
theorem sub_len [DecidableEq m]:∀(l a0:List m),l.Nodup→(∀x∈l,x∈a0)→l.length≤a0.length:=by
 intro L
 induction L with
 |nil=>
  intro a0 J J;exact Nat.zero_le _
 |cons x r n=>
  intro a0 b d;have i:=d x List.mem_cons_self;have h:=n (a0.erase x) (List.nodup_cons.mp b).2 fun y j=>by
   have k:y≠x:=fun e=>(List.nodup_cons.mp b).1 (e▸j);exact(List.mem_erase_of_ne k).mpr (d y (List.mem_cons_of_mem _ j))
  rw[List.length_erase_of_mem i]at h;exact Nat.add_le_of_le_sub (List.length_pos_of_mem i) h
theorem mx(G:Good0 a d n k z):d.aw.length≤3:=sub_len d.aw [0,1,2] G.pD fun a0 h=>by
 have:=G.nt a0 h;have:a0=0∨a0=1∨a0=2:=by lia
 simpa using this
theorem wR(s:RS)(i:Itm):fg a s i=aI (rU a s i)++TM:=by cases i<;>rfl
set_option maxHeartbeats 1000000 in
theorem y8(y:bp c)(O:aT a)(b7:h.length=9):∃K b,BN c.w.params=some (K,b)∧∀(k:Nat)(s:RS)(d:cA)(r o H T g:Nat)(i:Itm)(v:List Itm),Good0 a s H T g→o<3→s.box o=i::v→H≤60→T≤200→g≤1000→
  Wp c (k+10) K lN (RR c4 a h (some (.int r)) (some (.str (gK d.kd))) (some (.int d.place)) (some (.int d.way)) (some (.str (S d.tail))) (some (gO s d)) (some (.str (eu s d))) (some (.int o)) (some (.int (-1)))) (bz a s) b
  (.next (RR c4 a h (some (.int r)) none none none none none none (some (.int o)) (some (.int (fi a h s r o v i).2))) (bz a (fi a h s r o v i).1)):=by
 refine bj (jO c.w.params) _ rfl (fun k s d r o H T g i v G t a7 hH b3 hg=>?_);have b4:=oG O G b3 o;have V:cv a s o=aI (rU a s i)++TM++v.flatMap (fg a s):=by
  unfold cv;rw[a7,List.flatMap_cons,wR _ _]
 have w:i∈s.box o:=by rw[a7];exact List.mem_cons_self
 have a9:js (S (norm (rU a s i)))=hZ a s i∧(splitM (S (norm (rU a s i))) (N "'") 2).length≤1000:=by
  rcases i with n|j
  ·
   have x:=(G.dK o n w).1;have f:=G.fh _ (cx x);have R:=G.len;refine⟨wA O f.1 (by lia),?_⟩;refine(?_ :(splitM (S (norm (bK a n (af s n)))) (N "'") 2).length≤1000);rw[qD O f.1 (by lia)];simp
  ·
   have B:=G.fL o j w;refine⟨yU O B,?_⟩;refine(?_ :(splitM (S (norm (a j))) (N "'") 2).length≤1000);rw[rP O B];simp
 have a8:Clean (hZ a s i):=by cases i<;>exact cp trivial trivial trivial trivial
 have b0:(aI (rU a s i)).length+(v.flatMap (fg a s)).length≤400000:=by
  rw[V,List.length_append,List.length_append]at b4;lia
 generalize b1:v.flatMap (fg a s)=rt at V b0;refine Wp.cons (av.jF (u:=[(N "parts",hZ a s i),(N "rest",.str (S rt))]) (j:= .tup [hZ a s i,.str (S rt)]) (fun u=>?_) ⟨a8,trivial,trivial⟩ (cU.asg (.cons (.cons .nil))) (.cons (ar 13 rfl) (.cons (ar 14 rfl) .nil)) (t9 rfl rfl (by kernel_rfl)) et (fun J=>rfl) (fun J=>rfl)) ?_
 ·have A:=wx y (k+4) (rU a s i) rt b0 a9.2;rw[a9.1,←V]at A;exact Ev.call (y.g (by kernel_rfl)) (.fn (a:=135) (y.fn rfl) rfl) (ag.cons (Ev.sub (j:= .ao (bL a s)) (a5:= .int o) (i7:= .str (S (cv a s o))) (Ev.name (cB (aa 10 rfl))) (Ev.name (ab (aa 7 rfl))) (az.three rfl t (aZ _ t))) ag.nil) (ak.wo A ⟨trivial,trivial⟩ ⟨a8,trivial,trivial⟩)
 refine Wp.cons (av.setItem (I:=o) (j:= .str (S rt)) (by exact de 10 rfl) (jQ a s) trivial (fun u=>Ev.name (ab (aa 14 rfl))) (fun u=>Ev.name (ab (aa 7 rfl))) (Int.natCast_nonneg o) (lM t) rk (fun J=>rfl)) ?_;have L:=wM O G;have a3:Lay (hZ a s i):=by
  rcases i with n|j
  ·
   have x:=(G.dK o n w).1;have f:=G.fh _ (cx x);have R:=G.len;have:=rT O (n:=n) (f7:=af s n) f.1 (by lia) f.2.2.2.2;exact⟨this.1,Nat.le_trans this.2 (by decide)⟩
  ·
   have A:PyData.strOk (S (a j))=true:=hG fun c C=>by have:=(O.pl _ (G.fL o j w) c C).1;lia
   exact⟨by simp[hZ,eC,eD,eE,eF,eG,eH,eI,fR,fH,PyData.canLay0,PyData.canLayAll0,A],by simp[hZ,eC,eD,eE,eF,eG,eH,eI,fR,fH,PyData.depth,PyData.depthAll]⟩
 refine Wp.cons (av.if (Q:=BO i) (fun u=>br.cmp (j:=hZ a s i) (a5:= .ao (cR a s)) (Ev.name (ab (aa 13 rfl))) (Ev.name (cB (aa 3 rfl))) ((aB.inl rfl a3 L.1 L.2).cast ?_)) (fun M=>?_) (fun M=>?_)) Wp.nil
 ·rcases i with n|j
  ·exact y1 (G.dK o n w).1
  ·exact wN j
 ·rcases i with n|j
  ·
   refine ba (G.dK o n w) fun x b2 b9=>?_;have f:=G.fh _ (cx x);have R:=G.len;have hx:=uE (a:=a) R x;generalize I:(s.aq o== -1)=F;have a2:∀u,ak (c.wo u) (k+9) (.builtin "list.index") [.ao (cR a s),hZ a s (.bw n)] (.int (n:Nat)):=fun u=>ak.index (a5:=hZ a s (.bw n)) rfl a3 L.1 L.2 (by rw[mw];lia) hx.1 hx.2;refine Wp.cons (av.assign (j:= .int (n:Nat)) (fun u=>Ev.iA (Ev.name (j:= .ao (cR a s)) (cB (aa 3 rfl))) (gA.list rfl) PySem.F.slot_list_index (ag.cons (Ev.name (j:=hZ a s (.bw n)) (ab (aa 13 rfl))) ag.nil) (a2 u)) trivial (ar 15 rfl) (aa 28 rfl) (lY rfl (by decide+kernel)) et (fun J=>rfl)) ?_;refine Wp.cons (av.iU (u:=[(N "giver",.int (af s n).bb),(N "wait",.int ((r:Int)-(af s n).hour))]) (fun u=>Ev.tuple (ag.cons ?_ (ag.cons (Ev.bin (Ev.name (j:= .int r) (ab (aa 0 rfl))) ?_ aJ.sub) ag.nil))) ⟨trivial,trivial,trivial⟩ (.cons (ar 17 rfl) (.cons (ar 16 rfl) .nil)) (t9 rfl rfl (by kernel_rfl)) et (fun J=>rfl) (fun J=>rfl)) ?_
   ·exact Ev.sub (j:= .ao (bP a n (af s n))) (Ev.sub (j:= .ao (cg a s)) (a5:= .int (n:Nat)) (Ev.name (cB (aa 4 rfl))) (Ev.name (ab (aa 15 rfl))) (az.list rfl (by(simp+arith)) (by omega) (jP x))) Ev.int (az.list rfl (by decide) (by decide) rfl)
   ·exact Ev.sub (j:= .ao (bP a n (af s n))) (i7:= .int (af s n).hour) (Ev.sub (j:= .ao (cg a s)) (a5:= .int (n:Nat)) (Ev.name (cB (aa 4 rfl))) (Ev.name (ab (aa 15 rfl))) (az.list rfl (by(simp+arith)) (by omega) (jP x))) Ev.int (az.list rfl (by decide) (by decide) rfl)
   refine Wp.cons (av.vy (I:=(n:Nat)) (c7:=bP a n (af s n)) (j:= .int r) (de 4 rfl) (uD G) (fun u=>Ev.name (ab (aa 15 rfl))) (by(simp+arith)) (by omega) (jP x) (fun u=>Ev.name (ab (aa 0 rfl))) trivial (by unfold bP;rw[b2];simp)) ?_;refine Wp.cons (av.assign (j:= .int (if F then 1 else 0)) (fun u=>?_) trivial (ar 18 rfl) (aa 31 rfl) (lY rfl (by decide+kernel)) et (fun J=>rfl)) ?_
   ·refine Ev.cast (Ev.ite (Q:=F) (j:= .int 1) (a5:= .int 0) (br.cmp (Ev.sub (j:= .ao (dA s)) (a5:= .int o) (i7:= .int (s.aq o)) (Ev.name (cB (aa 6 rfl))) (Ev.name (ab (aa 7 rfl))) (az.three rfl t (aZ _ t))) (Ev.un Ev.int iz.neg) (aB.ra.cast I)) (fun J=>Ev.int) (fun J=>Ev.int)) (by cases F<;>rfl)
   refine Wp.cons (a6:=[(N "hour",some (.int r)),(N "kind",none),(N "place",none),(N "way",none),(N "tail",none),(N "able",none),(N "deed",none),(N "hand",some (.int o)),(N "told",some (.int (if F then-1 else((af s n).bb:Int)))),(N "deeds",some (.list (c4.map bO))),(N "names",some (bH a)),(N "sums",some (.list (h.map .int))),
    (N "other",none),(N "parts",none),(N "rest",none),(N "number",some (.int (n:Nat))),(N "giver",some (.int (af s n).bb)),(N "wait",some (.int ((r:Int)-(af s n).hour))),(N "first",some (.int (if F then 1 else 0))),(N "entry",none),(N "led",none),(N "out",none),(N "less",none),(N "none",none),(N "blank",none)])
    (c9:=[(N "debts",.ao (s.bq.map .int)),(N "steps",.ao (eU s)),(N "log",.ao (if F then eB s++[.tup [.str (N "("),.int o]]else eB s)),(N "dues",.ao (cR a s)),(N "mails",.ao ((cg a s).set n (.ao (bP a n (af s n)++[.int r])))),(N "awake",.ao (s.aw.map .int)),(N "boss",.ao (if F then(dA s).set o (.int (af s n).bb)else dA s)),
     (N "books",.ao (dW s)),(N "answers",.ao (gL s)),(N "owed",.ao (dq s)),(N "boxes",.ao ((bL a s).set o (.str (S rt))))]) (av.if (Q:=F) (fun u=>br.cmp (Ev.name (j:= .int (if F then 1 else 0)) (ab (aa 18 rfl))) Ev.int (aB.ra.cast (by cases F<;>rfl))) (fun z=>?_) (fun z=>?_)) ?_
   ·rw[if_pos z,if_pos z,if_pos z,if_pos z];refine Wp.cons (av.setItem (I:=o) (j:= .int (af s n).bb) (de 6 rfl) (pg s) trivial (fun u=>Ev.name (ab (aa 16 rfl))) (fun u=>Ev.name (ab (aa 7 rfl))) (Int.natCast_nonneg o) (lM t) rk (fun J=>rfl)) ?_;refine Wp.cons (av.append (j:= .tup [.str (N "("),.int o]) (de 2 rfl) (jS s) ⟨trivial,trivial,trivial⟩ (fun u=>Ev.tuple (ag.cons Ev.aN (ag.cons (Ev.name (ab (aa 7 rfl))) ag.nil))) (by unfold eB;rw[List.length_map _];have:=G.nu;lia)) ?_;exact dC.weaken Wp.nil (bG rfl)
   ·rw[if_neg (by simp[z]),if_neg (by simp[z]),if_neg (by simp[z]),if_neg (by simp[z])];refine Wp.cons (av.assign (j:= .int (af s n).bb) (fun u=>Ev.name (ab (aa 16 rfl))) trivial (ar 8 rfl) (aa 24 rfl) (lY rfl (by decide+kernel)) et (fun J=>rfl)) ?_;exact dC.weaken Wp.nil (bG rfl)
   generalize hw:((r:Int)-(af s n).hour)=E;have a4:∀u K Q p1 p2 p3,(N "sums",some (D.list (h.map .int)))∈Q→(N "number",some (D.int (n:Nat)))∈Q→Ev (c.wo u) (k+10) K Q (.Subscript (.Name (N "sums") p1) (.Name (N "number") p2) p3) (.int (h.getD n 0)):=fun u K Q p1 p2 p3 A h2=>
    Ev.sub (Ev.name A) (Ev.name (j:= .int (n:Nat)) h2) (az.list rfl (by(simp+arith)) (by omega) (by
     rw[Int.toNat_natCast _,List.getElem?_map,List.getD_eq_getElem?_getD,List.getElem?_eq_getElem (by lia:n<h.length)];rfl))
   generalize b6:h.getD n 0=sv at a4;refine Wp.cons (av.assign (j:=iG (if F then 1 else 0) 1 E sv [(S (a (af s n).bb),[1,E,sv])]) (fun u=>?_) (bU _ _ _ _ _) (ar 19 rfl) (aa 32 rfl) (lY rfl (by decide+kernel)) et (fun J=>rfl)) ?_
   ·refine Ev.tuple (ag.cons (Ev.name (ab (aa 18 rfl))) (ag.cons Ev.int (ag.cons (Ev.name (ab (aa 17 rfl))) (ag.cons (a4 u _ _ _ _ _ (ab (aa 11 rfl)) (ab (aa 15 rfl))) (ag.cons (Ev.dict (u:=[(S (a (af s n).bb),.tup [.int 1,.int E,.int sv])]) (i6:=[(_,_)]) (.cons (Ev.sub (j:=bH a) (a5:= .int (af s n).bb) (Ev.name (ab (aa 10 rfl))) (Ev.name (ab (aa 16 rfl))) (az.three rfl f.1 (aZ (fun k=>D.str (S (a k))) f.1))) (Ev.tuple (ag.cons Ev.int (ag.cons (Ev.name (ab (aa 17 rfl))) (ag.cons (a4 u _ _ _ _ _ (ab (aa 11 rfl)) (ab (aa 15 rfl))) ag.nil)))) .nil) rfl rfl (by simp) (by refine(?_ :1≤15);decide)) ag.nil))))) (by refine(?_ :5≤1000000);decide)
   refine Wp.cons (av.setItem (I:=o) (j:=jx (cQ (s.bk o) ⟨if F then 1 else 0,1,E,sv,[(S (a (af s n).bb),[1,E,sv])]⟩)) (de 7 rfl) (jR s) (bU _ _ _ _ _) (fun u=>?_) (fun u=>Ev.name (ab (aa 7 rfl))) (Int.natCast_nonneg o) (lM t) rk (fun J=>rfl)) ?_
   ·refine Ev.call (y.g (by kernel_rfl)) (.fn (a:=45) (y.fn rfl) rfl) (ag.cons (j:=jx (s.bk o)) (Ev.sub (j:= .ao (dW s)) (a5:= .int o) (Ev.name (cB (aa 7 rfl))) (Ev.name (ab (aa 7 rfl))) (az.three rfl t (aZ _ t))) (ag.cons (Ev.name (ab (aa 19 rfl))) ag.nil)) (ak.wo (hM y (k+5) _ _ _ _ _ _ _ _ _ _ (fun p hp=>?_) ?_) ⟨bU _ _ _ _ _,bU _ _ _ _ _,trivial⟩ (bU _ _ _ _ _))
    ·rw[List.mem_singleton.mp hp];refine(?_ :3≤1000000);decide
    ·have:=G.oF o;rw[List.length_singleton];lia
   have e1:cg a (fi a h s r o v (.bw n)).1=(cg a s).set n (.ao (bP a n (af s n)++[.int r])):=uH x b2;have e2:cR a (fi a h s r o v (.bw n)).1=cR a s:=wO x;have U:bL a (fi a h s r o v (.bw n)).1=(bL a s).set o (.str (S rt)):=by rw[←b1];exact y3 t
   have X:dA (fi a h s r o v (.bw n)).1=if F=true then(dA s).set o (.int (af s n).bb)else dA s:=by rw[←I];exact wQ t
   have Y:dW (fi a h s r o v (.bw n)).1=(dW s).set o (jx (cQ (s.bk o) ⟨if F then 1 else 0,1,E,sv,[(S (a (af s n).bb),[1,E,sv])]⟩)):=by
    rw[←I,←hw,←b6];exact uI t _
   have Z:eB (fi a h s r o v (.bw n)).1=if F then eB s++[.tup [.str (N "("),.int o]]else eB s:=by
    have:(fi a h s r o v (.bw n)).1.log=if F then s.log++[(true,o)]else s.log:=by rw[←I];rfl
    unfold eB;rw[this];split
    ·rw[List.map_append];rfl
    ·rfl
   have e7:(fi a h s r o v (.bw n)).2=if F then-1 else((af s n).bb:Int):=by rw[←I];rfl
   have e8:(fi a h s r o v (.bw n)).1.aw=if s.aw.contains (o:Int)then s.aw else s.aw++[(o:Int)]:=rfl
   unfold bz;rw[e1,e2,U,X,Y,Z,e7,e8];refine Wp.cons (av.if (Q:= !s.aw.contains (o:Int)) (fun u=>br.cmp (Ev.name (j:= .int o) (ab (aa 7 rfl))) (Ev.name (j:= .ao (s.aw.map .int)) (cB (aa 5 rfl))) (aB.qI rfl)) (fun C=>?_) (fun C=>?_)) Wp.nil
   ·have a1:s.aw.contains (o:Int)=false:=by simpa using C
    have W:(if s.aw.contains (o:Int)=true then s.aw else s.aw++[(o:Int)]).map D.int=s.aw.map D.int++[.int o]:=by rw[if_neg (by rw[a1];simp),List.map_append];rfl
    rw[W];exact Wp.cons (av.append (l:=s.aw.map .int) (j:= .int o) (.tail (.tail (.tail (.tail (.tail .head))))) (fO _) trivial (fun u=>Ev.name (ab (aa 7 rfl))) (by rw[List.length_map _];have:=mx G;lia)) (dC.weaken Wp.nil (by exact bG rfl))
   ·have a1:s.aw.contains (o:Int)=true:=by simpa using C
    have W:(if s.aw.contains (o:Int)=true then s.aw else s.aw++[(o:Int)])=s.aw:=if_pos a1;rw[W];exact dC.weaken Wp.nil (bG rfl)
  ·contradiction
 ·rcases i with n|j
  ·contradiction
  ·
   have B:=G.fL o j w;have a2:∀u,ak (c.wo u) (k+9) (.builtin "list.index") [.list ([0,1,2].map fun j:Nat=>D.tup [.none,.none,.str (S (a j))]),hZ a s (.bY j)] (.int (j:Nat)):=fun u=>by
    have a5:=iN ([0,1,2].map fun j:Nat=>D.tup [.none,.none,.str (S (a j))]) fun d hd=>by
     refine bZ hd fun i w J1=>?_;subst J1;have b5:i<3:=by simp at w;lia
     have A:PyData.strOk (S (a i))=true:=hG fun c C=>by have:=(O.pl _ b5 c C).1;lia
     exact⟨by simp[eC,eD,eE,eF,eG,eH,eI,fR,fH,PyData.canLay0,PyData.canLayAll0,A],by simp[eC,eD,eE,eF,eG,eH,eI,fR,fH,PyData.depth,PyData.depthAll]⟩
    have M:∀i:Nat,i<3→PyData.eqv (D.tup [.none,.none,.str (S (a i))]).py (hZ a s (.bY j)).py=decide (i=j):=fun i w=>by
     have:(S (a i)==S (a j))=decide (i=j):=by
      rw[iH _ _];by_cases e:i=j
      ·rw[e];simp
      ·rw[decide_eq_false e];exact decide_eq_false fun q=>e (O.inj i j w B q)
     simp[hZ,eC,eD,eE,eF,eG,eH,eI,fR,fH,PyData.eqv,PyData.eqvAll,this]
    have a6:∀i:Nat,i<3→(bB ([0,1,2].map fun j:Nat=>D.tup [.none,.none,.str (S (a j))]))[i]? =some (D.tup [.none,.none,.str (S (a i))]).py:=fun i w=>pI (mN (P:=fun i=>([0,1,2].map fun j:Nat=>D.tup [.none,.none,.str (S (a j))])[i]? =some (D.tup [.none,.none,.str (S (a i))])) rfl rfl rfl i w);refine ak.index (a5:=hZ a s (.bY j)) rfl a3 a5.1 a5.2 (by simp) ?_ fun m f=>?_
    ·rw[a6 j B,Option.map_some _ _,M j B];simp
    ·rw[a6 m (Nat.lt_trans ‹_› ‹_›),Option.map_some _ _,M m (Nat.lt_trans ‹_› ‹_›)];exact congrArg some (decide_eq_false (Nat.ne_of_lt ‹_›))
   refine Wp.cons (av.assign (j:= .int (j:Nat)) (fun u=>Ev.iA (Ev.lcm (fun j:Nat=>D.str (S (a j))) (fun j:Nat=>D.tup [.none,.none,.str (S (a j))]) [0,1,2] (a6:=[]) (aO.list (Ev.name (j:=bH a) (ab (aa 10 rfl))) rfl) (by kernel_rfl) (fun a0 J=>Ev.tuple (ag.cons Ev.iy (ag.cons Ev.iy (ag.cons (Ev.name (aa 0 rfl)) ag.nil)))) (by kernel_rfl) (fun p hp=>nomatch hp) (by decide)) (gA.list rfl) PySem.F.slot_list_index (ag.cons (Ev.name (j:=hZ a s (.bY j)) (ab (aa 13 rfl))) ag.nil) (a2 u)) trivial (ar 16 rfl) (aa 29 rfl) (lY rfl (by decide+kernel)) et (fun J=>rfl)) ?_;refine Wp.cons (av.setItem (I:=o) (j:= .dict (aC .int (dO (· +·) [(S (a j),-1)] (s.aK o)))) (de 9 rfl) (je s) (cy _) (fun u=>?_) (fun u=>Ev.name (ab (aa 7 rfl))) (Int.natCast_nonneg o) (lM t) rk (fun J=>rfl)) ?_
   ·refine Ev.call (y.g (by kernel_rfl)) (.fn (a:=52) (y.fn rfl) rfl) (ag.cons (j:= .dict (aC .int [(S (a j),-1)])) (Ev.dict (i6:=[(_,_)]) (.cons (Ev.sub (j:=bH a) (a5:= .int (j:Nat)) (Ev.name (ab (aa 10 rfl))) (Ev.name (ab (aa 16 rfl))) (az.three rfl B (aZ (fun k=>D.str (S (a k))) B))) (Ev.un Ev.int iz.neg) .nil) rfl rfl (by simp) (by refine(?_ :1≤15);decide)) (ag.cons (j:= .dict (aC .int (s.aK o))) (Ev.sub (j:= .ao (dq s)) (Ev.name (cB (aa 9 rfl))) (Ev.name (j:= .int o) (ab (aa 7 rfl))) (az.three rfl t (aZ _ t))) ag.nil)) (ak.wo (gG y (k+7) [(S (a j),-1)] (s.aK o) ?_) ⟨cy _,cy _,trivial⟩ (cy _));have:=G.mu o;simp;lia
   refine Wp.cons (av.mP (I:=o) (j:= .int (s.cf o)) (a5:= .int 1) (i7:= .int (s.cf o-1)) (de 8 rfl) (pf s) trivial (fun u=>Ev.name (ab (aa 7 rfl))) (Int.natCast_nonneg o) (lM t) rk (aZ _ t) (fun u=>Ev.int) (fun u=>gn.sub)) ?_;have U:bL a (fi a h s r o v (.bY j)).1=(bL a s).set o (.str (S rt)):=by rw[←b1];exact AO t
   have X:dq (fi a h s r o v (.bY j)).1=(dq s).set o (.dict (aC .int (dO (· +·) [(S (a j),-1)] (s.aK o)))):=y6 t;have Y:gL (fi a h s r o v (.bY j)).1=(gL s).set o (.int (s.cf o-1)):=y7 t;have Z:(fi a h s r o v (.bY j)).2= -1:=rfl;unfold bz;rw[U,X,Y,Z];exact dC.weaken Wp.nil (bG rfl)
theorem cV{Q:m→e7→Prop}(h:∃p0 q7,q0=some (p0,q7)∧Q p0 q7)(e:q0=some (p0,q7)):Q p0 q7:=by
 refine bV h fun d i b q=>?_;rw[e]at b;cases b;exact q
theorem y9(a:Int):∀(l:List Int),a∈l→∃j,l[j]? =some a∧(∀m,m<j→l[m]? ≠some a)∧l.erase a=l.eraseIdx j:=by
 intro L
 induction L with
 |nil=>
  intro h;exact nomatch h
 |cons x r o=>
  intro h;by_cases e:x=a
  ·subst e;exact fS 0 rfl (fun m b=>by lia) (by simp)
  ·have d:a∈r:=by
    refine memC h (fun q=>?_) fun q=>?_
    ·exact absurd q.symm e
    ·exact q
   refine bA (o d) fun j i k n=>?_;refine fS (j+1) i (fun m b=>?_) ?_
   ·match m,b with
    |0,_=>simpa using e
    |m+1,b=>exact k m (by(exact Nat.le_of_lt_succ ‹_›))
   ·rw[List.erase_cons_tail (by simpa using e),n];rfl
theorem AP(f:bp c)(O:aT a)(R:h.length=9):∃F I,jN c.w.params 2=some (F,I)∧∀(k:Nat)(s:RS)(d:cA)(b H w g:Nat),Good0 a s H w g→cZ d→(d.kd= .give→s.ae.length<9)→H≤60→w≤200→g≤1000→
  av c (k+10) F lN (RR c4 a h (some (.int b)) (some (.str (gK d.kd))) (some (.int d.place)) (some (.int d.way)) (some (.str (S d.tail))) (some (gO s d)) (some (.str (eu s d))) (some (.int (handOf s d))) (some (.int (-1)))) (bz a s) I
  (.next (RR c4 a h (some (.int b)) none none none none none none (some (.int (handOf s d))) (some (.int (aP a h s d b).2))) (bz a (aP a h s d b).1)):=by
 refine bj (jO c.w.params) _ rfl (fun k s d b H w g G Y D A B W=>?_);have E:=cq s d;have z:∀x,(eu s d==N x)=(!(aX s d).isEmpty&&(gK d.kd==N x)||((aX s d).isEmpty&&(N "" ==N x))):=fun x=>by
  unfold eu;rcases(aX s d).isEmpty with _|_<;>simp
 have L:(N "" ==N "give")=false:=by decide+kernel
 have M:(N "" ==N "take")=false:=by decide+kernel
 have P:(N "" ==N "rest")=false:=by decide+kernel
 have e:=z "give";have n:=z "take";have v:=z "rest";rw[L]at e;rw[M]at n;rw[P]at v;have K:(aX s d).isEmpty=false→handOf s d∈aX s d:=fun a0=>by
  refine ay (mv s d) (fun q=>?_) fun q=>?_
  ·rw[q.1]at a0;contradiction
  ·exact q
 rcases p:(aX s d).isEmpty with _|_
 ·
  have t:=jL (K p);rw[p]at e n v;rcases m:d.kd with _|_|_
  ·
   have o:aP a h s d b=(bC a s d b (handOf s d) ((handOf s d+1+d.way) % 3),-1):=by unfold aP;dsimp only;rw[if_neg (by rw[p];simp),m]
   rw[m]at e;rw[o];refine av.if (Q:=true) (fun u=>br.cmp (Ev.name (j:= .str (eu s d)) (ab (aa 6 rfl))) Ev.aN (aB.eqs.cast (e.trans (by decide+kernel)))) (fun J=>?_) (fun a0=>nomatch a0);rw[←m];exact cV (y0 f O) rfl k s d b (handOf s d) H w g G Y E (D m) A B
  ·
   rw[m]at e n t;rw[show gV Kd.take=true from rfl,if_pos rfl]at t;obtain⟨i,y,C⟩:∃i y,s.box (handOf s d)=i::y:=by
    rcases Z:s.box (handOf s d)with _|⟨i,r⟩
    ·rw[Z]at t;exact absurd t.2 (by simp)
    ·exact r2 i r rfl
   have o:aP a h s d b=fi a h s b (handOf s d) y i:=by
    unfold aP;dsimp only;rw[if_neg (by rw[p];simp),m];dsimp only;rw[C];rcases i with _|_<;>rfl
   rw[o];refine av.if (Q:=false) (fun u=>br.cmp (Ev.name (j:= .str (eu s d)) (ab (aa 6 rfl))) Ev.aN (aB.eqs.cast (e.trans (by decide+kernel)))) (fun a0=>nomatch a0) (fun J=>?_);refine Wp.cons (av.if (Q:=true) (fun u=>br.cmp (Ev.name (j:= .str (eu s d)) (ab (aa 6 rfl))) Ev.aN (aB.eqs.cast (n.trans (by decide+kernel)))) (fun J=>?_) (fun a0=>nomatch a0)) Wp.nil;rw[←m];exact cV (y8 f O R) rfl k s d b (handOf s d) H w g i y G E C A B W
  ·
   rw[m]at e n v t;rw[show gV Kd.rest=false from rfl,if_neg (by simp)]at t;have o:aP a h s d b=(ky s (handOf s d),-1):=by unfold aP;dsimp only;rw[if_neg (by rw[p];simp),m]
   rw[o];refine av.if (Q:=false) (fun u=>br.cmp (Ev.name (j:= .str (eu s d)) (ab (aa 6 rfl))) Ev.aN (aB.eqs.cast (e.trans (by decide+kernel)))) (fun a0=>nomatch a0) (fun J=>?_);refine Wp.cons (av.if (Q:=false) (fun u=>br.cmp (Ev.name (j:= .str (eu s d)) (ab (aa 6 rfl))) Ev.aN (aB.eqs.cast (n.trans (by decide+kernel)))) (fun a0=>nomatch a0) (fun J=>?_)) Wp.nil;refine Wp.cons (av.if (Q:=true) (fun u=>br.cmp (Ev.name (j:= .str (eu s d)) (ab (aa 6 rfl))) Ev.aN (aB.eqs.cast (v.trans (by decide+kernel)))) (fun J=>?_) (fun a0=>nomatch a0)) Wp.nil;refine bA (y9 (handOf s d:Int) s.aw (by simpa using t.2)) fun j T U X=>?_;have Q:(ky s (handOf s d)).aw=s.aw.eraseIdx j:=X;have V:=mx G;refine Wp.cons (av.remove (b2:=s.aw) (I:=(handOf s d:Int)) (z:=j) ?_ (fun u=>Ev.name (ab (aa 7 rfl))) T U (by lia)) (dC.weaken (a6:=RR c4 a h (some (.int b)) none none none none none none (some (.int (handOf s d))) (some (.int (-1)))) (y:=bz a (ky s (handOf s d))) Wp.nil (by exact bG rfl));unfold bz;rw[Q];exact .tail (.tail (.tail (.tail (.tail .head))))
 ·
  rw[p]at e n v;have o:aP a h s d b=(s,-1):=by unfold aP;dsimp only;rw[if_pos p]
  rw[o];refine av.if (Q:=false) (fun u=>br.cmp (Ev.name (j:= .str (eu s d)) (ab (aa 6 rfl))) Ev.aN (aB.eqs.cast e)) (fun a0=>nomatch a0) (fun J=>?_);refine Wp.cons (av.if (Q:=false) (fun u=>br.cmp (Ev.name (j:= .str (eu s d)) (ab (aa 6 rfl))) Ev.aN (aB.eqs.cast n)) (fun a0=>nomatch a0) (fun J=>?_)) Wp.nil;refine Wp.cons (av.if (Q:=false) (fun u=>br.cmp (Ev.name (j:= .str (eu s d)) (ab (aa 6 rfl))) Ev.aN (aB.eqs.cast v)) (fun a0=>nomatch a0) (fun J=>?_)) Wp.nil;exact dC.weaken Wp.nil (bG rfl)
theorem za(j:46<n):∀(l:List Nat)(b:Bool),(∀c∈l,c<n)→∀c∈bT b l,c<n:=by
 intro L
 induction L with
 |nil=>
  intro b J c d;simp[tX]at d
 |cons x r i=>
  intro b h c d;have k:=h x List.mem_cons_self;have e:∀c∈r,c<n:=fun c d=>h c (List.mem_cons_of_mem _ d);rw[jc]at d;split at d
  ·refine memC d (fun q=>?_) fun d=>?_
   ·lia
   ·refine memC d (fun q=>?_) fun d=>?_
    ·lia
    ·exact i false e c d
  ·refine memC d (fun q=>?_) fun d=>?_
   ·lia
   ·exact i _ e c d
theorem rV(O:aT a)(d:f7.bb<3)(e:n<10)(i:∀c∈f7.tail,c<55296):∀c∈bK a n f7,c<55296:=fun c b=>by
 unfold bK at b;simp only[List.mem_append,List.mem_cons]at b;rcases b with h|h|h|h|h
 ·have:=(O.pl _ d c h).1;lia
 ·lia
 ·have:=(oD n e).2 c h;lia
 ·lia
 ·exact i c h
theorem nx(h:∀c∈i,c<55296):∀c∈aI i,c<55296:=za (by decide) _ _ (sU (by decide) _ _ h)
theorem AQ(O:aT a)(G:Good0 a d n k z)(a0:Nat):∀c∈cv a d a0,c<55296:=fun c b=>by
 unfold cv at b;refine au (List.mem_flatMap.mp b) fun i m b=>?_;have e:∀c∈TM,c<55296:=by decide
 rcases i with a1|j
 ·
  have p:=(G.dK a0 a1 m).1;have o:=G.fh _ (cx p);refine dd (show c∈aI (bK a a1 (af d a1))++TM from b) (fun h=>?_) fun h=>?_
  ·exact nx (rV O o.1 (by have:=G.len;lia) o.2.2.2.2) c h
  ·exact e c h
 ·
  refine dd (show c∈aI (a j)++TM from b) (fun h=>?_) fun h=>?_
  ·exact nx (fun c b=>by have:=(O.pl _ (G.fL a0 j m) c b).1;lia) c h
  ·exact e c h
theorem qJ(h:PyData.canLayAll0 (bB l)=true∧PyData.depthAll (bB l)≤60):Lay (.ao l):=by
 refine⟨?_,?_⟩
 ·refine(?_ :PyData.canLay0 (.list (bB l))=true);simpa [PyData.canLay0]using h.1
 ·refine(?_ :PyData.depth (.list (bB l))≤64);simp only[PyData.depth];have:=h.2;lia
theorem wU(O:aT a)(G:Good0 a d n k z):Lay (.ao (bL a d)):=qJ (iN _ fun a1 b=>by
 have h:∀a0,PyData.canLay0 (D.str (S (cv a d a0))).py=true∧PyData.depth (D.str (S (cv a d a0))).py≤60:=fun a0=>by
  have m:PyData.strOk (S (cv a d a0))=true:=hG fun c o=>by have:=AQ O G a0 c o;lia
  exact⟨by simp[eC,eD,eE,eF,eG,eH,eI,PyData.canLay0,m],by simp[eC,eD,eE,eF,eG,eH,eI,PyData.depth]⟩
 unfold bL three at b;simp only[List.mem_cons,List.not_mem_nil,or_false]at b
 focus(refine gu b (fun e=>?_) (fun i=>?_) fun j=>?_;all_goals first|subst e|subst i|subst j|skip)<;>exact h _)
theorem wV:PyData.eqv (D.ao (bL a d)).py (D.list [.str (N ""),.str (N ""),.str (N "")]).py= !eA d:=by
 have h:∀k,(S (cv a d k)==N "")=(d.box k).isEmpty:=fun k=>by
  have i:=uz (cv a d k);have j:(S (cv a d k)==N "")=(cv a d k).isEmpty:=by
   have:(!(S (cv a d k)==N ""))= !(cv a d k).isEmpty:=i;simpa using this
  rw[j];have:=rR (a:=a) d k;rcases b:cv a d k with _|⟨x,r⟩
  ·rw[this.mp b];rfl
  ·
   rcases m:d.box k with _|⟨y,r⟩
   ·rw[this.mpr m]at b;contradiction
   ·rfl
 have e:PyData.eqv (D.ao (bL a d)).py (D.list [.str (N ""),.str (N ""),.str (N "")]).py=((S (cv a d 0)==N "")&&((S (cv a d 1)==N "")&&((S (cv a d 2)==N "")&&true))):=rfl;rw[e,h _,h _,h _];unfold eA;cases (d.box 0).isEmpty<;>cases (d.box 1).isEmpty<;>cases (d.box 2).isEmpty<;>rfl
theorem wW{n:Nat→List Nat}(o:bp c):∃w x,jN c.w.params 3=some (w,x)∧∀(k:Nat)(p:RS×Int)(r b H v g:Nat),Good0 n p.1 H v g→b<3→g≤1000→
  av c (k+10) w lN (RR c4 n h (some (.int r)) none none none none none none (some (.int b)) (some (.int p.2))) (bz n p.1) x
  (.next (RR c4 n h (some (.int r)) none none none none none none (some (.int b)) (some (.int (aG p b).2))) (bz n (aG p b).1)):=by
 refine bj (jO c.w.params) _ rfl (fun k p r b H v g G i C=>?_);obtain⟨s,t⟩:=p;dsimp only at G⊢;refine av.if (Q:=(s.aq b != -1)&&(!s.aw.contains (b:Int)&&((bh (s.aK b)==0)&&true))) (fun u=>br.bool (dJ.and (br.cmp (j:= .int (s.aq b)) (Ev.sub (j:= .ao (dA s)) (a5:= .int b) (Ev.name (cB (aa 6 rfl))) (Ev.name (ab (aa 7 rfl))) (az.three rfl i (aZ _ i))) (Ev.un Ev.int iz.neg) aB.vf) (fun J=>dJ.and (br.cmp (Ev.name (j:= .int b) (ab (aa 7 rfl))) (Ev.name (j:= .ao (s.aw.map .int)) (cB (aa 5 rfl))) (aB.qI rfl)) (fun J=>dJ.and (br.cmp (Ev.call (o.g (by kernel_rfl)) (.fn (a:=59) (o.fn rfl) rfl) (ag.cons (j:=mQ (s.aK b)) (Ev.sub (j:= .ao (dq s)) (a5:= .int b) (Ev.name (cB (aa 9 rfl))) (Ev.name (ab (aa 7 rfl))) (az.list rfl (by(simp+arith)) (by omega) (aZ (fun k=>D.dict (aC .int (s.aK k))) i))) ag.nil) (ak.wo (mR o.toStd (k+7) (s.aK b)) ⟨cy _,trivial⟩ trivial)) Ev.int aB.ra) (fun J=>dJ.kU))))) (fun m=>?_) (fun m=>?_)
 ·simp only[Bool.and_true,Bool.and_eq_true,bne_iff_ne,ne_eq,Bool.not_eq_true',beq_iff_eq]at m;have e:aG (s,t) b=({s with aq:=upd s.aq b (-1),log:=s.log++[(false,b)]},s.aq b):=by
   unfold aG;dsimp only;rw[if_pos ⟨m.1,m.2.1,m.2.2⟩]
  rw[e];refine Wp.cons (av.assign (j:= .int (s.aq b)) (fun u=>Ev.sub (j:= .ao (dA s)) (a5:= .int b) (Ev.name (cB (aa 6 rfl))) (Ev.name (ab (aa 7 rfl))) (az.three rfl i (aZ _ i))) trivial (ar 8 rfl) (aa 24 rfl) (lY rfl (by decide+kernel)) et (fun J=>rfl)) ?_;refine Wp.cons (av.setItem (I:=b) (j:= .int (-1)) (de 6 rfl) (pg s) trivial (fun u=>Ev.un Ev.int iz.neg) (fun u=>Ev.name (ab (aa 7 rfl))) (Int.natCast_nonneg b) (lM i) rk (fun J=>rfl)) ?_;refine Wp.cons (av.append (j:= .tup [.str (N ")"),.int b]) (de 2 rfl) (jS s) ⟨trivial,trivial,trivial⟩ (fun u=>Ev.tuple (ag.cons Ev.aN (ag.cons (Ev.name (ab (aa 7 rfl))) ag.nil))) (by unfold eB;rw[List.length_map _];have:=G.nu;lia)) ?_;have y:dA {s with aq:=upd s.aq b (-1),log:=s.log++[(false,b)]}=(dA s).set b (.int (-1)):=by
   unfold dA;rw[dX D.int s.aq i _]
  have z:eB {s with aq:=upd s.aq b (-1),log:=s.log++[(false,b)]}=eB s++[.tup [.str (N ")"),.int b]]:=by
   unfold eB;rw[List.map_append];rfl
  unfold bz;rw[y,z];exact dC.weaken Wp.nil (bG rfl)
 ·have e:aG (s,t) b=(s,t):=by
   unfold aG;dsimp only;rw[if_neg ?_]at⊢;rintro⟨f,A,B⟩;have l:(s.aq b != -1)=true:=by simpa using f
   rw[l,A,B]at m;simp at m
  rw[e];exact Wp.nil
theorem zb{b:Nat→List Nat}(r:bp c)(O:aT b):∃y z,jN c.w.params 4=some (y,z)∧∀(k:Nat)(p:RS×Int)(x i H v g:Nat),Good0 b p.1 H v g→i<3→v≤200→(-1≤p.2∧p.2<3)→
  av c (k+10) y lN (RR c4 b h (some (.int x)) none none none none none none (some (.int i)) (some (.int p.2))) (bz b p.1) z
  (.next (RR c4 b h (some (.int x)) none none none none none none none none) (bz b (aY p i))):=by
 refine bj (jO c.w.params) _ rfl (fun k p x i H v g G w I L=>?_);obtain⟨s,m⟩:=p;dsimp only at G L⊢;refine av.if (Q:=(m != -1)&&((m !=(i:Int))&&true)) (fun u=>br.bool (dJ.and (br.cmp (Ev.name (j:= .int m) (ab (aa 8 rfl))) (Ev.un Ev.int iz.neg) aB.vf) (fun J=>dJ.and (br.cmp (Ev.name (j:= .int m) (ab (aa 8 rfl))) (Ev.name (j:= .int i) (ab (aa 7 rfl))) aB.vf) (fun J=>dJ.kU)))) (fun n=>?_) (fun n=>?_)
 ·simp only[Bool.and_true,Bool.and_eq_true,bne_iff_ne,ne_eq]at n;obtain⟨t,rfl⟩:∃t:Nat,m=t:=⟨m.toNat,by lia⟩;have o:t<3:=by lia
  have e:aY (s,(t:Int)) i={s with box:=upd s.box t (s.box t++[.bY i]),cf:=upd s.cf t (s.cf t+1)}:=by
   unfold aY;dsimp only;rw[if_pos ⟨n.1,n.2⟩];rfl
  rw[e];have M:=oG O G I t;have Q:=jy (b i);have P:=O.len i w;refine Wp.cons (av.mP (I:=t) (j:= .str (S (cv b s t))) (a5:= .str (S (aI (b i)++TM))) (i7:= .str (S (cv b s t++(aI (b i)++TM)))) (de 10 rfl) (jQ b s) trivial (fun u=>Ev.name (ab (aa 8 rfl))) (Int.natCast_nonneg t) (lM o) rk (aZ _ o) (fun u=>?_) (fun u=>?_)) ?_
  ·rw[←cL _ _];refine Ev.bin (Ev.call (r.g (by kernel_rfl)) (.fn (a:=109) (r.fn rfl) rfl) (ag.cons (j:= .str (S (b i))) (Ev.sub (j:=bH b) (a5:= .int i) (Ev.name (ab (aa 10 rfl))) (Ev.name (ab (aa 7 rfl))) (az.three rfl w (aZ (fun k=>D.str (S (b k))) w))) ag.nil) (ak.wo (mh r (k+7) (b i) (by lia)) ⟨trivial,trivial⟩ trivial)) (Ev.aN.cast (congrArg D.str AB)) (aJ.cat ?_);rw[aE _,aE _,sizeLine_eq];refine(?_ :(aI (b i)).length+TM.length≤_);simp;lia
  ·rw[←cL (cv b s t) _];refine gn.cat ?_;rw[aE _,aE _,sizeLine_eq];simp;lia
  refine Wp.cons (av.mP (I:=t) (j:= .int (s.cf t)) (a5:= .int 1) (i7:= .int (s.cf t+1)) (de 8 rfl) (pf s) trivial (fun u=>Ev.name (ab (aa 8 rfl))) (Int.natCast_nonneg t) (lM o) rk (aZ _ o) (fun u=>Ev.int) (fun u=>gn.add)) ?_;have l:bL b {s with box:=upd s.box t (s.box t++[.bY i]),cf:=upd s.cf t (s.cf t+1)}=(bL b s).set t (.str (S (cv b s t++(aI (b i)++TM)))):=by
   refine iO (f:=cv b {s with box:=upd s.box t (s.box t++[.bY i]),cf:=upd s.cf t (s.cf t+1)}) o _ (fun k K=>?_) ?_
   ·refine(?_ :(upd s.box t _ k).flatMap _=_);rw[aA K];rfl
   ·refine(?_ :(upd s.box t _ t).flatMap _=_);rw[ax _ _ _,List.flatMap_append,List.flatMap_singleton _ _];rfl
  have A:gL {s with box:=upd s.box t (s.box t++[.bY i]),cf:=upd s.cf t (s.cf t+1)}=(gL s).set t (.int (s.cf t+1)):=by
   unfold gL;rw[dX D.int s.cf o _]
  unfold bz;rw[l,A];exact dC.weaken Wp.nil (bG rfl)
 ·have e:aY (s,m) i=s:=by
   unfold aY;dsimp only;rw[if_neg ?_]at⊢;rintro⟨B,E⟩;have C:(m != -1)=true:=by simpa using B
   have F:(m !=(i:Int))=true:=by simpa using E
   rw[C,F]at n;simp at n
  rw[e];exact dC.weaken Wp.nil (bG rfl)
theorem zc(o:bp c)(O:aT a):∃j m,jN c.w.params 5=some (j,m)∧∀(k:Nat)(s:RS)(b H i g:Nat),Good0 a s H i g→s.steps.length≤1000→
  av c (k+10) j lN (RR c4 a h (some (.int b)) none none none none none none none none) (bz a s) m
  (.next (RR c4 a h (some (.int b)) none none none none none none none none) (bz a (mq s))):=by
 refine bj (jO c.w.params) _ rfl (fun k s b H i g G p=>?_);have e:eU (mq s)=eU s++[.tup [.bool (s.aq 0 != -1),.bool (!s.aw.isEmpty||eA s)]]:=by
  unfold eU mq;rw[List.map_append];rfl
 have n:Lay (.ao (s.aw.map .int)):=qJ ⟨lay_ints _,Nat.le_trans (hC _) (by decide)⟩;unfold bz;rw[e];refine av.append (l:=eU s) (j:= .tup [.bool (s.aq 0 != -1),.bool (!s.aw.isEmpty||eA s)]) (.tail .head) (jT s) ⟨trivial,trivial,trivial⟩ (fun u=>Ev.tuple (ag.cons (Ev.cmp (Ev.sub (j:= .ao (dA s)) (i7:= .int (s.aq 0)) (Ev.name (cB (aa 6 rfl))) Ev.int (az.list rfl (by decide) (by decide) rfl)) (Ev.un Ev.int iz.neg) aB.vf) (ag.cons (Ev.or (Q:= !s.aw.isEmpty) (e3:=eA s) (Ev.cmp (Ev.name (j:= .ao (s.aw.map .int)) (cB (aa 5 rfl))) (Ev.list ag.nil) ((aB.Ck n uA).cast ?_)) (fun J=>Ev.BY (Ev.cmp (Ev.name (j:= .ao (bL a s)) (cB (aa 10 rfl))) (Ev.list (ag.cons Ev.aN (ag.cons Ev.aN (ag.cons Ev.aN ag.nil)))) ((aB.Ck (wU O G) ⟨by decide+kernel,by decide+kernel⟩).cast ?_)))) ag.nil))) (by unfold eU;rw[List.length_map _];lia)
 ·rw[yV _,List.isEmpty_map]
 ·rw[show PyData.eqv (D.ao (bL a s)).py _=_ from wV];simp
theorem ph(q:m→Bool):∀(l:List m)(n:Nat),((l.zipIdx n).filter fun p=>q p.1).length=(l.filter q).length:=by
 intro L
 induction L with
 |nil=>
  intro n;exact rfl
 |cons x r b=>
  intro n;have b:=b (n+1);rw[List.zipIdx_cons];rcases h:q x with _|_
  ·rw[List.filter_cons_of_neg (by simp[h]),List.filter_cons_of_neg (by simp[h]),b]
  ·rw[List.filter_cons_of_pos (by exact h),List.filter_cons_of_pos h,List.length_cons,List.length_cons,b]
theorem AR(n k:Nat):((n:Int) !=(k:Int))=(n !=k):=by
 by_cases h:n=k
 ·subst h;simp
 ·have b:¬((n:Int)=(k:Int)):=fun q=>h (by exact_mod_cast q);rw[show(n !=k)=true from by simpa using h,show((n:Int) !=(k:Int))=true from by simpa using b]
theorem ny(n k:Nat):((n:Int)==(k:Int))=(n==k):=by
 by_cases h:n=k
 ·subst h;simp
 ·have b:¬((n:Int)=(k:Int)):=fun q=>h (by exact_mod_cast q);rw[show(n==k)=false from by simpa using h,show((n:Int)==(k:Int))=false from by simpa using b]
theorem BP(a b c:D):pF [] [(N "led",a),(N "out",b),(N "come",c)]=[(N "led",a),(N "out",b),(N "come",c)]:=by
 have h:¬(N "led" =N "out"):=by decide+kernel
 have d:¬(N "led" =N "come"):=by decide+kernel
 have e:¬(N "out" =N "come"):=by decide+kernel
 simp[pF,dD,h,d,e]
theorem zd(e:bp c):∃f A,jN c.w.params 6=some (f,A)∧∀(k:Nat)(s:RS)(i H y g:Nat),Good0 a s H y g→s.bq.length≤1000→H≤60→
  av c (k+10) f lN (RR c4 a h (some (.int i)) none none none none none none none none) (bz a s) A
  (.next (RR c4 a h (some (.int i)) none none none none none none none none) (bz a (gJ s i))):=by
 refine bj (jO c.w.params) _ rfl (fun k s i H y g G I F=>?_);refine av.if (Q:=decide ((i:Int)<9)) (fun u=>br.cmp (Ev.name (j:= .int i) (ab (aa 0 rfl))) Ev.int aB.Bj) (fun x=>?_) (fun x=>?_)
 ·have w:i<9:=by have:=of_decide_eq_true x;lia
  have v:gJ s i={s with bq:=s.bq++three (eS s)}:=by unfold gJ;rw[if_pos w]
  rw[v];have E:=G.len;refine Wp.cons (a6:=[(N "hour",some (.int i)),(N "kind",none),(N "place",none),(N "way",none),(N "tail",none),(N "able",none),(N "deed",none),(N "hand",none),(N "told",none),(N "deeds",some (.list (c4.map bO))),(N "names",some (bH a)),(N "sums",some (.list (h.map .int))),
    (N "other",none),(N "parts",none),(N "rest",none),(N "number",none),(N "giver",none),(N "wait",none),(N "first",none),(N "entry",none),(N "led",some (.list (three fun k=> .int (gI s k)))),(N "out",none),(N "less",none),(N "none",none),(N "blank",none)]) (c9:=bz a s)
   (av.assign (j:= .list (three fun k=> .int (gI s k))) (fun u=>Ev.lcm (fun j:Nat=>D.int j) (fun k:Nat=>D.int (gI s k)) [0,1,2] (a6:=[(N "boss",some (.ao (dA s)))]) (aO.range (k:=3) (e.b rfl (by decide+kernel)) Ev.int (by decide)) (by kernel_rfl) (fun a0 t=>?_) (by kernel_rfl) ?_ (by decide)) ?_ (ar 20 rfl) (aa 33 rfl) (lY rfl (by decide+kernel)) et (fun J=>rfl)) ?_
  ·refine Ev.call (e.b rfl (by decide+kernel)) (.builtin "len") (ag.cons (Ev.lc (fun j:Nat=>D.int j) (fun j:Nat=>D.int j) (fun n=>s.aq n==(a0:Int)&&n !=a0) [0,1,2] (a6:=[(N "boss",some (.ao (dA s))),(N "k",some (.int a0))]) (aO.range (k:=3) (e.b rfl (by decide+kernel)) Ev.int (by decide)) (by kernel_rfl) (fun n z=> .one (br.cast (br.bool (dJ.and (br.cmp (j:= .int (s.aq n)) (Ev.sub (j:= .ao (dA s)) (a5:= .int n) (Ev.name (aa 1 rfl)) (Ev.name (aa 0 rfl)) (az.list rfl (by(simp+arith)) ?_ ?_)) (Ev.name (j:= .int a0) (aa 2 rfl)) aB.ra) (fun J=>dJ.and (br.cmp (Ev.name (j:= .int n) (aa 0 rfl)) (Ev.name (j:= .int a0) (aa 2 rfl)) aB.vf) (fun J=>dJ.kU)))) ?_)) (fun n J J=>Ev.name (aa 0 rfl)) (by kernel_rfl) ?_ (by decide)) ag.nil) ?_
   ·have:n<3:=by simp at z;lia
    omega
   ·exact aZ _ (by simp at z;lia)
   ·rw[AR _ _,Bool.and_true _]
   ·intro p b;refine memC b (fun o=>?_) fun b=>?_
    ·subst o;exact⟨by exact aa 1 rfl,rfl⟩
    ·rw[List.mem_singleton.mp b];exact⟨by exact aa 0 rfl,rfl⟩
   ·have:=ak.fs (c:=c.wo u) (n:=k+9) (j:= .list (([0,1,2].filter fun n=>s.aq n==(a0:Int)&&n !=a0).map fun j:Nat=>D.int j)) rfl (by rw[List.length_map _];exact Nat.le_trans (List.length_filter_le _ _) (by decide));rw[List.length_map]at this;exact this
  ·intro p b;rw[List.mem_singleton.mp b];exact⟨cB (aa 6 rfl),rfl⟩
  ·exact cp trivial trivial trivial trivial
  refine Wp.cons (a6:=[(N "hour",some (.int i)),(N "kind",none),(N "place",none),(N "way",none),(N "tail",none),(N "able",none),(N "deed",none),(N "hand",none),(N "told",none),(N "deeds",some (.list (c4.map bO))),(N "names",some (bH a)),(N "sums",some (.list (h.map .int))),
    (N "other",none),(N "parts",none),(N "rest",none),(N "number",none),(N "giver",none),(N "wait",none),(N "first",none),(N "entry",none),(N "led",some (.list (three fun k=> .int (gI s k)))),(N "out",some (.list (three fun k=> .int (hO s k)))),(N "less",none),(N "none",none),(N "blank",none)]) (c9:=bz a s)
   (av.assign (j:= .list (three fun k=> .int (hO s k))) (fun u=>Ev.lcm (fun j:Nat=>D.int j) (fun k:Nat=>D.int (hO s k)) [0,1,2] (a6:=[(N "mails",some (.ao (cg a s)))]) (aO.range (k:=3) (e.b rfl (by decide+kernel)) Ev.int (by decide)) (by kernel_rfl) (fun a0 t=>?_) (by kernel_rfl) ?_ (by decide)) ?_ (ar 21 rfl) (aa 34 rfl) (lY rfl (by decide+kernel)) et (fun J=>rfl)) ?_
  ·refine Ev.call (e.b rfl (by decide+kernel)) (.builtin "len") (ag.cons (Ev.lc (fun p:cm×Nat=>D.ao (bP a p.2 p.1)) (fun p:cm×Nat=>D.ao (bP a p.2 p.1)) (fun p=>p.1.bb==a0&&p.1.took.isNone) s.ae.zipIdx (a6:=[(N "k",some (.int a0))]) (aO.list (Ev.name (j:= .ao (cg a s)) (aa 1 rfl)) rfl) (by kernel_rfl) (fun p b=> .one (br.cast (br.bool (dJ.and (br.cmp (j:= .int p.1.bb) (Ev.sub (j:= .ao (bP a p.2 p.1)) (Ev.name (aa 0 rfl)) Ev.int (az.list rfl (by decide) (by decide) rfl)) (Ev.name (j:= .int a0) (aa 1 rfl)) aB.ra) (fun J=>dJ.and (br.cmp (Ev.call (e.b rfl (by decide+kernel)) (.builtin "len") (ag.cons (Ev.name (j:= .ao (bP a p.2 p.1)) (aa 0 rfl)) ag.nil) (ak.fs rfl ?_)) Ev.int aB.ra) (fun J=>dJ.kU)))) ?_)) (fun n J J=>Ev.name (aa 0 rfl)) (by kernel_rfl) ?_ ?_) ag.nil) ?_
   ·unfold bP;rcases p.1.took with _|_<;>simp
   ·rw[ny _ _,Bool.and_true _];congr 1;unfold bP;rcases p.1.took with _|_<;>rfl
   ·intro p b;rw[List.mem_singleton.mp b];exact⟨by exact aa 0 rfl,rfl⟩
   ·simp;lia
   ·have C:(s.ae.zipIdx.filter fun p=>p.1.bb==a0&&p.1.took.isNone).length=hO s a0:=ph (fun m:cm=>m.bb==a0&&m.took.isNone) s.ae 0;have:=ak.fs (c:=c.wo u) (n:=k+9) (j:= .list ((s.ae.zipIdx.filter fun p=>p.1.bb==a0&&p.1.took.isNone).map fun p:cm×Nat=>D.ao (bP a p.2 p.1))) rfl (by rw[List.length_map _];refine Nat.le_trans (List.length_filter_le _ _) ?_;simp;lia);rw[List.length_map,C]at this;exact this
  ·intro p b;rw[List.mem_singleton.mp b];exact⟨cB (aa 4 rfl),rfl⟩
  ·exact cp trivial trivial trivial trivial
  refine Wp.cons (a6:=[(N "hour",some (.int i)),(N "kind",none),(N "place",none),(N "way",none),(N "tail",none),(N "able",none),(N "deed",none),(N "hand",none),(N "told",none),(N "deeds",some (.list (c4.map bO))),(N "names",some (bH a)),(N "sums",some (.list (h.map .int))),
    (N "other",none),(N "parts",none),(N "rest",none),(N "number",none),(N "giver",none),(N "wait",none),(N "first",none),(N "entry",none),(N "led",some (.list (three fun k=> .int (gI s k)))),(N "out",some (.list (three fun k=> .int (hO s k)))),(N "less",some (.list (three fun k=> .dict (aC .int (fB s k))))),(N "none",none),(N "blank",none)]) (c9:=bz a s)
   (av.assign (j:= .list (three fun k=> .dict (aC .int (fB s k)))) (fun u=>Ev.lcm (fun j:Nat=>D.int j) (fun k:Nat=>D.dict (aC .int (fB s k))) [0,1,2] (a6:=[(N "answers",some (.ao (gL s))),(N "led",some (.list (three fun k=> .int (gI s k)))),(N "out",some (.list (three fun k=> .int (hO s k))))]) (aO.range (k:=3) (e.b rfl (by decide+kernel)) Ev.int (by decide)) (by kernel_rfl) (fun a0 t=>?_) (by kernel_rfl) ?_ (by decide)) ?_ (ar 22 rfl) (aa 35 rfl) (lY rfl (by decide+kernel)) et (fun J=>rfl)) ?_
  ·have r:a0<3:=by simp at t;lia
   refine Ev.cast (Ev.dict (i6:=[(_,_),(_,_),(_,_)]) (u:=[(N "led",.int (-(gI s a0:Int))),(N "out",.int (-(hO s a0:Int))),(N "come",.int (-(s.cf a0)))]) (.cons Ev.aN (Ev.un (Ev.sub (j:= .list (three fun k=> .int (gI s k))) (a5:= .int a0) (Ev.name (aa 2 rfl)) (Ev.name (aa 0 rfl)) (az.list rfl (by(simp+arith)) (by omega) (aZ (fun k=>D.int (gI s k)) r))) iz.neg) (.cons Ev.aN (Ev.un (Ev.sub (j:= .list (three fun k=> .int (hO s k))) (a5:= .int a0) (Ev.name (aa 3 rfl)) (Ev.name (aa 0 rfl)) (az.list rfl (by(simp+arith)) (by omega) (aZ (fun k=>D.int (hO s k)) r))) iz.neg) (.cons Ev.aN (Ev.un (Ev.sub (j:= .ao (gL s)) (a5:= .int a0) (Ev.name (aa 1 rfl)) (Ev.name (aa 0 rfl)) (az.list rfl (by(simp+arith)) (by omega) (aZ (fun k=>D.int (s.cf k)) r))) iz.neg) .nil))) rfl rfl (by simp) (by refine(?_ :3≤15);decide)) ?_;rw[BP _ _ _];rfl
  ·intro p b;refine memC b (fun o=>?_) fun b=>?_
   ·subst o;exact⟨cB (aa 8 rfl),rfl⟩
   ·refine memC b (fun o=>?_) fun b=>?_
    ·subst o;exact⟨ab (aa 20 rfl),rfl⟩
    ·rw[List.mem_singleton.mp b];exact⟨ab (aa 21 rfl),rfl⟩
  ·exact cp (cy _) (cy _) (cy _) trivial
  have B:(s.bq++three (eS s)).map D.int=s.bq.map D.int++three fun k=> .int (eS s k):=by rw[List.map_append];rfl
  unfold bz;rw[B];refine Wp.cons (av.extend (l:=s.bq.map .int) (c7:=three fun k=> .int (eS s k)) (j:= .list (three fun k=> .int (eS s k))) .head (fO _) ⟨trivial,trivial,trivial,trivial⟩ rfl (fun u=>?_) (by rw[List.length_map _];refine(?_ :_+3≤_);lia)) (dC.weaken Wp.nil (by exact bG rfl));refine Ev.lcm (fun j:Nat=>D.int j) (fun k:Nat=>D.int (eS s k)) [0,1,2] (a6:=[(N "less",some (.list (three fun k=> .dict (aC .int (fB s k))))),(N "owed",some (.ao (dq s)))]) (aO.range (k:=3) (e.b rfl (by decide+kernel)) Ev.int (by decide)) (by kernel_rfl) (fun a0 t=>?_) (by kernel_rfl) ?_ (by decide)
  ·have r:a0<3:=by simp at t;lia
   refine Ev.call (e.g (by kernel_rfl)) (.fn (a:=59) (e.fn rfl) rfl) (ag.cons (j:=mQ (dO (· +·) (fB s a0) (s.aK a0))) (Ev.call (e.g (by kernel_rfl)) (.fn (a:=52) (e.fn rfl) rfl) (ag.cons (j:= .dict (aC .int (fB s a0))) (Ev.sub (j:= .list (three fun k=> .dict (aC .int (fB s k)))) (a5:= .int a0) (Ev.name (aa 1 rfl)) (Ev.name (aa 0 rfl)) (az.list rfl (by(simp+arith)) (by omega) (aZ (fun k=>D.dict (aC .int (fB s k))) r))) (ag.cons (j:= .dict (aC .int (s.aK a0))) (Ev.sub (j:= .ao (dq s)) (a5:= .int a0) (Ev.name (aa 2 rfl)) (Ev.name (aa 0 rfl)) (az.list rfl (by(simp+arith)) (by omega) (aZ (fun k=>D.dict (aC .int (s.aK k))) r))) ag.nil)) (ak.wo (gG e (k+7) (fB s a0) (s.aK a0) ?_) ⟨cy _,cy _,trivial⟩ (cy _))) ag.nil) (ak.wo (mR e.toStd (k+7) _) ⟨cy _,trivial⟩ trivial);have:=G.mu a0;refine(?_ :3+_≤_);lia
  ·intro p b;refine memC b (fun o=>?_) fun b=>?_
   ·subst o;exact⟨ab (aa 22 rfl),rfl⟩
   ·rw[List.mem_singleton.mp b];exact⟨cB (aa 9 rfl),rfl⟩
 ·have w:¬i<9:=by have:=of_decide_eq_false x;lia
  have v:gJ s i=s:=by unfold gJ;rw[if_neg w]
  rw[v];exact Wp.nil
theorem uJ:∀d:D,Clean d→d.ey=d:=
 @D.rec (fun d=>Clean d→d.ey=d) (fun l=>aS l→fE l=l) (fun l=>dQ l→iF l=l) (fun p=>Clean p.2→p.2.ey=p.2)
  (fun J=>rfl) (fun J J=>rfl) (fun J J=>rfl) (fun J J=>rfl) (fun J J=>rfl) (fun J e h=>congrArg D.tup (e h)) (fun J e h=>congrArg D.list (e h)) (fun J e h=>congrArg D.dict (e h)) (fun J J J J=>rfl) (fun J J h=>h.elim) (fun J J h=>h.elim) (fun J J=>rfl)
  (fun J=>rfl) (fun d r a b h=>by refine(?_ :d.ey::fE r=_);rw[a h.1,b h.2]) (fun J=>rfl) (fun p r a b h=>by refine(?_ :(p.1,p.2.ey)::iF r=_);rw[a h.1,b h.2]) (fun J J h=>h)
theorem nz(l:List D)(h:aS l):fE l=l:=D.tup.inj (uJ (.tup l) h)
noncomputable def eW:Kd→Bool
 | .give=>true
 |_=>false
noncomputable def gW(h:Nat→List Nat)(s:RS):List D:=s.ae.zipIdx.map fun p=> .list (bP h p.2 p.1)
theorem qK(h:Nat→List Nat)(n:Nat)(m:cm):aS (bP h n m):=by
 unfold bP;rcases m.took with _|t
 ·exact gv trivial trivial trivial trivial trivial
 ·exact kf trivial trivial trivial trivial trivial trivial
theorem rl(e:Nat→List Nat)(s:RS):aS (gW e s):=bI.mpr fun d b=>by
 refine bZ b fun p J h=>?_;subst h;exact qK _ _ _
theorem uK(h:Nat→List Nat)(s:RS):(D.ao (cg h s)).ey= .list (gW h s):=by
 refine(?_ :D.list (fE (cg h s))=_);rw[pW _];unfold cg gW;rw[List.map_map];congr 1;refine List.map_congr_left fun p _=>?_;refine(?_ :D.list (fE (bP h p.2 p.1))=_);rw[nz _ (qK _ _ _)]
theorem lq(h:aS l):(D.ao l).ey= .list l:=by refine(?_ :D.list (fE l)=_);rw[nz l h]
noncomputable def AS(h:Nat→List Nat)(s:RS):D:= .tup [.list (gW h s),.list (dq s),.list (dW s),.list (eB s),.list (eU s),.list (s.bq.map .int)]
theorem my(h:Nat→List Nat)(s:RS):Clean (AS h s):=⟨rl h s,je s,jR s,jS s,jT s,fO _,trivial⟩
noncomputable def AU(p:cA×Nat):D:= .tup [.int p.2,bO p.1]
theorem pE:∀(h:List cA)(n:Nat),numbered n (h.map bO)=(h.zipIdx n).map AU:=by
 intro L
 induction L with
 |nil=>
  intro n;exact rfl
 |cons d r b=>
  intro n;refine(?_ :D.tup [.int n,bO d]::numbered (n+1) (r.map bO)=_);rw[b (n+1),List.zipIdx_cons];rfl
theorem ze(b:Nat→List Nat)(e:List Int):∀(h:List cA)(s:RS)(n:Nat),(h.zipIdx n).foldl (fun s p=>aU b e s p.2 p.1) s=cE b e s n h:=by
 intro L
 induction L with
 |nil=>
  intro s n;exact rfl
 |cons d r i=>
  intro s n;rw[List.zipIdx_cons,List.foldl_cons,i _ _];rfl
theorem sV(h:Nat→List Nat):bz h bF=[(N "debts",.ao []),(N "steps",.ao []),(N "log",.ao [.tup [.str (N "("),.int 0]]),(N "dues",.ao []),(N "mails",.ao []),(N "awake",.ao [.int 0]),(N "boss",.ao [.int 0,.int (-1),.int (-1)]),
  (N "books",.ao [.tup [.int 0,.int 0,.int 0,.int 0,.dict []],.tup [.int 0,.int 0,.int 0,.int 0,.dict []],.tup [.int 0,.int 0,.int 0,.int 0,.dict []]]),(N "answers",.ao [.int 0,.int 0,.int 0]),(N "owed",.ao [.dict [],.dict [],.dict []]),(N "boxes",.ao [.str (N ""),.str (N ""),.str (N "")])]:=by
 have e:N "" =S []:=by decide+kernel
 rw[e];rfl
set_option maxHeartbeats 1000000 in
theorem AV(m:bp c)(O:aT a)(a3:h.length=9)(a2:∀d∈c4,cZ d)(a5:c4.length≤57)(hg:(c4.filter fun d=>eW d.kd).length≤9)(k:Nat):ak c.bare (k+11) (.ref 140) [.list (c4.map bO),bH a,.list (h.map .int)] (AS a (cE a h bF 0 c4)):=by
 have hn:[N "deeds",N "names",N "sums"].Nodup:=by decide+kernel
 have hb:∀v:List Value,v.length=3→∃a1 b c,v=[a1,b,c]:=fun v a0=>by
  exact CK a0
 refine ak.lX m.toStd (p:=[N "deeds",N "names",N "sums"]) (h2:=lN) (r:=RR c4 a h none none none none none none none none none) rfl rfl (fq.of rfl rfl rfl rfl rfl rfl rfl (fun v a0=>?_) rfl hn rfl rfl (by intro a1 e;cases e)) rfl (fun x d a0=>?_) ?_
 ·refine Cb (hb v a0) fun a1 b c A=>?_;subst A;rfl
 ·simp only[List.mem_cons,Prod.mk.injEq,reduceCtorEq,and_false,Option.some.injEq,List.not_mem_nil,or_false,false_or]at a0;refine gu a0 (fun A=>ai A fun W R=>?_) (fun V=>ai V fun J5 J6=>?_) fun J7=>ai J7 fun J8 J9=>?_
  ·subst W;subst R;exact List.mem_cons_self
  ·subst J5;subst J6;exact List.mem_cons_of_mem _ List.mem_cons_self
  ·subst J8;subst J9;exact List.mem_cons_of_mem _ (List.mem_cons_of_mem _ List.mem_cons_self)
 dsimp only;refine Wp.cons (av.iU (u:=[(N "none",.dict []),(N "blank",.dict [])]) (fun u=>Ev.tuple (ag.cons Ev.nU (ag.cons Ev.nU ag.nil))) ⟨trivial,trivial,trivial⟩ (.cons (ar 24 rfl) (.cons (ar 23 rfl) .nil)) (t9 rfl rfl (by kernel_rfl)) et (fun _=>rfl) (fun _=>rfl)) ?_;refine Wp.cons (av.oS (u:=[(N "boxes",.ao [.str (N ""),.str (N ""),.str (N "")]),(N "owed",.ao [.dict [],.dict [],.dict []]),(N "answers",.ao [.int 0,.int 0,.int 0])])
  (@gm.cons _ _ _ _ _ _ _ _ _ (ig.list (fun u=>ag.cons Ev.aN (ag.cons Ev.aN (ag.cons Ev.aN ag.nil))) ⟨trivial,trivial,trivial,trivial⟩) (@gm.cons _ _ _ _ _ _ _ _ _ (ig.list (fun u=>ag.cons (Ev.name (j:= .dict []) (ab (aa 23 rfl))) (ag.cons (Ev.name (j:= .dict []) (ab (aa 23 rfl))) (ag.cons (Ev.name (j:= .dict []) (ab (aa 23 rfl))) ag.nil))) ⟨trivial,trivial,trivial,trivial⟩) (@gm.cons _ _ _ _ _ _ _ _ _ (ig.list (fun u=>ag.cons Ev.int (ag.cons Ev.int (ag.cons Ev.int ag.nil))) ⟨trivial,trivial,trivial,trivial⟩) .nil (fun J=>rfl)) (fun J=>rfl)) (fun J=>rfl)) (.cons (.cons (.cons .nil)))
  (.own (cY (by kernel_rfl)) (cC rfl) (.own (cY (by kernel_rfl)) (rf 10 rfl (by decide+kernel)) (.own (cY (by kernel_rfl)) (rf 9 rfl (by decide+kernel)) .nil))) (by decide+kernel) et (fun _=>rfl) (fun _=>rfl)) ?_
 have I:Clean (.tup [.int 0,.int 0,.int 0,.int 0,.dict []]):=⟨trivial,trivial,trivial,trivial,trivial,trivial⟩;have C:∀u(Z:Omega) f Y P Q T U X q,(N "blank",some (D.dict []))∈f→Ev (c.wo u) (k+10) Y (allOf f Z) (.Tuple [.Constant (.int 0) 0 P,.Constant (.int 0) 0 Q,.Constant (.int 0) 0 T,.Constant (.int 0) 0 U,.Name (N "blank") X] 0 q) (.tup [.int 0,.int 0,.int 0,.int 0,.dict []]):=fun u Z f Y P Q T U X q a0=>
  Ev.tuple (ag.cons Ev.int (ag.cons Ev.int (ag.cons Ev.int (ag.cons Ev.int (ag.cons (Ev.name (ab a0)) ag.nil))))) (by refine(?_ :5≤1000000);decide)
 refine Wp.cons (av.gF (ig.list (l:=[.tup [.int 0,.int 0,.int 0,.int 0,.dict []],.tup [.int 0,.int 0,.int 0,.int 0,.dict []],.tup [.int 0,.int 0,.int 0,.int 0,.dict []]]) (fun u=>ag.cons (C u _ _ _ _ _ _ _ _ _ (aa 24 rfl)) (ag.cons (C u _ _ _ _ _ _ _ _ _ (aa 24 rfl)) (ag.cons (C u _ _ _ _ _ _ _ _ _ (aa 24 rfl)) ag.nil))) ⟨I,I,I,trivial⟩ (by refine(?_ :3≤1000000);decide)) (aa 8 rfl) (rf 8 rfl (by decide+kernel)) (cY (by kernel_rfl)) (fun _=>rfl)) ?_;refine Wp.cons (av.oS (u:=[(N "boss",.ao [.int 0,.int (-1),.int (-1)]),(N "awake",.ao [.int 0]),(N "mails",.ao []),(N "dues",.ao []),(N "log",.ao [.tup [.str (N "("),.int 0]]),(N "steps",.ao []),(N "debts",.ao [])])
  (@gm.cons _ _ _ _ _ _ _ _ _ (ig.list (fun u=>ag.cons Ev.int (ag.cons (Ev.un Ev.int iz.neg) (ag.cons (Ev.un Ev.int iz.neg) ag.nil))) ⟨trivial,trivial,trivial,trivial⟩) (@gm.cons _ _ _ _ _ _ _ _ _ (ig.list (fun u=>ag.cons Ev.int ag.nil) ⟨trivial,trivial⟩) (@gm.cons _ _ _ _ _ _ _ _ _ (ig.list (fun u=>ag.nil) trivial) (@gm.cons _ _ _ _ _ _ _ _ _ (ig.list (fun u=>ag.nil) trivial) (@gm.cons _ _ _ _ _ _ _ _ _ (ig.list (fun u=>ag.cons (Ev.tuple (ag.cons Ev.aN (ag.cons Ev.int ag.nil))) ag.nil) ⟨⟨trivial,trivial,trivial⟩,trivial⟩) (@gm.cons _ _ _ _ _ _ _ _ _ (ig.list (fun u=>ag.nil) trivial) (@gm.cons _ _ _ _ _ _ _ _ _ (ig.list (fun u=>ag.nil) trivial) .nil (fun J=>rfl)) (fun J=>rfl)) (fun J=>rfl)) (fun J=>rfl)) (fun J=>rfl)) (fun J=>rfl)) (fun J=>rfl)) (.cons (.cons (.cons (.cons (.cons (.cons (.cons .nil)))))))
  (.own (cY (by kernel_rfl)) (rf 7 rfl (by decide+kernel)) (.own (cY (by kernel_rfl)) (rf 6 rfl (by decide+kernel)) (.own (cY (by kernel_rfl)) (rf 5 rfl (by decide+kernel)) (.own (cY (by kernel_rfl)) (rf 4 rfl (by decide+kernel)) (.own (cY (by kernel_rfl)) (rf 3 rfl (by decide+kernel)) (.own (cY (by kernel_rfl)) (rf 2 rfl (by decide+kernel)) (.own (cY (by kernel_rfl)) (rf 1 rfl (by decide+kernel)) .nil))))))) (by decide+kernel) et (fun _=>rfl) (fun _=>rfl)) ?_
 refine dC.weaken (a6:=RR c4 a h none none none none none none none none none) ?_ (bG rfl);rw[←sV a,←ze a h c4 bF 0];refine Wp.cons (av.for (aO.enum (m.b rfl (by decide+kernel)) (Ev.name (j:= .list (c4.map bO)) (aa 9 rfl)) rfl) (by
  rw[pE _ _];refine ez.fold (e7:=cA×Nat) (m:=RS) AU (fun s p=>aU a h s p.2 p.1) (fun _=>RR c4 a h none none none none none none none none none) (fun s=>bz a s) (fun s l=>∃H,Good a s H∧H+l.length≤57∧(∀(i:Nat)(p:cA×Nat),l[i]? =some p→p.2=H+i)∧(∀p∈l,cZ p.1)∧s.ae.length+(l.filter fun p=>eW p.1.kd).length≤9) (fun s p l a0=>?_) (c4.zipIdx 0) bF ?_
  ·refine zK a0 fun H G hH E L y=>?_;clear a0;have M:p.2=H:=E 0 p rfl;have z:cZ p.1:=L p List.mem_cons_self;rw[List.length_cons]at hH;have w:p.1.kd= .give→s.ae.length<9:=fun e=>by
    rw[List.filter_cons_of_pos (by rw[e];rfl),List.length_cons]at y;lia
   have n:=pd (a:=a) (h:=h) (d:=s) (n:=H) (L:=p.1);obtain⟨d,a0⟩:=p;dsimp only at M z w n;subst M;refine⟨⟨a0+1,G.step z w,by lia,fun i q F=>?_,fun q F=>L q (List.mem_cons_of_mem _ F),?_⟩,?_⟩
   ·have:=E (i+1) q F;omega
   ·rcases o:d.kd with _|_|_
    ·rw[List.filter_cons_of_pos (by refine(?_ :eW d.kd=true);rw[o];rfl),List.length_cons]at y;rw[o]at n;dsimp only at n⊢;lia
    ·rw[List.filter_cons_of_neg (by refine(?_ :¬eW d.kd=true);rw[o];simp[eW])]at y;rw[o]at n;dsimp only at n⊢;lia
    ·rw[List.filter_cons_of_neg (by refine(?_ :¬eW d.kd=true);rw[o];simp[eW])]at y;rw[o]at n;dsimp only at n⊢;lia
   ·have g:=G.toGood0;have B:=ll (h:=h) g z w;have K:=pa (cq s d) B;have j:=qH (cq s d) K;have t1:=rS (a:=a) (h:=h) (L:=d) g;have t2:=pb (T:=handOf s d) B t1;have a6:=G.Cw;have a4:=G.dbl;have e1:(aY (aG (aP a h s d a0) (handOf s d)) (handOf s d)).steps=s.steps:=(fM.1.trans eV.1).trans gN.1;have e2:(aY (aG (aP a h s d a0) (handOf s d)) (handOf s d)).bq=s.bq:=(fM.2.trans eV.2).trans gN.2;refine .mk (bs:=[(N "hour",.int a0),(N "kind",.str (gK d.kd)),(N "place",.int d.place),(N "way",.int d.way),(N "tail",.str (S d.tail))]) (ρ1:=RR c4 a h (some (.int a0)) (some (.str (gK d.kd))) (some (.int d.place)) (some (.int d.way)) (some (.str (S d.tail))) none none none none) (ρ2:=RR c4 a h (some (.int a0)) none none none none none none none none)
     (.tup (.cons (b:=[(N "hour",.int a0)]) .name (.cons (b:=[(N "kind",.str (gK d.kd)),(N "place",.int d.place),(N "way",.int d.way),(N "tail",.str (S d.tail))]) (b':=[]) (cU.asg (.cons (.cons (.cons (.cons .nil))))) .nil))) (.cons (ar 0 rfl) (.cons (ar 1 rfl) (.cons (ar 2 rfl) (.cons (ar 3 rfl) (.cons (ar 4 rfl) .nil))))) (t9 rfl rfl (by kernel_rfl)) et ?_ (bG rfl)
    refine Wp.cons (cV (yW m) rfl (k+5) s d (.int a0) (.int d.place) (.int d.way) (.str (S d.tail))) ?_;refine Wp.cons (cV (yY m) rfl (k+5) s d (.int a0) (.int d.way) (.str (S d.tail))) ?_;refine Wp.cons (cV (AP m O a3) rfl k s d a0 a0 (2*a0) (2*a0+1) g z w (by lia) (by lia) (by lia)) ?_;refine Wp.cons (cV (wW m) rfl k (aP a h s d a0) a0 (handOf s d) _ _ _ B (cq s d) (by lia)) ?_;refine Wp.cons (cV (zb m O) rfl k (aG (aP a h s d a0) (handOf s d)) a0 (handOf s d) _ _ _ K (cq s d) (by lia) t2) ?_;refine Wp.cons (cV (zc m O) rfl k (aY (aG (aP a h s d a0) (handOf s d)) (handOf s d)) a0 _ _ _ j (by rw[e1];lia)) ?_;refine Wp.cons (cV (zd m) rfl k (mq (aY (aG (aP a h s d a0) (handOf s d)) (handOf s d))) a0 (a0+1) _ _ ⟨j.len,j.fh,j.qF,j.dK,j.iL,j.fL,j.iM,j.aq,j.nt,j.pD,j.mu,j.oF,j.nu,j.kA⟩ (by refine(?_ :(aY _ _).bq.length≤_);rw[e2];lia) (by lia)) Wp.nil
  ·refine zM 0 (Good.start a) (by simp;omega) (fun i p r=>?_) (fun p r=>?_) ?_
   ·rw[List.getElem?_zipIdx]at r;rcases a0:c4[i]? with _|d
    ·rw[a0]at r;contradiction
    ·rw[a0]at r;cases r;rfl
   ·have:p.1∈c4:=by
     obtain⟨i,E,e⟩:=List.getElem_of_mem r;rw[←e,List.getElem_zipIdx _];exact List.getElem_mem _
    exact a2 _ this
   ·rw[ph (fun d:cA=>eW d.kd) c4 0];refine(?_ :0+_≤9);lia)) ?_
 generalize (c4.zipIdx 0).foldl (fun s p=>aU a h s p.2 p.1) bF=t;unfold bz;refine dC.freeze (dC.freeze (dC.freeze (dC.freeze (dC.freeze (dC.freeze (dC.freeze (dC.freeze (dC.freeze (dC.freeze (dC.freeze ?_))))))))));rw[uK _ _,lq (je t),lq (jR t),lq (jS t),lq (jT t),lq (fO t.bq)];exact Wp.ret (av.return (fun u=>Ev.tuple (ag.cons (Ev.name (ab (aa 6 rfl))) (ag.cons (Ev.name (ab (aa 1 rfl))) (ag.cons (Ev.name (ab (aa 3 rfl))) (ag.cons (Ev.name (ab (aa 8 rfl))) (ag.cons (Ev.name (ab (aa 9 rfl))) (ag.cons (Ev.name (ab (aa 10 rfl))) ag.nil)))))) (by refine(?_ :6≤1000000);decide)) (my a t))
open PySem.AutoSeq1 PySem.MeetsSeq PySem.MeetsSeq2 PySem.MeetsSeq3 PySem.SeqRoads2 PySem.SeqAt in
section
noncomputable def lr(h:Program)(w:World)(A:Around)(s:Shared)(x y:Value):Prop:=∀(E:Value→Shared→Prop)(Q:Bool→Shared→Prop),Q true s→wpAny (model h w) A (eqBool x y) Q E s
theorem wX(l b:Addr)(m o:Array Value)(n H:Nat)(c B:Option Addr)(I J:Array (Option Value))(y:m.size=o.size)(k:Nat):
  ∀i:Nat,m.size-i=k→∀(A:Around)(R:Result→Shared→Prop)(s:Shared),s.heap.get? l=some {cls:= .type "list",dict:=c,data:= .seq m n,slots:=I}→s.heap.get? b=some {cls:= .type "list",dict:=B,data:= .seq o H,slots:=J}→
   (∀j(L:j<m.size)(M:j<o.size),lr a7 b4 A.in1 s m[j] o[j])→R (.ok (.ret (.bool true))) s→
   wpAny (model a7 b4) A.in1 (Builtin.«list.__eq__.loop» ⟨[.ref l,.ref b,rawInt i,rawInt 2],[]⟩) (fun C t=>match C with| .done f=>R (.ok f) t| .again z=>z.quiet=true∧codeAny (model a7 b4) A z R t) (fun e t=>R (.error e) t) s:=by
 induction k with
 |zero=>
  intro i q A R s r p u h;obtain⟨F,g,d,K,os⟩:=s
  wp_walk using wpAny_loadPart' r,wpAny_loadPart' p
  have v:m[((i:Nat):Int).toNat]? =none:=Array.getElem?_eq_none (Nat.le_of_sub_eq_zero q);have w:o[((i:Nat):Int).toNat]? =none:=Array.getElem?_eq_none (y▸Nat.le_of_sub_eq_zero q);rw[v,w]
  wp_walk using wpAny_loadPart' r,wpAny_loadPart' p
  refine(?_ :R (.ok (.ret (.bool (m.size==o.size)))) _);rw[y,beq_self_eq_true _];exact h
 |succ k G=>
  intro i q A R s r p u h;obtain⟨F,g,d,K,os⟩:=s
  wp_walk using wpAny_loadPart' r,wpAny_loadPart' p
  have x:i<m.size:=Nat.lt_of_sub_eq_succ q;have a:i<o.size:=y▸x;have v:m[((i:Nat):Int).toNat]? =some m[i]:=Array.getElem?_eq_getElem x;have w:o[((i:Nat):Int).toNat]? =some o[i]:=Array.getElem?_eq_getElem a;have E:((i:Int)+1)=((i+1:Nat):Int):=rfl;rw[v,w];refine wpAny_bind (u i x a _ _ ?_)
  wp_walk
  rw[E];exact⟨plainId_quiet plain_eq_loop _,codeAny_builtin entry_eq_loop (by
   rw[Around.under_plainId plain_eq_loop _];exact G (i+1) (congrArg Nat.pred q) A R _ r p u h)⟩
theorem wY(l b:Addr)(e i:Array Value)(n p:Nat)(k:s.heap.get? l=some {cls:= .type "list",data:= .seq e n})(m:s.heap.get? b=some {cls:= .type "list",data:= .seq i p})(o:e.size=i.size)(q:∀j(w:j<e.size)(y:j<i.size),lr a7 b4 A.in1 s e[j] i[j])(r:A.units<cLine)(h:V (.bool true) s):wpAny (model a7 b4) A (richCompare .Eq (.ref l) (.ref b)) V E s:=by
 refine wpAny_richCompare_same_room (op:= .Eq) (T:="list") ⟨_,k,rfl⟩ ⟨_,m,rfl⟩ F.slot_list_eq (wpAny_call (codeAny_call_builtin F.slot_list_eq.plain F.entry_list_eq (F.slot_list_eq.check _ _ _ _ _ _ _ _ ⟨_,k,rfl⟩ (F.args_list_eq_2 _ _) ?_))) r;obtain⟨a,g,d,c,os⟩:=s;have u:=AutoSeq1.sub_list_list;have z:¬(e.size !=i.size)=true:=by simp[o]
 wp_walk using wpAny_loadPart' k,wpAny_loadPart' m
 refine⟨plainId_quiet plain_eq_loop _,codeAny_builtin entry_eq_loop ?_⟩;rw[Around.under_plainId plain_eq_loop _];exact wX l b e i n p none none #[] #[] o _ 0 rfl A (wants (fun v t=>v≠ .notImplemented∧V v t) E) _ k m q (show Value.bool true≠Value.notImplemented∧V (.bool true) _ from⟨(fun x=>nomatch x),h⟩)
theorem pj(l b:Addr)(e k:Array Value)(n M:Nat)(f B:Option Addr)(O P:Array (Option Value))(v:s.heap.get? l=some {cls:= .type "tuple",dict:=f,data:= .seq e n,slots:=O})(u:s.heap.get? b=some {cls:= .type "tuple",dict:=B,data:= .seq k M,slots:=P})(I:e.size=k.size)(G:∀j(r:j<e.size)(t:j<k.size),lr a7 b4 A.in1 s e[j] k[j])(J:A.units<cLine)(h:V (.bool true) s):wpAny (model a7 b4) A (richCompare .Eq (.ref l) (.ref b)) V E s:=by
 have c:s.TypeIs (.ref l) "tuple" :=⟨_,v,rfl⟩;have Q:s.TypeIs (.ref b) "tuple" :=⟨_,u,rfl⟩;refine wpAny_richCompare_same_room (op:= .Eq) c Q F.slot_tuple_eq (wpAny_call_entry F.slot_tuple_eq c F.entry_tuple_eq ?_ (F.args_tuple_eq_2 _ _)) J;obtain⟨H,g,d,T,os⟩:=s;have Y:=AutoSeq1.sub_tuple_tuple;have C:(e.toList.zip k.toList).length=min e.size k.size:=by simp
 wp_walk using wpAny_loadPart' v,wpAny_loadPart' u,wpAny_forIn_list _ (fun a b q=>b.1=none∧q=⟨H,g,d,T,os⟩∧∃i,a=(e.toList.zip k.toList).drop i) _
 case turn=>
  rintro⟨y,x⟩ a b q ⟨p,rfl,i,m⟩;have w:i<(e.toList.zip k.toList).length:=by
   refine ay (Nat.lt_or_ge i (e.toList.zip k.toList).length) (fun o=>?_) fun o=>?_
   ·exact o
   ·rw[List.drop_of_length_le o]at m;contradiction
  have z:i<min e.size k.size:=C▸w;have r:i<e.size:=Nat.lt_of_lt_of_le z (Nat.min_le_left _ _);have t:i<k.size:=Nat.lt_of_lt_of_le z (Nat.min_le_right _ _);rw[List.drop_eq_getElem_cons w]at m;injection m with CV Cy
  have L:y=e[i]:=by have:=congrArg Prod.fst CV;simpa using this
  have K:x=k[i]:=by have:=congrArg Prod.snd CV;simpa using this
  subst L K;refine wpAny_bind (G i r t _ _ ?_)
  wp_walk
  exact⟨rfl,rfl,i+1,Cy⟩
 case fin=>
  rintro⟨U,X⟩ q ⟨p,rfl,i,m⟩;simp only at p;subst p
  wp_walk
  refine fS _ rfl (fun x=>nomatch x) ?_;have:Builtin.Tuple.tupleCompareSizes=Builtin.Tuple.tupleCompareSizes:=rfl;simpa [Builtin.Tuple.tupleCompareSizes,I]using h
 case h=>
  exact⟨rfl,rfl,0,rfl⟩
theorem qL(h:∀(E:Value→Shared→Prop)(Q:Value→Shared→Prop),Q (.bool true) s→wpAny (model a7 b4) A (richCompare .Eq (.ref v) (.ref b7)) Q E s):lr a7 b4 A s (.ref v) (.ref b7):=fun E Q d=>by
 by_cases b:v=b7
 ·subst b;exact EqAt.same (.ref v) a7 b4 E Q d
 ·unfold eqBool;refine wpAny_holding ?_;refine wpAny_ite_split (fun e=>absurd (by have:=eq_of_beq e;injection this) b) (fun J=>?_);exact wpAny_bind (h E _ (wpAny_truthy_bool d))
end
noncomputable def gP(c:Cx)(n:Nat)(d e:D):Prop:=∀(A:Around)(f:FH)(s:Shared)(h b:Value),A.units+n<cLine→Gl c s.heap→Sub c f s.heap→Val c f d h→Val c f e b→lr c.prog c.w A s h b
theorem gP.plain(b:Lay j)(d:Lay a5)(h:PyData.eqv j.py a5.py=true):gP c 70 j a5:=fun A f s r t u g e m n E Q o=>by
 refine ah (m.reads g e b.1) fun i p=>?_;refine ah (n.reads g e d.1) fun k q=>?_;have v:=b.2;have w:min j.py.depth a5.py.depth≤j.py.depth:=Nat.min_le_left _ _;exact PySem.SeqAt.eqAt_reads j.py a5.py A s r t i k p q b.1 d.1 (by lia) c.prog c.w E Q (by rw[h];exact o)
theorem uL:∀{i:List D}{b:List Value}{j:Nat}(h:Vals c f i b)(e:j<b.length),∃d,i[j]? =some d∧Val c f d b[j]:=by
 intro L
 induction L with
 |nil=>
  intro b j h e;obtain rfl:b=[]:=h;contradiction
 |cons d r n=>
  intro b j h e;obtain⟨v,o,rfl,k,m⟩:=h;rcases j with _|j
  ·exact aF d rfl k
  ·exact n m (by simpa using e)
theorem gP.items(w:A.units+(n+1)<cLine)(g:Gl c s.heap)(o:Sub c f s.heap)(x:l.length=c7.length)(m:∀(j:Nat)(h b:D),l[j]? =some h→c7[j]? =some b→gP c n h b)(d:Vals c f l d0.toList)(e:Vals c f c7 g5.toList):
  d0.size=g5.size∧∀j(i:j<d0.size)(k:j<g5.size),lr c.prog c.w A.in1 s d0[j] g5[j]:=by
 have u:=d.length;have v:=e.length;rw[Array.length_toList]at u v;refine⟨by lia,fun j i k=>?_⟩;refine au (uL d (j:=j) (by simpa using i)) fun h p r=>?_;refine au (uL e (j:=j) (by simpa using k)) fun b q t=>?_;exact m j h b p q A.in1 f s _ _ (by refine(?_ :A.units+1+n<_);lia) g o (by simpa using r) (by simpa using t)
theorem gP.tup(x:l.length=c7.length)(w:∀(j:Nat)(b d:D),l[j]? =some b→c7[j]? =some d→gP c n b d):gP c (n+1) (.tup l) (.tup c7):=fun A f s U X u g h r t=>by
 obtain⟨a,⟨I,K,P,M⟩,m,F,rfl,y,i,k,z⟩:=r;obtain⟨q,⟨J,L,T,O⟩,H,G,rfl,B,o,p,C⟩:=t;dsimp only at i k o p;subst i k o p;have e:=gP.items u g h x w z C;exact qL fun E Q v=>pj a q F G _ _ _ _ _ _ (h _ _ y).2 (h _ _ B).2 e.1 e.2 (by lia) v
theorem zg:∀{l:List (Str×D)}{b:List (Str×Value)}{x:Str}{d:D},bo c f l b→l.lookup x=some d→∃v,PySem.valueAt b x=some v∧Val c f d v:=by
 intro L
 induction L with
 |nil=>
  intro b x d h e;contradiction
 |cons p r o=>
  intro b x d h e;obtain⟨v,u,rfl,j,k⟩:=h;obtain⟨y,t⟩:=p;by_cases q:y=x
  ·subst q;rw[List.lookup_cons_self]at e;cases e;exact aF v (by simp[PySem.valueAt]) j
  ·have n:(x==y)=false:=by simpa using fun z:x=y=>q z.symm
   rw[List.lookup_cons,n]at e;refine au (o k e) fun s i m=>?_;refine aF s ?_ m;unfold PySem.valueAt at i⊢;rw[List.find?_cons_of_neg (by simpa using q)];exact i
theorem AW(O:A.units+70<cLine)(g:Gl c s.heap)(n:Sub c f s.heap)(l:bo c f u e4):∀{t:List (Str×D)}{h:List (Str×Value)},bo c f t h→(∀p∈t,∃d,u.lookup p.1=some d∧Lay p.2∧Lay d∧PyData.eqv p.2.py d.py=true)→KeqHits A s e4 h true:=by
 intro L
 induction L with
 |nil=>
  intro h i J;obtain rfl:h=[]:=i;exact .nil
 |cons p r E=>
  intro h i m;obtain⟨v,F,rfl,I,K⟩:=i;refine nH (m p List.mem_cons_self) fun d z e j a=>?_;refine au (zg l z) fun y C M=>?_;refine ah (I.reads g n e.1) fun w G=>?_;refine ah (M.reads g n j.1) fun x H=>?_;have P:=e.2;have Q:min p.2.py.depth d.py.depth≤p.2.py.depth:=Nat.min_le_left _ _;have o:=PySem.SeqAt.eqAt_reads p.2.py d.py A s v y w x G H e.1 j.1 (by lia);rw[a]at o;have:=KeqHits.hit (kb:=e4) (k:=p.1) (r:=F) (b:=true) C o (E K fun q B=>m q (List.mem_cons_of_mem _ B));exact this
theorem gP.dict(l:u.length=i1.length)(z:∀p∈u,∃d,i1.lookup p.1=some d∧Lay p.2∧Lay d∧PyData.eqv p.2.py d.py=true):gP c 80 (.dict u) (.dict i1):=fun A f s N S W g h q r=>by
 obtain⟨a,o,w,t,b,rfl,C,F,G,H,I,K,i,L⟩:=q;obtain⟨k,B,x,v,e,rfl,M,O,P,T,U,X,j,Y⟩:=r;refine qL fun E Q y=>?_;have m:s.heap.DictOf (PySem.strKind c.prog c.w) a b:=⟨o,w,t,(h _ _ C).2,F,G,H,I,K⟩;have n:s.heap.DictOf (PySem.strKind c.prog c.w) k e:=⟨B,x,v,(h _ _ M).2,O,P,T,U,X⟩;have Z:b.length=e.length:=by rw[i.length,j.length,l]
 exact keq_eq L Y m n (by lia) (fun J=>AW (A:=A.in1) (by refine(?_ :A.units+1+70<_);lia) g h j i z) (by rw[Z];simpa using y)
theorem aB.Cz(H:n≤100)(x:l.length=c7.length)(w:∀(j:Nat)(b d:D),l[j]? =some b→c7[j]? =some d→gP c n b d):aB c .Eq (.tup l) (.tup c7) true:=fun A f s Y Z Q E r g h t u v=>by
 obtain⟨a,⟨K,M,U,P⟩,m,F,rfl,y,i,k,z⟩:=t;obtain⟨q,⟨L,O,X,T⟩,J,G,rfl,B,o,p,C⟩:=u;dsimp only at i k o p;subst i k o p;have I:=r.units;have e:=gP.items (A:=A) (by refine(?_ :_<9900);lia) g h x w z C;exact pj a q F G _ _ _ _ _ _ (h _ _ y).2 (h _ _ B).2 e.1 e.2 (by refine(?_ :_<9900);lia) (v _ s f (Go.refl h) rfl)
theorem aB.x7(B:n≤100)(t:l.length=c7.length)(q:∀(j:Nat)(b d:D),l[j]? =some b→c7[j]? =some d→gP c n b d):aB c .Eq (.list l) (.list c7) true:=fun A f s G H Q E r g h k o p=>by
 obtain⟨a,y,m,rfl,u,v⟩:=k;obtain⟨i,z,F,rfl,w,x⟩:=o;have C:=r.units;have e:=gP.items (A:=A) (by refine(?_ :_<9900);lia) g h t q v x;exact wY a i y z _ _ (h _ _ u).2 (h _ _ w).2 e.1 e.2 (by refine(?_ :_<9900);lia) (p _ s f (Go.refl h) rfl)
theorem bN.flat(j:m→D)(i:m→List D){iter:Expr}(t:m→bD)(bound:Nat):∀(l:List m)(h:List D),
  (∀d,(x,some d)∉r)→(∀a,Upd r x (j a) (t a))→(∀a∈l,∀h:List D,h.length+(i a).length≤bound→r8 c n e d4 k (t a) (.list h) (.list (h++i a)))→h.length+(l.flatMap i).length≤bound→
  bN c n e d4 k ⟨.Name x O,iter,[],0⟩ r (l.map j) (.list h) (.list (h++l.flatMap i)):=by
 intro L
 induction L with
 |nil=>
  intro h J J J J;simpa using bN.done
 |cons a a0 g=>
  intro h s q p f;have w:gZ r [(x,j a)]:=fun y z d=>by
   have:y=x:=by simpa using z
   subst this;exact s d
  rw[List.flatMap_cons,List.length_append]at f;have u:=p a List.mem_cons_self h (by lia);have o:=g (h++i a) s q (fun b v=>p b (List.mem_cons_of_mem _ v)) (by rw[List.length_append];lia);rw[List.append_assoc]at o;rw[List.map_cons,List.flatMap_cons];exact .yes .name w (.cons (q a) .nil) .nil u o
theorem bN.AX(j p g:m→D)(l:List m){iter:Expr}(A:∀a∈l,Ev c n (cW c8 e) ((x,some (j a))::(a9,some (p a))::r) o (g a))(E:eR (x::a9::r.map (·.1))=true)(s:l.length≤1000000):
  bN c n (cW c8 e) (dx o [⟨.Tuple [.Name x O,.Name a9 Y] k b1,iter,[],0⟩] c8 f0) 0 ⟨.Tuple [.Name x O,.Name a9 Y] k b1,iter,[],0⟩ ((x,none)::(a9,none)::r) (l.map fun a=> .tup [j a,p a]) (.list []) (.list (l.map g)):=by
 have C:=dT E;have u:=(List.nodup_cons.mp C);have F:=(List.nodup_cons.mp u.2);have G:∀d,(x,some d)∉((x,none)::(a9,none)::r:bD):=fun d q=>by
  refine memC q (fun a0=>?_) fun a0=>?_
  ·cases a0
  ·refine memC a0 (fun a0=>?_) fun a0=>?_
   ·cases a0
   ·exact u.1 (List.mem_cons_of_mem _ (List.mem_map.mpr ⟨_,a0,rfl⟩))
 have H:∀d,(a9,some d)∉((x,none)::(a9,none)::r:bD):=fun d q=>by
  refine memC q (fun a0=>?_) fun a0=>?_
  ·cases a0
  ·refine memC a0 (fun a0=>?_) fun a0=>?_
   ·cases a0
   ·exact F.1 (List.mem_map.mpr ⟨_,a0,rfl⟩)
 have K:∀(a1:List m)(i:List D),(∀a∈a1,a∈l)→i.length+a1.length≤1000000→bN c n (cW c8 e) (dx o [⟨.Tuple [.Name x O,.Name a9 Y] k b1,iter,[],0⟩] c8 f0) 0 ⟨.Tuple [.Name x O,.Name a9 Y] k b1,iter,[],0⟩ ((x,none)::(a9,none)::r) (a1.map fun a=> .tup [j a,p a]) (.list i) (.list (i++a1.map g)):=by
  intro a1
  induction a1 with
  |nil=>intro i J J;simpa using bN.done
  |cons a a1 I=>
   intro i t v;have B:gZ ((x,none)::(a9,none)::r) [(x,j a),(a9,p a)]:=fun z s d=>by
    have:z=x∨z=a9:=by simpa using s
    refine ay this (fun w=>?_) fun y=>?_
    ·subst w;exact G d
    ·subst y;exact H d
   rw[List.map_cons,List.map_cons];have:=I (i++[g a]) (fun b f=>t b (List.mem_cons_of_mem _ f)) (by simp at v⊢;lia);rw[List.append_assoc]at this;exact .yes (bs:=[(x,j a),(a9,p a)]) (cU.asg (u:=[(x,j a),(a9,p a)]) (.cons (.cons .nil))) B (.cons .head (.cons (.tail .head) .nil)) .nil (.emit rfl (jg.list (A a (t a List.mem_cons_self)) (by simp at v;rw[sizeLine_eq];lia))) this
 have:=K l [] (fun J h=>h) (by simpa using s);simpa using this
theorem qM(b:∀p∈a6,p∈r∧e.names.lookup p.1=some .free):∀p∈((x,none)::(a9,none)::a6:bD),p.2=none∨(p∈r∧e.names.lookup p.1=some .free):=fun p h=>by
 refine memC h (fun a0=>?_) fun a0=>?_
 ·exact .inl (by rw[a0])
 ·refine memC a0 (fun a0=>?_) fun a0=>?_
  ·exact .inl (by rw[a0])
  ·exact .inr (b p a0)
theorem Ev.AX(h b g:m→D)(l:List m){iter:Expr}(j:aO c n e r iter (.Tuple [.Name x O,.Name a9 Y] k b1) (l.map fun a=> .tup [h a,b a]))(t:nk c8 e (.Tuple [.Name x O,.Name a9 Y] k b1) iter=true)(i:∀a∈l,Ev c n (cW c8 e) ((x,some (h a))::(a9,some (b a))::a6) o (g a))(d:eR (x::a9::a6.map (·.1))=true)(s:∀p∈a6,p∈r∧c8.names.lookup p.1=some .free)(q:l.length≤1000000):
  Ev c n e r (.ListComp o [⟨.Tuple [.Name x O,.Name a9 Y] k b1,iter,[],0⟩] c8 f0) (.list (l.map g)):=
 Ev.nR (a6:=(x,none)::(a9,none)::a6) j (bN.AX h b g l i d q) (dS.of t) (dT d) (qM s)
theorem av.qN(h b g:m→D)(l:List m){iter:Expr}{scope:Scope}(s:∀u,aO (c.wo u) n e (allOf r y) iter (.Tuple [.Name a9 b1,.Name k4 f0] k k0) (l.map fun a=> .tup [h a,b a]))(C:nk scope e (.Tuple [.Name a9 b1,.Name k4 f0] k k0) iter=true)(q:∀u,∀a∈l,Ev (c.wo u) n (cW scope e) ((a9,some (h a))::(k4,some (b a))::l2) o (g a))(d:eR (a9::k4::l2.map (·.1))=true)(A:∀a0∈l2,a0∈allOf r y∧scope.names.lookup a0.1=some .free)(f:l.length≤1000000)(j:aS (l.map g))(w:Upd r x (.list (l.map g)) a6)(z:x∈p)(B:x∉y.map (·.1))(t:(r.map (·.1)).Nodup)(v:∀i:Env,swapsWith (.ListComp o [⟨.Tuple [.Name a9 b1,.Name k4 f0] k k0,iter,[],0⟩] scope m2) (some (.Name x O)) Y.line {i with scope:=e}=pure true):
  av c n e p r y (.Assign [.Name x O] (.ListComp o [⟨.Tuple [.Name a9 b1,.Name k4 f0] k k0,iter,[],0⟩] scope m2) Y) (.next a6 y):=
 av.oR (l2:=(a9,none)::(k4,none)::l2) (b5:=⟨.Tuple [.Name a9 b1,.Name k4 f0] k k0,iter,[],0⟩) (e1:=[]) s (fun u=>bN.AX h b g l (q u) d f) (dS.of C) (dT d) (qM A) j w z B t v
theorem Ev.dc(j g:m→D)(t:m→Str)(q:m→Bool)(l:List m){iter:Expr}(C:aO c n e r iter (.Name x O) (l.map j))(U:nk c8 e (.Name x O) iter=true)(z:∀a∈l,iD c n (cW c8 e) ((x,some (j a))::a6) B (q a))(E:∀a∈l,q a=true→Ev c n (cW c8 e) ((x,some (j a))::a6) o (.str (t a)))(A:∀a∈l,q a=true→Ev c n (cW c8 e) ((x,some (j a))::a6) b0 (g a))(G:eR (x::a6.map (·.1))=true)(Q:∀p∈a6,p∈r∧c8.names.lookup p.1=some .free)(M:l.length≤1000000):
  Ev c n e r (.DictComp o b0 [⟨.Name x O,iter,B,0⟩] c8 Y) (.dict ((l.filter q).foldl (fun i a=>dD i (t a) (g a)) [])):=by
 have w:=dT G;have K:∀d,(x,some d)∉((x,none)::a6:bD):=fun d F=>by
  refine memC F (fun a0=>?_) fun a0=>?_
  ·cases a0
  ·exact(List.nodup_cons.mp w).1 (List.mem_map.mpr ⟨_,a0,rfl⟩)
 have I:∀(i:List (Str×D))(x:Str)(d:D),(dD i x d).length≤i.length+1:=fun i x d=>by
  unfold dD;split
  ·simp
  ·simp
 have T:∀(a1:List m)(i:List (Str×D)),(∀a∈a1,a∈l)→i.length+a1.length≤1000000→bN c n (cW c8 e) (gD o b0 [⟨.Name x O,iter,B,0⟩] c8 Y) 0 ⟨.Name x O,iter,B,0⟩ ((x,none)::a6) (a1.map j) (.dict i) (.dict ((a1.filter q).foldl (fun i a=>dD i (t a) (g a)) i)):=by
  intro a1
  induction a1 with
  |nil=>intro i J J;exact bN.done
  |cons a a1 f=>
   intro i k P;have v:gZ ((x,none)::a6) [(x,j a)]:=fun y L d=>by
    have:y=x:=by simpa using L
    subst this;exact K d
   rw[List.map_cons];rw[List.length_cons]at P;rcases s:q a with _|_
   ·
    rw[List.filter_cons_of_neg (by rw[s];decide)];exact .no .name v (.cons .head .nil) (s▸z a (k a List.mem_cons_self)) (f i (fun b u=>k b (List.mem_cons_of_mem _ u)) (Nat.le_of_lt ‹_›))
   ·
    rw[List.filter_cons_of_pos s,List.foldl_cons];have X:=I i (t a) (g a);exact .yes .name v (.cons .head .nil) (s▸z a (k a List.mem_cons_self)) (.emit rfl (jg.dict (E a (k a List.mem_cons_self) s) (A a (k a List.mem_cons_self) s) (by rw[sizeLine_eq];lia))) (f _ (fun b u=>k b (List.mem_cons_of_mem _ u)) (by lia))
 exact Ev.yg (a6:=(x,none)::a6) C (T l [] (fun J h=>h) (by simpa using M)) (dS.of U) w fun p H=>by
  refine memC H (fun a0=>?_) fun a0=>?_
  ·exact .inl (by rw[a0])
  ·exact .inr (Q p a0)
noncomputable def nA:List Nat:=[240,7,816,20,13,160,9,956,3]
noncomputable def thirdL:List Int:=[4,-7,0,19,2,-1,8,3,5]
noncomputable def mz(h:List Int)(k:Nat):List Int:=bf (h.take 60) (some (k:Int)) none (some 9)
noncomputable def oI(h:List Int)(k b:Nat):Nat:=b+((mz h k).map fun x:Int=>x.fmod (10 ^ 9)).sum.toNat
noncomputable def cO(h:List Int):List Nat:=nA.zipIdx.map fun p=>oI h p.2 p.1
noncomputable def aV(h:List Int):Nat:=(cO h).sum
noncomputable def cF(h:List Int):List Int:=h.take 9++thirdL.drop (h.take 9).length
noncomputable def tl(i:Nat):List Nat:=[[],[46],[13,10,46,13,10],[39,46,10,46],[41,34],[13,46,40]].getD i []
noncomputable def mA(i:Nat):Kd:=[Kd.give,.give,.take,.take,.rest].getD i .give
noncomputable def gX(r:Nat):List Nat:=tl (r % 6)++[(97+r / 36) % 55296]++tl (r / 6 % 6)
noncomputable def nB(n h:Nat):cA:=⟨mA (h % 5*min 1 n),h / 5,h / 15 % 2,gX (h / 30)⟩
noncomputable def gh(h:List Int):List cA:=(cO h).zipIdx.map fun p=>nB p.2 p.1
noncomputable def fP(t:Nat):List cA:=[Kd.rest,Kd.take].flatMap fun h=>[0,1,2].map fun k=>(⟨h,t+k,0,[]⟩:cA)
noncomputable def fI(t:Nat):List cA:=(List.range 8).flatMap fun J=>fP t
noncomputable def dE(h:List Int):List cA:=gh h++fI (aV h)
noncomputable def cpsOf(x:String):List Nat:=(N x).cps.toList
noncomputable def ea(t:Nat):Nat→List Nat
 |0=>if t % 2=0 then cpsOf "{a}" else cpsOf "~:1(<a>)"
 |1=>cpsOf ".b:" ++(dg (t % 1000)++cpsOf "(b))")
 |_=>if t / 2 % 2=0 then cpsOf ")c>" else cpsOf "<c)"
theorem x8:∀n,n<1000→(dg n).length≤4∧∀c∈dg n,48≤c∧c≤57:=by decide+kernel
theorem BQ(t:Nat):ea t 0=cpsOf "{a}" ∨ea t 0=cpsOf "~:1(<a>)" :=by
 refine(?_ :(if t % 2=0 then cpsOf "{a}" else cpsOf "~:1(<a>)")=_∨(if t % 2=0 then cpsOf "{a}" else cpsOf "~:1(<a>)")=_);split
 ·exact .inl rfl
 ·exact .inr rfl
theorem BR(t:Nat):ea t 2=cpsOf ")c>" ∨ea t 2=cpsOf "<c)" :=by
 refine(?_ :(if t / 2 % 2=0 then cpsOf ")c>" else cpsOf "<c)")=_∨(if t / 2 % 2=0 then cpsOf ")c>" else cpsOf "<c)")=_);split
 ·exact .inl rfl
 ·exact .inr rfl
noncomputable def AY(l:List Nat):Nat:=let c:=l.headD 0;if c=123∨c=126 then 0 else if c=46 then 1 else 2
theorem sW(t:Nat):aT (ea t):=by
 have m:=x8 (t % 1000) (Nat.mod_lt _ (by decide));have d:ea t 1=46::(98::(58::(dg (t % 1000)++[40,98,41,41]))):=by
  have a:cpsOf ".b:" =[46,98,58]:=by decide+kernel
  have b:cpsOf "(b))" =[40,98,41,41]:=by decide+kernel
  refine(?_ :cpsOf ".b:" ++(dg (t % 1000)++cpsOf "(b))")=_);rw[a,b];rfl
 refine⟨mN ?_ ?_ ?_,mN ?_ ?_ ?_,mN ?_ ?_ ?_,fun i j q r e=>?_⟩
 ·refine ay (BQ t) (fun e=>?_) fun e=>?_ <;>rw[e]<;>decide+kernel
 ·rw[d];have:=m.1;simp;lia
 ·refine ay (BR t) (fun e=>?_) fun e=>?_ <;>rw[e]<;>decide+kernel
 ·refine ay (BQ t) (fun e=>?_) fun e=>?_ <;>rw[e]<;>decide+kernel
 ·rw[d];exact List.cons_ne_nil _ _
 ·refine ay (BR t) (fun e=>?_) fun e=>?_ <;>rw[e]<;>decide+kernel
 ·refine ay (BQ t) (fun e=>?_) fun e=>?_ <;>rw[e]<;>decide+kernel
 ·rw[d];have n:∀c∈[46,98,58]++[40,98,41,41],c<128∧c≠10∧c≠13∧c≠39∧c≠34∧c≠92:=by decide
  intro c p;refine dd (show c∈[46,98,58]++(dg (t % 1000)++[40,98,41,41])from p) (fun h=>?_) fun h=>?_
  ·exact n c (List.mem_append_left _ h)
  ·refine dd h (fun h=>?_) fun h=>?_
   ·have:=m.2 c h;lia
   ·exact n c (List.mem_append_right _ h)
 ·refine ay (BR t) (fun e=>?_) fun e=>?_ <;>rw[e]<;>decide+kernel
 ·have o:∀k,k<3→AY (ea t k)=k:=mN (by refine ay (BQ t) (fun e=>?_) fun e=>?_ <;>rw[e]<;>decide+kernel) (by rw[d];rfl) (by refine ay (BR t) (fun e=>?_) fun e=>?_ <;>rw[e]<;>decide+kernel);rw[←o i q,←o j r,e]
theorem sX:∀i,i<6→(tl i).length≤5∧∀c∈tl i,c<55296:=by decide+kernel
theorem qO(n b:Nat):cZ (nB n b):=by
 have d:=sX (b / 30 % 6) (Nat.mod_lt _ (by decide));have e:=sX (b / 30 / 6 % 6) (Nat.mod_lt _ (by decide));refine⟨?_,fun c j=>?_⟩
 ·refine(?_ :(gX (b / 30)).length≤20);unfold gX;have:=d.1;have:=e.1;simp;lia
 ·have i:c∈gX (b / 30):=j;unfold gX at i;refine dd i (fun h=>?_) fun h=>?_
  ·refine dd h (fun h=>?_) fun h=>?_
   ·exact d.2 c h
   ·rw[List.mem_singleton.mp h];exact Nat.mod_lt _ (by decide)
  ·exact e.2 c h
theorem pk(h:List Int):(cO h).length=9:=by unfold cO;simp[nA]
theorem fQ(h:List Int):(gh h).length=9:=by unfold gh;simp[pk]
theorem mB(t:Nat):(fI t).length=48:=rfl
theorem lu(t:Nat):∀d∈fI t,eW d.kd=false∧d.tail=[]:=fun d h=>by
 unfold fI at h;refine au (List.mem_flatMap.mp h) fun J J h=>?_;unfold fP at h;refine au (List.mem_flatMap.mp h) fun j e h=>?_;refine bZ h fun k J b=>?_;subst b;simp only[List.mem_cons,List.not_mem_nil,or_false]at e
 focus(refine ay e (fun b=>?_) fun i=>?_;all_goals first|subst b|subst i|skip)<;>exact⟨rfl,rfl⟩
theorem wZ(i:List Int):∀d∈dE i,cZ d:=fun d e=>by
 refine dd e (fun h=>?_) fun h=>?_
 ·refine bZ h fun p J b=>?_;subst b;exact qO _ _
 ·have:=(lu _ d h).2;exact⟨by rw[this];simp,by rw[this];simp⟩
theorem uM(h:List Int):(dE h).length=57:=by unfold dE;rw[List.length_append,fQ _,mB _]
theorem sY(h:List Int):((dE h).filter fun d=>eW d.kd).length≤9:=by
 unfold dE;rw[List.filter_append _ _,List.length_append];have b:((gh h).filter fun d=>eW d.kd).length≤9:=by rw[←fQ h];exact List.length_filter_le _ _
 have e:(fI (aV h)).filter (fun d=>eW d.kd)=[]:=List.filter_eq_nil_iff.mpr fun d i=>by rw[(lu _ d i).1];simp
 rw[e];simpa using b
theorem w0(h:List Int):(cF h).length=9:=by
 unfold cF;rw[List.length_append,List.length_drop,List.length_take];have:thirdL.length=9:=rfl;rw[this,Nat.add_comm _ _,Nat.sub_add_cancel (Nat.min_le_left ..)]
theorem uN(x:String):S (cpsOf x)=N x:=rfl
theorem CW(t:Nat):lK (N "~") ((t % 2:Nat):Int) (N "<a>")=S (ea t 0):=by
 have h:t % 2=0∨t % 2=1:=by lia
 refine(?_ :_=S (if t % 2=0 then cpsOf "{a}" else cpsOf "~:1(<a>)"));refine ay h (fun h=>?_) fun h=>?_
 ·rw[h];decide+kernel
 ·rw[h];decide+kernel
theorem CX(t:Nat):lK (N ".b") ((t % 1000:Nat):Int) (N "b)")=S (ea t 1):=by
 have k:(N ".b" ==N "~")=false:=by decide+kernel
 unfold lK;rw[k,if_neg (by simp)];refine(?_ :_=S (cpsOf ".b:" ++(dg (t % 1000)++cpsOf "(b))")));have h:N ".b" ++Str.ofString ":" =S (cpsOf ".b:"):=by decide+kernel
 have b:Str.ofString "(" =S (cpsOf "("):=rfl;have d:N "b)" =S (cpsOf "b)"):=rfl;have e:Str.ofString ")" =S (cpsOf ")"):=rfl;have i:cpsOf "(b))" =cpsOf "(" ++(cpsOf "b)" ++cpsOf ")"):=by decide+kernel
 have j:Str.ofString (toString ((t % 1000:Nat):Int))=S (dg (t % 1000)):=(x6 _).symm;rw[h,b,d,e,i,j,cL,cL,cL,cL]at⊢;congr 1;simp
theorem CY(t:Nat):lK (N "~") 0 (if t / 2 % 2=0 then N ")c>" else N "<c)")=S (ea t 2):=by
 refine(?_ :_=S (if t / 2 % 2=0 then cpsOf ")c>" else cpsOf "<c)"));split
 ·decide+kernel
 ·decide+kernel
theorem iP(g:m→e7)(l:List m)(b h d:Option Int):bf (l.map g) b h d=(bf l b h d).map g:=by
 unfold bf;rw[List.length_map _,List.map_filterMap];congr 1;funext i;rw[List.getElem?_map]
theorem w3(h:List Int)(k:Nat):(mz h k).length≤100:=by
 unfold mz bf;refine Nat.le_trans (List.length_filterMap_le _ _) ?_;have b:(h.take 60).length≤60:=by rw[List.length_take];lia
 generalize (h.take 60).length=n at b;unfold sliceRange sliceBounds;simp only[Option.getD_some,List.length_map,List.length_range];split<;>(try split)<;>omega
theorem zh:∀l:List Int,0≤(l.map fun x:Int=>x.fmod (10 ^ 9)).sum:=by
 intro L
 induction L with
 |nil=>
  simp
 |cons x r h=>
  rw[List.map_cons,List.sum_cons];have b:=h;have d:0≤x.fmod (10 ^ 9):=Int.fmod_nonneg_of_pos x (by decide);omega
theorem zi(h:List Int)(k b:Nat):((oI h k b:Nat):Int)=b+((mz h k).map fun x:Int=>x.fmod (10 ^ 9)).sum:=by
 unfold oI;have:=zh (mz h k);lia
theorem zj:∀l:List Nat,(l.map fun n:Nat=>(n:Int)).sum=(l.sum:Nat):=by
 intro L
 induction L with
 |nil=>
  exact rfl
 |cons x r h=>
  rw[List.map_cons,List.sum_cons,h,List.sum_cons];rfl
noncomputable def eX:List D:=[.str (N ""),.str (N "."),.str (N "\r\n.\r\n"),.str (N "'.\n."),.str (N ")\""),.str (N "\r.(")]
theorem zk(i:Nat)(h:i<6):eX[i]? =some (.str (S (tl i))):=by
 have e:eX=((List.range 6).map fun i=>S (tl i)).map D.str:=congrArg (List.map D.str) (by decide+kernel:[N "",N ".",N "\r\n.\r\n",N "'.\n.",N ")\"",N "\r.("]=(List.range 6).map fun i=>S (tl i));rw[e,List.getElem?_map,List.getElem?_map,List.getElem?_range h];rfl
noncomputable def cS(P:Params):Scope:=(fdOf P 150).elim default (·.scope)
noncomputable def uO(P:Params)(i:Nat):Option (Scope×List Stmt):=match fdOf P 150 with
 |some h=>match h.body with
  | .stmts b=>some (h.scope,b.drop i)
  |_=>none
 |none=>none
noncomputable abbrev iQ:List Str:=[N "script",N "bases",N "cells",N "total",N "sums",N "tails",N "deeds",N "n",N "cell",N "rest",N "tail",N "kind",N "funcs",N "names",N "mails",N "owed",N "books",N "log",N "steps",N "debts",N "texts",N "due",N "calls",N "told",N "woken",N "whole",N "signs"]
noncomputable abbrev jU(m:List Int)(a b c d e f g h i j k l:Option D):bD:=[(N "script",some (.list (m.map .int))),(N "bases",a),(N "cells",b),(N "total",c),(N "sums",d),(N "tails",e),(N "n",f),(N "cell",g),(N "rest",h),(N "tail",i),(N "kind",j),(N "funcs",k),(N "names",l),(N "mails",none),(N "owed",none),(N "books",none),(N "log",none),(N "steps",none),(N "debts",none),(N "texts",none),(N "due",none),(N "calls",none),(N "told",none),(N "woken",none),(N "whole",none),(N "signs",none)]
theorem gp:[N "script",N "bases",N "cells",N "total",N "sums",N "tails",N "n",N "cell",N "rest",N "tail",N "kind",N "funcs",N "names",N "mails",N "owed",N "books",N "log",N "steps",N "debts",N "texts",N "due",N "calls",N "told",N "woken",N "whole",N "signs"].Nodup:=by decide+kernel
theorem aO.cast(h:aO c n e r o b0 l)(q:l=c7):aO c n e r o b0 c7:=q▸h
set_option maxHeartbeats 2000000 in
theorem CA(j:bp c)(e:List Int)(F:e.length≤63):∃i b s,uO c.w.params 1=some (i,b)∧uO c.w.params 6=some (i,s)∧∀(k:Nat)(q:Out),Wp c (k+10) i iQ (jU e none (some (.list ((cO e).map fun n:Nat=> .int n))) (some (.int (aV e:Nat))) (some (.list ((cF e).map .int))) (some (.list eX)) none none none none none none none) [(N "deeds",.ao [])] s q→Wp c (k+10) i iQ (jU e (some (.list [.int 240,.int 7,.int 816,.int 20,.int 13,.int 160,.int 9,.int 956,.int 3])) none none none none none none none none none none none) [] b q:=by
 refine Cf (cS c.w.params) _ _ rfl rfl (fun k q t=>?_);dsimp only[List.drop]at t⊢;have m:∀u i r v w y z,(N "script",some (D.list (e.map .int)))∈r→∀b:Nat,Ev (c.wo u) (k+10) i r (.Subscript (.Name (N "script") v) (.Slice none (some (.Constant (.int b) 0 w)) none y) z) (.list ((e.take b).map .int)):=fun u i r v w y z h b=>by
  have:=az.ed (c:=c.wo u) (l:=e.map D.int) (j:= .list (e.map .int)) rfl (e6:=none) (f9:=some (b:Int)) (h6:=none) (by decide) (by rw[List.length_map _];lia);rw[iP,gc]at this;exact Ev.sub (Ev.name h) (Ev.slice .none (.some Ev.int) .none) this
 have B:(.list (nA.zipIdx.map fun p:Nat×Nat=>D.int (oI e p.2 p.1)))=(D.list ((cO e).map fun n:Nat=> .int n)):=by unfold cO;rw[List.map_map];rfl
 have g:aS (nA.zipIdx.map fun p:Nat×Nat=>D.int (oI e p.2 p.1)):=bI.mpr fun d C=>by
  refine bZ C fun p J f=>?_;subst f;trivial
 refine Wp.cons (a6:=(jU e (some (.list [.int 240,.int 7,.int 816,.int 20,.int 13,.int 160,.int 9,.int 956,.int 3])) (some (.list ((cO e).map fun n:Nat=> .int n))) none none none none none none none none none none)) (c9:=[]) (av.qN (fun p:Nat×Nat=> .int p.2) (fun p:Nat×Nat=> .int p.1) (fun p:Nat×Nat=> .int (oI e p.2 p.1)) nA.zipIdx (l2:=[(N "script",some (.list (e.map .int)))]) (fun u=>aO.cast (aO.enum (j.b rfl (by decide+kernel)) (Ev.name (j:= .list [.int 240,.int 7,.int 816,.int 20,.int 13,.int 160,.int 9,.int 956,.int 3]) (ab (aa 1 rfl))) rfl) rfl) (by kernel_rfl) (fun u a E=>?_) (by kernel_rfl) ?_ (by decide) g (by rw[B];exact ar 2 rfl) (aa 2 rfl) (cC rfl) (gp) (fun J=>rfl)) ?_
 ·rw[zi _ _ _];refine Ev.bin (Ev.name (j:= .int (a.1:Nat)) (aa 1 rfl)) (Ev.call (j.b rfl (by decide+kernel)) (.builtin "sum") (ag.cons (Ev.lcm (fun x:Int=>D.int x) (fun x:Int=>D.int (x.fmod (10 ^ 9))) (mz e a.2) (a6:=[]) (aO.list (j:= .list ((mz e a.2).map .int)) (Ev.sub (m u _ _ _ _ _ _ (aa 2 rfl) 60) (Ev.slice (.some (Ev.name (j:= .int (a.2:Nat)) (aa 0 rfl))) .none (.some Ev.int)) ?_) rfl) (by kernel_rfl) (fun x J=>Ev.bin (Ev.name (j:= .int x) (aa 0 rfl)) (Ev.bin Ev.int Ev.int (aJ.pow (by decide) (by decide+kernel))) (aJ.mod (by decide))) (by kernel_rfl) (fun p o=>nomatch o) (by have:=w3 e a.2;lia)) ag.nil) (ak.sum (by rw[show D.bt (D.list _)=some _ from rfl,List.map_map];rfl))) aJ.add;have:=az.ed (c:=c.wo u) (l:=(e.take 60).map D.int) (j:= .list ((e.take 60).map .int)) rfl (e6:=some (a.2:Int)) (f9:=none) (h6:=some 9) (by decide) (by simp;lia);rw[iP]at this;exact this
 ·intro p o;rw[List.mem_singleton.mp o];exact⟨ab (aa 0 rfl),rfl⟩
 refine Wp.cons (av.assign (j:= .int (aV e:Nat)) (fun u=>Ev.call (j.b rfl (by decide+kernel)) (.builtin "sum") (ag.cons (Ev.name (j:= .list ((cO e).map fun n:Nat=> .int n)) (ab (aa 2 rfl))) ag.nil) ?_) trivial (ar 3 rfl) (aa 3 rfl) (cC rfl) (gp) (fun J=>rfl)) ?_
 ·have:=ak.sum (c:=c.wo u) (n:=k+9) (j:= .list ((cO e).map fun n:Nat=> .int n)) (h:=(cO e).map fun n:Nat=>(n:Int)) (by rw[List.map_map];rfl);rw[zj]at this;exact this
 refine Wp.cons (av.assign (j:= .list ((cF e).map .int)) (fun u=>?_) (fO _) (ar 4 rfl) (aa 4 rfl) (cC rfl) (gp) (fun J=>rfl)) ?_
 ·have A:(cF e).map D.int=(e.take 9).map .int++(thirdL.map D.int).drop (e.take 9).length:=by
   unfold cF;rw[List.map_append,List.map_drop]
  rw[A];refine Ev.bin (m u _ _ _ _ _ _ (ab (aa 0 rfl)) 9) (Ev.sub (j:= .list (thirdL.map .int)) (i7:= .list ((thirdL.map D.int).drop (e.take 9).length)) (Ev.list (ag.cons Ev.int (ag.cons (Ev.un Ev.int iz.neg) (ag.cons Ev.int (ag.cons Ev.int (ag.cons Ev.int (ag.cons (Ev.un Ev.int iz.neg) (ag.cons Ev.int (ag.cons Ev.int (ag.cons Ev.int ag.nil))))))))) (by refine(?_ :9≤1000000);decide)) (Ev.slice (.some (Ev.call (j.b rfl (by decide+kernel)) (.builtin "len") (ag.cons (m u _ _ _ _ _ _ (ab (aa 0 rfl)) 9) ag.nil) (ak.fs rfl (by simp;lia)))) .none .none) ?_) (aJ.xS rfl rfl (by simp[thirdL];lia));have:=az.ed (c:=c.wo u) (l:=thirdL.map D.int) (j:= .list (thirdL.map .int)) rfl (e6:=some ((e.take 9).length:Int)) (f9:=none) (h6:=none) (by decide) (by simp[thirdL]);rw[gd]at this;rw[List.length_map _];exact this
 refine Wp.cons (av.assign (j:= .list eX) (fun u=>Ev.list (ag.cons Ev.aN (ag.cons Ev.aN (ag.cons Ev.aN (ag.cons Ev.aN (ag.cons Ev.aN (ag.cons Ev.aN ag.nil)))))) (by refine(?_ :6≤1000000);decide)) ⟨trivial,trivial,trivial,trivial,trivial,trivial,trivial⟩ (ar 5 rfl) (aa 5 rfl) (cC rfl) (gp) (fun J=>rfl)) ?_;refine Wp.cons (av.gF (j:= .ao []) (ig.list (fun u=>ag.nil) trivial) (aa 6 rfl) (cC rfl) (cY (by kernel_rfl)) (fun J=>rfl)) ?_;exact dC.weaken t (bG rfl)
theorem gQ(a b:Nat):Int.fdiv (a:Int) (b:Int)=((a / b:Nat):Int):=by
 rw[Int.fdiv_eq_ediv_of_nonneg _ (by(simp+arith))];rfl
theorem fold_map(f:m→e7):∀(l:List m)(h:List e7),l.foldl (fun h a=>h++[f a]) h=h++l.map f:=by
 intro L
 induction L with
 |nil=>
  intro h;simp
 |cons a r b=>
  intro h;rw[List.foldl_cons,b _];simp
theorem rm:∀(l:List Nat)(n:Nat),numbered n (l.map fun n:Nat=>D.int n)=(l.zipIdx n).map fun p:Nat×Nat=>D.tup [.int p.2,.int p.1]:=by
 intro L
 induction L with
 |nil=>
  intro n;exact rfl
 |cons d r h=>
  intro n;refine(?_ :D.tup [.int n,.int d]::numbered (n+1) (r.map fun n:Nat=>D.int n)=_);rw[h (n+1),List.zipIdx_cons];rfl
theorem zl(i:Nat)(h:i<5):([.str (N "give"),.str (N "give"),.str (N "take"),.str (N "take"),.str (N "rest")]:List D)[i]? =some (.str (gK (mA i))):=by
 refine(?_ :((List.range 5).map fun i=>D.str (gK (mA i)))[i]? =_);rw[List.getElem?_map,List.getElem?_range h];rfl
noncomputable def gR(P:Params)(i:Nat):Option (Scope×Stmt):=match fdOf P 150 with
 |some h=>match h.body with
  | .stmts b=>(b[i]?).map fun d=>(h.scope,d)
  |_=>none
 |none=>none
noncomputable def AZ(h b:Scope)(d:List Comprehension):Bool:=
 isFn h.kind&&(h.names.lookup (".0" :Str)==some NameKind.local)&&eR (h.names.map (·.1))&&(h.names.all fun p=>p.2 != .free||b.names.lookup p.1==some .cell||b.names.lookup p.1==some .free)
  &&(d.all fun g=>(g.is_async==0)&&gC g.iter&&((kL g.target).all fun x=>(ownNames h).contains x))&&(codeOf (cW h b)).isNone
theorem dS.Dj(h:AZ e c8 e1=true):dS e c8 e1:=by
 unfold AZ at h;simp only[Bool.and_eq_true]at h;refine ai h fun i s=>ai i fun j r=>ai j fun k q=>ai k fun m p=>ai m fun d o=>?_;refine⟨?_,by simpa using o,dT p,fun n u=>?_,fun g t=>?_,by simpa using s⟩
 ·cases a0:e.kind<;>rw[a0]at d<;>first|rfl|(simp[isFn]at d)
 ·have:=List.all_eq_true.mp q _ u;simp at this;exact this
 ·have b:=List.all_eq_true.mp r g t;simp only[Bool.and_eq_true]at b;exact bx (by simpa using b.1.1) b.1.2 (fun x v=>by simpa using List.all_eq_true.mp b.2 x v)
theorem gi(l:List cA):aS (l.map bO):=bI.mpr fun d b=>by
 refine bZ b fun p J h=>?_;subst h;exact gv trivial trivial trivial trivial trivial
noncomputable def jV(t:Nat):List D:=[.tup [.str (N "~"),.int (t % 2:Nat),.str (N "<a>")],.tup [.str (N ".b"),.int (t % 1000:Nat),.str (N "b)")],.tup [.str (N "~"),.int 0,.str (if t / 2 % 2=0 then N ")c>" else N "<c)")]]
set_option maxHeartbeats 1000000 in
theorem A0(t:bp c)(j:List Int):∃o a,gR c.w.params 6=some (o,a)∧∀(k:Nat),av c (k+10) o iQ (jU j none (some (.list ((cO j).map fun n:Nat=> .int n))) (some (.int (aV j:Nat))) (some (.list ((cF j).map .int))) (some (.list eX)) none none none none none none none) [(N "deeds",.ao [])] a (.next (jU j none (some (.list ((cO j).map fun n:Nat=> .int n))) (some (.int (aV j:Nat))) (some (.list ((cF j).map .int))) (some (.list eX)) none none none none none none none) [(N "deeds",.ao ((gh j).map bO))]):=by
 refine bj (cS c.w.params) _ rfl (fun k=>?_);refine av.for (aO.enum (t.b rfl (by decide+kernel)) (Ev.name (j:= .list ((cO j).map fun n:Nat=> .int n)) (aa 2 rfl)) rfl) ?_;rw[rm _ _];have f:gh j=((cO j).zipIdx 0).foldl (fun m p=>m++[nB p.2 p.1]) []:=by rw[fold_map _ _ _];rfl
 rw[f];refine ez.fold (e7:=Nat×Nat) (m:=List cA) (fun p:Nat×Nat=>D.tup [.int p.2,.int p.1]) (fun m p=>m++[nB p.2 p.1]) (fun J=>(jU j none (some (.list ((cO j).map fun n:Nat=> .int n))) (some (.int (aV j:Nat))) (some (.list ((cF j).map .int))) (some (.list eX)) none none none none none none none)) (fun m=>[(N "deeds",.ao (m.map bO))]) (fun m l=>m.length+l.length≤9) (fun m p l h=>⟨by simp at h⊢;lia,?_⟩) ((cO j).zipIdx 0) [] (by simp[pk]);obtain⟨b,n⟩:=p;have G:m.length≤9:=by simp at h;lia
 refine .mk (bs:=[(N "n",.int (n:Nat)),(N "cell",.int (b:Nat))]) (ρ2:=(jU j none (some (.list ((cO j).map fun n:Nat=> .int n))) (some (.int (aV j:Nat))) (some (.list ((cF j).map .int))) (some (.list eX)) (some (.int (n:Nat))) (some (.int (b:Nat))) (some (.int ((b / 30:Nat):Int))) (some (.str (S (gX (b / 30))))) (some (.str (gK (mA (b % 5*min 1 n))))) none none)) (cU.asg (.cons (.cons .nil))) (.cons (ar 6 rfl) (.cons (ar 7 rfl) .nil)) (t9 rfl rfl (by kernel_rfl)) (gp) ?_ (bG rfl)
 ·refine Wp.cons (av.assign (j:= .int ((b / 30:Nat):Int)) (fun u=>Ev.cast (Ev.bin (Ev.name (j:= .int (b:Nat)) (ab (aa 7 rfl))) Ev.int (aJ.fdiv (by decide) (by decide))) (congrArg D.int (gQ b 30))) trivial (ar 8 rfl) (aa 9 rfl) (cu (by decide+kernel) (cC rfl)) (gp) (fun J=>rfl)) ?_;generalize E:b / 30=r;have w:∀u o s x y e i,(N "tails",some (D.list eX))∈s→Ev (c.wo u) (k+10) o s e (.int (i:Nat))→i<6→Ev (c.wo u) (k+10) o s (.Subscript (.Name (N "tails") x) e y) (.str (S (tl i))):=fun u o s x y e i q v B=>
   Ev.sub (j:= .list eX) (Ev.name q) v (az.list rfl (by(simp+arith)) (by omega) (zk i B))
  have I:=(sX (r % 6) (Nat.mod_lt _ (by decide))).1;have K:=(sX (r / 6 % 6) (Nat.mod_lt _ (by decide))).1;refine Wp.cons (av.assign (j:= .str (S (gX r))) (fun u=>?_) trivial (ar 9 rfl) (aa 10 rfl) (cu (by decide+kernel) (cC rfl)) (gp) (fun J=>rfl)) ?_
  ·have g:S (gX r)=S (tl (r % 6))++S [(97+r / 36) % 55296]++S (tl (r / 6 % 6)):=by rw[cL _ _,cL];rfl
   rw[g];refine Ev.bin (Ev.bin (w u _ _ _ _ _ (r % 6) (ab (aa 5 rfl)) (Ev.cast (Ev.bin (Ev.name (j:= .int (r:Nat)) (ab (aa 8 rfl))) Ev.int (aJ.mod (by decide))) (congrArg D.int (da r 6))) (Nat.mod_lt _ (by decide))) (Ev.call (t.b rfl (by decide+kernel)) (.builtin "chr") (ag.cons (j:= .int (((97+r / 36) % 55296:Nat):Int)) ?_ ag.nil) ?_) (aJ.cat ?_)) (w u _ _ _ _ _ (r / 6 % 6) (ab (aa 5 rfl)) ?_ (Nat.mod_lt _ (by decide))) (aJ.cat ?_)
   ·refine Ev.cast (Ev.bin (Ev.bin Ev.int (Ev.cast (Ev.bin (Ev.name (j:= .int (r:Nat)) (ab (aa 8 rfl))) Ev.int (aJ.fdiv (by decide) (by decide))) (congrArg D.int (gQ r 36))) aJ.add) Ev.int (aJ.mod (by decide))) (congrArg D.int ?_);exact da (97+r / 36) 55296
   ·have H:(97+r / 36) % 55296<55296:=Nat.mod_lt _ (by decide);exact ak.chr (by omega) (by lia)
   ·rw[aE _,aE _,sizeLine_eq];simp;lia
   ·refine Ev.cast (Ev.bin (Ev.cast (Ev.bin (Ev.name (j:= .int (r:Nat)) (ab (aa 8 rfl))) Ev.int (aJ.fdiv (by decide) (by decide))) (congrArg D.int (gQ r 6))) Ev.int (aJ.mod (by decide))) (congrArg D.int (da (r / 6) 6))
   ·rw[cL _ _,aE _,aE _,sizeLine_eq];simp;lia
  have C:b % 5*min 1 n<5:=by
   have q:b % 5<5:=Nat.mod_lt _ (by decide);have v:min 1 n≤1:=Nat.min_le_left _ _;have F:b % 5*min 1 n≤b % 5*1:=Nat.mul_le_mul_left _ v;lia
  refine Wp.cons (av.assign (j:= .str (gK (mA (b % 5*min 1 n)))) (fun u=>?_) trivial (ar 10 rfl) (aa 11 rfl) (cu (by decide+kernel) (cC rfl)) (gp) (fun J=>rfl)) ?_
  ·refine Ev.sub (a5:= .int ((b % 5*min 1 n:Nat):Int)) (Ev.list (ag.cons Ev.aN (ag.cons Ev.aN (ag.cons Ev.aN (ag.cons Ev.aN (ag.cons Ev.aN ag.nil))))) (by refine(?_ :5≤1000000);decide)) (Ev.cast (Ev.bin (Ev.cast (Ev.bin (Ev.name (j:= .int (b:Nat)) (ab (aa 7 rfl))) Ev.int (aJ.mod (by decide))) (congrArg D.int (da b 5))) (Ev.cast (Ev.call (t.b rfl (by decide+kernel)) (.builtin "min") (ag.cons Ev.int (ag.cons (Ev.name (j:= .int (n:Nat)) (ab (aa 6 rfl))) ag.nil)) ak.min) (congrArg D.int (show _=((min 1 n:Nat):Int)from by split<;>lia))) (aJ.mul ?_)) (congrArg D.int (by push_cast;rfl))) (az.list rfl (by omega) (by omega) (zl _ C));have q:b % 5<5:=Nat.mod_lt _ (by decide);generalize b % 5=z at q;have:z=0∨z=1∨z=2∨z=3∨z=4:=by lia
   rcases this with rfl|rfl|rfl|rfl|rfl<;>exact IntMulOk.of_left (by decide+kernel)
  have A:(m++[nB n b]).map bO=m.map bO++[.tup [.str (gK (mA (b % 5*min 1 n))),.int ((b / 5:Nat):Int),.int ((b / 15 % 2:Nat):Int),.str (S (gX r))]]:=by
   rw[List.map_append,←E];rfl
  rw[A];refine Wp.cons (av.append (j:= .tup [.str (gK (mA (b % 5*min 1 n))),.int ((b / 5:Nat):Int),.int ((b / 15 % 2:Nat):Int),.str (S (gX r))]) (.head) (gi m) ⟨trivial,trivial,trivial,trivial,trivial⟩ (fun u=>Ev.tuple (ag.cons (Ev.name (ab (aa 10 rfl))) (ag.cons (Ev.cast (Ev.bin (Ev.name (j:= .int (b:Nat)) (ab (aa 7 rfl))) Ev.int (aJ.fdiv (by decide) (by decide))) (congrArg D.int (gQ b 5))) (ag.cons (Ev.cast (Ev.bin (Ev.cast (Ev.bin (Ev.name (j:= .int (b:Nat)) (ab (aa 7 rfl))) Ev.int (aJ.fdiv (by decide) (by decide))) (congrArg D.int (gQ b 15))) Ev.int (aJ.mod (by decide))) (congrArg D.int (da (b / 15) 2))) (ag.cons (Ev.name (ab (aa 9 rfl))) ag.nil))))) (by rw[List.length_map _];lia)) ?_;exact Wp.nil
set_option maxHeartbeats 2000000 in
theorem zm(q:bp c)(b:List Int):∃v w,gR c.w.params 7=some (v,w)∧∀(k:Nat),av c (k+10) v iQ (jU b none (some (.list ((cO b).map fun n:Nat=> .int n))) (some (.int (aV b:Nat))) (some (.list ((cF b).map .int))) (some (.list eX)) none none none none none none none) [(N "deeds",.ao ((gh b).map bO))] w (.next (jU b none (some (.list ((cO b).map fun n:Nat=> .int n))) (some (.int (aV b:Nat))) (some (.list ((cF b).map .int))) (some (.list eX)) none none none none none none none) [(N "deeds",.ao ((dE b).map bO))]):=by
 refine bj (cS c.w.params) _ rfl (fun k=>?_);have g:(dE b).map bO=(gh b).map bO++(fI (aV b)).map bO:=by unfold dE;rw[List.map_append]
 rw[g];generalize aV b=t;refine av.extend (j:= .list ((fI t).map bO)) .head (gi _) (gi _) rfl (fun u=>?_) (by simp only[List.length_map,fQ,mB];decide);have l:(fI t).map bO=[]++(List.range 8).flatMap fun J=>(fP t).map bO:=by
  unfold fI;rw[List.map_flatMap];rfl
 rw[l];refine Ev.nR (a6:=[(N "lap",none),(N "kind",none),(N "k",none),(N "total",some (.int (t:Nat)))]) (aO.range (k:=8) (q.b rfl (by decide+kernel)) Ev.int (by decide)) (bN.flat (fun j:Nat=>D.int j) (fun J=>(fP t).map bO) (fun a=>[(N "lap",some (.int (a:Nat))),(N "kind",none),(N "k",none),(N "total",some (.int (t:Nat)))]) 1000 (List.range 8) [] (cY (by kernel_rfl)) (fun a=> .head) (fun a J i m=>?_) (Nat.le_of_ble_eq_true rfl)) (dS.Dj (by kernel_rfl)) (by refine(?_ :[N "lap",N "kind",N "k",N "total"].Nodup);decide+kernel) ?_
 ·have A:(fP t).map bO=[Kd.rest,Kd.take].flatMap fun h=>[0,1,2].map fun k=>bO ⟨h,t+k,0,[]⟩:=rfl;have r:i.length+6≤1000:=m;rw[A]at⊢;refine .deeper rfl (aO.list (Ev.list (ag.cons Ev.aN (ag.cons Ev.aN ag.nil))) rfl) (bN.flat (fun h=>D.str (gK h)) (fun h=>[0,1,2].map fun k=>bO ⟨h,t+k,0,[]⟩) (fun h=>[(N "lap",some (.int (a:Nat))),(N "kind",some (.str (gK h))),(N "k",none),(N "total",some (.int (t:Nat)))]) 2000 [Kd.rest,Kd.take] i (cY (by kernel_rfl)) (fun a=> .tail .head) (fun h J i m=>?_) (by refine(?_ :i.length+6≤_);lia));have r:i.length+3≤2000:=m;have B:([0,1,2].map fun k=>bO ⟨h,t+k,0,[]⟩)=[0,1,2].flatMap fun k=>[bO ⟨h,t+k,0,[]⟩]:=rfl;rw[B]at⊢;refine .deeper rfl (aO.range (k:=3) (q.b rfl (by decide+kernel)) Ev.int (by decide)) (bN.flat (fun j:Nat=>D.int j) (fun k=>[bO ⟨h,t+k,0,[]⟩]) (fun k=>[(N "lap",some (.int (a:Nat))),(N "kind",some (.str (gK h))),(N "k",some (.int (k:Nat))),(N "total",some (.int (t:Nat)))]) 3000 [0,1,2] i (cY (by kernel_rfl)) (fun a=> .tail (.tail .head)) (fun o J i m=>?_) (by refine(?_ :i.length+3≤_);lia));have r:i.length+1≤3000:=m;have C:bO ⟨h,t+o,0,[]⟩= .tup [.str (gK h),.int ((t:Int)+(o:Int)),.int 0,.str (N "")]:=by
   have e:N "" =S []:=by decide+kernel
   rw[e];refine(?_ :D.tup [_,.int ((t+o:Nat):Int),_,_]=_)
   push_cast;rfl
  refine .emit rfl (jg.list ?_ (by rw[sizeLine_eq];lia));rw[C];exact Ev.tuple (ag.cons (Ev.name (aa 1 rfl)) (ag.cons (Ev.bin (Ev.name (j:= .int (t:Nat)) (aa 3 rfl)) (Ev.name (j:= .int (o:Nat)) (aa 2 rfl)) aJ.add) (ag.cons Ev.int (ag.cons Ev.aN ag.nil))))
 ·intro p s;simp only[List.mem_cons,List.not_mem_nil,or_false]at s;refine C9 s (fun x=>?_) (fun y=>?_) (fun z=>?_) fun f=>?_
  ·subst x;exact .inl rfl
  ·subst y;exact .inl rfl
  ·subst z;exact .inl rfl
  ·subst f;exact .inr ⟨ab (aa 3 rfl),rfl⟩
theorem w4(o:bp c)(b:List Int)(e:Omega)(m:e.map (·.1)=[N "deeds"]):∃i j,gR c.w.params 8=some (i,j)∧∀(k:Nat),av c (k+10) i iQ (jU b none (some (.list ((cO b).map fun n:Nat=> .int n))) (some (.int (aV b:Nat))) (some (.list ((cF b).map .int))) (some (.list eX)) none none none none none none none) e j (.next (jU b none none (some (.int (aV b:Nat))) (some (.list ((cF b).map .int))) none none none none none none (some (.list (jV (aV b)))) none) e):=by
 refine bj (cS c.w.params) _ rfl (fun k=>?_);refine dC.weaken (a6:=(jU b none none (some (.int (aV b:Nat))) (some (.list ((cF b).map .int))) none none none none none none none none)) ?_ (bG rfl);generalize aV b=t;refine av.assign (j:= .list (jV t)) (fun u=>?_) ⟨⟨trivial,trivial,trivial,trivial⟩,⟨trivial,trivial,trivial,trivial⟩,⟨trivial,trivial,trivial,trivial⟩,trivial⟩ (ar 11 rfl) (aa 12 rfl) (by rw[m];decide+kernel) (gp) (fun J=>rfl);refine Ev.list (ag.cons (Ev.tuple (ag.cons Ev.aN (ag.cons (Ev.cast (Ev.bin (Ev.name (j:= .int (t:Nat)) (ab (aa 3 rfl))) Ev.int (aJ.mod (by decide))) (congrArg D.int (da t 2))) (ag.cons Ev.aN ag.nil)))) (ag.cons (Ev.tuple (ag.cons Ev.aN (ag.cons (Ev.cast (Ev.bin (Ev.name (j:= .int (t:Nat)) (ab (aa 3 rfl))) Ev.int (aJ.mod (by decide))) (congrArg D.int (da t 1000))) (ag.cons Ev.aN ag.nil)))) (ag.cons (Ev.tuple (ag.cons Ev.aN (ag.cons Ev.int (ag.cons (Ev.sub (a5:= .int ((t / 2 % 2:Nat):Int)) (Ev.list (ag.cons Ev.aN (ag.cons Ev.aN ag.nil))) (Ev.cast (Ev.bin (Ev.cast (Ev.bin (Ev.name (j:= .int (t:Nat)) (ab (aa 3 rfl))) Ev.int (aJ.fdiv (by decide) (by decide))) (congrArg D.int (gQ t 2))) Ev.int (aJ.mod (by decide))) (congrArg D.int (da (t / 2) 2))) (az.list rfl (by omega) ?_ ?_)) ag.nil)))) ag.nil))) (by refine(?_ :3≤1000000);decide)
 ·have:t / 2 % 2<2:=Nat.mod_lt _ (by decide);omega
 ·have:t / 2 % 2=0∨t / 2 % 2=1:=by lia
  refine ay this (fun h=>?_) fun h=>?_ <;>rw[h]<;>rfl
theorem w5(j:bp c)(h:List Int)(m:Omega)(A:m.map (·.1)=[N "deeds"]):∃r s,gR c.w.params 9=some (r,s)∧∀(k:Nat),av c (k+10) r iQ (jU h none none (some (.int (aV h:Nat))) (some (.list ((cF h).map .int))) none none none none none none (some (.list (jV (aV h)))) none) m s (.next (jU h none none (some (.int (aV h:Nat))) (some (.list ((cF h).map .int))) none none none none none none (some (.list (jV (aV h)))) (some (bH (ea (aV h))))) m):=by
 refine bj (cS c.w.params) _ rfl (fun k=>?_);generalize aV h=t;have n:=CY t;generalize q:(if t / 2 % 2=0 then N ")c>" else N "<c)")=y at n;have g:y.length≤1000:=by rw[←q];split<;>decide+kernel
 have x:jV t=([(N "~",((t % 2:Nat):Int),N "<a>"),(N ".b",((t % 1000:Nat):Int),N "b)"),(N "~",0,y)]:List (Str×Int×Str)).map fun p=>D.tup [.str p.1,.int p.2.1,.str p.2.2]:=by unfold jV;rw[q];rfl
 have z:bH (ea t)= .list (([(N "~",((t % 2:Nat):Int),N "<a>"),(N ".b",((t % 1000:Nat):Int),N "b)"),(N "~",0,y)]:List (Str×Int×Str)).map fun p=>D.str (lK p.1 p.2.1 p.2.2)):=by
  refine(?_ :D.list [.str (S (ea t 0)),.str (S (ea t 1)),.str (S (ea t 2))]=_);rw[←CW _,←CX _,←n];rfl
 refine dC.weaken (a6:=(jU h none none (some (.int (t:Nat))) (some (.list ((cF h).map .int))) none none none none none none (some (.list (jV t))) none)) ?_ (bG rfl);have B:t % 2<2:=Nat.mod_lt _ (by decide);have C:t % 1000<1000:=Nat.mod_lt _ (by decide);rw[x,z];generalize o:([(N "~",((t % 2:Nat):Int),N "<a>"),(N ".b",((t % 1000:Nat):Int),N "b)"),(N "~",0,y)]:List (Str×Int×Str))=l;refine dC.weaken (a6:=(jU h none none (some (.int (t:Nat))) (some (.list ((cF h).map .int))) none none none none none none (some (.list (l.map fun p=>D.tup [.str p.1,.int p.2.1,.str p.2.2]))) none)) ?_ (bG rfl);refine av.assign (j:= .list (l.map fun p=>D.str (lK p.1 p.2.1 p.2.2))) (fun u=>Ev.lcm (fun p:Str×Int×Str=>D.tup [.str p.1,.int p.2.1,.str p.2.2]) (fun p=> .str (lK p.1 p.2.1 p.2.2)) l (a6:=[]) (aO.list (Ev.name (ab (aa 11 rfl))) rfl) (by kernel_rfl) (fun p b=>?_) (by kernel_rfl) (fun p b=>nomatch b) (by rw[←o];refine(?_ :3≤1000000);decide)) ?_ ?_ (aa 13 rfl) (by rw[A];decide+kernel) (gp) (fun J=>rfl)
 ·have e:p.1.length≤1000∧p.2.2.length≤1000∧0≤p.2.1∧p.2.1<10 ^ 10∧PyData.strOk p.1=true:=by
   rw[←o]at b;simp only[List.mem_cons,List.not_mem_nil,or_false]at b;refine gu b (fun i=>?_) (fun v=>?_) fun w=>?_
   ·subst i;exact gv (show(N "~").length≤1000 from by decide+kernel) (show(N "<a>").length≤1000 from by decide+kernel) (by refine(?_ :(0:Int)≤((t % 2:Nat):Int));omega) (by refine(?_ :((t % 2:Nat):Int)<10 ^ 10);omega) (show PyData.strOk (N "~")=true from by decide+kernel)
   ·subst v;exact gv (show(N ".b").length≤1000 from by decide+kernel) ((show(N "b)").length≤1000 from by decide+kernel)) (by refine(?_ :(0:Int)≤((t % 1000:Nat):Int));omega) (by refine(?_ :((t % 1000:Nat):Int)<10 ^ 10);omega) (show PyData.strOk (N ".b")=true from by decide+kernel)
   ·subst w;exact gv (show(N "~").length≤1000 from by decide+kernel) g (by refine(?_ :(0:Int)≤0);decide) (by refine(?_ :(0:Int)<10 ^ 10);decide) (show PyData.strOk (N "~")=true from by decide+kernel)
  exact Ev.call (j.g (by kernel_rfl)) (.fn (a:=38) (j.fn rfl) rfl) (ag.cons (Ev.name (aa 0 rfl)) ag.nil) (ak.wo (ot j (k+5) p.1 p.2.2 p.2.1 e.1 e.2.1 e.2.2.1 e.2.2.2.1 e.2.2.2.2) ⟨⟨trivial,trivial,trivial,trivial⟩,trivial⟩ trivial)
 ·exact bI.mpr fun d f=>by
   refine bZ f fun p J i=>?_;subst i;trivial
 ·exact ar 12 rfl
noncomputable def aM(h:Nat→List Nat)(s:RS):List (List Nat):=s.ae.zipIdx.map (fun p=>bK h p.2 p.1)++three h
noncomputable def waitOf(m:cm):Int:=(match m.took with|none=>(m.hour:Int)|some h=>(h:Int))-m.hour
noncomputable def dM(h:Nat→List Nat)(b:List Int)(p:cm×Nat):D:= .tup [.int p.1.to,.str (S (h p.1.bb)),.int (waitOf p.1),.int (b.getD p.2 0)]
noncomputable def eM(h:Nat→List Nat)(b:List Int)(p:cm×Nat):Row3:=(S (h p.1.bb),waitOf p.1,b.getD p.2 0)
noncomputable def callsOf(h:Nat→List Nat)(b:List Int)(s:RS)(k:Nat):List Row3:=(s.ae.zipIdx.filter fun p=>p.1.to==k).map (eM h b)
noncomputable def bc(s:RS)(k:Nat):Nat:=((s.log.drop 1).filter fun p=>p.1&&p.2==k).length
noncomputable def aQ(h:Nat→List Nat)(p:Bool×Nat):List Nat:=(if p.1 then 40 else 41)::([92,34,34]++(h p.2++[92,34,34]))
theorem sZ(e:Nat→List Nat)(i:List Int):∀l:List (cm×Nat),aS (l.map (dM e i)):=fun l=>bI.mpr fun d b=>by
 refine bZ b fun p J h=>?_;subst h;exact gv trivial trivial trivial trivial trivial
theorem jW(l:List Row3):Clean (ff l):=⟨trivial,trivial,trivial,eJ du _,trivial⟩
theorem rn(f:m×Nat→D):∀(l:List m)(n a0:Nat),numbered n ((l.zipIdx n).map f)=(l.zipIdx n).map fun p=>D.tup [.int p.2,f p]:=by
 intro L
 induction L with
 |nil=>
  intro n J;exact rfl
 |cons d r h=>
  intro n a0;rw[List.zipIdx_cons,List.map_cons,List.map_cons];refine(?_ :D.tup [.int n,f (d,n)]::numbered (n+1) ((r.zipIdx (n+1)).map f)=_);rw[h (n+1) a0]
theorem mC(O:aT a)(G:Good a d 57):∀t∈aM a d,t.length≤50:=fun t r=>by
 refine dd r (fun h=>?_) fun h=>?_
 ·refine bZ h fun p q b=>?_;subst b;obtain⟨m,i⟩:=p;have n:=List.mem_zipIdx q;have s:=G.len;have o:m∈d.ae:=by
   have:=n.2.2;rw[this];exact List.getElem_mem _
  have e:=G.fh m o;exact mr O e.1 (by lia) e.2.2.2.1
 ·simp only[three,List.mem_cons,List.not_mem_nil,or_false]at h;refine gu h (fun b=>?_) (fun j=>?_) fun k=>?_
  ·subst b;have:=O.len 0 (Nat.succ_pos _);lia
  ·subst j;have:=O.len 1 (Nat.le_succ _);lia
  ·subst k;have:=O.len 2 (Nat.le_refl _);lia
theorem mD(G:Good a d 57):(aM a d).length≤12:=by
 have:=G.len;unfold aM three;simp;omega
theorem A1(s:Nat):∀(l b:List Nat),∀p∈lD s b l,p.length≤b.length+l.length:=by
 intro L
 induction L with
 |nil=>
  intro b p h;have:p=b:=by simpa [ox]using h
  subst this;simp
 |cons c r d=>
  intro b p h;rw[mn]at h;split at h
  ·refine memC h (fun e=>?_) fun h=>?_
   ·subst e;(exact Nat.le_add_right _ _)
   ·have:=d [] p h;simp at this⊢;lia
  ·have:=d (b++[c]) p h;simp at this⊢;lia
theorem pn(t:List Nat):∀r∈cD t,r.length≤t.length:=fun r b=>by
 have h:=A1 10 (fe false t) [] r b;have d:=qB t false;simp at h;(exact Nat.le_trans ‹_› ‹_›)
theorem A2(r:List Nat):cz r=if r.take 1=[46]then 46::r else r:=by
 unfold cz;rcases r with _|⟨c,r⟩
 ·rfl
 ·
  refine(?_ :(if some c=some 46 then 46::c::r else c::r)=if [c]=[46]then 46::c::r else c::r);by_cases h:c=46
  ·subst h;rfl
  ·rw[if_neg (by simpa using h),if_neg (by simpa using h)]
theorem zo(b:Nat→List Nat)(n:Nat)(m:cm):(bP b n m)[((-1:Int)+((bP b n m).length:Nat)).toNat]? =some (.int (match m.took with|none=>(m.hour:Int)|some h=>(h:Int))):=by
 unfold bP;cases m.took<;>rfl
theorem zq(b:Bool)(i j:Nat):PyData.eqv (D.tup [.str (gf b),.int i]).py (D.tup [.str (N "("),.int j]).py=(b&&i==j):=by
 have h:¬(N ")" =N "("):=by decide+kernel
 rcases b with _|_
 ·simp[gf,eC,eD,eE,eF,eG,eH,eI,fR,fH,PyData.eqv,PyData.eqvAll,h]
 ·simp[gf,eC,eD,eE,eF,eG,eH,eI,fR,fH,PyData.eqv,PyData.eqvAll,ny]
theorem A3(l:List (Bool×Nat)):PyData.canLayAll0 (bB (l.map fun p=>D.tup [.str (gf p.1),.int p.2]))=true∧PyData.depthAll (bB (l.map fun p=>D.tup [.str (gf p.1),.int p.2]))≤60:=iN _ fun d e=>by
 refine bZ e fun p J b=>?_;subst b;have h:PyData.strOk (gf p.1)=true:=by cases p.1<;>decide+kernel
 exact⟨by simp[eC,eD,eE,eF,eG,eH,eI,fR,fH,PyData.canLay0,PyData.canLayAll0,h],by simp[eC,eD,eE,eF,eG,eH,eI,fR,fH,PyData.depth,PyData.depthAll]⟩
noncomputable abbrev lE(j:List Int)(t:Nat)(i:List Int)(h:Nat→List Nat)(s:RS)(a b c d e f g:Option D):bD:=[(N "script",some (.list (j.map .int))),(N "bases",none),(N "cells",none),(N "total",some (.int (t:Nat))),(N "sums",some (.list (i.map .int))),(N "tails",none),(N "n",none),(N "cell",none),(N "rest",none),(N "tail",none),(N "kind",none),(N "funcs",none),(N "names",some (bH h)),(N "mails",some (.list (gW h s))),(N "owed",some (.list (dq s))),(N "books",some (.list (dW s))),(N "log",some (.list (eB s))),(N "steps",some (.list (eU s))),(N "debts",some (.list (s.bq.map .int))),(N "texts",a),(N "due",b),(N "calls",c),(N "told",d),(N "woken",e),(N "whole",f),(N "signs",g)]
noncomputable abbrev VF(d:List Int)(t:Nat)(b:List Int)(h:Nat→List Nat)(s:RS):bD:=lE d t b h s (some (.list (aH (aM h s)))) (some (.list (aH ((aM h s).map aI)))) (some (.list (s.ae.zipIdx.map (dM h b)))) (some (.list (three fun k=>ff (callsOf h b s k)))) (some (.list (three fun k=> .int (bc s k)))) (some (jx (cQ (cQ (s.bk 0) (s.bk 1)) (s.bk 2)))) (some (.list (s.log.map fun p=> .str (S (aQ h p)))))
set_option maxHeartbeats 1000000 in
theorem zr{b:Nat→List Nat}(e:bp c)(O:aT b)(r:h.length=9)(m:∀a0∈c4,cZ a0)(p:c4.length≤57)(o:(c4.filter fun a0=>eW a0.kd).length≤9)(q:d=cE b h bF 0 c4):∃i j,gR c.w.params 10=some (i,j)∧∀(k:Nat),av c (k+12) i iQ ((N "deeds",some (.list (c4.map bO)))::(jU b2 none none (some (.int (n:Nat))) (some (.list (h.map .int))) none none none none none none none (some (bH b)))) [] j (.next ((N "deeds",some (.list (c4.map bO)))::(lE b2 n h b d none none none none none none none)) []):=by
 refine bj (cS c.w.params) _ rfl (fun k=>?_);subst q;refine av.jF (u:=[(N "mails",.list (gW b (cE b h bF 0 c4))),(N "owed",.list (dq (cE b h bF 0 c4))),(N "books",.list (dW (cE b h bF 0 c4))),(N "log",.list (eB (cE b h bF 0 c4))),(N "steps",.list (eU (cE b h bF 0 c4))),(N "debts",.list ((cE b h bF 0 c4).bq.map .int))]) (j:=AS b (cE b h bF 0 c4))
  (fun u=>Ev.call (e.g (by kernel_rfl)) (.fn (a:=140) (e.fn rfl) rfl) (ag.cons (Ev.name (ab (aa 0 rfl))) (ag.cons (Ev.name (ab (aa 13 rfl))) (ag.cons (Ev.name (ab (aa 5 rfl))) ag.nil))) (ak.wo (AV e O r m p o k) ⟨gi c4,⟨trivial,trivial,trivial,trivial⟩,fO h,trivial⟩ (my b _)))
  (my b _) (cU.asg (.cons (.cons (.cons (.cons (.cons (.cons .nil))))))) (.cons (ar 14 rfl) (.cons (ar 15 rfl) (.cons (ar 16 rfl) (.cons (ar 17 rfl) (.cons (ar 18 rfl) (.cons (ar 19 rfl) .nil)))))) (t9 rfl rfl (by kernel_rfl)) ?_ (fun J=>rfl) (fun J=>rfl)
 refine(?_ :(N "deeds" ::[N "script",N "bases",N "cells",N "total",N "sums",N "tails",N "n",N "cell",N "rest",N "tail",N "kind",N "funcs",N "names",N "mails",N "owed",N "books",N "log",N "steps",N "debts",N "texts",N "due",N "calls",N "told",N "woken",N "whole",N "signs"]).Nodup);decide+kernel
set_option maxHeartbeats 1000000 in
theorem w6(m:bp c)(O:aT a)(G:Good a h9 57):∃b e,gR c.w.params 11=some (b,e)∧∀(k:Nat),av c (k+12) b iQ (lE b2 n h a h9 none none none none none none none) [] e (.next (lE b2 n h a h9 (some (.list (aH (aM a h9)))) none none none none none none) []):=by
 refine bj (cS c.w.params) _ rfl (fun k=>?_);have o:=G.len;have i:aH (aM a h9)=(h9.ae.zipIdx.map fun p=>D.str (S (bK a p.2 p.1)))++three fun k=> .str (S (a k)):=by
  unfold aH aM;rw[List.map_append,List.map_map];rfl
 refine av.assign (j:= .list (aH (aM a h9))) (fun u=>?_) (dz _) (ar 19 rfl) (aa 20 rfl) (cC rfl) (gp) (fun J=>rfl);rw[i];exact Ev.bin (Ev.lcm (fun p:cm×Nat=>D.list (bP a p.2 p.1)) (fun p=> .str (S (bK a p.2 p.1))) h9.ae.zipIdx (a6:=[]) (aO.list (Ev.name (j:= .list (gW a h9)) (ab (aa 13 rfl))) rfl) (by kernel_rfl) (fun p J=>Ev.sub (j:= .list (bP a p.2 p.1)) (Ev.name (aa 0 rfl)) Ev.int (az.list rfl (by decide) (by decide) rfl)) (by kernel_rfl) (fun p j=>nomatch j) (by simp;lia)) (Ev.name (j:=bH a) (ab (aa 12 rfl))) (aJ.xS rfl rfl (by simp[three];lia))
set_option maxHeartbeats 1000000 in
theorem A4{b:Nat→List Nat}(i:bp c)(O:aT b)(G:Good b h9 57):∃s t,gR c.w.params 12=some (s,t)∧∀(k:Nat),av c (k+12) s iQ (lE b2 n h b h9 (some (.list (aH (aM b h9)))) none none none none none none) [] t (.next (lE b2 n h b h9 (some (.list (aH (aM b h9)))) (some (.list (aH ((aM b h9).map aI)))) none none none none none) []):=by
 refine bj (cS c.w.params) _ rfl (fun k=>?_);have f:=mD G;have x:=mC O G;have m:aH ((aM b h9).map aI)=((aM b h9).filter fun J=>true).map fun n=>D.str (S (aI n)):=by
  rw[List.filter_eq_self.mpr (fun J J=>rfl)];unfold aH;rw[List.map_map];rfl
 rw[m];refine av.iw (fun n=>D.str (S n)) (fun n=>D.str (S (aI n))) (fun J=>true) (aM b h9) (l2:=[]) (fun u=>aO.list (Ev.name (j:= .list (aH (aM b h9))) (ab (aa 19 rfl))) rfl) (by kernel_rfl) (fun J J J=> .nil) (fun u n z J=>?_) (by kernel_rfl) (fun p j=>nomatch j) (by lia) ?_ (ar 20 rfl) (aa 21 rfl) (cC rfl) (gp) (fun J=>rfl)
 ·have C:=x n z;have B:(cD n).length≤100:=by
   have g:=qB n false;have l:=uq 10 (fe false n) [];refine(?_ :(lD 10 [] (fe false n)).length≤_);lia
  have A:=jy n;have o:cK CR ((cD n).map cz)=aI n:=jK n;rw[←o];refine Ev.wL (j:= .list ((cD n).map fun r=>D.str (S (cz r)))) qA (Ev.lcm (fun r=>D.str (S r)) (fun r=>D.str (S (cz r))) (cD n) (a6:=[]) (aO.list (Ev.call (i.g (by kernel_rfl)) (.fn (a:=130) (i.fn rfl) rfl) (ag.cons (Ev.name (j:= .str (S n)) (aa 0 rfl)) ag.nil) (ak.wo (rN i (k+8) n (by lia)) ⟨trivial,trivial⟩ (dz _))) rfl) (by kernel_rfl) (fun r q=>?_) (by kernel_rfl) (fun p j=>nomatch j) (by lia)) (by rw[List.map_map,List.map_map];rfl) ?_ ?_
  ·have y:(S r).length≤1000000:=by
    rw[aE _];have:=pn n r q;lia
   have v:D.str (S (cz r))=if(S (bf r none (some 1) none)==N ".")=true then D.str (N "." ++S r)else D.str (S r):=by
    have w:bf r none (some 1) none=r.take 1:=gc r 1;rw[w,AD,iH _ _,cL _ _,A2 _];by_cases a0:r.take 1=[46]
    ·rw[decide_eq_true a0,if_pos rfl,if_pos a0];rfl
    ·rw[decide_eq_false a0,if_neg a0];rfl
   rw[v];refine Ev.ite (br.cmp (Ev.sub (Ev.name (j:= .str (S r)) (aa 0 rfl)) (Ev.slice .none (.some Ev.int) .none) (az.fo (e6:=none) (f9:=some 1) y)) Ev.aN aB.eqs) (fun J=>Ev.bin Ev.aN (Ev.name (j:= .str (S r)) (aa 0 rfl)) (aJ.cat ?_)) (fun J=>Ev.name (aa 0 rfl));rw[show(Str.ofString ".").length=1 from by decide+kernel,aE _,sizeLine_eq];have:=pn n r q;lia
  ·refine cP (jw n) fun p r e=>?_;rw[e];simp
  ·rw[o];simp;lia
 ·rw[←m];exact dz _
set_option maxHeartbeats 1000000 in
theorem w7(q:bp c)(O:aT a)(G:Good a h9 57)(w:h.length=9):∃i j,gR c.w.params 13=some (i,j)∧∀(k:Nat),av c (k+12) i iQ (lE b2 n h a h9 (some (.list (aH (aM a h9)))) (some (.list (aH ((aM a h9).map aI)))) none none none none none) [] j (.next (lE b2 n h a h9 (some (.list (aH (aM a h9)))) (some (.list (aH ((aM a h9).map aI)))) (some (.list (h9.ae.zipIdx.map (dM a h)))) none none none none) []):=by
 refine bj (cS c.w.params) _ rfl (fun k=>?_);have t:=G.len;refine av.assign (j:= .list (h9.ae.zipIdx.map (dM a h))) (fun u=>Ev.AX (fun p:cm×Nat=> .int p.2) (fun p:cm×Nat=> .list (bP a p.2 p.1)) (dM a h) h9.ae.zipIdx (a6:=[(N "names",some (bH a)),(N "sums",some (.list (h.map .int)))]) (aO.cast (aO.enum (q.b rfl (by decide+kernel)) (Ev.name (j:= .list (gW a h9)) (ab (aa 13 rfl))) rfl) (rn (fun p:cm×Nat=>D.list (bP a p.2 p.1)) h9.ae 0 0)) (by kernel_rfl) (fun p b=>?_) (by kernel_rfl) ?_ (by simp;lia)) (sZ a h _) (ar 21 rfl) (aa 22 rfl) (cC rfl) (gp) (fun J=>rfl)
 ·obtain⟨m,a0⟩:=p;have r:=List.mem_zipIdx b;have s:m∈h9.ae:=by rw[r.2.2];exact List.getElem_mem _
  have e:=G.fh m s;have v:a0<9:=by lia
  refine Ev.tuple (ag.cons (Ev.sub (j:= .list (bP a a0 m)) (Ev.name (aa 1 rfl)) Ev.int (az.list rfl (by decide) (by decide) rfl)) (ag.cons (Ev.sub (j:=bH a) (a5:= .int m.bb) (Ev.name (aa 2 rfl)) (Ev.sub (j:= .list (bP a a0 m)) (Ev.name (aa 1 rfl)) Ev.int (az.list rfl (by decide) (by decide) rfl)) (az.three rfl e.1 (aZ (fun k=>D.str (S (a k))) e.1))) (ag.cons (Ev.bin (Ev.sub (j:= .list (bP a a0 m)) (Ev.name (aa 1 rfl)) (Ev.un Ev.int iz.neg) (az.kH rfl (by decide) ?_ (by decide) (zo a a0 m))) (Ev.sub (j:= .list (bP a a0 m)) (i7:= .int m.hour) (Ev.name (aa 1 rfl)) Ev.int (az.list rfl (by decide) (by decide) rfl)) aJ.sub) (ag.cons (Ev.sub (j:= .list (h.map .int)) (a5:= .int (a0:Nat)) (Ev.name (aa 3 rfl)) (Ev.name (aa 0 rfl)) (az.list rfl (by(simp+arith)) (by omega) ?_)) ag.nil))))
  ·unfold bP;simp;lia
  ·rw[Int.toNat_natCast _,List.getElem?_map,List.getD_eq_getElem?_getD,List.getElem?_eq_getElem (by lia:a0<h.length)];rfl
 ·intro p b;refine memC b (fun o=>?_) fun b=>?_
  ·subst o;exact⟨ab (aa 12 rfl),rfl⟩
  ·rw[List.mem_singleton.mp b];exact⟨ab (aa 4 rfl),rfl⟩
set_option maxHeartbeats 1000000 in
theorem zt(b:bp c)(O:aT a)(G:Good a d 57):∃i m,gR c.w.params 14=some (i,m)∧∀(a0:Nat),av c (a0+12) i iQ (lE b2 k h a d (some (.list (aH (aM a d)))) (some (.list (aH ((aM a d).map aI)))) (some (.list (d.ae.zipIdx.map (dM a h)))) none none none none) [] m (.next (lE b2 k h a d (some (.list (aH (aM a d)))) (some (.list (aH ((aM a d).map aI)))) (some (.list (d.ae.zipIdx.map (dM a h)))) (some (.list (three fun a0=>ff (callsOf a h d a0)))) none none none) []):=by
 refine bj (cS c.w.params) _ rfl (fun a0=>?_);have w:=G.len;have q:(three fun a0=>ff (callsOf a h d a0))=([0,1,2].filter fun J=>true).map fun a0=>ff (callsOf a h d a0):=rfl;have s:∀l:List Nat,aS (l.map fun a0=>ff (callsOf a h d a0)):=fun l=>bI.mpr fun a2 t=>by
  refine bZ t fun p J o=>?_;subst o;exact jW _
 rw[q];refine av.iw (fun j:Nat=>D.int j) (fun a0=>ff (callsOf a h d a0)) (fun J=>true) [0,1,2] (l2:=[(N "calls",some (.list (d.ae.zipIdx.map (dM a h))))]) (fun u=>aO.range (k:=3) (b.b rfl (by decide+kernel)) Ev.int (by decide)) (by kernel_rfl) (fun J J J=> .nil) (fun u a1 x J=>?_) (by kernel_rfl) ?_ (by decide) (s _) (ar 22 rfl) (aa 23 rfl) (cC rfl) (gp) (fun J=>rfl)
 ·have v:(callsOf a h d a1).length≤1000:=by
   unfold callsOf;rw[List.length_map _];refine Nat.le_trans (List.length_filter_le _ _) ?_;simp;lia
  have r:(callsOf a h d a1).map cG=(d.ae.zipIdx.filter fun p=>p.1.to==a1).map fun p=>cG (eM a h p):=by unfold callsOf;rw[List.map_map];rfl
  refine Ev.call (b.g (by kernel_rfl)) (.fn (a:=145) (b.fn rfl) rfl) (ag.cons (j:= .list ((callsOf a h d a1).map cG)) ?_ ag.nil) (ak.wo (rO b (a0+8) (callsOf a h d a1) v) ⟨oC _,trivial⟩ (jW _));rw[r];refine Ev.lc (dM a h) (fun p=>cG (eM a h p)) (fun p=>p.1.to==a1) d.ae.zipIdx (a6:=[(N "hand",some (.int a1))]) (aO.list (Ev.name (j:= .list (d.ae.zipIdx.map (dM a h))) (aa 1 rfl)) rfl) (by kernel_rfl) (fun p J=> .one (br.cmp (j:= .int p.1.to) (Ev.sub (j:=dM a h p) (Ev.name (aa 0 rfl)) Ev.int (az.tup (n:=0) (by decide) (by decide) (by rfl) rfl)) (Ev.name (j:= .int a1) (aa 1 rfl)) (aB.ra.cast (ny _ _)))) (fun p J J=>Ev.sub (j:=dM a h p) (Ev.name (aa 0 rfl)) (Ev.slice (.some Ev.int) .none .none) (az.mU (n:=1) (by decide) (by refine(?_ :1≤4);decide) (by refine(?_ :4≤1000000);decide))) (by kernel_rfl) ?_ (by simp;lia);intro p e;rw[List.mem_singleton.mp e];exact⟨by exact aa 0 rfl,rfl⟩
 ·intro p e;rw[List.mem_singleton.mp e];exact⟨ab (aa 21 rfl),rfl⟩
set_option maxHeartbeats 1000000 in
theorem w8(r:bp c)(O:aT a)(G:Good a d 57):∃o e,gR c.w.params 15=some (o,e)∧∀(a0:Nat),av c (a0+12) o iQ (lE b2 k h a d (some (.list (aH (aM a d)))) (some (.list (aH ((aM a d).map aI)))) (some (.list (d.ae.zipIdx.map (dM a h)))) (some (.list (three fun a0=>ff (callsOf a h d a0)))) none none none) [] e (.next (lE b2 k h a d (some (.list (aH (aM a d)))) (some (.list (aH ((aM a d).map aI)))) (some (.list (d.ae.zipIdx.map (dM a h)))) (some (.list (three fun a0=>ff (callsOf a h d a0)))) (some (.list (three fun a0=> .int (bc d a0)))) none none) []):=by
 refine bj (cS c.w.params) _ rfl (fun a0=>?_);have s:(three fun a0=>D.int (bc d a0))=([0,1,2].filter fun J=>true).map fun a0=>D.int (bc d a0):=rfl;have w:∀l:List Nat,aS (l.map fun a0=>D.int (bc d a0)):=fun l=>bI.mpr fun a2 x=>by
  refine bZ x fun p J q=>?_;subst q;trivial
 rw[s];refine av.iw (fun j:Nat=>D.int j) (fun a0=>D.int (bc d a0)) (fun J=>true) [0,1,2] (l2:=[(N "log",some (.list (eB d)))]) (fun u=>aO.range (k:=3) (r.b rfl (by decide+kernel)) Ev.int (by decide)) (by kernel_rfl) (fun J J J=> .nil) (fun u a1 g J=>?_) (by kernel_rfl) ?_ (by decide) (w _) (ar 23 rfl) (aa 24 rfl) (cC rfl) (gp) (fun J=>rfl)
 ·have A:=G.nu;have B:(eB d).length=d.log.length:=by unfold eB;rw[List.length_map _]
  have b:=az.ed (c:=c.wo u) (l:=eB d) (j:= .list (eB d)) rfl (e6:=some ((1:Nat):Int)) (f9:=none) (h6:=none) (by decide) (by lia);rw[gd]at b;have t:(eB d).drop 1=(d.log.drop 1).map fun p=>D.tup [.str (gf p.1),.int p.2]:=by unfold eB;rw[List.map_drop]
  rw[t]at b;have z:Lay (D.tup [.str (N "("),.int a1]):=by
   have a3:PyData.strOk (N "(")=true:=by decide+kernel
   exact⟨by simp[eC,eD,eE,eF,eG,eH,eI,fR,fH,PyData.canLay0,PyData.canLayAll0,a3],by simp[eC,eD,eE,eF,eG,eH,eI,fR,fH,PyData.depth,PyData.depthAll]⟩
  have i:=A3 (d.log.drop 1);have m:=ak.count (c:=c.wo u) (n:=a0+11) (j:= .list ((d.log.drop 1).map fun p=>D.tup [.str (gf p.1),.int p.2])) (a5:= .tup [.str (N "("),.int a1]) rfl z i.1 i.2;have v:((bB ((d.log.drop 1).map fun p=>D.tup [.str (gf p.1),.int p.2])).countP fun y=>PyData.eqv y (D.tup [.str (N "("),.int a1]).py)=bc d a1:=by
   unfold bc;rw[mS _,List.map_map,List.countP_map,List.countP_eq_length_filter];congr 1;refine List.filter_congr fun p J=>?_;exact zq p.1 p.2 a1
  rw[v]at m;exact Ev.iA (Ev.sub (Ev.name (aa 1 rfl)) (Ev.slice (.some Ev.int) .none .none) b) (gA.list rfl) PySem.F.slot_list_count (ag.cons (Ev.tuple (ag.cons Ev.aN (ag.cons (Ev.name (aa 0 rfl)) ag.nil))) ag.nil) m
 ·intro p f;rw[List.mem_singleton.mp f];exact⟨ab (aa 16 rfl),rfl⟩
set_option maxHeartbeats 1000000 in
theorem w9{b:Nat→List Nat}(j:bp c)(O:aT b)(G:Good b h9 57)(y:∀k,∀p∈(h9.bk k).gk,p.2.length≤1000000):∃e w,gR c.w.params 16=some (e,w)∧∀(k:Nat),av c (k+12) e iQ (lE b2 n h b h9 (some (.list (aH (aM b h9)))) (some (.list (aH ((aM b h9).map aI)))) (some (.list (h9.ae.zipIdx.map (dM b h)))) (some (.list (three fun k=>ff (callsOf b h h9 k)))) (some (.list (three fun k=> .int (bc h9 k)))) none none) [] w (.next (lE b2 n h b h9 (some (.list (aH (aM b h9)))) (some (.list (aH ((aM b h9).map aI)))) (some (.list (h9.ae.zipIdx.map (dM b h)))) (some (.list (three fun k=>ff (callsOf b h h9 k)))) (some (.list (three fun k=> .int (bc h9 k)))) (some (jx (cQ (cQ (h9.bk 0) (h9.bk 1)) (h9.bk 2)))) none) []):=by
 refine bj (cS c.w.params) _ rfl (fun k=>?_);have s:=G.oF;have v:∀k,∀p∈(h9.bk k).gk,p.2.length≤1000000:=fun k p x=>y k p x;have z:∀u e i m o q a0,(N "books",some (D.list (dW h9)))∈i→a0<3→Ev (c.wo u) (k+11) e i (.Subscript (.Name (N "books") m) (.Constant (.int (a0:Nat)) 0 o) q) (jx (h9.bk a0)):=fun u e i m o q a0 a1 t=>
  Ev.sub (Ev.name a1) Ev.int (az.list rfl (by(simp+arith)) (by omega) (aZ (fun k=>jx (h9.bk k)) t))
 have r:∀u e i m o q a0,(N "books",some (D.list (dW h9)))∈i→a0<3→Ev (c.wo u) (k+12) e i (.Subscript (.Name (N "books") m) (.Constant (.int (a0:Nat)) 0 o) q) (jx (h9.bk a0)):=fun u e i m o q a0 a1 t=>
  Ev.sub (Ev.name a1) Ev.int (az.list rfl (by(simp+arith)) (by omega) (aZ (fun k=>jx (h9.bk k)) t))
 refine av.assign (j:=jx (cQ (cQ (h9.bk 0) (h9.bk 1)) (h9.bk 2))) (fun u=>?_) (bU _ _ _ _ _) (ar 24 rfl) (aa 25 rfl) (cC rfl) (gp) (fun J=>rfl);have g:=s 0;have l:=s 1;have A:=s 2;have f:=lh fW (h9.bk 0).gk (h9.bk 1).gk;refine Ev.call (j.g (by kernel_rfl)) (.fn (a:=45) (j.fn rfl) rfl) (ag.cons (j:=jx (cQ (h9.bk 0) (h9.bk 1))) (Ev.call (j.g (by kernel_rfl)) (.fn (a:=45) (j.fn rfl) rfl) (ag.cons (j:=jx (h9.bk 0)) (r u _ _ _ _ _ 0 (ab (aa 15 rfl)) (by decide)) (ag.cons (j:=jx (h9.bk 1)) (r u _ _ _ _ _ 1 (ab (aa 15 rfl)) (by decide)) ag.nil)) (ak.wo (hM j (k+7) _ _ _ _ _ _ _ _ _ _ (v 1) (by lia)) ⟨bU _ _ _ _ _,bU _ _ _ _ _,trivial⟩ (bU _ _ _ _ _))) (ag.cons (j:=jx (h9.bk 2)) (r u _ _ _ _ _ 2 (ab (aa 15 rfl)) (by decide)) ag.nil)) (ak.wo (hM j (k+7) _ _ _ _ _ _ _ _ _ _ (v 2) (by refine(?_ :(dO fW (h9.bk 0).gk (h9.bk 1).gk).length+_≤_);lia)) ⟨bU _ _ _ _ _,bU _ _ _ _ _,trivial⟩ (bU _ _ _ _ _))
set_option maxHeartbeats 1000000 in
theorem xa(v:bp c)(O:aT a)(G:Good a d 57):∃q r,gR c.w.params 17=some (q,r)∧∀(k:Nat),av c (k+12) q iQ (lE b2 n h a d (some (.list (aH (aM a d)))) (some (.list (aH ((aM a d).map aI)))) (some (.list (d.ae.zipIdx.map (dM a h)))) (some (.list (three fun k=>ff (callsOf a h d k)))) (some (.list (three fun k=> .int (bc d k)))) (some (jx (cQ (cQ (d.bk 0) (d.bk 1)) (d.bk 2)))) none) [] r (.next (VF b2 n h a d) []):=by
 refine bj (cS c.w.params) _ rfl (fun k=>?_);have w:=G.nu;have t:=G.kA;refine av.qN (fun p:Bool×Nat=> .str (gf p.1)) (fun p:Bool×Nat=> .int p.2) (fun p=> .str (S (aQ a p))) d.log (l2:=[(N "names",some (bH a))]) (fun u=>aO.zU (Ev.name (j:= .list (eB d)) (ab (aa 16 rfl))) rfl (fun a0 j=>by refine bZ j fun p J i=>?_;subst i;exact⟨_,rfl⟩)) (by kernel_rfl) (fun u p o=>?_) (by kernel_rfl) ?_ (by lia) ?_ (ar 25 rfl) (aa 26 rfl) (cC rfl) (gp) (fun J=>rfl)
 ·have m:=t p o;have x:=O.len p.2 m;have b:N "\\\"\"" =S [92,34,34]:=by decide+kernel
  have e:gf p.1=S [if p.1 then 40 else 41]:=by cases p.1<;>decide+kernel
  have s:S (aQ a p)=gf p.1++N "\\\"\"" ++S (a p.2)++N "\\\"\"" :=by
   rw[b,e,cL _ _,cL _ _,cL]
   first|rfl|(congr 1;unfold aQ;simp)
  rw[s];refine Ev.bin (Ev.bin (Ev.bin (Ev.name (j:= .str (gf p.1)) (aa 0 rfl)) Ev.aN (aJ.cat ?_)) (Ev.sub (j:=bH a) (a5:= .int p.2) (Ev.name (aa 2 rfl)) (Ev.name (aa 1 rfl)) (az.three rfl m (aZ (fun k=>D.str (S (a k))) m))) (aJ.cat ?_)) Ev.aN (aJ.cat ?_)
  ·rw[show Str.ofString "\\\"\"" =_ from b,e,aE _,aE _,sizeLine_eq];simp
  ·rw[show Str.ofString "\\\"\"" =_ from b,e,cL _ _,aE _,aE _,sizeLine_eq];simp;lia
  ·rw[show Str.ofString "\\\"\"" =_ from b,e,cL _ _,cL,aE,aE,sizeLine_eq];simp;lia
 ·intro p o;rw[List.mem_singleton.mp o];exact⟨ab (aa 12 rfl),rfl⟩
 ·exact bI.mpr fun a0 j=>by
   refine bZ j fun p J i=>?_;subst i;trivial
noncomputable def eY(P:Params)(j:Nat):Option (Scope×Expr):=match gR P 18 with
 |some (b,.Return (some (.BoolOp _ h _)) _)=>(h[j]?).map fun e=>(b,e)
 |_=>none
theorem xb(a b c:Str):a++(b++c)=(a++b)++c:=by
 rw[←r5 a,←r5 b,←r5 c,cL _ _,cL _ _,cL _ _,cL,List.append_assoc]
theorem oJ(h:∀d∈l,PyData.eqv d.py d.py=true):PyData.eqv (D.list l).py (D.list l).py=true:=by
 refine(?_ :PyData.eqvAll (bB l) (bB l)=true)
 induction l with
 |nil=>rfl
 |cons d r i=>
  refine(?_ :(PyData.eqv d.py d.py&&PyData.eqvAll (bB r) (bB r))=true);rw[h d List.mem_cons_self,i fun e b=>h e (List.mem_cons_of_mem _ b)];rfl
theorem oK(h:PyData.canLayAll0 (bB l)=true∧PyData.depthAll (bB l)≤60):Lay (.list l):=by
 refine⟨?_,?_⟩
 ·refine(?_ :PyData.canLay0 (.list (bB l))=true);simpa [PyData.canLay0]using h.1
 ·refine(?_ :PyData.depth (.list (bB l))≤64);exact Nat.le_trans (Nat.succ_le_succ h.2) (by decide)
theorem mE(l:List (List Nat)):PyData.eqv (D.list (aH l)).py (D.list (aH l)).py=true:=oJ fun d b=>by
 refine bZ b fun p J h=>?_;subst h;simp[eC,eD,eE,eF,eG,eH,eI,PyData.eqv]
theorem mF(h:∀t∈f8,∀c∈t,c<1114112):Lay (.list (aH f8)):=oK (iN _ fun d i=>by
 refine bZ i fun p j b=>?_;subst b;have e:=hG (h p j);exact⟨by simp[eC,eD,eE,eF,eG,eH,eI,PyData.canLay0,e],by simp[eC,eD,eE,eF,eG,eH,eI,PyData.depth]⟩)
theorem rW(O:aT a)(G:Good a d 57):∀t∈aM a d,t≠ []∧∀c∈t,c<55296:=fun t v=>by
 refine dd v (fun h=>?_) fun h=>?_
 ·refine bZ h fun p u e=>?_;subst e;obtain⟨m,i⟩:=p;have r:=List.mem_zipIdx u;have w:=G.len;have s:m∈d.ae:=by
   have:=r.2.2;rw[this];exact List.getElem_mem _
  have b:=G.fh m s;exact⟨by unfold bK;simp,rV O b.1 (by lia) b.2.2.2.2⟩
 ·have j:∀k,k<3→a k≠ []∧∀c∈a k,c<55296:=fun k b=>⟨O.ne k b,fun c q=>Nat.lt_trans (O.pl k b c q).1 (by decide)⟩;simp only[three,List.mem_cons,List.not_mem_nil,or_false]at h;refine gu h (fun e=>?_) (fun n=>?_) fun o=>?_
  ·subst e;exact j 0 (Nat.succ_pos _)
  ·subst n;exact j 1 (Nat.le_succ _)
  ·subst o;exact j 2 (Nat.le_refl _)
theorem gP.mono(h:gP c n j a5)(p:n≤k):gP c k j a5:=fun A f s i m o g e b d=>h A f s i m (by lia) g e b d
theorem gP.int(h:I=e9):gP c 80 (.int I) (.int e9):=(gP.plain (kC I) (kC e9) (by subst h;simp[eC,eD,eE,eF,eG,eH,eI,PyData.eqv])).mono (by decide)
structure oL{α:Type}(l1 l2:List (Str×α)):Prop where
 len:l1.length=l2.length
 at_:∀p∈l1,l2.lookup p.1=some p.2
theorem gP.enc(h:oL n5 p5)(b:∀a,Lay (p8 a))(e:∀a,PyData.eqv (p8 a).py (p8 a).py=true):gP c 80 (.dict (aC p8 n5)) (.dict (aC p8 p5)):=gP.dict (by unfold aC;rw[List.length_map _,List.length_map _,h.len]) fun p i=>by
 refine bZ i fun q j d=>?_;subst d;refine lQ (p8 q.2) ?_ (b _) (b _) (e _);rw[lookup_enc _ _ _,h.at_ q j];rfl
theorem zv(l:List Int):Lay (bu l):=by
 refine⟨?_,?_⟩
 ·refine(?_ :PyData.canLay0 (.tuple (bB (l.map .int)))=true);simpa [PyData.canLay0]using lay_ints l
 ·refine(?_ :PyData.depth (.tuple (bB (l.map .int)))≤64);exact Nat.le_trans (Nat.succ_le_succ (hC l)) (by decide)
theorem zw(l:List Int):PyData.eqv (bu l).py (bu l).py=true:=by
 refine(?_ :PyData.eqvAll (bB (l.map .int)) (bB (l.map .int))=true)
 induction l with
 |nil=>rfl
 |cons d r h=>
  refine(?_ :(PyData.eqv (.int d) (.int d)&&PyData.eqvAll (bB (r.map .int)) (bB (r.map .int)))=true);rw[h];simp[PyData.eqv]
structure il(b:BK)(w:Int)(rows:List Row3):Prop where
 cc:b.cc=w
 nc:b.nc=rows.length
 tt:b.tt=(rows.map (·.2.1)).sum
 ct:b.ct=(rows.map (·.2.2)).sum
 gk:oL b.gk (fA rows)
theorem il.eq(h:il j4 I g3):∀(j:Nat)(e i:D),([.int j4.cc,.int j4.nc,.int j4.tt,.int j4.ct,.dict (aC bu j4.gk)]:List D)[j]? =some e→([.int I]++[.int g3.length,.int (g3.map (·.2.1)).sum,.int (g3.map (·.2.2)).sum,.dict (aC bu (fA g3))]:List D)[j]? =some i→gP c 80 e i:=fun j e i b d=>by
 rcases j with _|_|_|_|_|j
 ·exact Option.some.inj b▸Option.some.inj d▸ .int h.cc
 ·exact Option.some.inj b▸Option.some.inj d▸ .int h.nc
 ·exact Option.some.inj b▸Option.some.inj d▸ .int h.tt
 ·exact Option.some.inj b▸Option.some.inj d▸ .int h.ct
 ·exact Option.some.inj b▸Option.some.inj d▸ .enc h.gk zv zw
 ·exact nomatch b
noncomputable def kE(h:Nat→List Nat)(s:RS)(k:Nat):List (Str×Int):=(s.ae.zipIdx.filter fun p=>p.1.bb==k).foldl (fun a p=>cb a (S (h p.1.to)) 0) []
theorem xc(h:Nat→List Nat):∀(l:List (cm×Nat))(a:List (Str×Int)),l.foldl (fun b p=>dD b (S (h p.1.to)) (.int 0)) (aC .int a)=aC .int (l.foldl (fun a p=>cb a (S (h p.1.to)) 0) a):=by
 intro L
 induction L with
 |nil=>
  intro a;exact rfl
 |cons p r d=>
  intro a;rw[List.foldl_cons,List.foldl_cons,dN,d]at⊢
theorem zx{f g:m→Option e7}:∀{l:List m},(∀a∈l,f a=g a)→l.filterMap f=l.filterMap g:=by
 intro L
 induction L with
 |nil=>
  intro J;exact rfl
 |cons a r e=>
  intro h;rw[List.filterMap_cons,List.filterMap_cons,h a List.mem_cons_self,e fun b d=>h b (List.mem_cons_of_mem _ d)]
theorem all_range:∀a0:List m,(List.range a0.length).filterMap (fun k=>a0[k]?)=a0:=by
 intro L
 induction L with
 |nil=>
  exact rfl
 |cons x a0 h=>
  rw[List.length_cons,List.range_succ_eq_map,List.filterMap_cons,List.filterMap_map];have h:=h;refine(?_ :x::(List.range a0.length).filterMap (fun k=>(x::a0)[k+1]?)=_);rw[show(fun k=>(x::a0)[k+1]?)=fun k=>a0[k]? from by funext k;rw[List.getElem?_cons_succ],h]
theorem zy(l:List m):bf l none none (some (-1))=l.reverse:=by
 have h:sliceBounds none none (some (-1)) l.length=((l.length:Int)-1,-1,-1):=rfl;unfold bf;rw[h];have i:sliceRange ((l.length:Int)-1) (-1) (-1)=(List.range l.length).map fun k:Nat=>((l.length:Int)-1+ -1*(k:Int)).toNat:=by
  unfold sliceRange;have e:(if(-1:Int)>0 then(if(l.length:Int)-1< -1 then((-1:Int)-((l.length:Int)-1)+ -1-1) / -1 else 0)else(if(l.length:Int)-1> -1 then((l.length:Int)-1- -1- -1-1) / (- -1)else 0)).toNat=l.length:=by
   rw[if_neg (by decide)];split
   ·simp
   ·lia
  dsimp only;rw[e]
 refine(?_ :(sliceRange ((l.length:Int)-1) (-1) (-1)).filterMap (l[·]?)=_);rw[i,List.filterMap_map,←all_range l.reverse,List.length_reverse];refine zx fun k b=>?_;have d:k<l.length:=List.mem_range.mp b;refine(?_ :l[((l.length:Int)-1+ -1*(k:Int)).toNat]? =l.reverse[k]?);rw[List.getElem?_reverse d];exact congrArg (l[·]?) (by rw[Int.neg_mul _ _,Int.one_mul _,←Int.sub_eq_add_neg,Int.sub_sub _ _ _,Nat.sub_sub _ _ _];exact Int.toNat_sub l.length (1+k))
set_option maxHeartbeats 1000000 in
theorem uQ(t:bp c):∃p e,eY c.w.params 0=some (p,e)∧∀(k:Nat)(u:FH),k≤20→Ev (c.wo u) (k+12) p (allOf (VF b2 n h (ea n) h9) []) e (.bool true):=by
 refine bj (cS c.w.params) _ rfl (fun k u a=>?_);have e:bH (ea n)= .list [.str (if n % 2=0 then N "{a}" else N "~:1(<a>)"),.str ((N ".b:" ++Str.ofString (toString ((n % 1000:Nat):Int)))++N "(b))"),.str (if n / 2 % 2=0 then N ")c>" else N "<c)")]:=by
  have v:S (ea n 0)=if n % 2=0 then N "{a}" else N "~:1(<a>)" :=by
   refine(?_ :S (if n % 2=0 then cpsOf "{a}" else cpsOf "~:1(<a>)")=_);split<;>rfl
  have w:S (ea n 1)=(N ".b:" ++Str.ofString (toString ((n % 1000:Nat):Int)))++N "(b))" :=by
   refine(?_ :S (cpsOf ".b:" ++(dg (n % 1000)++cpsOf "(b))"))=_);rw[←cL _ _,←cL _ _,uN _,uN _,x6];exact xb (N ".b:") (Str.ofString (toString ((n % 1000:Nat):Int))) (N "(b))")
  have y:S (ea n 2)=if n / 2 % 2=0 then N ")c>" else N "<c)" :=by
   refine(?_ :S (if n / 2 % 2=0 then cpsOf ")c>" else cpsOf "<c)")=_);split<;>rfl
  refine(?_ :D.list [.str (S (ea n 0)),.str (S (ea n 1)),.str (S (ea n 2))]=_);rw[v,w,y]
 have j:Lay (bH (ea n)):=by
  have O:=sW n;exact mF (f8:=three (ea n)) fun x o c b=>by
   simp only[three,List.mem_cons,List.not_mem_nil,or_false]at o;refine gu o (fun q=>?_) (fun r=>?_) fun s=>?_
   ·subst q;exact Nat.lt_trans (O.pl 0 (by decide) c b).1 (by decide)
   ·subst r;exact Nat.lt_trans (O.pl 1 (by decide) c b).1 (by decide)
   ·subst s;exact Nat.lt_trans (O.pl 2 (by decide) c b).1 (by decide)
 have m:n % 1000<1000:=Nat.mod_lt _ (by decide);have i:=(x8 (n % 1000) m).1;have z:(Str.ofString (toString ((n % 1000:Nat):Int))).length≤4:=by rw[show Str.ofString (toString ((n % 1000:Nat):Int))=S (dg (n % 1000))from(x6 _).symm,aE _];exact i
 refine Ev.cmp (Ev.name (j:=bH (ea n)) (ab (aa 12 rfl))) (a5:=bH (ea n)) ?_ ((aB.vA j j).cast (mE (three (ea n))));rw[e];refine Ev.list (ag.cons (Ev.sub (a5:= .int ((n % 2:Nat):Int)) (Ev.list (ag.cons Ev.aN (ag.cons Ev.aN ag.nil))) (Ev.cast (Ev.bin (Ev.name (j:= .int (n:Nat)) (ab (aa 3 rfl))) Ev.int (aJ.mod (by decide))) (congrArg D.int (da n 2))) (az.list rfl (by omega) ?_ ?_)) (ag.cons (Ev.bin (Ev.bin Ev.aN (Ev.call (t.b rfl (by decide+kernel)) (.type "str") (ag.cons (j:= .int ((n % 1000:Nat):Int)) (Ev.cast (Ev.bin (Ev.name (j:= .int (n:Nat)) (ab (aa 3 rfl))) Ev.int (aJ.mod (by decide))) (congrArg D.int (da n 1000))) ag.nil) (ak.xT ?_)) (aJ.cat ?_)) Ev.aN (aJ.cat ?_)) (ag.cons (Ev.sub (a5:= .int ((n / 2 % 2:Nat):Int)) (Ev.list (ag.cons Ev.aN (ag.cons Ev.aN ag.nil))) (Ev.cast (Ev.bin (Ev.cast (Ev.bin (Ev.name (j:= .int (n:Nat)) (ab (aa 3 rfl))) Ev.int (aJ.fdiv (by decide) (by decide))) (congrArg D.int (gQ n 2))) Ev.int (aJ.mod (by decide))) (congrArg D.int (da (n / 2) 2))) (az.list rfl (by omega) ?_ ?_)) ag.nil))) (by refine(?_ :3≤1000000);decide)
 ·exact Int.ofNat_lt.mpr (Nat.lt_trans (Nat.mod_lt n (by decide:2>0)) (by decide))
 ·refine ay (Nat.mod_two_eq_zero_or_one n) (fun a0=>?_) fun a0=>?_ <;>rw[a0]<;>rfl
 ·exact Nat.lt_of_le_of_lt (Nat.log2_le_self _) (Nat.lt_trans m (by decide))
 ·rw[show(Str.ofString ".b:").length=3 from by decide+kernel,sizeLine_eq];exact Nat.le_trans (Nat.add_le_add_left z 3) (by decide)
 ·have:(Str.ofString ".b:" ++Str.ofString (toString ((n % 1000:Nat):Int))).length≤7:=by
   rw[show Str.ofString (toString ((n % 1000:Nat):Int))=S (dg (n % 1000))from(x6 _).symm,show Str.ofString ".b:" =S (cpsOf ".b:")from rfl,cL _ _,aE _,List.length_append,show(cpsOf ".b:").length=3 from by decide+kernel];exact Nat.add_le_add_left i 3
  rw[show(Str.ofString "(b))").length=4 from by decide+kernel,sizeLine_eq];exact Nat.le_trans (Nat.add_le_add_right this 4) (by decide)
 ·exact Int.ofNat_lt.mpr (Nat.lt_trans (Nat.mod_lt (n / 2) (by decide:2>0)) (by decide))
 ·refine ay (Nat.mod_two_eq_zero_or_one (n / 2)) (fun a0=>?_) fun a0=>?_ <;>rw[a0]<;>rfl
theorem A5(h:i≠ []):norm i≠ []:=by
 rcases i with _|⟨c,r⟩
 ·exact absurd rfl h
 ·
  refine(?_ :kn false (c::r)≠ []);rw[oo];split
  ·simp
  ·split<;>simp
set_option maxHeartbeats 1000000 in
theorem uR(t:bp c)(G:Good a d 57)(s:∀p∈d.steps,p.1=p.2):∃q e,eY c.w.params 1=some (q,e)∧∀(k:Nat)(u:FH),k≤20→Ev (c.wo u) (k+12) q (allOf (VF b2 n h a d) []) e (.bool true):=by
 refine bj (cS c.w.params) _ rfl (fun k u v=>?_);have w:=G.Cw;have o:∀l:List (Bool×Bool),Lay (.list (l.map fun p=>D.bool p.1)):=fun l=>oK (iN _ fun a0 m=>by
  refine bZ m fun p J i=>?_;subst i;exact⟨by simp[eC,eD,eE,eF,eG,eH,eI,PyData.canLay0],by simp[eC,eD,eE,eF,eG,eH,eI,PyData.depth]⟩)
 have r:(d.steps.map fun p=>D.bool p.1)=d.steps.map fun p=>D.bool p.2:=List.map_congr_left fun p b=>by rw[s p b]
 refine Ev.cmp (j:= .list (d.steps.map fun p=>D.bool p.1)) (a5:= .list (d.steps.map fun p=>D.bool p.1)) (Ev.lcm (fun p:Bool×Bool=>D.tup [.bool p.1,.bool p.2]) (fun p=> .bool p.1) d.steps (a6:=[]) (aO.list (Ev.name (j:= .list (eU d)) (ab (aa 17 rfl))) rfl) (by kernel_rfl) (fun p J=>Ev.sub (j:= .tup [.bool p.1,.bool p.2]) (Ev.name (aa 0 rfl)) Ev.int (az.tup (n:=0) (by decide) (by decide) (by rfl) rfl)) (by kernel_rfl) (fun p b=>nomatch b) (by lia)) ?_ ((aB.vA (o _) (o _)).cast (oJ fun a0 m=>by refine bZ m fun p J i=>?_;subst i;simp[eC,eD,eE,eF,eG,eH,eI,PyData.eqv]));rw[r];exact Ev.lcm (fun p:Bool×Bool=>D.tup [.bool p.1,.bool p.2]) (fun p=> .bool p.2) d.steps (a6:=[]) (aO.list (Ev.name (j:= .list (eU d)) (ab (aa 17 rfl))) rfl) (by kernel_rfl) (fun p J=>Ev.sub (j:= .tup [.bool p.1,.bool p.2]) (Ev.name (aa 0 rfl)) Ev.int (az.tup (n:=1) (by decide) (by decide) (by rfl) rfl)) (by kernel_rfl) (fun p b=>nomatch b) (by lia)
set_option maxHeartbeats 1000000 in
theorem uS(b:bp c)(j:h9.bq=List.replicate 27 0):∃o e,eY c.w.params 2=some (o,e)∧∀(a0:Nat)(u:FH),a0≤20→Ev (c.wo u) (a0+12) o (allOf (VF b2 k h a h9) []) e (.bool true):=by
 refine bj (cS c.w.params) _ rfl (fun a0 u s=>?_);have q:((h9.bq.filter fun i=>(i==0)&&(true&&true)).map fun i:Int=>D.int i)=List.replicate 27 (.int 0):=by rw[j];rfl
 have m:Lay (.list (List.replicate 27 (.int 0))):=⟨by decide+kernel,by decide+kernel⟩;refine Ev.cmp (j:= .list (List.replicate 27 (.int 0))) (a5:= .list (List.replicate 27 (.int 0))) ?_ (Ev.cast (Ev.bin (Ev.list (ag.cons Ev.int ag.nil)) Ev.int (aJ.mulL (n:=27) rfl (by simp) (by decide) (by decide))) rfl) ((aB.vA m m).cast (by decide+kernel));rw[←q];exact Ev.lc (fun i:Int=>D.int i) (fun i:Int=>D.int i) (fun i=>(i==0)&&(true&&true)) h9.bq (a6:=[]) (aO.list (Ev.name (j:= .list (h9.bq.map .int)) (ab (aa 18 rfl))) rfl) (by kernel_rfl) (fun i J=> .one (br.bool (dJ.and (br.cmp (Ev.name (j:= .int i) (aa 0 rfl)) Ev.int aB.ra) (fun J=>dJ.and (br.val (Ev.call (b.b rfl (by decide+kernel)) (.builtin "isinstance") (ag.cons (Ev.name (j:= .int i) (aa 0 rfl)) (ag.cons (Ev.glob (C:= .type "int") (j:= .ty "int") (b.b rfl (by decide+kernel)) (fun f=>rfl)) ag.nil)) ak.yi) jY.bool) (fun J=>dJ.kU))))) (fun i J J=>Ev.name (aa 0 rfl)) (by kernel_rfl) (fun p r=>nomatch r) (by rw[j];decide)
set_option maxHeartbeats 1000000 in
theorem uT{b:Nat→List Nat}(i:bp c)(O:aT b)(G:Good b h9 57):∃o e,eY c.w.params 3=some (o,e)∧∀(k:Nat)(u:FH),k≤20→Ev (c.wo u) (k+12) o (allOf (VF b2 n h b h9) []) e (.bool true):=by
 refine bj (cS c.w.params) _ rfl (fun k u f=>?_);have z:=mD G;have t:=mC O G;have y:=rW O G;have m:Lay (.list (aH ((aM b h9).map aI))):=mF fun q w c s=>by
  refine bZ w fun x j r=>?_;subst r;have:=nx (y x j).2 c s;lia
 refine Ev.cmp (j:= .list (aH ((aM b h9).map aI))) ?_ (Ev.name (j:= .list (aH ((aM b h9).map aI))) (ab (aa 20 rfl))) ((aB.vA m m).cast (mE _));have e:aH ((aM b h9).map aI)=(aM b h9).map fun x=>D.str (S (aI x)):=by unfold aH;rw[List.map_map];rfl
 rw[e];exact Ev.lcm (fun x=>D.str (S x)) (fun x=>D.str (S (aI x))) (aM b h9) (a6:=[]) (aO.list (Ev.name (j:= .list (aH (aM b h9))) (ab (aa 19 rfl))) rfl) (by kernel_rfl) (fun x j=>Ev.call (i.g (by kernel_rfl)) (.fn (a:=109) (i.fn rfl) rfl) (ag.cons (Ev.name (j:= .str (S x)) (aa 0 rfl)) ag.nil) (ak.wo (mh i (k+9) x (by have:=t x j;lia)) ⟨trivial,trivial⟩ trivial)) (by kernel_rfl) (fun p v=>nomatch v) (by lia)
set_option maxHeartbeats 1000000 in
theorem s7{i:Nat→List Nat}(j:bp c)(O:aT i)(G:Good i h9 57):∃v e,eY c.w.params 4=some (v,e)∧∀(k:Nat)(u:FH),k≤20→Ev (c.wo u) (k+12) v (allOf (VF b2 n h i h9) []) e (.bool true):=by
 refine bj (cS c.w.params) _ rfl (fun k u L=>?_);have H:=mD G;have A:=mC O G;have r:=rW O G;have s:Lay (.list (aH ((aM i h9).map aI))):=mF fun q C c f=>by
  refine bZ C fun x m w=>?_;subst w;have:=nx (r x m).2 c f;lia
 refine Ev.cmp (j:= .list (aH ((aM i h9).map aI))) ?_ (Ev.name (j:= .list (aH ((aM i h9).map aI))) (ab (aa 20 rfl))) ((aB.vA s s).cast (mE _));have e:aH ((aM i h9).map aI)=(aM i h9).map fun x=>D.str (S (aI x)):=by unfold aH;rw[List.map_map];rfl
 rw[e];refine Ev.lcm (fun x=>D.str (S x)) (fun x=>D.str (S (aI x))) (aM i h9) (a6:=[]) (aO.list (Ev.name (j:= .list (aH (aM i h9))) (ab (aa 19 rfl))) rfl) (by kernel_rfl) (fun x m=>?_) (by kernel_rfl) (fun p B=>nomatch B) (by lia);have Q:=A x m;have M:(norm x).length≤2*x.length:=kr x false;have o:∀c∈norm x,c<55296:=sU (by decide) x false (r x m).2;have P:=jy x;have E:aI x≠ []:=fun q=>by
  have F:=la (norm x) true;have I:(bT true (norm x)).length=0:=by refine(?_ :(aI x).length=0);rw[q];rfl
  have y:norm x≠ []:=A5 (r x m).1;have J:(norm x).length≠0:=fun z=>y (List.length_eq_zero_iff.mp z);lia
 have t:(utf8 (norm x)).length≤16000000:=by
  have:=rE (norm x) o;lia
 have K:=ak.encode (c:=c.wo u) (n:=k+9) (x:=S (norm x)) o t;have g:=ak.decode (c:=c.wo u) (k:=k+11) (x:=S (aI x)) (e8:=(utf8 (bT true (norm x))).toArray) rfl (nx (r x m).2) E (by rw[aE _];lia);have l:ak (c.wo u) (k+11) (.builtin "bytes.decode") [.bytes (utf8 (bT true (norm x))).toArray] (.str (S (aI x))):=g;exact Ev.iA (Ev.call (j.g (by kernel_rfl)) (.fn (a:=116) (j.fn rfl) rfl) (ag.cons (j:= .bytes (utf8 (norm x)).toArray) (Ev.iA (Ev.call (j.g (by kernel_rfl)) (.fn (a:=123) (j.fn rfl) rfl) (ag.cons (Ev.name (j:= .str (S x)) (aa 0 rfl)) ag.nil) (ak.wo (yD j (k+9) x (by lia)) ⟨trivial,trivial⟩ trivial)) gA.str PySem.F.slot_str_encode ag.nil (ak.encode (x:=S (norm x)) o t)) ag.nil) (ak.wo (qs j (k+9) (norm x) (by lia) o) ⟨trivial,trivial⟩ trivial)) gA.bytes FB.slot_bytes_decode ag.nil l
set_option maxHeartbeats 1000000 in
theorem s8(x:bp c)(O:aT a)(G:Good a d 57):∃b e,eY c.w.params 5=some (b,e)∧∀(k:Nat)(u:FH),k≤20→Ev (c.wo u) (k+12) b (allOf (VF b2 n h a d) []) e (.bool true):=by
 refine bj (cS c.w.params) _ rfl (fun k u H=>?_);have E:∀a0∈[0,1,2],Ev (c.wo u) (k+12) (default) [] (.List [] ⟨0,0,0,0⟩) (.list [])→True:=fun J J J=>trivial;clear E;have l:N "'" =S [39]:=sR;have g:Lay (.list ([0,1,2].map fun j:Nat=>D.tup [.none,.none,.str (S (a j++[39]))])):=oK (iN _ fun a2 o=>by
  refine bZ o fun i B w=>?_;subst w;have C:i<3:=by simp at B;lia
  have A:PyData.strOk (S (a i++[39]))=true:=hG fun c y=>by
   refine dd y (fun a1=>?_) fun a1=>?_
   ·have:=(O.pl _ C c a1).1;lia
   ·have:c=39:=by simpa using a1
    lia
  exact⟨by simp[eC,eD,eE,eF,eG,eH,eI,fR,fH,PyData.canLay0,PyData.canLayAll0,A],by simp[eC,eD,eE,eF,eG,eH,eI,fR,fH,PyData.depth,PyData.depthAll]⟩)
 have z:∀a0,a0<3→∀b q s t v,(N "name",some (D.str (S (a a0))))∈q→Ev (c.wo u) (k+12) b q (.BinOp (.Name (N "name") s) .Add (.Constant (.str (N "'")) 0 t) v) (.str (S (a a0++[39]))):=fun a0 r b q s t v a1=>by
  rw[←cL _ _,←l];refine Ev.bin (Ev.name a1) Ev.aN (aJ.cat ?_);have:=O.len a0 r;rw[aE _,show(N "'").length=1 from by decide+kernel,sizeLine_eq];lia
 have F:∀a0,a0<3→∀b q s t v,(N "name",some (D.str (S (a a0))))∈q→Ev (c.wo u) (k+12) b q (.BinOp (.Name (N "name") s) .Add (.Constant (.str (N "'")) 0 t) v) (.str (S (a a0++[39]))):=z;refine Ev.cmp (j:= .list ([0,1,2].map fun j:Nat=>D.tup [.none,.none,.str (S (a j++[39]))])) (a5:= .list ([0,1,2].map fun j:Nat=>D.tup [.none,.none,.str (S (a j++[39]))])) ?_ ?_ ((aB.vA g g).cast (oJ fun a2 o=>by refine bZ o fun p J w=>?_;subst w;simp[eC,eD,eE,eF,eG,eH,eI,fR,fH,PyData.eqv,PyData.eqvAll]))
 ·refine Ev.lcm (fun j:Nat=>D.str (S (a j))) (fun j:Nat=>D.tup [.none,.none,.str (S (a j++[39]))]) [0,1,2] (a6:=[]) (aO.list (Ev.name (j:=bH a) (ab (aa 12 rfl))) rfl) (by kernel_rfl) (fun a0 r=>?_) (by kernel_rfl) (fun p f=>nomatch f) (by decide);have m:a0<3:=by simp at r;lia
  have I:=O.len a0 m;have o:js (S (a a0++[39]))= .tup [.none,.none,.str (S (a a0++[39]))]:=wC O m;rw[←o];refine Ev.call (x.g (by kernel_rfl)) (.fn (a:=87) (x.fn rfl) rfl) (ag.cons (z a0 m _ _ _ _ _ (aa 0 rfl)) ag.nil) (ak.wo (ka x (k+8) (S (a a0++[39])) (by rw[aE _];simp;lia) ?_) ⟨trivial,trivial⟩ (by rw[o];exact cp trivial trivial trivial trivial));rw[lg _,ux _ [] (fun c y=>(O.pl _ m c y).2.2.2.1) (fun J a1=>nomatch a1)];simp
 ·refine Ev.lcm (fun j:Nat=>D.str (S (a j))) (fun j:Nat=>D.tup [.none,.none,.str (S (a j++[39]))]) [0,1,2] (a6:=[]) (aO.list (Ev.name (j:=bH a) (ab (aa 12 rfl))) rfl) (by kernel_rfl) (fun a0 r=>?_) (by kernel_rfl) (fun p f=>nomatch f) (by decide);have m:a0<3:=by simp at r;lia
  exact Ev.tuple (ag.cons Ev.iy (ag.cons Ev.iy (ag.cons (z a0 m _ _ _ _ _ (aa 0 rfl)) ag.nil)))
set_option maxHeartbeats 1000000 in
theorem xd(y:bp c)(O:aT a)(G:Good a h9 57)(B:∀a0,a0<3→oL (h9.aK a0) (kE a h9 a0)):∃x e,eY c.w.params 6=some (x,e)∧∀(a0:Nat)(u:FH),a0≤20→Ev (c.wo u) (a0+12) x (allOf (VF b2 k h a h9) []) e (.bool true):=by
 refine bj (cS c.w.params) _ rfl (fun a0 u t=>?_);have C:=G.len;refine Ev.cmp (j:= .list (dq h9)) (a5:= .list ([0,1,2].map fun a0=>D.dict (aC .int (kE a h9 a0)))) (Ev.name (ab (aa 14 rfl))) ?_ (aB.x7 (n:=80) (by decide) rfl fun j o w r s=>?_)
 ·refine Ev.lcm (fun j:Nat=>D.int j) (fun a0=>D.dict (aC .int (kE a h9 a0))) [0,1,2] (a6:=[(N "mails",some (.list (gW a h9))),(N "names",some (bH a))]) (aO.range (k:=3) (y.b rfl (by decide+kernel)) Ev.int (by decide)) (by kernel_rfl) (fun a1 E=>?_) (by kernel_rfl) ?_ (by decide)
  ·have e:=xc a (h9.ae.zipIdx.filter fun p=>p.1.bb==a1) [];have f:aC D.int (kE a h9 a1)=(h9.ae.zipIdx.filter fun p=>p.1.bb==a1).foldl (fun z p=>dD z (S (a p.1.to)) (.int 0)) []:=e.symm;rw[f];refine Ev.dc (fun p:cm×Nat=>D.list (bP a p.2 p.1)) (fun J=> .int 0) (fun p=>S (a p.1.to)) (fun p=>p.1.bb==a1) h9.ae.zipIdx (a6:=[(N "hand",some (.int a1)),(N "names",some (bH a))]) (aO.list (Ev.name (j:= .list (gW a h9)) (aa 1 rfl)) rfl) (by kernel_rfl) (fun p J=> .one (br.cmp (j:= .int p.1.bb) (Ev.sub (j:= .list (bP a p.2 p.1)) (Ev.name (aa 0 rfl)) Ev.int (az.list rfl (by decide) (by decide) rfl)) (Ev.name (j:= .int a1) (aa 1 rfl)) (aB.ra.cast (ny _ _)))) (fun p b J=>?_) (fun p J J=>Ev.int) (by kernel_rfl) ?_ (by simp;lia)
   ·obtain⟨m,i⟩:=p;have g:=List.mem_zipIdx b;have A:m∈h9.ae:=by rw[g.2.2];exact List.getElem_mem _
    have t:=(G.fh m A).2.1;exact Ev.sub (j:=bH a) (a5:= .int m.to) (Ev.name (aa 2 rfl)) (Ev.sub (j:= .list (bP a i m)) (Ev.name (aa 0 rfl)) Ev.int (az.list rfl (by decide) (by decide) rfl)) (az.three rfl t (aZ (fun a0=>D.str (S (a a0))) t))
   ·intro p b;refine memC b (fun q=>?_) fun b=>?_
    ·subst q;exact⟨by exact aa 0 rfl,rfl⟩
    ·rw[List.mem_singleton.mp b];exact⟨by exact aa 2 rfl,rfl⟩
  ·intro p b;refine memC b (fun q=>?_) fun b=>?_
   ·subst q;exact⟨ab (aa 13 rfl),rfl⟩
   ·rw[List.mem_singleton.mp b];exact⟨ab (aa 12 rfl),rfl⟩
 ·have v:∀j,j<3→gP (c.wo u) 80 (.dict (aC .int (h9.aK j))) (.dict (aC .int (kE a h9 j))):=fun j l=> .enc (B j l) kC fun i=>by simp[eC,eD,eE,eF,eG,eH,eI,PyData.eqv]
  match j with
  |0=>cases r;cases s;exact v 0 (by decide)
  |1=>cases r;cases s;exact v 1 (by decide)
  |2=>cases r;cases s;exact v 2 (by decide)
  |n+3=>contradiction
set_option maxHeartbeats 1000000 in
theorem uU(q:bp c)(t:∀a1,a1<3→il (h9.bk a1) (bc h9 a1) (callsOf a h h9 a1)):∃o e,eY c.w.params 7=some (o,e)∧∀(a1:Nat)(u:FH),a1≤20→Ev (c.wo u) (a1+12) o (allOf (VF b2 k h a h9) []) e (.bool true):=by
 refine bj (cS c.w.params) _ rfl (fun a1 u x=>?_);have y:∀a0,(D.tup ([.int (bc h9 a0)]++[.int (callsOf a h h9 a0).length,.int ((callsOf a h h9 a0).map (·.2.1)).sum,.int ((callsOf a h h9 a0).map (·.2.2)).sum,.dict (aC bu (fA (callsOf a h h9 a0)))]))= .tup ([.int (bc h9 a0)]++[.int (callsOf a h h9 a0).length,.int ((callsOf a h h9 a0).map (·.2.1)).sum,.int ((callsOf a h h9 a0).map (·.2.2)).sum,.dict (aC bu (fA (callsOf a h h9 a0)))]):=fun J=>rfl;refine Ev.cmp (j:= .list (dW h9)) (a5:= .list ([0,1,2].map fun a0:Nat=>D.tup ([.int (bc h9 a0)]++[.int (callsOf a h h9 a0).length,.int ((callsOf a h h9 a0).map (·.2.1)).sum,.int ((callsOf a h h9 a0).map (·.2.2)).sum,.dict (aC bu (fA (callsOf a h h9 a0)))]))) (Ev.name (ab (aa 15 rfl))) ?_ (aB.x7 (n:=81) (by decide) rfl fun j r s b i=>?_)
 ·refine Ev.AX (fun a0:Nat=>D.int (bc h9 a0)) (fun a0=>ff (callsOf a h h9 a0)) (fun a0:Nat=>D.tup ([.int (bc h9 a0)]++[.int (callsOf a h h9 a0).length,.int ((callsOf a h h9 a0).map (·.2.1)).sum,.int ((callsOf a h h9 a0).map (·.2.2)).sum,.dict (aC bu (fA (callsOf a h h9 a0)))])) [0,1,2] (a6:=[]) ?_ (by kernel_rfl) (fun a0 J=>?_) (by kernel_rfl) (fun p w=>nomatch w) (by decide)
  ·exact aO.cast (aO.zip (q.b rfl (by decide+kernel)) (ag.cons (Ev.name (j:= .list (three fun a1=> .int (bc h9 a1))) (ab (aa 23 rfl))) (ag.cons (Ev.name (j:= .list (three fun a1=>ff (callsOf a h h9 a1))) (ab (aa 22 rfl))) ag.nil)) rfl rfl) rfl
  ·exact Ev.bin (Ev.tuple (ag.cons (Ev.name (j:= .int (bc h9 a0)) (aa 0 rfl)) ag.nil)) (Ev.name (j:=ff (callsOf a h h9 a0)) (aa 1 rfl)) (aJ.BZ (by simp) (by simp) (by simp))
 have m:∀j,j<3→gP (c.wo u) 81 (jx (h9.bk j)) (D.tup ([.int (bc h9 j)]++[.int (callsOf a h h9 j).length,.int ((callsOf a h h9 j).map (·.2.1)).sum,.int ((callsOf a h h9 j).map (·.2.2)).sum,.dict (aC bu (fA (callsOf a h h9 j)))])):=fun j v=>gP.tup rfl (t j v).eq;rcases j with _|_|_|j
 ·exact Option.some.inj b▸Option.some.inj i▸m 0 (by decide)
 ·exact Option.some.inj b▸Option.some.inj i▸m 1 (by decide)
 ·exact Option.some.inj b▸Option.some.inj i▸m 2 (by decide)
 ·exact nomatch b
set_option maxHeartbeats 1000000 in
theorem uV{b:Nat→List Nat}(i:bp c)(G:Good b h9 57)(q:il (cQ (cQ (h9.bk 0) (h9.bk 1)) (h9.bk 2)) (([bc h9 0,bc h9 1,bc h9 2].map fun a0:Nat=>(a0:Int)).sum) (h9.ae.zipIdx.map (eM b h))):∃j e,eY c.w.params 8=some (j,e)∧∀(k:Nat)(u:FH),k≤20→Ev (c.wo u) (k+12) j (allOf (VF b2 n h b h9) []) e (.bool true):=by
 refine bj (cS c.w.params) _ rfl (fun k u s=>?_);have r:=G.len;have m:(h9.ae.zipIdx.map (eM b h)).length≤1000:=by simp;lia
 refine Ev.cmp (j:=jx (cQ (cQ (h9.bk 0) (h9.bk 1)) (h9.bk 2))) (a5:= .tup ([.int (([bc h9 0,bc h9 1,bc h9 2].map fun a0:Nat=>(a0:Int)).sum)]++[.int (h9.ae.zipIdx.map (eM b h)).length,.int ((h9.ae.zipIdx.map (eM b h)).map (·.2.1)).sum,.int ((h9.ae.zipIdx.map (eM b h)).map (·.2.2)).sum,.dict (aC bu (fA (h9.ae.zipIdx.map (eM b h))))])) (Ev.name (ab (aa 24 rfl))) (Ev.bin (Ev.tuple (ag.cons (Ev.call (i.b rfl (by decide+kernel)) (.builtin "sum") (ag.cons (Ev.name (j:= .list (three fun k=> .int (bc h9 k))) (ab (aa 23 rfl))) ag.nil) (ak.sum rfl)) ag.nil)) (Ev.call (i.g (by kernel_rfl)) (.fn (a:=145) (i.fn rfl) rfl) (ag.cons (j:= .list ((h9.ae.zipIdx.map (eM b h)).map cG)) ?_ ag.nil) (ak.wo (rO i (k+8) (h9.ae.zipIdx.map (eM b h)) m) ⟨oC _,trivial⟩ (jW _))) (aJ.BZ (by simp) (by simp) (by simp))) (aB.Cz (n:=80) (by decide) rfl q.eq);rw[List.map_map];exact Ev.lcm (dM b h) (fun p=>cG (eM b h p)) h9.ae.zipIdx (a6:=[]) (aO.list (Ev.name (j:= .list (h9.ae.zipIdx.map (dM b h))) (ab (aa 21 rfl))) rfl) (by kernel_rfl) (fun p J=>Ev.sub (j:=dM b h p) (Ev.name (aa 0 rfl)) (Ev.slice (.some Ev.int) .none .none) (az.mU (n:=1) (by decide) (by refine(?_ :1≤4);decide) (by refine(?_ :4≤1000000);decide))) (by kernel_rfl) (fun p o=>nomatch o) (by simp;lia)
theorem rX(O:aT a){p:Bool×Nat}(h:p.2<3):(aQ a p).length≤27∧∀c∈aQ a p,c<128:=by
 have e:=O.len p.2 h;refine⟨by unfold aQ;simp;omega,fun c d=>?_⟩;unfold aQ at d;simp only[List.mem_cons,List.mem_append,List.not_mem_nil,or_false]at d;rcases d with b|(b|b|b)|b|b|b|b
 ·rw[b];split<;>decide
 all_goals first|lia|exact(O.pl p.2 h c b).1
theorem mG(l:List (List Nat)):cK [] l=l.flatten:=by
 rcases l with _|⟨p,r⟩
 ·rfl
 ·
  refine(?_ :p++r.flatMap ([]++·)=_);rw[List.flatten_cons];congr 1
  induction r with
  |nil=>rfl
  |cons q r h=>rw[List.flatMap_cons,h];rfl
theorem Ev.CB(q:Ev c (n+1) e r o j)(p:j.bt=some ((f8.map S).map D.str))(m:(f8.flatten).length≤900000)(v:noStar [o]:=by rfl)(w:∀h,starEach [o] h=(false,eval o h)::starEach [] h:=by intro J;rfl)(s:lB b1 [o]:=by intro J;rfl)(u:(Y.endLine==b1.line)=true:=by rfl):Ev c (n+1) e r (.Call (.Attribute (.Constant (.str (N "")) k O) (Str.ofString "join") Y) [o] [] b1) (.str (S f8.flatten)):=by
 have d:N "" =S []:=by decide+kernel
 rw[←mG _];have t:ak c n (.builtin "str.join") [.str (N ""),j] (.str (S (cK [] f8))):=by
  rw[d];have i:(f8.map S).toArray.foldl (· +·.length+(S []).length) 0≤1000000:=by
   rcases f8 with _|⟨a,a0⟩
   ·decide
   ·
    rw[oB [] (a::a0) (by simp),mG _];simp at m⊢;lia
  have:=ak.join (c:=c) (n:=n) (x:=S []) (j:=j) (p:=f8.map S) p i (by rw[dU _ _,aE _,mG _];lia);rw[dU]at this;exact this
 generalize b:Expr.Constant (Const.str (N "")) k O=a1;exact Ev.iA (by subst b;exact Ev.aN) gA.str PySem.F.slot_str_join (ag.cons q ag.nil w) t rfl v (by intro J;subst b;rfl) s u
theorem lz{h:Nat→List Nat}(b:bp c)(a0:aT h)(B:n≤20)(L:List (Bool×Nat))(m:∀p∈L,p.2<3)(x:L.length≤20)(u:Ev (c.wo f) (n+12) e r o (.list (L.map fun p=> .str (S (aQ h p)))))(w:e.names.lookup (N "_check_parenthesis")=some .globalImplicit)(z:noStar [o])(g:∀d,starEach [o] d=(false,eval o d)::starEach [] d)(v:lB f0 [o])(y:(b1.endLine==f0.line)=true):
  Ev (c.wo f) (n+12) e r (.Call (.Name (N "_check_parenthesis") O) [.Call (.Attribute (.Constant (.str (N "")) k Y) (Str.ofString "join") b1) [o] [] f0] [] k0) (.bool (cN (L.flatMap (aQ h)))):=by
 have q:(L.map (aQ h)).flatten=L.flatMap (aQ h):=(List.flatMap_def ..).symm;have C:(L.flatMap (aQ h)).length≤540:=by
  have:=rQ (aQ h) 27 L fun p j=>(rX a0 (m p j)).1;have A:L.length*27≤20*27:=Nat.mul_le_mul_right _ x
  (exact Nat.le_trans ‹_› ‹_›)
 have t:(L.flatMap (aQ h)).all (· <128)=true:=List.all_eq_true.mpr fun c i=>by
  refine au (List.mem_flatMap.mp i) fun p j i=>?_;exact decide_eq_true ((rX a0 (m p j)).2 c i)
 have s:=Ev.CB (c:=c.wo f) (n:=n+11) (k:=k) (O:=Y) (Y:=b1) (b1:=f0) (f8:=L.map (aQ h)) u (by rw[List.map_map,List.map_map];rfl) (by rw[q];lia) z g v y;rw[q]at s;exact Ev.call (b.g (by kernel_rfl)) (.fn (a:=80) (b.fn rfl) rfl) (ag.cons s ag.nil) (ak.wo (ml b (n+4) ⟨by lia,by lia⟩ (L.flatMap (aQ h)) (by lia) t) ⟨trivial,trivial⟩ trivial) w
set_option maxHeartbeats 1000000 in
theorem xe(j:bp c)(O:aT a)(G:Good a d 57)(m:d.log.length≤20)(p:cN ((d.log).flatMap (aQ a))=true):∃i e,eY c.w.params 9=some (i,e)∧∀(k:Nat)(u:FH),k≤20→Ev (c.wo u) (k+12) i (allOf (VF b2 n h a d) []) e (.bool true):=by
 refine bj (cS c.w.params) _ rfl (fun k u o=>?_);refine Ev.cmp (j:= .bool (cN (d.log.flatMap (aQ a)))) (lz j O o d.log G.kA m (Ev.name (ab (aa 25 rfl))) rfl rfl (by intro J;rfl) (by intro J;rfl) rfl) (Ev.lU (Q:=true)) (aB.isBool.cast (by rw[p];rfl))
set_option maxHeartbeats 1000000 in
theorem xf(o:bp c)(O:aT a)(G:Good a d 57)(s:d.log.length≤20)(i:cN (((d.log.take (d.log.length-1)).drop 1).flatMap (aQ a))=true):∃m e,eY c.w.params 10=some (m,e)∧∀(k:Nat)(u:FH),k≤20→Ev (c.wo u) (k+12) m (allOf (VF b2 n h a d) []) e (.bool true):=by
 refine bj (cS c.w.params) _ rfl (fun k u q=>?_);have r:(d.log.map fun p=>D.str (S (aQ a p))).length≤1000000:=by rw[List.length_map _];lia
 have j:=az.ed (c:=c.wo u) (l:=d.log.map fun p=>D.str (S (aQ a p))) (j:= .list (d.log.map fun p=>D.str (S (aQ a p)))) rfl (e6:=some 1) (f9:=some (-1)) (h6:=none) (by decide) r;rw[iP,ui]at j;refine Ev.cmp (j:= .bool (cN (((d.log.take (d.log.length-1)).drop 1).flatMap (aQ a)))) (lz o O q ((d.log.take (d.log.length-1)).drop 1) (fun p i=>G.kA p (List.mem_of_mem_take (List.mem_of_mem_drop i))) (by simp;lia) (Ev.sub (Ev.name (ab (aa 25 rfl))) (Ev.slice (.some Ev.int) (.some (Ev.un Ev.int iz.neg)) .none) j) rfl rfl (by intro J;rfl) (by intro J;rfl) rfl) (Ev.lU (Q:=true)) (aB.isBool.cast (by rw[i];rfl))
set_option maxHeartbeats 1000000 in
theorem xg(o:bp c)(O:aT a)(G:Good a d 57)(s:d.log.length≤20)(i:cN ((d.log.take (d.log.length-1)).flatMap (aQ a))=false):∃m e,eY c.w.params 11=some (m,e)∧∀(k:Nat)(u:FH),k≤20→Ev (c.wo u) (k+12) m (allOf (VF b2 n h a d) []) e (.bool true):=by
 refine bj (cS c.w.params) _ rfl (fun k u q=>?_);have r:(d.log.map fun p=>D.str (S (aQ a p))).length≤1000000:=by rw[List.length_map _];lia
 have j:=az.ed (c:=c.wo u) (l:=d.log.map fun p=>D.str (S (aQ a p))) (j:= .list (d.log.map fun p=>D.str (S (aQ a p)))) rfl (e6:=none) (f9:=some (-1)) (h6:=none) (by decide) r;rw[iP,wm]at j;refine Ev.cmp (j:= .bool (cN ((d.log.take (d.log.length-1)).flatMap (aQ a)))) (lz o O q (d.log.take (d.log.length-1)) (fun p i=>G.kA p (List.mem_of_mem_take i)) (by simp;(exact Nat.le_succ_of_le ‹_›)) (Ev.sub (Ev.name (ab (aa 25 rfl))) (Ev.slice .none (.some (Ev.un Ev.int iz.neg)) .none) j) rfl rfl (by intro J;rfl) (by intro J;rfl) rfl) (Ev.lU (Q:=false)) (aB.isBool.cast (by rw[i];rfl))
set_option maxHeartbeats 1000000 in
theorem xh(o:bp c)(O:aT a)(G:Good a d 57)(s:d.log.length≤20)(i:cN ((d.log.reverse).flatMap (aQ a))=false):∃m e,eY c.w.params 12=some (m,e)∧∀(k:Nat)(u:FH),k≤20→Ev (c.wo u) (k+12) m (allOf (VF b2 n h a d) []) e (.bool true):=by
 refine bj (cS c.w.params) _ rfl (fun k u q=>?_);have r:(d.log.map fun p=>D.str (S (aQ a p))).length≤1000000:=by rw[List.length_map _];lia
 have j:=az.ed (c:=c.wo u) (l:=d.log.map fun p=>D.str (S (aQ a p))) (j:= .list (d.log.map fun p=>D.str (S (aQ a p)))) rfl (e6:=none) (f9:=none) (h6:=some (-1)) (by decide) r;rw[iP,zy]at j;refine Ev.cmp (j:= .bool (cN ((d.log.reverse).flatMap (aQ a)))) (lz o O q (d.log.reverse) (fun p i=>G.kA p (List.mem_reverse.mp i)) (by simp;omega) (Ev.sub (Ev.name (ab (aa 25 rfl))) (Ev.slice .none .none (.some (Ev.un Ev.int iz.neg))) j) rfl rfl (by intro J;rfl) (by intro J;rfl) rfl) (Ev.lU (Q:=false)) (aB.isBool.cast (by rw[i];rfl))
theorem ak.Dk{dl:List D}(ho:c.K.lookup v=some d1)(hd:d1.data= .func f1)(b4:codeIn c.K f1.code f1.qualname=true)(i:fq f1 (.Assign [.Name x O] (.List (.Constant (.int I) k b1::B) Y) f0::a3) p h2)(b9:l.length=p.length)(c6:∀a0 j,(a0,some j)∈a6→(a0,j)∈p.zip l)(b5:BX c n f1.scope a6 [] B dl)(hu:Upd a6 x (.list (.int I::dl)) r)(c5:x∈h2)(hn:(a6.map (·.1)).Nodup)(c7:aS dl)(hz:dl.length≤1000)(c1:∀d,d.scope=f1.scope→swapsWith (.List (.Constant (.int I) k b1::B) Y) (some (.Name x O)) f0.line d=pure false)(c0:∀d,starEach (.Constant (.int I) k b1::B) d=(false,eval (.Constant (.int I) k b1) d)::starEach B d)(hw:Wp c n f1.scope h2 r [] a3 (.ret j))(A:Around)(f:FH)(s:Shared)(q:List Value)(Q E:Value→Shared→Prop)(a4:bJ (n+1) A)(g:Gl c.bare s.heap)(hs:Sub c.bare f s.heap)(hv:Vals c.bare f l q)(hQ:∀a1 M C,Go c.bare f s C M→Val c.bare C j a1→Q a1 M):wpAny (model c.prog c.w) A (call (.ref v) q) Q E s:=by
 refine wpAny_call ?_;have K:q.length=p.length:=hv.length.trans b9;refine codeAny_call_function a4.lim (g.K _ _ ho) hd i.co i.gen i.body (codeRec_of g.K b4) ?_;rw[i.bind q K,i.Bo];refine wpAny_pure (bM (wpAny_newFunctionEnv_cells i.kind (fun a0 a=>?_) fun d he m X b0=>?_))
 ·obtain⟨y,w⟩:=a0;have hy:y∈p:=by
   have:y∈(p.zip q).map (·.1):=List.mem_map.mpr ⟨_,a,rfl⟩;rw[jo p q K]at this;exact this
  refine ay (i.par y hy) (fun h=>?_) fun h=>?_
  ·exact .inl h
  ·refine .inr ⟨h,?_⟩;refine ah (iE (e:=f1.scope.names) (k:=s.heap.objs.size+1) (b:=[]) (mem_of_lookup h)) fun b o=>?_;refine ah (dF o) fun b' b3=>?_;rw[b3];rfl
 ·refine⟨Heap.NoLimit.keeps g.lim X.toInCall.keep,codeAny_func ?_⟩;obtain⟨⟨h1,tk,T⟩,N,b6,c8⟩:=X.toInCall;have U:=X.cell;have b2:=X.apart;have a7:=X.above;have t:callEnvC f1 s.heap.objs.size v=d:=he.symm;clear he;have es:d.scope=f1.scope:=by rw[←t];rfl
  have z:d.locals=s.heap.objs.size:=by rw[←t];rfl
  have ec:d.cells=cellsFrom (s.heap.objs.size+1) f1.scope.names []:=by rw[←t];rfl
  have eg:d.globals=mainGlobals:=by rw[←t];exact i.globals
  have eb:d.builtins=builtinsNs:=by rw[←t];exact i.builtins
  have u:∀a0,d.kindOf a0=f1.scope.names.lookup a0:=fun a0=>by refine(?_ :d.scope.names.lookup a0=_);rw[es]
  have d1:bE d f1.scope:=⟨es,i.kind,eg,eb,fun a2 n' b e e'=>name_of_addr b2 (mem_of_lookup e) (mem_of_lookup e'),fun a2 h=>by
   refine ay h (fun h=>?_) fun h=>?_
   ·refine ah (iE (e:=f1.scope.names) (k:=s.heap.objs.size+1) (b:=[]) (mem_of_lookup h)) fun b o=>?_;rw[ec];exact dF o
   ·exact absurd h (i.free a2),fun v e=>by rw[←t];exact i.code v e⟩
  have a5:∀b,s.heap.objs.size≤b→s.heap.get? b=none:=fun b h=>Heap.get?_none_of_le h;have F:∀b,s.heap.objs.size≤b→f b=none:=fun b h=>(Go.refl hs).cj h;have b7:∀b L,s.heap.get? b=some L→h1.get? b=some L:=fun b L e=>by have:=b6 b L e;rw[T]at this;exact this
  have V:Go c f s f m:=by
   rw[T];exact(Go.refl (c:=c) hs).heap b7 g.cH (by rw[T]at b0;exact b0)
  have G:Go c f s f {m with toks:=m.toks+1}:=V.toks;have g1:Gl c.bare m.heap:=V.cT.gl g;have R:Run c h2 d s f a6 [] noOwn f {m with toks:=m.toks+1}:=
   {go:=G
    base:=⟨g1,G.sub,fun J J Z=>(nomatch Z),fun a2 b e=>⟨_,U a2 b e⟩,⟨_,N⟩,⟨rfl,fun J J J=>rfl⟩,Nat.succ_pos _⟩
    cl:=fun a0 d' Z=>by
     refine au (zip_get (c:=c.bare) hv (c6 a0 d' Z)) fun a1 a9 c4=>?_;refine aF a1 ?_ c4;have a:a0∈p:=by
      have:a0∈(p.zip q).map (·.1):=List.mem_map.mpr ⟨_,a9,rfl⟩;rw[jo p q K]at this;exact this
     have bg:=nY d.kindOf (p.zip q) (fun J=>none) (fun J=>none) a0 a1 (by rw[jo p q K];exact i.CJ) a9;refine ay (i.par a0 a) (fun h=>?_) fun h=>?_
     ·exact .inl ⟨(u a0).trans h,_,N,bg.1 ((u a0).trans h)⟩
     ·have hk:d.kindOf a0=some .cell:=(u a0).trans h;refine ah (d1.full a0 (.inl h)) fun b o=>?_;refine .inr ⟨.inl hk,b,o,?_⟩;have:=U a0 b o;rw[bg.2 (by rw[hk];decide)]at this;exact this
    pB:= .nil
    own:=fun J J e=>(nomatch e)
    nm:=fun a0 a=>by
     refine ay (i.jl a0 a) (fun h=>?_) fun h=>?_
     ·exact .inl ⟨(u a0).trans h,by rw[z];exact a5 _ (Nat.le_refl _),by rw[z];exact F _ (Nat.le_refl _),_,N⟩
     ·refine ah (d1.full a0 (.inl h)) fun b o=>?_;have:=a7 a0 b (mem_of_lookup o);rw[z]at this;exact .inr ⟨(u a0).trans h,b,o,a5 _ (Nat.le_of_lt this),F _ (Nat.le_of_lt this),_,U a0 b o⟩
    fr:=⟨by rw[z];exact F _ (Nat.le_refl _),fun a2 b e=>by
     have:=a7 a2 b (mem_of_lookup e);rw[z]at this;exact F _ (Nat.le_of_lt this)⟩}
  refine wpAny_execs_cons (wpAny_Assign_Name (List_ ?_) (c1 d d1.scope));rw[c0 _];refine(?_ :wpAny _ _ (do
   let a1←eval (.Constant (.int I) k b1) d
   let a8←pure [a1]
   return a8++(←holding a8 (spliced (backTo Y (starEach B d))))) _ _ m)
  refine wpAny_bind (wpAny_Constant_int (wpAny_bind (wpAny_pure (wpAny_bind (wpAny_holding (b5 noOwn (A.deeper d) d f {m with toks:=m.toks+1} Y _ _ a4.deeper d1 R.st fun S s2 f2 H c3=>wpAny_pure ?_))))));have R2:=R.step H;have hV:Vals (c.wo noOwn) f2 (.int I::dl) (.int I m.toks::S):=⟨_,_,rfl,⟨_,rfl⟩,c3⟩;refine wpAny_newList ?_ (by
   have h:=hV.length;rw[List.length_cons (as:=dl)]at h;refine(?_ :_≤sizeLine);rw[sizeLine_eq];simp at h⊢;lia)
  have g3:=H.fD (H.gl R.base.gl) (o:={cls:= .type "list",data:= .seq (.int I m.toks::S).toArray}) rfl (by nofun);have R3:=R.step g3;refine R3.store d1 g c5 (by simp) hu hn (d:= .list (.int I::dl)) ⟨_,(.int I m.toks::S).toArray,0,rfl,FH.aR ..,hV.mono H.fT⟩ fun s4 R4 W4=>?_;refine hw (A.deeper d) d s f _ s4 noOwn _ _ a4.deeper d1 g R4 fun fl M C W P=>?_;refine bA P fun a1 J1 G' c2=>?_;subst J1;exact hQ a1 M C G'.cT c2
theorem CZ{i:Option (m×e7)}{Q:m→e7→e7→Prop}(h:∃p0 q7 b,q0=some (p0,q7)∧i=some (p0,b)∧Q p0 q7 b){b:e7}(j:q0=some (p0,q7))(k:i=some (p0,b)):Q p0 q7 b:=by
 refine jB h fun x y z d e q=>?_;rw[j]at d;rw[k]at e;cases d;cases e;exact q
structure oM(nm:Nat→List Nat)(sums:List Int)(s:RS):Prop where
 good:Good nm s 57
 gk:∀k,∀p∈(s.bk k).gk,p.2.length≤1000000
 steps:∀p∈s.steps,p.1=p.2
 bq:s.bq=List.replicate 27 0
 aK:∀k,k<3→oL (s.aK k) (kE nm s k)
 qP:∀k,k<3→il (s.bk k) (bc s k) (callsOf nm sums s k)
 whole:il (cQ (cQ (s.bk 0) (s.bk 1)) (s.bk 2)) (([bc s 0,bc s 1,bc s 2].map fun n:Nat=>(n:Int)).sum) (s.ae.zipIdx.map (eM nm sums))
 log:s.log.length≤20
 C0:cN (s.log.flatMap (aQ nm))=true
 C2:cN (((s.log.take (s.log.length-1)).drop 1).flatMap (aQ nm))=true
 C4:cN ((s.log.take (s.log.length-1)).flatMap (aQ nm))=false
 C5:cN (s.log.reverse.flatMap (aQ nm))=false
set_option maxHeartbeats 4000000 in
theorem zz(d:bp c)(b:List Int)(z:b.length≤63)(F:oM (ea (aV b)) (cF b) (cE (ea (aV b)) (cF b) bF 0 (dE b)))(k:Nat)(i:k≤20)(A:Around)(f:FH)(s:Shared)(j:List Value)(Q E:Value→Shared→Prop)(r:bJ (k+13) A)(g:Gl c.bare s.heap)(y:Sub c.bare f s.heap)(p:Vals c.bare f [.list (b.map .int)] j)(n:∀v q m,Go c.bare f s m q→Val c.bare m (.bool true) v→Q v q):wpAny (model c.prog c.w) A (call (.ref 150) j) Q E s:=by
 refine ak.Dk (n:=k+12) (p:=[N "script"]) (h2:=iQ) (a6:=(jU b none none none none none none none none none none none none)) (l:=[.list (b.map .int)]) (by rw[d.K];rfl) rfl (by rw[d.K];rfl) (fq.of rfl rfl rfl rfl rfl rfl rfl (fun l h=>?_) rfl (by decide+kernel) rfl rfl (by intro a e;cases e)) rfl (dZ (by simp)) (fun u=>ag.cons Ev.int (ag.cons Ev.int (ag.cons Ev.int (ag.cons Ev.int (ag.cons Ev.int (ag.cons Ev.int (ag.cons Ev.int (ag.cons Ev.int ag.nil)))))))) (ar 1 rfl) (aa 1 rfl) (gp) ⟨trivial,trivial,trivial,trivial,trivial,trivial,trivial,trivial,trivial⟩ (by refine(?_ :8≤1000);decide) (by rintro⟨⟩ h;cases h;rfl) (by intro J;rfl) ?_ A f s j Q E r g y p n
 ·refine ah (List.length_eq_one_iff.mp h) fun v w=>?_;subst w;rfl
 clear n p r;dsimp only;have O:=sW (aV b);have o:=w0 b;refine CZ (CA d b z) rfl rfl (k+2) _ ?_;refine Wp.cons (cV (A0 d b) rfl (k+2)) ?_;refine Wp.cons (cV (zm d b) rfl (k+2)) ?_;refine Wp.cons (cV (w4 d b _ rfl) rfl (k+2)) ?_;refine Wp.cons (cV (w5 d b _ rfl) rfl (k+2)) ?_;refine dC.freeze ?_;rw[lq (gi (dE b))];generalize x:cE (ea (aV b)) (cF b) bF 0 (dE b)=sF at F;refine dC.weaken (a6:=(N "deeds",some (.list ((dE b).map bO)))::(jU b none none (some (.int (aV b:Nat))) (some (.list ((cF b).map .int))) none none none none none none none (some (bH (ea (aV b)))))) ?_ (bG rfl);refine Wp.cons (cV (zr (d:=sF) (b2:=b) (n:=aV b) d O o (wZ b) (by rw[uM _];decide) (sY b) x.symm) rfl k) ?_;refine dC.weaken (a6:=(lE b (aV b) (cF b) (ea (aV b)) sF none none none none none none none)) ?_ (fun J J h=>List.mem_cons_of_mem _ h);refine Wp.cons (cV (w6 d O F.good) rfl k) ?_;refine Wp.cons (cV (A4 d O F.good) rfl k) ?_;refine Wp.cons (cV (w7 d O F.good o) rfl k) ?_;refine Wp.cons (cV (zt d O F.good) rfl k) ?_;refine Wp.cons (cV (w8 d O F.good) rfl k) ?_;refine Wp.cons (cV (w9 d O F.good F.gk) rfl k) ?_;refine Wp.cons (cV (xa d O F.good) rfl k) ?_;exact Wp.ret (av.return (fun u=>Ev.cast (Ev.and (cV (uQ d) rfl k u i) fun J=>Ev.and (cV (uR d F.good F.steps) rfl k u i) fun J=>Ev.and (cV (uS d F.bq) rfl k u i) fun J=>Ev.and (cV (uT d O F.good) rfl k u i) fun J=>Ev.and (cV (s7 d O F.good) rfl k u i) fun J=>Ev.and (cV (s8 d O F.good) rfl k u i) fun J=>Ev.and (cV (xd d O F.good F.aK) rfl k u i) fun J=>Ev.and (cV (uU d F.qP) rfl k u i) fun J=>Ev.and (cV (uV d F.good F.whole) rfl k u i) fun J=>Ev.and (cV (xe d O F.good F.log F.C0) rfl k u i) fun J=>Ev.and (cV (xf d O F.good F.log F.C2) rfl k u i) fun J=>Ev.and (cV (xg d O F.good F.log F.C4) rfl k u i) fun J=>Ev.BY (cV (xh d O F.good F.log F.C5) rfl k u i)) rfl) trivial)
theorem uW:∀b:List WData,WShape.hasItems [] b .int=true→∃is:List Int,b=is.map .int:=fun b=>by
 induction b with
 |nil=>exact fun J=>⟨[],rfl⟩
 |cons x r k=>
  intro h;refine ai (Bool.and_eq_true_iff.mp h) fun e j=>?_;refine ah (k j) fun is d=>?_;subst d;refine ah (hasW_int e) fun i d=>?_;subst d;exact⟨i::is,rfl⟩
theorem zA{args:List WData}(h:rw_wz0002_01.row.claim.pre args=true):∃e:List Int,args=[.list (e.map .int)]∧e.length≤63:=by
 refine ai (pre_splitW h) fun k m=>?_;refine dp (hasAllW_cons k) fun d r b i j=>?_;subst b;obtain rfl:=hasAllW_nil j;refine au (hasW_list i) fun l b n=>?_;subst b;refine ah (uW l n) fun is b=>?_;subst b;refine aF is rfl ?_;have o:WTm.holds [] (.and (.not (.lt (.lit (.int 63)) (.len (.arg 0)))) (.lit (.bool true))) {args:=[.list (is.map .int)]}=true:=m;refine Nat.le_of_not_lt fun q=>?_;have p:((63:Int)<(is.length:Int)):=Int.ofNat_lt.mpr q;simp[WTm.holds,WTm.value,less?,Num.less?,p]at o
theorem xi(h d):rw_wz0002_01.row.claim.post h (.bool true) d=true:=by kernel_rfl
theorem codes:((recsOf rw_wz0002_01.row.prog).any fun d=>d.name==N "add_callers")=true:=by kernel_rfl
theorem xj{P:Params}:∀{is:List Int}{h:List Value},WellAll P U h (is.map .int)→Vals c f (is.map D.int) h:=by
 intro L
 induction L with
 |nil=>
  intro h w;cases w;rfl
 |cons i r e=>
  intro h w;cases w with
  |cons b d=>cases b;exact⟨_,_,rfl,⟨_,rfl⟩,e d⟩
theorem start(F:∀h:List Int,h.length≤63→oM (ea (aV h)) (cF h) (cE (ea (aV h)) (cF h) bF 0 (dE h))):rw_wz0002_01.Holds:=by
 refine Mine.hd ?_;intro w B t mg mb G Y M o pm cd b6 dV kV ho hd b7 hD a9 hg b5 c6 as b0 b9 c2 b4 c0;have r:=kIn_of Y;refine au (zA b0) fun h k T=>?_;subst k;have a6:M=150:=by
  have m:mg (N "law")=some (.ref M):=a9;have s:mg (N "law")=some (.ref 150):=mg_of r G.T.g (by kernel_rfl);rw[m]at s;cases s;rfl
 subst a6
 let c:Cx:={prog:=rw_wz0002_01.row.prog,w:=w,K:=Mine.hd.heap_39 w.params,mg:=mg,mb:=mb,P:=47,pl:=23,pc:=42,own:=fun J=>none}
 refine au (List.any_eq_true.mp codes) fun d a3 a4=>?_;have a5:d.name=N "add_callers" :=by simpa using a4
 refine Cd (G.T.tab d a3) fun a o1 fd c1 P1 Z t2 t3 W t5 C=>?_;have Q:a=52:=by
  rw[a5]at Z;have s:mg (N "add_callers")=some (.ref 52):=mg_of r G.T.g (by kernel_rfl);rw[Z]at s;cases s;rfl
 subst Q;have R:∃z g E l,(Mine.hd.heap_39 w.params).lookup 52=some ⟨z,g,.func E,l⟩∧E.code= .ref 51:=⟨_,_,_,_,rfl,rfl⟩;refine jC R fun z g E l k1 k2=>?_;have a1:c1=51:=by
  have m:=r _ _ k1;rw[t2]at m;cases m;cases t3;rw[k2]at W;cases W;rfl
 subst a1;have S:∃z g I l,(Mine.hd.heap_39 w.params).lookup 51=some ⟨z,g,.fields I,l⟩∧I.getD 11 .none= .ref 47:=⟨_,_,_,_,rfl,rfl⟩;refine jC S fun c3 c4 c7 c5 k3 k4=>?_;have a0:P1=47:=by
  obtain⟨o3,c8,_,_,_,_,_,_,_,_,q1,q2,X,_⟩:=t5;have m:=r _ _ k3;rw[q1]at m;cases m;cases q2;rw[k4]at X;cases X;rfl
 subst a0;have a2:sr c:=⟨_,_,_,_,_,_,_,_,_,rfl,rfl,rfl,rfl,rfl,rfl,rfl⟩;have O:Gl c t.heap:=⟨G.T.g,G.T.b,G.T.nolimit,⟨G.T.nodigits,G.T.bmain⟩,r,by kernel_rfl,.inl C.2,fun a o e=>by contradiction⟩;have V:bp c:={toStd:=⟨rfl,⟨_,O⟩,fun x hx=>G.T.builtins x hx⟩,code:=a2,pl:=rfl,pc:=rfl};cases b4 with
 | @cons v I _ _ w1 w2=>
  cases w2;cases w1 with
  | @list n u _ L e2=>
   let f:FH:=fun b=>if b=n then some {cls:= .type "list",data:= .seq u.toArray}else none
   have hf:∀b j,f b=some j→b=n∧j={cls:= .type "list",data:= .seq u.toArray}:=fun b j e=>by
    by_cases q:b=n
    ·subst q;have:f b=some {cls:= .type "list",data:= .seq u.toArray}:=if_pos rfl;rw[this]at e;cases e;exact⟨rfl,rfl⟩
    ·have:f b=none:=if_neg q;rw[this]at e;contradiction
   have a8:n≠47:=by
    rintro rfl;have:=C.2;rw[L]at this;cases this
   have b2:Sub c.bare f t.heap:=fun b j e=>by
    refine ai (hf b j e) fun k D=>?_;subst k;subst D;exact⟨a8,L⟩
   have hv:Vals c.bare f [.list (h.map .int)] [.ref n]:=⟨_,_,rfl,⟨n,u.toArray,0,rfl,if_pos rfl,by simpa using xj e2⟩,rfl⟩;have b1:bJ (0+13) callerA:=⟨rfl,by decide,by decide⟩;have a7:=zz (c:=c) V h T (F h T) 0 (by decide) callerA f t [.ref n] (fun v A=>GoodWG rw_wz0002_01.row.claim (classAt B.heap) (ExcName.means B.heap) [.list (h.map .int)] t (.ok (.ret v)) A)
    (fun e A=>GoodWG rw_wz0002_01.row.claim (classAt B.heap) (ExcName.means B.heap) [.list (h.map .int)] t (.error e) A) b1 O b2 hv fun v A f' p b3=>?_
   ·exact a7
   ·obtain rfl:v= .bool true:=b3;refine cp (.inl ⟨_,.bool true,[],rfl,fun J=>rfl,.bool true,xi _ _,fun J=>⟨List.nodup_nil,fun a Q=>by contradiction⟩⟩) ?_ p.os ?_
    ·refine⟨fun b j e=>?_,fun b j e=>?_⟩
     ·by_cases q:b=47
      ·subst q;have H:j={cls:= .none,data:= .fields #[]}:=by
        have:=C.2;rw[e]at this;cases this;rfl
       refine ay p.tab (fun q=>?_) fun k=>?_
       ·exact .inl (q.trans e)
       ·obtain⟨_,U,q⟩:=k;refine .inr (.inl ⟨C.isCodeTable,by rw[H],#[],#[rawInt 23,rawInt 42,.ref U],by rw[H],?_⟩);rw[H];exact q
      ·exact .inl (p.keep b j q e)
     ·by_cases q:b=47
      ·subst q;refine ay p.tab (fun q=>?_) fun k=>?_
       ·exact⟨_,q.trans e⟩
       ·obtain⟨_,U,q⟩:=k;exact⟨_,q⟩
      ·exact⟨_,p.keep b j q e⟩
    ·intro y hy;obtain⟨i,hi,rfl⟩:=Array.getElem_of_mem hy;exact p.bare i _ (by rw[hg];exact Nat.zero_le _) (Array.getElem?_eq_getElem hi)
structure Tab{α:Type}(l:List (Str×α))(F:Str→Option α):Prop where
 nd:(l.map (·.1)).Nodup
 look:∀x,l.lookup x=F x
theorem lookup_none:n5.lookup x=none↔x∉n5.map (·.1):=by
 induction n5 with
 |nil=>simp
 |cons p r b=>
  obtain⟨k,w⟩:=p;rw[List.lookup_cons];by_cases e:x=k
  ·subst e;simp
  ·have:(x==k)=false:=by simpa using e
   rw[this];simp only[List.map_cons,List.mem_cons,not_or];rw[b];exact⟨fun h=>⟨e,h⟩,fun h=>h.2⟩
theorem lookup_mem(b:(n5.map (·.1)).Nodup){p:Str×m}(h:p∈n5):n5.lookup p.1=some p.2:=by
 induction n5 with
 |nil=>contradiction
 |cons q r j=>
  rw[List.lookup_cons];refine memC h (fun d=>?_) fun h=>?_
  ·subst d;simp
  ·have i:p.1≠q.1:=fun e=>(List.nodup_cons.mp b).1 (by change q.1∈_;rw[←e];exact List.mem_map.mpr ⟨p,h,rfl⟩);have:(p.1==q.1)=false:=by simpa using i
   rw[this];exact j (List.nodup_cons.mp b).2 h
theorem Tab.key{F:Str→Option m}(T:Tab n5 F)(x:Str):x∈n5.map (·.1)↔F x≠none:=by
 rw[←T.look x];have:=lookup_none (n5:=n5) (x:=x);constructor
 ·intro h e;exact this.mp e h
 ·intro h;by_cases q:x∈n5.map (·.1)
  ·exact q
  ·exact absurd (this.mpr q) h
theorem Tab.same{F:Str→Option m}(h:Tab n5 F)(b:Tab p5 F):oL n5 p5:=by
 refine⟨?_,fun p j=>?_⟩
 ·have e:=sub_len (n5.map (·.1)) (p5.map (·.1)) h.nd fun x d=>(b.key x).mpr ((h.key x).mp d);have i:=sub_len (p5.map (·.1)) (n5.map (·.1)) b.nd fun x d=>(h.key x).mpr ((b.key x).mp d);simp only[List.length_map]at e i;lia
 ·rw[b.look _,←h.look _];exact lookup_mem h.nd j
theorem Tab.congr{F:Str→Option m}(T:Tab n5 F)(h:∀x,F x=q1 x):Tab n5 q1:=⟨T.nd,fun x=>(T.look x).trans (h x)⟩
theorem Tab.nil:Tab ([]:List (Str×m)) (fun J=>none):=⟨List.nodup_nil,fun J=>rfl⟩
theorem Tab.one(k:Str)(v:m):Tab [(k,v)] (fun x=>if x=k then some v else none):=⟨by simp,fun x=>by
 rw[List.lookup_cons];by_cases e:x=k
 ·subst e;simp
 ·have:(x==k)=false:=by simpa using e
  rw[this,if_neg e];rfl⟩
theorem Tab.store{F:Str→Option m}(T:Tab n5 F)(k:Str)(v:m):Tab (cb n5 k v) (fun x=>if x=k then some v else F x):=by
 unfold cb;split
 ·rename_i h;refine⟨?_,fun x=>?_⟩
  ·have:(n5.map fun d=>if d.1=k then(d.1,v)else d).map (·.1)=n5.map (·.1):=by
    rw[List.map_map];refine List.map_congr_left fun p J=>?_;refine(?_ :(if p.1=k then(p.1,v)else p).1=p.1);split<;>rfl
   rw[this];exact T.nd
  ·have o:k∈n5.map (·.1):=by
    refine au (List.any_eq_true.mp h) fun p q e=>?_;exact List.mem_map.mpr ⟨p,q,by simpa using e⟩
   have f:∀a0:List (Str×m),(a0.map fun d=>if d.1=k then(d.1,v)else d).lookup x=if x=k then(if k∈a0.map (·.1)then some v else none)else a0.lookup x:=by
    intro a0
    induction a0 with
    |nil=>simp
    |cons p r c=>
     rw[List.map_cons,List.lookup_cons,List.lookup_cons,c]at⊢;by_cases i:p.1=k
     ·rw[if_pos i];by_cases j:x=k
      ·subst j;simp[i]
      ·have:(x==p.1)=false:=by rw[i];simpa using j
       simp[this,j]
     ·rw[if_neg i];by_cases j:x=k
      ·subst j;have:(x==p.1)=false:=by simpa using fun z:x=p.1=>i z.symm
       have t:¬(x=p.1):=fun z=>i z.symm;have s:x∈List.map (·.1) (p::r)↔x∈List.map (·.1) r:=by
        rw[List.map_cons,List.mem_cons];simp[t]
       rw[this,if_pos rfl,if_pos rfl];refine(?_ :(if x∈List.map (·.1) r then some v else none)=_);by_cases n:x∈List.map (·.1) r
       ·rw[if_pos n,if_pos (s.mpr n)]
       ·rw[if_neg n,if_neg fun z=>n (s.mp z)]
      ·simp[j]
   rw[f _,if_pos o,T.look _]
 ·rename_i h;have o:k∉n5.map (·.1):=fun y=>by
   refine bZ y fun p q e=>?_;exact h (List.any_eq_true.mpr ⟨p,q,by simpa using e⟩)
  refine⟨?_,fun x=>?_⟩
  ·rw[List.map_append,List.nodup_append];refine bx T.nd (by simp) (fun a u b w=>?_);have:b=k:=by simpa using w
   subst this;rintro rfl;exact o u
  ·rw[List.lookup_append,T.look _];by_cases e:x=k
   ·subst e;have:F x=none:=by rw[←T.look _];exact lookup_none.mpr o
    rw[this];simp
   ·have:(x==k)=false:=by simpa using e
    simp[List.lookup_cons,this,e]
noncomputable def comb(h:m→m→m):Option m→Option m→Option m
 |some a,some b=>some (h a b)
 |some a,none=>some a
 |none,b=>b
theorem Tab.step{plus:m→m→m}{F:Str→Option m}(T:Tab n5 F)(p:Str×m):Tab (fb plus n5 p) (fun x=>if x=p.1 then comb plus (F x) (some p.2)else F x):=by
 unfold fb;refine(T.store _ _).congr fun x=>?_;by_cases e:x=p.1
 ·subst e;rw[if_pos rfl,if_pos rfl,T.look _];rcases F p.1 with _|_<;>rfl
 ·rw[if_neg e,if_neg e]
theorem Tab.fold:∀{s l:List (Str×m)}{F G:Str→Option m},Tab l F→Tab s G→Tab (s.foldl (fb p6) l) (fun x=>comb p6 (F x) (G x))
 | [],l,F,G,T,U=>T.congr fun x=>by
  have:G x=none:=(U.look x).symm.trans rfl;rw[this];rcases F x with _|_<;>rfl
 |p::r,l,F,G,T,U=>by
  obtain⟨k,v⟩:=p;have b:k∉r.map (·.1):=(List.nodup_cons.mp U.nd).1;have d:Tab r (fun x=>if x=k then none else G x):=⟨(List.nodup_cons.mp U.nd).2,fun x=>by
   by_cases e:x=k
   ·subst e;rw[if_pos rfl];exact lookup_none.mpr b
   ·rw[if_neg e,←U.look _,List.lookup_cons];have:(x==k)=false:=by simpa using e
    rw[this]⟩
  refine((T.step (plus:=p6) (k,v)).fold d).congr fun x=>?_;have h:G k=some v:=by rw[←U.look _,List.lookup_cons];simp
  by_cases e:x=k
  ·subst e;refine(?_ :comb p6 (if x=x then comb p6 (F x) (some v)else F x) (if x=x then none else G x)=_);rw[if_pos rfl,if_pos rfl,h];rcases F x with _|_<;>rfl
  ·refine(?_ :comb p6 (if x=k then comb p6 (F x) (some v)else F x) (if x=k then none else G x)=_);rw[if_neg e,if_neg e]
theorem Tab.copy{F:Str→Option m}(T:Tab n5 F):Tab (fV n5 []) F:=by
 have n:∀(s l:List (Str×m))(F G:Str→Option m),Tab l F→Tab s G→Tab (fV s l) (fun x=>match G x with|some v=>some v|none=>F x):=by
  intro s
  induction s with
  |nil=>
   intro l F G T U;refine T.congr fun x=>?_;have h:G x=none:=(U.look x).symm.trans rfl;rw[h]
  |cons p r j=>
   intro l F G T U;obtain⟨k,v⟩:=p;have d:k∉r.map (·.1):=(List.nodup_cons.mp U.nd).1;have i:Tab r (fun x=>if x=k then none else G x):=⟨(List.nodup_cons.mp U.nd).2,fun x=>by
    by_cases e:x=k
    ·subst e;rw[if_pos rfl];exact lookup_none.mpr d
    ·rw[if_neg e,←U.look _,List.lookup_cons];have:(x==k)=false:=by simpa using e
     rw[this]⟩
   refine(j (cb l k v) _ _ (T.store k v) i).congr fun x=>?_;have b:G k=some v:=by rw[←U.look _,List.lookup_cons];simp
   by_cases e:x=k
   ·subst e;simp[b]
   ·simp[e]
 refine(n n5 [] _ F Tab.nil T).congr fun x=>?_;rcases F x with _|_<;>rfl
theorem Tab.add{plus:m→m→m}{F:Str→Option m}(T:Tab n5 F)(U:Tab p5 q1):Tab (dO plus n5 p5) (fun x=>comb plus (F x) (q1 x)):=(T.copy).fold U
theorem kF(l:List (Str×Int)):bh l=(l.map (·.2)).sum:=by
 unfold bh;have b:∀(l:List (Str×Int))(a:Int),l.foldl (fun a p=>a+p.2) a=a+(l.map (·.2)).sum:=by
  intro l
  induction l with
  |nil=>intro a;simp
  |cons p r h=>intro a;rw[List.foldl_cons,h _,List.map_cons,List.sum_cons];(simp+arith)
 rw[b _ _];(simp+arith)
theorem count3(j:x≠a9)(m:x≠k4)(n:a9≠k4):∀{l:List (Str×Int)}{F:Str→Option Int},Tab l F→(∀a0,F a0≠none→a0=x∨a0=a9∨a0=k4)→bh l=(F x).getD 0+(F a9).getD 0+(F k4).getD 0:=by
 intro l;rw[kF]at⊢
 induction l with
 |nil=>
  intro F T J;have h:∀a0,F a0=none:=fun a0=>(T.look a0).symm.trans rfl;rw[h _,h _,h _];rfl
 |cons p r z=>
  intro F T o;obtain⟨k,v⟩:=p;have u:k∉r.map (·.1):=(List.nodup_cons.mp T.nd).1;have d:F k=some v:=by rw[←T.look _,List.lookup_cons];simp
  have w:Tab r (fun a0=>if a0=k then none else F a0):=⟨(List.nodup_cons.mp T.nd).2,fun a0=>by
   by_cases e:a0=k
   ·subst e;rw[if_pos rfl];exact lookup_none.mpr u
   ·rw[if_neg e,←T.look _,List.lookup_cons];have:(a0==k)=false:=by simpa using e
    rw[this]⟩
  have h:=z w fun a0 y=>o a0 fun e=>y (by refine(?_ :(if a0=k then none else F a0)=none);rw[e];split<;>rfl);rw[List.map_cons,List.sum_cons,h];have b:∀a0,a0≠k→(if a0=k then none else F a0)=F a0:=fun a0 e=>if_neg e;have i:(if k=k then none else F k)=none:=if_pos rfl;refine gu (o k (by rw[d];simp)) (fun q=>?_) (fun s=>?_) fun t=>?_
  ·subst q;rw[i,b _ j.symm,b _ m.symm,d];simp;(simp+arith)
  ·subst s;rw[i,b _ j,b _ n.symm,d];simp;(simp+arith)
  ·subst t;rw[i,b _ m,b _ n,d];simp;(simp+arith)
noncomputable def oj(s:RS)(k j:Nat):Nat:=s.ae.countP fun m=>m.bb==k&&m.to==j&&m.took.isNone
noncomputable def isA(j:Nat):Itm→Bool
 | .bY a=>a==j
 | .bw _=>false
theorem qQ:isA n (.bY k)=(k==n):=rfl
theorem qR:isA n (.bw k)=false:=rfl
noncomputable def jX:Itm→Bool
 | .bY _=>true
 | .bw _=>false
noncomputable def aj(s:RS)(k j:Nat):Nat:=(s.box k).countP (isA j)
noncomputable def lj(s:RS)(k j:Nat):Nat:=if s.aq j=(k:Int)∧j≠k then 1 else 0
noncomputable def fj(t:Int)(h k j:Nat):Nat:=if t=(k:Int)∧j=h∧t≠(h:Int)then 1 else 0
noncomputable def ow(h:Nat→List Nat)(s:RS)(k j:Nat):Int:=((s.aK k).lookup (S (h j))).getD 0
structure Core(nm:Nat→List Nat)(s:RS)(t:Int)(h:Nat):Prop where
 way:∀m∈s.ae,m.bb≠m.to
 nd:∀k,k<3→((s.aK k).map (·.1)).Nodup
 keys:∀k,k<3→∀x,(s.aK k).lookup x≠none↔∃m∈s.ae,m.bb=k∧x=S (nm m.to)
 val:∀k j,k<3→j<3→ow nm s k j=((oj s k j+aj s k j+lj s k j+fj t h k j:Nat):Int)
 bY:∀k,k<3→s.cf k=((s.box k).countP jX:Nat)
 lP:∀n,n<s.ae.length→(af s n).took=none→Itm.bw n∈s.box (af s n).to
 qS:∀k:Nat,k<3→(k:Int)∈s.aw→s.aq k≠ -1
 mH:∀k,k<3→bh (s.aK k)≠0→s.aq k≠ -1
 bs:∀j:Nat,j<3→j≠0→s.aq j≠(j:Int)
 b0:s.aq 0=0∨s.aq 0= -1
 s9:¬(s.aq 1=2∧s.aq 2=1)
noncomputable def hS(s:RS):Prop:=∀k:Nat,k<3→s.aq k≠ -1→(k:Int)∈s.aw∨bh (s.aK k)≠0
theorem xk(O:aT a)(h:n<3)(b:k<3)(d:n≠k):S (a n)≠S (a k):=fun e=>d (O.inj n k h b (wi e))
theorem Core.cnt(O:aT a)(C:Core a d I n)(G:Good0 a d k z T)(h:a1<3):bh (d.aK a1)=ow a d a1 0+ow a d a1 1+ow a d a1 2:=by
 refine count3 (xk O (Nat.succ_pos _) (Nat.le_succ _) (by decide)) (xk O (Nat.succ_pos _) (Nat.le_refl _) (by decide)) (xk O (Nat.le_succ _) (Nat.le_refl _) (by decide)) ⟨C.nd a1 h,fun x=>rfl⟩ fun x j=>?_;refine bA ((C.keys a1 h x).mp j) fun m i p b=>?_;subst b;have o:=(G.fh m i).2.1;have:m.to=0∨m.to=1∨m.to=2:=by lia
 refine gu this (fun e=>?_) (fun e=>?_) fun e=>?_ <;>rw[e]
 ·exact .inl rfl
 ·exact .inr (.inl rfl)
 ·exact .inr (.inr rfl)
noncomputable def tj(s:RS)(t:Int)(h k j:Nat):Nat:=oj s k j+aj s k j+lj s k j+fj t h k j
theorem Core.A6(O:aT a)(C:Core a d I n)(G:Good0 a d k z T)(h:a1<3):bh (d.aK a1)=((tj d I n a1 0+tj d I n a1 1+tj d I n a1 2:Nat):Int):=by
 rw[C.cnt O G h,C.val a1 0 h (by decide),C.val a1 1 h (by decide),C.val a1 2 h (by decide)];rfl
theorem CC{f:Nat→Nat}(e:((f 0+f 1+f 2:Nat):Int)=0)(i:n<3):f n=0:=by
 have:n=0∨n=1∨n=2:=by lia
 focus(refine gu this (fun h=>?_) (fun b=>?_) fun d=>?_;all_goals first|subst h|subst b|subst d|skip)<;>lia
theorem A7(e:n+k+z+T=0):n=0∧k=0∧z=0∧T=0:=by
 refine ai (Nat.add_eq_zero_iff.mp e) fun h j=>?_;refine ai (Nat.add_eq_zero_iff.mp h) fun h i=>?_;refine ai (Nat.add_eq_zero_iff.mp h) fun b d=>?_;exact cp b d i j
theorem Core.term(O:aT a)(C:Core a d I n)(G:Good0 a d k z T)(e:a1<3)(b:d8<3)(h:bh (d.aK a1)=0):oj d a1 d8=0∧aj d a1 d8=0∧lj d a1 d8=0∧fj I n a1 d8=0:=
 A7 (CC (f:=tj d I n a1) ((C.A6 O G e).symm.trans h) b)
theorem BS(h:d.aq k=(n:Int))(b:k≠n):lj d n k=1:=if_pos ⟨h,b⟩
theorem Core.led(O:aT a)(C:Core a d I n)(G:Good0 a d z T a1){k j:Nat}(i:k<3)(e:j<3)(b:d.aq j=(k:Int))(m:j≠k):bh (d.aK k)≠0:=fun h=>by
 have:=(C.term O G i e h).2.2.1;rw[BS b m]at this;contradiction
theorem x9(h:n<d.ae.length)(b:(af d n).took=none):0<oj d (af d n).bb (af d n).to:=List.countP_pos_iff.mpr ⟨af d n,cx h,by simp[b]⟩
theorem ya(h:Itm.bY k∈d.box n):0<aj d n k:=List.countP_pos_iff.mpr ⟨_,h,by simp[qQ,qR]⟩
noncomputable def Quiet(s:RS):Prop:=s.aw=[]∧∀k,k<3→s.box k=[]
theorem Core.quiet(O:aT a)(C:Core a d (-1) n)(G:Good0 a d k z T)(x:d.aq 0= -1):Quiet d∧(∀a0,a0<3→d.aq a0= -1)∧∀a0,a0<3→bh (d.aK a0)=0:=by
 have L:bh (d.aK 0)=0:=Classical.byContradiction fun q=>C.mH 0 (Nat.succ_pos _) q x;have s:∀j:Nat,j<3→j≠0→d.aq j≠0:=fun j E F q=>C.led O G (k:=0) (Nat.succ_pos _) E (by simpa using q) F L;have v:d.aq 1= -1:=Classical.byContradiction fun q=>by
  have M:=G.aq 1;have P:=s 1 (Nat.le_succ _) (by decide);have K:=C.bs 1 (Nat.le_succ _) (by decide);have w:d.aq 1=2:=by have:d.aq 1≠1:=(by simpa using K);lia
  have J:=C.led O G (k:=2) (j:=1) (Nat.le_refl _) (Nat.le_succ _) (by simpa using w) (by decide);have Q:=C.mH 2 (Nat.le_refl _) J;have g:=G.aq 2;have H:=s 2 (Nat.le_refl _) (by decide);have t:=C.bs 2 (Nat.le_refl _) (by decide);have e:d.aq 2=1:=by have:d.aq 2≠2:=(by simpa using t);lia
  exact C.s9 ⟨w,e⟩
 have f:d.aq 2= -1:=Classical.byContradiction fun q=>by
  have g:=G.aq 2;have H:=s 2 (Nat.le_refl _) (by decide);have t:=C.bs 2 (Nat.le_refl _) (by decide);have e:d.aq 2=1:=by have:d.aq 2≠2:=(by simpa using t);lia
  have I:=C.led O G (k:=1) (j:=2) (Nat.le_succ _) (Nat.le_refl _) (by simpa using e) (by decide);exact C.mH 1 (Nat.le_succ _) I v
 have b:∀a0,a0<3→d.aq a0= -1:=mN x v f;have u:∀a0,a0<3→bh (d.aK a0)=0:=fun a0 h=>Classical.byContradiction fun q=>C.mH a0 h q (b a0 h);refine bx (⟨?_,fun a0 h=>?_⟩) b u
 ·rcases c:d.aw with _|⟨a2,r⟩
  ·rfl
  ·
   exfalso;have A:=G.nt a2 (by rw[c];simp);obtain⟨a1,rfl⟩:∃a1:Nat,a2=a1:=⟨a2.toNat,by lia⟩;exact C.qS a1 (by lia) (by rw[c];simp) (b a1 (by lia))
 ·rcases B:d.box a0 with _|⟨i,r⟩
  ·rfl
  ·
   exfalso;have m:i∈d.box a0:=by rw[B];simp
   rcases i with a1|j
   ·
    refine ba (G.dK a0 a1 m) fun y l A=>?_;have o:=G.fh _ (cx y);have p:=x9 y l;have:=(C.term O G o.1 o.2.1 (u _ o.1)).1;lia
   ·
    have p:=ya m;have:=(C.term O G h (G.fL a0 j m) (u _ h)).2.1;lia
theorem Core.busy(O:aT a)(C:Core a d (-1) n)(G:Good0 a d k z T)(E:hS d)(c:d.aq 0≠ -1):¬Quiet d:=fun K=>ai K fun P J=>by
 have y:d.aq 0=0:=C.b0.resolve_right c;have x:∀a0 j,oj d a0 j=0:=fun a0 j=>by
  unfold oj;refine List.countP_eq_zero.mpr fun m A F=>?_;obtain⟨a1,B,rfl⟩:=List.getElem_of_mem A;have e:af d a1=d.ae[a1]:=by
   unfold af;rw[List.getD_eq_getElem?_getD,List.getElem?_eq_getElem B];rfl
  simp only[Bool.and_eq_true,Option.isNone_iff_eq_none]at F;have:=C.lP a1 B (by rw[e];exact F.2);rw[J _ (by rw[e];exact(G.fh _ A).2.1)]at this;contradiction
 have v:∀a0 j,a0<3→aj d a0 j=0:=fun a0 j h=>by unfold aj;rw[J a0 h];rfl
 have w:∀a0 j,fj (-1) n a0 j=0:=fun a0 j=>if_neg fun q=>by have:=q.1;omega
 have u:∀a0:Nat,a0<3→d.aq a0≠ -1→∃j:Nat,j<3∧j≠a0∧d.aq j=(a0:Int):=fun a0 h o=>by
  refine ay (E a0 h o) (fun q=>?_) fun q=>?_
  ·rw[P]at q;contradiction
  ·have p:=C.A6 O G h;unfold tj at p;rw[x,x,x,v _ _ h,v _ _ h,v _ _ h,w,w,w]at p;have r:∀j:Nat,lj d a0 j≠0→j≠a0∧d.aq j=(a0:Int):=fun j b=>by
    unfold lj at b;split at b
    ·rename_i I;exact⟨I.2,I.1⟩
    ·exact absurd rfl b
   by_cases s:lj d a0 0=0
   ·by_cases H:lj d a0 1=0
    ·have t:lj d a0 2≠0:=fun t=>q (by rw[p,s,H,t];rfl);exact aF 2 (by(simp+arith)) (r 2 t)
    ·exact aF 1 (Nat.le_succ _) (r 1 H)
   ·exact aF 0 (Nat.succ_pos _) (r 0 s)
 refine bA (u 0 (Nat.succ_pos _) c) fun j b U o=>?_;refine bA (u j b (by rw[o];decide)) fun i L X f=>?_;refine bA (u i L (by rw[f];(simp+arith))) fun l Q Y g=>?_;have Z:i≠0:=fun q=>by subst q;rw[y]at f;lia
 have s:l≠0:=fun q=>by subst q;rw[y]at g;lia
 have M:l=j:=by lia
 subst M;rw[o]at g;lia
noncomputable def wI:Itm→Nat
 | .bw _=>2
 | .bY _=>1
noncomputable def wB(l:List Itm):Nat:=(l.map wI).sum
noncomputable def fw(s:RS)(k:Nat):Nat:=if s.aq k= -1 then 0 else 1
noncomputable def W(s:RS):Nat:=wB (s.box 0)+wB (s.box 1)+wB (s.box 2)+fw s 1+fw s 2
noncomputable def tW(t:Int)(h:Nat):Nat:=if t≠ -1∧t≠(h:Int)then 1 else 0
theorem yb(a:List Itm)(i:Itm):wB (a++[i])=wB a+wI i:=by unfold wB;simp
theorem qT(a:List Itm)(i:Itm):wB (i::a)=wB a+wI i:=by unfold wB;simp;(exact Nat.add_comm _ _)
theorem pJ(b:Nat→List Itm)(h:n<3)(l:List Itm):wB (upd b n l 0)+wB (upd b n l 1)+wB (upd b n l 2)+wB (b n)=wB (b 0)+wB (b 1)+wB (b 2)+wB l:=
 mN (P:=fun n=>wB (upd b n l 0)+wB (upd b n l 1)+wB (upd b n l 2)+wB (b n)=wB (b 0)+wB (b 1)+wB (b 2)+wB l) (by refine(?_ :wB l+wB (b 1)+wB (b 2)+wB (b 0)=_);lia) (by refine(?_ :wB (b 0)+wB l+wB (b 2)+wB (b 1)=_);lia) (by refine(?_ :wB (b 0)+wB (b 1)+wB l+wB (b 2)=_);lia) n h
theorem fk(h k j:Nat):fj (-1) h k j=0:=if_neg fun q=>by have:=q.1;omega
theorem qU{a b:Option m}:comb p6 a b≠none↔a≠none∨b≠none:=by
 rcases a with _|_<;>rcases b with _|_<;>simp[comb]
theorem rY:(comb (· +·) e6 f9).getD 0=e6.getD 0+f9.getD 0:=by
 rcases e6 with _|_<;>rcases f9 with _|_<;>simp[comb]
theorem uX [Decidable a0]:(if a0 then some I else none).getD 0=if a0 then I else 0:=by split<;>rfl
theorem yc(O:aT a)(h:n<3)(b:k<3):S (a n)=S (a k)↔n=k:=⟨fun e=>O.inj n k h b (wi e),fun e=>by rw[e]⟩
theorem Core.other(C:Core a d (-1) n)(h:Nat):Core a d (-1) h:={C with val:=fun k j e b=>by rw[C.val k j e b,fk _ _ _,fk]}
theorem xl(O:aT a)(C:Core a d (-1) n)(G:Good0 a d k z T)(l:a1<3)(F:d8<3)(E:a1≠d8)(f:(a1:Int)∈d.aw):Core a (bC a d L k a1 d8) (-1) a1:=by
 have c:Tab (d.aK a1) (fun x=>(d.aK a1).lookup x):=⟨C.nd a1 l,fun J=>rfl⟩;have s:=c.add (plus:=(· +·)) (Tab.one (S (a d8)) (1:Int));have o:∀a0,a0≠a1→(bC a d L k a1 d8).aK a0=d.aK a0:=fun a0 q=>aA q;have t:(bC a d L k a1 d8).aK a1=dO (· +·) (d.aK a1) [(S (a d8),1)]:=ax _ _ _;have H:∀a0 j,oj (bC a d L k a1 d8) a0 j=oj d a0 j+(if a0=a1∧j=d8 then 1 else 0):=fun a0 j=>by
  refine(?_ :(d.ae++[_]).countP _=_);rw[List.countP_append,List.countP_singleton];refine(?_ :d.ae.countP _+(if(a1==a0&&d8==j&&true)=true then 1 else 0)=_);unfold oj;congr 1;by_cases q:a0=a1∧j=d8
  ·rw[q.1,q.2];simp
  ·rw[if_neg q,if_neg];simp only[Bool.and_true,Bool.and_eq_true,beq_iff_eq];exact fun a2=>q ⟨a2.1.symm,a2.2.symm⟩
 have u:∀(p:Itm→Bool),p (.bw d.ae.length)=false→∀a0,((bC a d L k a1 d8).box a0).countP p=(d.box a0).countP p:=fun p I a0=>by
  refine(?_ :(upd d.box d8 (d.box d8++[.bw d.ae.length]) a0).countP p=_);by_cases q:a0=d8
  ·subst q;rw[ax _ _ _,List.countP_append,List.countP_singleton,I];rfl
  ·rw[aA q]
 refine⟨fun m i=>?_,fun a0 h=>?_,fun a0 h x=>?_,fun a0 j h w=>?_,fun a0 h=>?_,fun a3 B y=>?_,C.qS,fun a0 h v=>?_,C.bs,C.b0,C.s9⟩
 ·refine dd (show m∈d.ae++[_]from i) (fun q=>?_) fun q=>?_
  ·exact C.way m q
  ·rw[List.mem_singleton.mp q];exact E
 ·by_cases q:a0=a1
  ·subst q;rw[t];exact s.nd
  ·rw[o a0 q];exact C.nd a0 h
 ·have i:(∃m∈(bC a d L k a1 d8).ae,m.bb=a0∧x=S (a m.to))↔(∃m∈d.ae,m.bb=a0∧x=S (a m.to))∨(a1=a0∧x=S (a d8)):=by
   refine(?_ :(∃m∈d.ae++[_],_)↔_);constructor
   ·rintro⟨m,i,q⟩;refine dd i (fun b=>?_) fun b=>?_
    ·exact .inl ⟨m,b,q⟩
    ·rw[List.mem_singleton.mp b]at q;exact .inr q
   ·rintro(⟨m,b,q⟩|q)
    ·exact aF m (List.mem_append_left _ b) q
    ·exact aF _ (List.mem_append_right _ (List.mem_singleton.mpr rfl)) q
  rw[i];by_cases q:a0=a1
  ·subst q;rw[t,s.look _,qU,C.keys a0 h];refine or_congr Iff.rfl ⟨fun a2=>⟨rfl,?_⟩,fun a2=>?_⟩
   ·by_cases e:x=S (a d8)
    ·exact e
    ·rw[if_neg e]at a2;exact absurd rfl a2
   ·rw[if_pos a2.2];simp
  ·rw[o a0 q,C.keys a0 h];exact⟨.inl,fun a2=>a2.elim id fun a2=>absurd a2.1.symm q⟩
 ·have r:=C.val a0 j h w;have g:aj (bC a d L k a1 d8) a0 j=aj d a0 j:=u (isA j) rfl a0;have A:lj (bC a d L k a1 d8) a0 j=lj d a0 j:=rfl;rw[g,A,H _ _,fk _ _ _];rw[fk]at r;unfold ow at r⊢;by_cases q:a0=a1
  ·subst q;rw[t,s.look _,rY,uX,r];have:=yc O w F;by_cases e:j=d8
   ·rw[if_pos (this.mpr e),if_pos ⟨rfl,e⟩];(simp+arith)
   ·rw[if_neg (fun a2=>e (this.mp a2)),if_neg (fun a2=>e a2.2)];rfl
  ·rw[o a0 q,r,if_neg (fun a2=>q a2.1)];rfl
 ·refine(?_ :d.cf a0=_);rw[u jX rfl _,C.bY a0 h]
 ·refine(?_ :Itm.bw a3∈upd d.box d8 (d.box d8++[.bw d.ae.length]) _);have K:a3<d.ae.length+1:=by simpa [bC]using B
  by_cases q:a3=d.ae.length
  ·have e:af (bC a d L k a1 d8) a3=⟨a1,d8,L.tail,k,none⟩:=by
    subst q;unfold af bC;simp
   rw[e,q];change _∈upd _ d8 _ d8;rw[ax _ _ _];simp
  ·have e:af (bC a d L k a1 d8) a3=af d a3:=by
    unfold af bC;simp only[List.getD_eq_getElem?_getD];rw[List.getElem?_append_left (by lia)]
   rw[e]at y⊢;have b:=C.lP a3 (by lia) y;by_cases q:(af d a3).to=d8
   ·rw[q,ax _ _ _];rw[q]at b;exact List.mem_append_left _ b
   ·rw[aA q];exact b
 ·by_cases q:a0=a1
  ·subst q;exact C.qS a0 h f
  ·rw[o a0 q]at v;exact C.mH a0 h v
theorem BU(b:z<3):W (bC a d L n k z)=W d+2:=by
 have h:=pJ d.box b (d.box z++[.bw d.ae.length]);rw[yb]at h;have e:wI (.bw d.ae.length)=2:=rfl;refine(?_ :wB (upd d.box z (d.box z++[.bw d.ae.length]) 0)+wB (upd d.box z (d.box z++[.bw d.ae.length]) 1)+wB (upd d.box z (d.box z++[.bw d.ae.length]) 2)+fw d 1+fw d 2=_);unfold W;lia
theorem xm(C:Core a d (-1) n):Core a (ky d k) (-1) k:=
 have C:=C.other k
 ⟨C.way,C.nd,C.keys,C.val,C.bY,C.lP,fun a0 b h=>C.qS a0 b (List.mem_of_mem_erase h),C.mH,C.bs,C.b0,C.s9⟩
theorem ro(O:aT a)(C:Core a d (-1) n)(G:Good0 a d k z T)(c:a1<3)(e:d.box a1= .bY d8::b3):Core a (cJ a d a1 d8 b3) (-1) a1:=by
 have t:=G.fL a1 d8 (by rw[e];simp);have g:Tab (d.aK a1) (fun x=>(d.aK a1).lookup x):=⟨C.nd a1 c,fun J=>rfl⟩;have o:=(Tab.one (S (a d8)) (-1:Int)).add (plus:=(· +·)) g;have i:∀a0,a0≠a1→(cJ a d a1 d8 b3).aK a0=d.aK a0:=fun a0 q=>aA q;have r:(cJ a d a1 d8 b3).aK a1=dO (· +·) [(S (a d8),-1)] (d.aK a1):=ax _ _ _;have H:0<aj d a1 d8:=ya (by rw[e];simp);have u:=C.val a1 d8 c t;have v:∀(p:Itm→Bool) a0,((cJ a d a1 d8 b3).box a0).countP p+(if a0=a1∧p (.bY d8)=true then 1 else 0)=(d.box a0).countP p:=fun p a0=>by
  refine(?_ :(upd d.box a1 b3 a0).countP p+_=_);by_cases q:a0=a1
  ·subst q;rw[ax _ _ _,e,List.countP_cons];simp
  ·rw[aA q,if_neg (fun a2=>q a2.1)];rfl
 refine⟨C.way,fun a0 h=>?_,fun a0 h x=>?_,fun a0 j h f=>?_,fun a0 h=>?_,fun a3 A E=>?_,C.qS,fun a0 h w=>?_,C.bs,C.b0,C.s9⟩
 ·by_cases q:a0=a1
  ·subst q;rw[r];exact o.nd
  ·rw[i a0 q];exact C.nd a0 h
 ·rw[show(cJ a d a1 d8 b3).ae=d.ae from rfl,←C.keys a0 h];by_cases q:a0=a1
  ·subst q;rw[r,o.look _,qU];refine⟨fun a2=>a2.elim (fun a2=>?_) id,.inr⟩;by_cases e:x=S (a d8)
   ·subst e;intro y;unfold ow at u;rw[y]at u;have:(0:Int)=_:=u;lia
   ·rw[if_neg e]at a2;exact absurd rfl a2
  ·rw[i a0 q]
 ·have m:=C.val a0 j h f;have s:aj (cJ a d a1 d8 b3) a0 j+(if a0=a1∧isA j (.bY d8)=true then 1 else 0)=aj d a0 j:=v (isA j) a0;have l:lj (cJ a d a1 d8 b3) a0 j=lj d a0 j:=rfl;have B:oj (cJ a d a1 d8 b3) a0 j=oj d a0 j:=rfl;rw[l,B,fk _ _ _];rw[fk]at m;unfold ow at m⊢;by_cases q:a0=a1
  ·subst q;rw[r,o.look _,rY,uX,m];have:=yc O f t;by_cases e:j=d8
   ·rw[if_pos ⟨rfl,by rw[e];simp[qQ,qR]⟩]at s;rw[if_pos (this.mpr e)];lia
   ·rw[if_neg (fun a2=>e (show d8=j by simpa [qQ,qR]using a2.2).symm)]at s;rw[if_neg (fun a2=>e (this.mp a2))];lia
  ·rw[if_neg (fun a2=>q a2.1)]at s;rw[i a0 q,m];lia
 ·have b:=v jX a0;have F:=C.bY a0 h;refine(?_ :upd d.cf a1 (d.cf a1-1) a0=_);by_cases q:a0=a1
  ·subst q;rw[if_pos ⟨rfl,rfl⟩]at b;rw[ax _ _ _];lia
  ·rw[if_neg (fun a2=>q a2.1)]at b;rw[aA q];lia
 ·have b:=C.lP a3 A E;refine(?_ :Itm.bw a3∈upd d.box a1 b3 (af d a3).to);by_cases q:(af d a3).to=a1
  ·rw[q]at b⊢;rw[e]at b;rw[ax _ _ _];simpa using b
  ·rw[aA q];exact b
 ·by_cases q:a0=a1
  ·subst q;refine C.mH a0 h fun a2=>?_;have:=(C.term O G h t a2).2.1;lia
  ·rw[i a0 q]at w;exact C.mH a0 h w
theorem xn(b:n<3)(e:d.box n= .bY k::b3):W (cJ a d n k b3)+1=W d:=by
 have h:=pJ d.box b b3;rw[e,qT]at h;have i:wI (.bY k)=1:=rfl;refine(?_ :wB (upd d.box n b3 0)+wB (upd d.box n b3 1)+wB (upd d.box n b3 2)+fw d 1+fw d 2+1=_);unfold W;lia
theorem hI(h:n<d.ae.length):d.ae[n]=af d n:=by
 unfold af;rw[List.getD_eq_getElem?_getD,List.getElem?_eq_getElem h];rfl
theorem A8{f:cm→m}(h:n<d.ae.length)(e:f f7=f (af d n)):(d.ae.set n f7).map f=d.ae.map f:=by
 rw[List.map_set,e];apply List.ext_getElem?;intro j;rw[List.getElem?_set];split
 ·rename_i q;subst q;rw[List.getElem?_map,List.getElem?_eq_getElem h,hI h];simp[h]
 ·rfl
theorem ex_map{f:m→e7}{p:e7→Prop}(e:p3.map f=q6.map f):(∃x∈p3,p (f x))↔∃x∈q6,p (f x):=by
 have b:∀p3:List m,(∃x∈p3,p (f x))↔∃y∈p3.map f,p y:=fun p3=>by
  constructor
  ·rintro⟨x,h,q⟩;exact aF _ (List.mem_map.mpr ⟨x,h,rfl⟩) q
  ·rintro⟨y,i,q⟩;refine bZ i fun x h d=>?_;subst d;exact aF x h q
 rw[b,b,e]
theorem qV(O:aT a)(C:Core a d (-1) n)(G:Good0 a d k z T)(v:a1<3)(e:d.box a1= .bw d8::b3):
  Core a (aL a h d k a1 d8 b3).1 (aL a h d k a1 d8 b3).2 a1∧(a1:Int)∈(aL a h d k a1 d8 b3).1.aw∧W (aL a h d k a1 d8 b3).1+tW (aL a h d k a1 d8 b3).2 a1+1=W d:=by
 have u:(aL a h d k a1 d8 b3).1.ae=d.ae.set d8 {af d d8 with took:=some k}:=rfl;have f:(aL a h d k a1 d8 b3).1.box=upd d.box a1 b3:=rfl;have t:(aL a h d k a1 d8 b3).1.aK=d.aK:=rfl;have X:(aL a h d k a1 d8 b3).1.cf=d.cf:=rfl;have H:(aL a h d k a1 d8 b3).1.aw=if d.aw.contains (a1:Int)then d.aw else d.aw++[(a1:Int)]:=rfl
 have F:(aL a h d k a1 d8 b3).1.aq=if(d.aq a1== -1)=true then upd d.aq a1 (af d d8).bb else d.aq:=rfl
 have eT:(aL a h d k a1 d8 b3).2=if(d.aq a1== -1)=true then(-1:Int)else(af d d8).bb:=rfl
 generalize aL a h d k a1 d8 b3=p at u f t X H F eT⊢;refine ba (G.dK a1 d8 (by rw[e];simp)) fun w a7 U=>?_;have hm:=cx w;have b7:=G.fh _ hm;have hw:=C.way _ hm;rw[U]at hw;have b5:¬(d.aq 0= -1):=fun a2=>by
  have o:=(C.quiet O G a2).1.2 a1 v;rw[e]at o;contradiction
 have b6:=pJ d.box v b3;rw[e,qT]at b6;have b9:wI (.bw d8)=2:=rfl;have b0:∀j,j≠d8→af p.1 j=af d j:=fun j r=>by
  unfold af;rw[u,jd,if_neg (fun q=>r q.1)]
 have b1:(af p.1 d8).took≠none:=by
  unfold af;rw[u,jd,if_pos ⟨rfl,w⟩];nofun
 have a6:(p.1.ae).map (fun m=>(m.bb,m.to))=d.ae.map (fun m=>(m.bb,m.to)):=by rw[u];exact A8 w rfl
 have a4:∀a0 j,oj p.1 a0 j+(if a0=(af d d8).bb∧j=a1 then 1 else 0)=oj d a0 j:=fun a0 j=>by
  unfold oj;rw[u,List.countP_set w,hI w];have g:((af d d8).bb==a0&&(af d d8).to==j&&(some k).isNone)=false:=by simp
  have o:((af d d8).bb==a0&&(af d d8).to==j&&(af d d8).took.isNone)=decide (a0=(af d d8).bb∧j=a1):=by
   rw[a7,U];by_cases q:a0=(af d d8).bb∧j=a1
   ·rw[q.1,q.2];simp
   ·rw[decide_eq_false q];simp only[Option.isNone_none,Bool.and_true,Bool.and_eq_false_iff,beq_eq_false_iff_ne];by_cases a2:(af d d8).bb=a0
    ·exact .inr fun y=>q ⟨a2.symm,y.symm⟩
    ·exact .inl a2
  refine(?_ :d.ae.countP _-(if((af d d8).bb==a0&&(af d d8).to==j&&(af d d8).took.isNone)=true then 1 else 0)+(if((af d d8).bb==a0&&(af d d8).to==j&&(some k).isNone)=true then 1 else 0)+_=_);rw[g,o];by_cases q:a0=(af d d8).bb∧j=a1
  ·rw[decide_eq_true q,if_pos rfl,if_pos q];have:0<oj d a0 j:=by rw[q.1,q.2,←U];exact x9 w a7
   unfold oj at this;rw[if_neg (by decide)];lia
  ·rw[decide_eq_false q,if_neg q];simp
 have R:∀(q:Itm→Bool),q (.bw d8)=false→∀a0,(p.1.box a0).countP q=(d.box a0).countP q:=fun J hp a0=>by
  rw[f];by_cases q:a0=a1
  ·subst q;rw[ax _ _ _,e,List.countP_cons,hp];simp
  ·rw[aA q]
 have a5:∀s,s<p.1.ae.length→(af p.1 s).took=none→Itm.bw s∈p.1.box (af p.1 s).to:=fun s a3 P=>by
  by_cases q:s=d8
  ·subst q;exact absurd P b1
  ·rw[b0 s q]at P⊢;rw[u,List.length_set]at a3;have o:=C.lP s a3 P;rw[f];by_cases a2:(af d s).to=a1
   ·rw[a2]at o⊢;rw[e]at o;rw[ax _ _ _];refine memC o (fun y=>?_) fun y=>?_
    ·cases y;exact absurd rfl q
    ·exact y
   ·rw[aA a2];exact o
 have a8:∀m∈p.1.ae,m.bb≠m.to:=fun m b4=>by
  have o:=ex_map (p:=fun q:Nat×Nat=>q.1=q.2) a6;intro a2;refine au (o.mp ⟨m,b4,a2⟩) fun m2 l h3=>?_;exact C.way m2 l h3
 have V:∀a0,a0<3→∀x,(p.1.aK a0).lookup x≠none↔∃m∈p.1.ae,m.bb=a0∧x=S (a m.to):=fun a0 b x=>by
  rw[t,C.keys a0 b x];exact(ex_map (p:=fun q:Nat×Nat=>q.1=a0∧x=S (a q.2)) a6).symm
 have D:(a1:Int)∈p.1.aw:=by
  rw[H];split
  ·rename_i q;exact List.contains_iff_mem.mp q
  ·exact List.mem_append_right _ List.mem_cons_self
 have N:∀a0:Nat,(a0:Int)∈p.1.aw→a0=a1∨(a0:Int)∈d.aw:=fun a0 q=>by
  rw[H]at q;split at q
  ·exact .inr q
  ·refine dd q (fun q=>?_) fun q=>?_
   ·exact .inr q
   ·have:=List.mem_singleton.mp q;exact .inl (by lia)
 have Z:∀a0,a0<3→p.1.cf a0=((p.1.box a0).countP jX:Nat):=fun a0 b=>by
  rw[R jX rfl _,X];exact C.bY a0 b
 have Y:∀a0 j,aj p.1 a0 j=aj d a0 j:=fun a0 j=>R (isA j) rfl a0;by_cases q:d.aq a1= -1
 ·have A:(d.aq a1== -1)=true:=by rw[q];rfl
  have i:p.1.aq=upd d.aq a1 (af d d8).bb:=by
   rw[F,if_pos A]
  have B:p.2= -1:=by
   rw[eT,if_pos A]
  have g:a1≠0:=fun a2=>b5 (by rw[←a2];exact q);have a9:∀a0,a0<3→a0≠a1→d.aq a0=a1→False:=fun a0 b b2 a2=>C.mH a1 v (C.led O G v b a2 b2) q;refine bx (⟨a8,t▸C.nd,V,fun a0 j b r=>?_,Z,a5,fun a0 b I=>?_,fun a0 b K=>?_,fun j r L=>?_,?_,?_⟩) D ?_
  ·have E:=C.val a0 j b r;have o:=a4 a0 j;have l:=Y a0 j;rw[B,fk _ _ _,l];rw[fk]at E;rw[show ow a p.1 a0 j=ow a d a0 j by unfold ow;rw[t]];rw[E];have M:lj p.1 a0 j=lj d a0 j+(if a0=(af d d8).bb∧j=a1 then 1 else 0):=by
    unfold lj;rw[i];by_cases a2:j=a1
    ·subst a2;rw[ax _ _ _,q];by_cases y:a0=(af d d8).bb
     ·rw[if_pos ⟨by rw[y],by rw[y];exact fun x=>hw x.symm⟩,if_neg (fun x=>by have:=x.1;lia),if_pos ⟨y,rfl⟩]
     ·rw[if_neg (fun x=>y (by have:=x.1;lia)),if_neg (fun x=>by have:=x.1;lia),if_neg (fun x=>y x.1)]
    ·rw[aA a2,if_neg (c:=a0=_∧j=a1) (fun x=>a2 x.2)];rfl
   rw[M];lia
  ·rw[i];by_cases a2:a0=a1
   ·subst a2;rw[ax _ _ _];(simp+arith)
   ·rw[aA a2];exact C.qS a0 b ((N a0 I).resolve_left a2)
  ·rw[i];by_cases a2:a0=a1
   ·subst a2;rw[ax _ _ _];(simp+arith)
   ·rw[aA a2];exact C.mH a0 b (t▸K)
  ·rw[i];by_cases a2:j=a1
   ·subst a2;rw[ax _ _ _];lia
   ·rw[aA a2];exact C.bs j r L
  ·rw[i,aA (fun a2=>g a2.symm)];exact C.b0
  ·rw[i];rintro⟨z1,z2⟩;refine gu (qZ v) (fun y=>?_) (fun y=>?_) fun y=>?_
   ·exact g y
   ·subst y;rw[aA (by decide)]at z2;exact a9 2 (by(simp+arith)) (by decide) (by simpa using z2)
   ·subst y;rw[aA (by decide)]at z1;exact a9 1 (Nat.le_succ _) (by decide) (by simpa using z1)
  ·rw[B];have Q:tW (-1) a1=0:=if_neg fun a2=>a2.1 rfl;have he:fw p.1 1+fw p.1 2=fw d 1+fw d 2+1:=by
    unfold fw;rw[i];refine gu (qZ v) (fun y=>?_) (fun y=>?_) fun y=>?_
    ·exact absurd y g
    ·subst y;rw[ax _ _ _,aA (by decide),q,if_neg (by(simp+arith)),if_pos rfl];(simp+arith)
    ·subst y;rw[ax _ _ _,aA (by decide),q,if_neg (c:=((af d d8).bb:Int)= -1) (by(simp+arith)),if_pos (c:=(-1:Int)= -1) rfl]
   unfold W;rw[f];rw[Q];lia
 ·have A:¬((d.aq a1== -1)=true):=by simpa using q
  have i:p.1.aq=d.aq:=by
   rw[F,if_neg A]
  have B:p.2=(af d d8).bb:=by
   rw[eT,if_neg A]
  refine bx (⟨a8,t▸C.nd,V,fun a0 j b r=>?_,Z,a5,fun a0 b I=>?_,fun a0 b K=>?_,fun j r L=>?_,?_,?_⟩) D ?_
  ·have E:=C.val a0 j b r;have o:=a4 a0 j;have l:=Y a0 j;rw[B,l];rw[fk]at E;rw[show ow a p.1 a0 j=ow a d a0 j by unfold ow;rw[t]];rw[E];have M:lj p.1 a0 j=lj d a0 j:=by unfold lj;rw[i]
   have hf:fj (af d d8).bb a1 a0 j=(if a0=(af d d8).bb∧j=a1 then 1 else 0):=by
    unfold fj;by_cases a2:a0=(af d d8).bb∧j=a1
    ·rw[if_pos a2,if_pos ⟨by rw[a2.1],a2.2,by lia⟩]
    ·rw[if_neg a2,if_neg fun y=>a2 ⟨by have:=y.1;lia,y.2.1⟩]
   rw[M,hf];lia
  ·rw[i];refine ay (N a0 I) (fun a2=>?_) fun a2=>?_
   ·subst a2;exact q
   ·exact C.qS a0 b a2
  ·rw[i];exact C.mH a0 b (t▸K)
  ·rw[i];exact C.bs j r L
  ·rw[i];exact C.b0
  ·rw[i];exact C.s9
  ·rw[B];have Q:tW (af d d8).bb a1=1:=if_pos ⟨by(simp+arith),by lia⟩;have he:fw p.1 1+fw p.1 2=fw d 1+fw d 2:=by unfold fw;rw[i]
   unfold W;rw[f];rw[Q];lia
theorem uY(v:n<3)(C:Core a c0.1 c0.2 n)(d:c0.2≠ -1→(n:Int)∈c0.1.aw):Core a (aG c0 n).1 (aG c0 n).2 n∧W (aG c0 n).1+tW (aG c0 n).2 n=W c0.1+tW c0.2 n:=by
 unfold aG;dsimp only;split
 ·rename_i q;refine ba q fun b A B=>?_;have r:(n:Int)∉c0.1.aw:=by simpa using A
  have g:c0.2= -1:=Classical.byContradiction fun z=>r (d z);rw[g]at C⊢;have l:tW (-1) n=0:=if_neg fun z=>z.1 rfl;refine⟨⟨C.way,C.nd,C.keys,fun k j h i=>?_,C.bY,C.lP,fun k h d=>?_,fun k h p=>?_,fun j i f=>?_,?_,?_⟩,?_⟩
  ·have s:=C.val k j h i;rw[fk]at s;refine(?_ :ow a c0.1 k j=((oj c0.1 k j+aj c0.1 k j+(if upd c0.1.aq n (-1) j=(k:Int)∧j≠k then 1 else 0)+(if c0.1.aq n=(k:Int)∧j=n∧c0.1.aq n≠(n:Int)then 1 else 0):Nat):Int));rw[s];unfold lj;by_cases z:j=n
   ·subst z;rw[ax _ _ _,if_neg (c:=(-1:Int)=(k:Int)∧j≠k) (fun x=>by have:=x.1;lia)];by_cases y:c0.1.aq j=(k:Int)∧j≠k
    ·rw[if_pos y,if_pos ⟨y.1,rfl,by rw[y.1];have:=y.2;lia⟩]
    ·rw[if_neg y,if_neg fun x=>y ⟨x.1,fun w=>x.2.2 (by rw[x.1,w])⟩]
   ·rw[aA z,if_neg (c:=_∧j=n∧_) (fun x=>z x.2.1)]
  ·refine(?_ :upd c0.1.aq n (-1) k≠ -1);rw[aA (fun z=>by subst z;exact r d)];exact C.qS k h d
  ·refine(?_ :upd c0.1.aq n (-1) k≠ -1);rw[aA (fun z=>by subst z;exact p B)];exact C.mH k h p
  ·refine(?_ :upd c0.1.aq n (-1) j≠j);by_cases z:j=n
   ·subst z;rw[ax _ _ _];(simp+arith)
   ·rw[aA z];exact C.bs j i f
  ·refine(?_ :upd c0.1.aq n (-1) 0=0∨upd c0.1.aq n (-1) 0= -1);by_cases z:0=n
   ·subst z;rw[ax _ _ _];exact .inr rfl
   ·rw[aA z];exact C.b0
  ·refine(?_ :¬(upd c0.1.aq n (-1) 1=2∧upd c0.1.aq n (-1) 2=1));rintro⟨m,o⟩;by_cases t:1=n
   ·subst t;rw[ax]at m;lia
   ·by_cases u:2=n
    ·subst u;rw[ax]at o;lia
    ·rw[aA t]at m;rw[aA u]at o;exact C.s9 ⟨m,o⟩
  ·rw[l];refine(?_ :wB (c0.1.box 0)+wB (c0.1.box 1)+wB (c0.1.box 2)+(if upd c0.1.aq n (-1) 1= -1 then 0 else 1)+(if upd c0.1.aq n (-1) 2= -1 then 0 else 1)+tW (c0.1.aq n) n=W c0.1+0);unfold W fw tW;refine gu (qZ v) (fun y=>?_) (fun y=>?_) fun y=>?_
   ·subst y;rw[aA (by decide),aA (by decide)];rw[if_neg (c:=c0.1.aq 0≠ -1∧_) (fun x=>(C.b0.resolve_right b▸x.2) rfl)]
   ·subst y;have e:=C.bs 1 (by omega) (by decide);rw[ax _ _ _,aA (by decide),if_pos rfl,if_neg b,if_pos (c:=c0.1.aq 1≠ -1∧_) ⟨b,e⟩];(exact Nat.add_right_comm _ _ _)
   ·subst y;have e:=C.bs 2 (by omega) (by decide);rw[ax _ _ _,aA (by decide),if_pos (c:=(-1:Int)= -1) rfl,if_neg (c:=c0.1.aq 2= -1) b,if_pos (c:=c0.1.aq 2≠ -1∧_) ⟨b,e⟩]
 ·exact⟨C,rfl⟩
theorem td(E:∀k:Nat,k<3→k≠n→c0.1.aq k≠ -1→(k:Int)∈c0.1.aw∨bh (c0.1.aK k)≠0):hS (aG c0 n).1:=by
 unfold aG;dsimp only;split
 ·intro k b h;by_cases q:k=n
  ·subst q;exact absurd (ax c0.1.aq k (-1)) h
  ·have h:upd c0.1.aq n (-1) k≠ -1:=h;rw[aA q]at h;exact E k b q h
 ·rename_i q;intro k b h;by_cases z:k=n
  ·subst z;by_cases d:(k:Int)∈c0.1.aw
   ·exact .inl d
   ·exact .inr fun y=>q ⟨h,by simpa using d,y⟩
  ·exact E k b z h
theorem xo(c:n<3)(g: -1≤c0.2∧c0.2<3)(C:Core a c0.1 c0.2 n):Core a (aY c0 n) (-1) n∧W (aY c0 n)=W c0.1+tW c0.2 n:=by
 unfold aY;dsimp only;split
 ·rename_i q;obtain⟨t,e⟩:∃t:Nat,c0.2=t:=⟨c0.2.toNat,by have:=q.1;lia⟩;have p:c0.2.toNat=t:=by lia
  have v:t<3:=by lia
  rw[p];have o:∀(f:Itm→Bool) k,(upd c0.1.box t (c0.1.box t++[.bY n]) k).countP f=(c0.1.box k).countP f+(if k=t∧f (.bY n)=true then 1 else 0):=fun f k=>by
   by_cases z:k=t
   ·subst z;rw[ax _ _ _,List.countP_append,List.countP_singleton];simp
   ·rw[aA z,if_neg (fun x=>z x.1)];rfl
  refine⟨⟨C.way,C.nd,C.keys,fun k j b i=>?_,fun k b=>?_,fun a0 u w=>?_,C.qS,C.mH,C.bs,C.b0,C.s9⟩,?_⟩
  ·have m:=C.val k j b i;refine(?_ :ow a c0.1 k j=((oj c0.1 k j+(upd c0.1.box t (c0.1.box t++[.bY n]) k).countP (isA j)+lj c0.1 k j+fj (-1) n k j:Nat):Int));rw[m,o _ _,fk _ _ _];have d:fj c0.2 n k j=(if k=t∧isA j (.bY n)=true then 1 else 0):=by
    unfold fj;by_cases z:k=t∧j=n
    ·rw[if_pos ⟨by lia,z.2,q.2⟩,if_pos ⟨z.1,by rw[z.2];simp[qQ,qR]⟩]
    ·rw[if_neg (fun x=>z ⟨by have:=x.1;lia,x.2.1⟩),if_neg (fun x=>z ⟨x.1,(show n=j by simpa [qQ,qR]using x.2).symm⟩)]
   rw[d];refine(?_ :((oj c0.1 k j+(c0.1.box k).countP (isA j)+lj c0.1 k j+_:Nat):Int)=_)
   (simp+arith)
  ·have h:=C.bY k b;refine(?_ :upd c0.1.cf t (c0.1.cf t+1) k=((upd c0.1.box t (c0.1.box t++[.bY n]) k).countP jX:Nat));rw[o _ _];by_cases z:k=t
   ·subst z;rw[ax _ _ _,if_pos ⟨rfl,rfl⟩,h];rfl
   ·rw[aA z,if_neg (fun x=>z x.1)];exact h
  ·have h:=C.lP a0 u w;refine(?_ :Itm.bw a0∈upd c0.1.box t (c0.1.box t++[.bY n]) (af c0.1 a0).to);by_cases z:(af c0.1 a0).to=t
   ·rw[z]at h⊢;rw[ax _ _ _];exact List.mem_append_left _ h
   ·rw[aA z];exact h
  ·have h:=pJ c0.1.box v (c0.1.box t++[.bY n]);rw[yb]at h;have y:wI (.bY n)=1:=rfl;have s:tW c0.2 n=1:=if_pos q;rw[s];refine(?_ :wB (upd c0.1.box t (c0.1.box t++[.bY n]) 0)+wB (upd c0.1.box t (c0.1.box t++[.bY n]) 1)+wB (upd c0.1.box t (c0.1.box t++[.bY n]) 2)+fw c0.1 1+fw c0.1 2=_);unfold W;lia
 ·rename_i q;have r:tW c0.2 n=0:=if_neg q;refine⟨⟨C.way,C.nd,C.keys,fun k j b i=>?_,C.bY,C.lP,C.qS,C.mH,C.bs,C.b0,C.s9⟩,by rw[r];rfl⟩;have m:=C.val k j b i;have d:fj c0.2 n k j=0:=if_neg fun x=>q ⟨by have:=x.1;lia,x.2.2⟩;rw[m,d,fk _ _ _]
theorem rZ(O:aT a)(C:Core a d (-1) n)(G:Good0 a d k z T)(E:hS d)(F:L.way<2):
  Core a (aP a h d L k).1 (aP a h d L k).2 (handOf d L)∧((aP a h d L k).2≠ -1→(handOf d L:Int)∈(aP a h d L k).1.aw)∧
  (∀a0:Nat,a0<3→a0≠handOf d L→(aP a h d L k).1.aq a0≠ -1→(a0:Int)∈(aP a h d L k).1.aw∨bh ((aP a h d L k).1.aK a0)≠0)∧
  ((aX d L=[]∧aP a h d L k=(d,-1))∨(aX d L≠ []∧handOf d L∈aX d L∧match L.kd with
   | .give=>W (aP a h d L k).1+tW (aP a h d L k).2 (handOf d L)=W d+2
   | .rest=>aP a h d L k=(ky d (handOf d L),-1)
   | .take=>W (aP a h d L k).1+tW (aP a h d L k).2 (handOf d L)+1=W d)):=by
 have u:=cq d L;have x:tW (-1) (handOf d L)=0:=if_neg fun a1=>a1.1 rfl;rcases s:aX d L with _|⟨a3,r⟩
 ·
  have e:aP a h d L k=(d,-1):=by unfold aP;rw[s];rfl
  rw[e];exact cp (C.other _) (fun a1=>absurd rfl a1) (fun a0 m J=>E a0 m) (.inl ⟨rfl,rfl⟩)
 ·
  have j:aX d L≠ []:=by rw[s];simp
  have p:handOf d L∈aX d L:=(mv d L).resolve_left fun a1=>j a1.1;rw[←s];have w:=jL p;have q:(aX d L).isEmpty=false:=by rw[s];rfl
  rcases m:L.kd with _|_|_
  ·
   have l:(handOf d L:Int)∈d.aw:=by
    have:=w.2;rw[m]at this;simpa [uu,uv,uw]using this
   have e:aP a h d L k=(bC a d L k (handOf d L) ((handOf d L+1+L.way) % 3),-1):=by unfold aP;dsimp only;rw[q,if_neg (by decide),m]
   rw[e];refine cp (xl O C G u (Nat.mod_lt _ (by decide)) (by lia) l) (fun a1=>absurd rfl a1) (fun a0 o j b=>?_) (.inr ⟨j,p,?_⟩)
   ·refine(?_ :(a0:Int)∈d.aw∨bh (upd d.aK _ _ a0)≠0);rw[aA j];exact E a0 o b
   ·refine(?_ :W _+tW (-1) _=_);rw[BU (Nat.mod_lt _ (by decide)),x]
  ·
   have B:(d.box (handOf d L)).isEmpty=false:=by
    have:=w.2;rw[m]at this;simpa [uu,uv,uw]using this
   rcases b:d.box (handOf d L)with _|⟨i,v⟩
   ·rw[b]at B;contradiction
   ·
    rcases i with a2|y
    ·
     have e:aP a h d L k=aL a h d k (handOf d L) a2 v:=by unfold aP;dsimp only;rw[q,if_neg (by decide),m,b]
     rw[e];refine ba (qV (h:=h) O C G u b) fun c f g=>?_;refine cp c (fun J=>f) (fun a0 o j b=>?_) (.inr ⟨j,p,g⟩);have t:(if(d.aq (handOf d L)== -1)=true then upd d.aq (handOf d L) (af d a2).bb else d.aq) a0≠ -1:=b;have A:d.aq a0≠ -1:=by
      split at t
      ·rw[aA j]at t;exact t
      ·exact t
     refine(E a0 o A).imp (fun a1=>?_) id;refine(?_ :(a0:Int)∈(if d.aw.contains (handOf d L:Int)then d.aw else d.aw++[(handOf d L:Int)]));split
     ·exact a1
     ·exact List.mem_append_left _ a1
    ·
     have e:aP a h d L k=(cJ a d (handOf d L) y v,-1):=by unfold aP;dsimp only;rw[q,if_neg (by decide),m,b]
     rw[e];refine cp (ro O C G u b) (fun a1=>absurd rfl a1) (fun a0 o j b=>?_) (.inr ⟨j,p,?_⟩)
     ·refine(?_ :(a0:Int)∈d.aw∨bh (upd d.aK _ _ a0)≠0);rw[aA j];exact E a0 o b
     ·refine(?_ :W (cJ a d (handOf d L) y v)+tW (-1) _+1=W d);rw[x,←xn (a:=a) u b]
  ·
   have e:aP a h d L k=(ky d (handOf d L),-1):=by unfold aP;dsimp only;rw[q,if_neg (by decide),m]
   rw[e];refine cp (xm C) (fun a1=>absurd rfl a1) (fun a0 o j b=>?_) (.inr ⟨j,p,rfl⟩);refine(?_ :(a0:Int)∈d.aw.erase _∨_);refine(E a0 o b).imp (fun a1=>?_) id;exact(List.mem_erase_of_ne (by lia)).mpr a1
noncomputable def BE(s:RS):Prop:=∀k,k<3→s.box k=[]
noncomputable def fC(s:RS):Prop:=∀k n,Itm.bw n∉s.box k
structure ia(s s':RS):Prop where
 box:s'.box=s.box
 aw:s'.aw=s.aw
 aq:s'.aq=s.aq
 ae:s'.ae=s.ae
 aK:s'.aK=s.aK
 cf:s'.cf=s.cf
 log:s'.log=s.log
 bk:s'.bk=s.bk
theorem gS(s:RS)(h:Nat):ia s (gJ (mq s) h):=by
 unfold gJ;split<;>exact⟨rfl,rfl,rfl,rfl,rfl,rfl,rfl,rfl⟩
theorem ia.core(e:ia d h9)(C:Core a d (-1) n):Core a h9 (-1) 0:=by
 obtain⟨y,E,q,u,w,s,A,g,G,c⟩:=d;obtain⟨z,F,r,v,x,t,B,l,H,f⟩:=h9;obtain⟨h,b,i,j,k,m,o,p⟩:=e;dsimp only at h b i j k m o p;subst h b i j k m;have C:=C.other 0;exact⟨C.way,C.nd,C.keys,C.val,C.bY,C.lP,C.qS,C.mH,C.bs,C.b0,C.s9⟩
theorem ia.eager(e:ia d h9)(E:hS d):hS h9:=fun k b h=>by
 rw[e.aw,e.aK];exact E k b (by rw[←e.aq];exact h)
theorem ia.w(e:ia d h9):W h9=W d:=by unfold W fw;rw[e.box,e.aq]
theorem xp(G:Good0 a d n z T)(j:L.kd= .rest)(e:aX d L=[]):d.aw=[]:=by
 rcases b:d.aw with _|⟨a1,r⟩
 ·rfl
 ·
  exfalso;have h:=G.nt a1 (by rw[b];simp);refine ah (Int.eq_ofNat_of_zero_le h.1) fun a0 i=>?_;subst i;have:a0∈aX d L:=by
   unfold aX;rw[List.mem_filter,j];refine⟨by have:=qZ (n:=a0) (Int.ofNat_lt.mp h.2);simpa using this,?_⟩;simp[uu,uv,uw,b]
  rw[e]at this;contradiction
theorem qW(i:L.kd= .take):aX d L=[]↔BE d:=by
 have h:∀k,k∈aX d L↔k<3∧d.box k≠ []:=fun k=>by
  unfold aX;rw[List.mem_filter,i];have:k∈[0,1,2]↔k<3:=List.mem_range (n:=3);rw[this];simp[uu,uv,uw]
 constructor
 ·intro e k j;refine Classical.byContradiction fun q=>?_;have:=(h k).mpr ⟨j,q⟩;rw[e]at this;contradiction
 ·intro e;rcases b:aX d L with _|⟨a,r⟩
  ·rfl
  ·
   have:=(h a).mp (by rw[b];simp);exact absurd (e a this.1) this.2
theorem xq(E:hS d)(i:aP a h d L n=(d,-1)):ia d (aU a h d n L):=by
 unfold aU;rw[i];have b:aG (d,-1) (handOf d L)=(d,-1):=by
  unfold aG;dsimp only;rw[if_neg];rintro⟨k,m,o⟩;have j:(handOf d L:Int)∉d.aw:=by simpa using m
  exact(E _ (cq d L) k).elim j fun z=>z o
 rw[b];have e:aY (d,-1) (handOf d L)=d:=by
  unfold aY;dsimp only;rw[if_neg fun z=>z.1 rfl]
 rw[e];exact gS d n
theorem mI(O:aT a)(C:Core a d (-1) 0)(G:Good a d n)(E:hS d)(D:cZ L)(K:L.way<2)(I:L.kd= .give→d.ae.length<9):
  Core a (aU a h d n L) (-1) 0∧hS (aU a h d n L)∧
  ((aX d L=[]∧ia d (aU a h d n L))∨(aX d L≠ []∧handOf d L∈aX d L∧match L.kd with
   | .give=>W (aU a h d n L)=W d+2
   | .rest=>W (aU a h d n L)=W d∧(aU a h d n L).aw=d.aw.erase (handOf d L:Int)
   | .take=>W (aU a h d n L)+1=W d)):=by
 refine bQ (rZ (h:=h) O C G.toGood0 E K) fun t u v w=>?_;have q:=cq d L;have B:=ll (h:=h) G.toGood0 D I;refine ai (uY q t u) fun x y=>?_;have o:=td v;refine ai (xo q (pb (T:=handOf d L) B (rS (h:=h) (L:=L) G.toGood0)) x) fun c f=>?_;have i:ia (aY (aG (aP a h d L n) (handOf d L)) (handOf d L)) (aU a h d n L):=gS _ n;have g:hS (aY (aG (aP a h d L n) (handOf d L)) (handOf d L)):=by
  unfold aY;dsimp only;split
  ·exact fun k e H=>o k e H
  ·exact o
 have F:W (aU a h d n L)=W (aP a h d L n).1+tW (aP a h d L n).2 (handOf d L):=by
  rw[i.w,f,y]
 refine bx (i.core c) (i.eager g) ?_;refine ay w (fun r=>ai r fun j m=>?_) fun s=>ba s fun j m b=>?_
 ·exact .inl ⟨j,xq E m⟩
 ·refine .inr ⟨j,m,?_⟩;rw[F];rcases e:L.kd with _|_|_
  ·rw[e]at b;exact b
  ·rw[e]at b;exact b
  ·
   rw[e]at b;dsimp only at b⊢;have J:tW (-1) (handOf d L)=0:=if_neg fun z=>z.1 rfl;refine⟨by rw[b,J];rfl,?_⟩;rw[i.aw,b];have l:∀p:RS×Int,(aG p (handOf d L)).1.aw=p.1.aw:=fun p=>by unfold aG;dsimp only;split<;>rfl
   have A:∀p:RS×Int,(aY p (handOf d L)).aw=p.1.aw:=fun p=>by unfold aY;dsimp only;split<;>rfl
   rw[A _,l _];rfl
theorem nD(N:fC d)(s:L.kd≠ .give):fC (aU a h d n L)∧(L.kd= .take→(aU a h d n L).aw=d.aw):=by
 have m:ia (aY (aG (aP a h d L n) (handOf d L)) (handOf d L)) (aU a h d n L):=gS _ n;have i:∀p:RS×Int,(aG p (handOf d L)).1.aw=p.1.aw∧(aG p (handOf d L)).1.box=p.1.box:=fun p=>by unfold aG;dsimp only;split<;>exact⟨rfl,rfl⟩
 have o:∀p:RS×Int,(aY p (handOf d L)).aw=p.1.aw:=fun p=>by unfold aY;dsimp only;split<;>rfl
 have r:∀p:RS×Int,fC p.1→fC (aY p (handOf d L)):=fun p N=>by
  unfold aY;dsimp only;split
  ·intro k a0 b;have b:Itm.bw a0∈upd p.1.box p.2.toNat (p.1.box p.2.toNat++[.bY (handOf d L)]) k:=b;by_cases q:k=p.2.toNat
   ·subst q;rw[ax]at b;refine dd b (fun z=>?_) fun z=>?_
    ·exact N _ _ z
    ·simp at z
   ·rw[aA q]at b;exact N _ _ b
  ·exact N
 have j:fC (aP a h d L n).1∧(L.kd= .take→(aP a h d L n).1.aw=d.aw):=by
  unfold aP;dsimp only;split
  ·exact⟨N,fun J=>rfl⟩
  ·split
   ·rename_i q;exact absurd q s
   ·rename_i q;exact⟨N,fun z=>by rw[q]at z;contradiction⟩
   ·split
    ·rename_i a0 t e;exact absurd (show Itm.bw a0∈d.box (handOf d L)by rw[e];simp) (N _ _)
    ·rename_i u t e;exact⟨fun k a0 b=>N k a0 (oH e k _ b),fun J=>rfl⟩
    ·exact⟨N,fun J=>rfl⟩
 refine⟨fun k a0=>?_,fun q=>?_⟩
 ·rw[m.box];exact r _ (fun k a0=>by rw[(i _).2];exact j.1 k a0) k a0
 ·rw[m.aw,o _,(i _).1,j.2 q]
structure Inv1(nm:Nat→List Nat)(s:RS)(H:Nat):Prop where
 good:Good nm s H
 core:Core nm s (-1) 0
 eager:hS s
theorem mJ(O:aT a)(I:Inv1 a d n)(D:cZ L)(u:L.way<2)(b:L.kd= .rest):Inv1 a (aU a h d n L) (n+1)∧W (aU a h d n L)=W d∧(aU a h d n L).aw.length=d.aw.length-1∧(fC d→fC (aU a h d n L)):=by
 have j:L.kd= .give→d.ae.length<9:=fun q=>by rw[b]at q;contradiction
 refine ba (mI (h:=h) O I.core I.good I.eager D u j) fun r s t=>?_;refine⟨⟨I.good.step D j,r,s⟩,?_⟩;have k:fC d→fC (aU a h d n L):=fun N=>(nD (a:=a) (h:=h) (n:=n) N (by rw[b];simp)).1;refine ay t (fun o=>ai o fun m e=>?_) fun p=>ba p fun m e i=>?_
 ·have:=xp I.good.toGood0 b m;exact bx e.w (by rw[e.aw,this];rfl) k
 ·rw[b]at i;refine bx i.1 ?_ k;have:=(jL e).2;rw[b]at this;rw[i.2,List.length_erase_of_mem (by simpa [uu,uv,uw]using this)]
theorem mK(O:aT a)(I:Inv1 a d n)(D:cZ L)(t:L.way<2)(b:L.kd= .take):Inv1 a (aU a h d n L) (n+1)∧((BE d∧ia d (aU a h d n L))∨(¬BE d∧W (aU a h d n L)+1=W d))∧(fC d→fC (aU a h d n L)∧(aU a h d n L).aw=d.aw):=by
 have i:L.kd= .give→d.ae.length<9:=fun q=>by rw[b]at q;contradiction
 refine ba (mI (h:=h) O I.core I.good I.eager D t i) fun p r s=>?_;refine bx (⟨I.good.step D i,p,r⟩) ?_ (fun N=>?_)
 ·refine ay s (fun m=>ai m fun e j=>?_) fun o=>ba o fun e j k=>?_
  ·exact .inl ⟨(qW b).mp e,j⟩
  ·rw[b]at k;exact .inr ⟨fun z=>e ((qW b).mpr z),k⟩
 ·have:=nD (a:=a) (h:=h) (n:=n) N (by rw[b];simp:L.kd≠ .give);exact⟨this.1,this.2 b⟩
theorem C6(h:BE d):W d≤2:=by
 unfold W fw;rw[h 0 (Nat.succ_pos _),h 1 (Nat.le_succ _),h 2 (Nat.le_refl _)];refine(?_ :0+0+0+_+_≤2);split<;>split<;>(exact Nat.le_add_left _ _)
theorem qX(h:wB b3=0):b3=[]:=by
 rcases b3 with _|⟨i,r⟩
 ·rfl
 ·rw[qT]at h;rcases i with _|_<;>simp[wI]at h
theorem C7(h:W d=0):BE d:=fun k j=>by
 unfold W at h;have z:=A7 (Nat.add_eq_zero_iff.mp h).1;refine gu (qZ j) (fun b=>?_) (fun e=>?_) fun i=>?_
 ·subst b;exact qX z.1
 ·subst e;exact qX z.2.1
 ·subst i;exact qX z.2.2.1
theorem xr(G:Good0 a d n k z)(h:BE d):fC d:=fun a0 a1 e=>by
 have b:=(G.dK a0 a1 e);have i:a0<3:=by rw[←b.2.2];exact(G.fh _ (cx b.1)).2.1
 rw[h a0 i]at e;contradiction
noncomputable def iR(h:Kd)(p:Nat):cA:=⟨h,p,0,[]⟩
theorem jA(h:Kd)(p:Nat):cZ (iR h p):=⟨by simp[iR],by simp[iR]⟩
theorem oN(O:aT a)(T:Nat)(I:Inv1 a d n):Inv1 a (cE a h d n (fP T)) (n+6)∧(BE d→Quiet (cE a h d n (fP T)))∧∀w,W d≤w+3→BE (cE a h d n (fP T))∨W (cE a h d n (fP T))≤w:=by
 have e:fP T=[iR .rest (T+0),iR .rest (T+1),iR .rest (T+2),iR .take (T+0),iR .take (T+1),iR .take (T+2)]:=rfl;rw[e];simp only[BG,BH];have M:=mx I.good.toGood0;refine bQ (mJ (h:=h) O I (jA .rest (T+0)) (show 0<2 by decide) rfl) fun j F t y=>?_;generalize aU a h d n (iR .rest (T+0))=s1 at j F t y;refine bQ (mJ (h:=h) O j (jA .rest (T+1)) (show 0<2 by decide) rfl) fun m G u z=>?_;generalize aU a h s1 (n+1) (iR .rest (T+1))=s2 at m G u z;refine bQ (mJ (h:=h) O m (jA .rest (T+2)) (show 0<2 by decide) rfl) fun o H v f=>?_;generalize aU a h s2 (n+1+1) (iR .rest (T+2))=s3 at o H v f;have X:s3.aw=[]:=List.length_eq_zero_iff.mp (by rw[v,u,t,Nat.sub_sub _ _ _,Nat.sub_sub _ _ _];exact Nat.sub_eq_zero_of_le M);refine ba (mK (h:=h) O o (jA .take (T+0)) (show 0<2 by decide) rfl) fun p B g=>?_;generalize aU a h s3 (n+1+1+1) (iR .take (T+0))=s4 at p B g;refine ba (mK (h:=h) O p (jA .take (T+1)) (show 0<2 by decide) rfl) fun r C l=>?_;generalize aU a h s4 (n+1+1+1+1) (iR .take (T+1))=s5 at r C l;refine ba (mK (h:=h) O r (jA .take (T+2)) (show 0<2 by decide) rfl) fun s E A=>?_;generalize aU a h s5 (n+1+1+1+1+1) (iR .take (T+2))=s6 at s E A;have i:∀{a0 c:RS},BE a0∧ia a0 c→BE c:=fun q k Y=>by rw[q.2.box];exact q.1 k Y
 have x:BE s6∨W s6+3=W d:=by
  refine ay E (fun q=>?_) fun b=>ai b fun N V=>?_
  ·exact .inl (i q)
  ·refine ay C (fun q=>?_) fun b=>ai b fun D R=>?_
   ·exact absurd (i q) N
   ·refine ay B (fun q=>?_) fun b=>ai b fun q4 S=>?_
    ·exact absurd (i q) D
    ·exact .inr (by rw[←F,←G,←H,←S,←R,←V])
 refine bx s (fun a1=>⟨?_,?_⟩) (fun w Z=>x.imp id fun q=>Nat.le_of_add_le_add_right (Nat.le_trans (Nat.le_of_eq q) Z))
 ·have J:=f (z (y (xr I.good.toGood0 a1)));refine ai (g J) fun K P=>?_;refine ai (l K) fun L Q=>?_;refine ai (A L) fun N6 U=>?_;rw[U,Q,P];exact X
 ·exact x.resolve_right fun q=>Nat.not_succ_le_zero _ (Nat.le_of_succ_le_succ (Nat.le_of_succ_le_succ (Nat.le_trans (Nat.le_of_eq q) (C6 a1))))
theorem ip:∀(a1 c:List cA)(s:RS)(a0:Nat),cE a h s a0 (a1++c)=cE a h (cE a h s a0 a1) (a0+a1.length) c:=by
 intro L
 induction L with
 |nil=>
  intro c s a0;exact rfl
 |cons d a1 b=>
  intro c s a0;refine(?_ :cE a h (aU a h s a0 d) (a0+1) (a1++c)=cE a h (cE a h (aU a h s a0 d) (a0+1) a1) _ c);rw[b c _ _,List.length_cons,show a0+1+a1.length=a0+(a1.length+1)by(exact Nat.add_right_comm _ _ _)]
theorem oO(T:Nat):(fP T).length=6:=rfl
theorem xt(O:aT a)(T:Nat):∀(n:Nat)(s:RS)(H:Nat),Inv1 a s H→(BE s∨W s≤3*n)→Inv1 a (cE a h s H (List.replicate n (fP T)).flatten) (H+6*n)∧BE (cE a h s H (List.replicate n (fP T)).flatten):=by
 intro L
 induction L with
 |zero=>
  intro s H I a0;exact⟨I,a0.elim id fun q=>C7 (d:=s) (Nat.le_zero.mp q)⟩
 |succ n i=>
  intro s H I a0;rw[List.replicate_succ,List.flatten_cons,ip,oO _];refine ba (oN (h:=h) O T I) fun b d e=>?_;have:=i _ _ b (a0.elim (fun q=> .inl (d q).2) fun q=>e (3*n) q);rw[show H+6*(n+1)=H+6+6*n by(simp+arith)];exact this
theorem te(T:Nat):fI T=(List.replicate 6 (fP T)).flatten++(fP T++fP T):=by
 have h:∀l:List cA,(List.range 8).flatMap (fun J=>l)=(List.replicate 6 l).flatten++(l++l):=fun l=>by
  rw[show List.range 8=[0,1,2,3,4,5,6,7]from rfl];simp[List.replicate]
 exact h _
theorem uZ(O:aT a)(T:Nat)(I:Inv1 a d n)(a0:W d≤18):Quiet (cE a h d n (fI T)):=by
 have b:=xt (h:=h) O T 6 d n I (.inr (by omega));have e:n+(List.replicate 6 (fP T)).flatten.length=n+6*6:=by simp[oO]
 rw[te _,ip,ip,oO _,e];generalize cE a h d n (List.replicate 6 (fP T)).flatten=s1 at b;have i:=oN (h:=h) O T b.1;generalize cE a h s1 (n+6*6) (fP T)=s2 at i;exact(oN (h:=h) O T i.1).2.1 (i.2.1 b.2).2
noncomputable def dep:Nat→List (Bool×Nat)→Option Nat
 |n,[]=>some n
 |n,(true,_)::r=>dep (n+1) r
 |0,(false,_)::_=>none
 |n+1,(false,_)::r=>dep n r
theorem nE:∀(a c:List (Bool×Nat))(n:Nat),dep n (a++c)=(dep n a).bind fun m=>dep m c:=by
 intro L
 induction L with
 |nil=>intro c n;rfl
 |cons p a h=>
  obtain⟨b,k⟩:=p;intro c n;rcases b with _|_
  ·rcases n with _|n
   ·rfl
   ·exact h c n
  ·exact h c (n+1)
theorem xu:∀(a:List (Bool×Nat))(n m:Nat),dep n a=some m→n+2*a.countP (·.1)=m+a.length:=by
 intro L
 induction L with
 |nil=>intro n m h;exact Option.some.inj h
 |cons p a d=>
  obtain⟨b,k⟩:=p;intro n m h;rw[List.countP_cons,List.length_cons];rcases b with _|_
  ·rcases n with _|n
   ·exact nomatch h
   ·have:=d n m h;simp;lia
  ·have:=d (n+1) m h;simp;lia
noncomputable def ib(s:RS):Prop:=∃r,s.log=(true,0)::r∧((s.aq 0≠ -1∧dep 0 r=some (fw s 1+fw s 2))∨(s.aq 0= -1∧∃h,r=h++[(false,0)]∧dep 0 h=some (fw s 1+fw s 2)))
noncomputable def ic(s:RS):Prop:=s.log.countP (·.1)≤1+s.ae.countP (·.took.isSome)
theorem ib.same(h:h9.log=d.log)(b:h9.aq=d.aq)(L:ib d):ib h9:=by
 unfold ib fw at L⊢;rw[h,b];exact L
theorem zB(O:aT a)(C:Core a d (-1) n)(G:Good0 a d k z T)(u:a1<3)(e:d.box a1= .bw d8::b3)(L:ib d)(M:ic d):ib (aL a h d k a1 d8 b3).1∧ic (aL a h d k a1 d8 b3).1:=by
 refine ba (G.dK a1 d8 (by rw[e];simp)) fun o f A=>?_;have l:=G.fh _ (cx o);have p:¬(d.aq 0= -1):=fun a0=>by
  have x:=(C.quiet O G a0).1.2 a1 u;rw[e]at x;contradiction
 have t:(aL a h d k a1 d8 b3).1.ae.countP (·.took.isSome)=d.ae.countP (·.took.isSome)+1:=by
  refine(?_ :(d.ae.set d8 {af d d8 with took:=some k}).countP (·.took.isSome)=_);rw[List.countP_set o,hI o,f];simp
 by_cases q:d.aq a1= -1
 ·have i:(d.aq a1== -1)=true:=by rw[q];rfl
  have m:(aL a h d k a1 d8 b3).1.aq=upd d.aq a1 (af d d8).bb:=by
   refine(?_ :(if(d.aq a1== -1)=true then upd d.aq a1 (af d d8).bb else d.aq)=_);rw[if_pos i]
  have b:(aL a h d k a1 d8 b3).1.log=d.log++[(true,a1)]:=by
   refine(?_ :(if(d.aq a1== -1)=true then d.log++[(true,a1)]else d.log)=_);rw[if_pos i]
  have s:a1≠0:=fun a0=>p (by rw[←a0];exact q);refine⟨?_,?_⟩
  ·refine au L fun r g j=>?_;refine aF (r++[(true,a1)]) (by rw[b,g];rfl) (.inl ?_);refine ay j (fun v=>ai v fun J j=>?_) fun w=>ai w fun j J=>?_
   ·unfold fw;rw[m,aA (fun a0=>s a0.symm)];refine⟨p,?_⟩;rw[nE _ _ _,j];refine(?_ :some (fw d 1+fw d 2+1)=_);unfold fw;refine gu (qZ u) (fun y=>?_) (fun y=>?_) fun y=>?_
    ·exact absurd y s
    ·subst y;rw[ax _ _ _,aA (by decide),q,if_pos rfl,if_neg (c:=((af d d8).bb:Int)= -1) (by(simp+arith))];congr 1;(exact Nat.add_right_comm _ _ _)
    ·subst y;rw[ax _ _ _,aA (by decide),q,if_pos (c:=(-1:Int)= -1) rfl,if_neg (c:=((af d d8).bb:Int)= -1) (by(simp+arith))]
   ·exact absurd j p
  ·unfold ic at M⊢;rw[b,t,List.countP_append,List.countP_singleton,if_pos rfl];(exact Nat.lt_succ_of_le ‹_›)
 ·have i:¬((d.aq a1== -1)=true):=by simpa using q
  have m:(aL a h d k a1 d8 b3).1.aq=d.aq:=by
   refine(?_ :(if(d.aq a1== -1)=true then upd d.aq a1 (af d d8).bb else d.aq)=_);rw[if_neg i]
  have b:(aL a h d k a1 d8 b3).1.log=d.log:=by
   refine(?_ :(if(d.aq a1== -1)=true then d.log++[(true,a1)]else d.log)=_);rw[if_neg i]
  refine⟨L.same b m,?_⟩;unfold ic at M⊢;rw[b,t];(exact Nat.le_succ_of_le ‹_›)
theorem A9(O:aT a)(C:Core a d (-1) n)(G:Good0 a d k z T)(a0:ib d)(M:ic d):ib (aP a h d L k).1∧ic (aP a h d L k).1:=by
 unfold aP;dsimp only;split
 ·exact⟨a0,M⟩
 ·split
  ·refine⟨a0.same rfl rfl,?_⟩;unfold ic at M⊢;refine(?_ :d.log.countP _≤1+(d.ae++[_]).countP _);rw[List.countP_append];assumption
  ·exact⟨a0.same rfl rfl,M⟩
  ·split
   ·rename_i a1 b e;exact zB O C G (cq d L) e a0 M
   ·exact⟨a0.same rfl rfl,M⟩
   ·exact⟨a0,M⟩
theorem xv(O:aT a)(e:T<3)(C:Core a c0.1 c0.2 T)(G:Good0 a c0.1 n k z)(m:c0.2≠ -1→(T:Int)∈c0.1.aw)(L:ib c0.1)(M:ic c0.1):ib (aG c0 T).1∧ic (aG c0 T).1:=by
 unfold aG;dsimp only;split
 ·rename_i q;refine ba q fun d t u=>?_;have o:(T:Int)∉c0.1.aw:=by simpa using t
  have p:c0.2= -1:=Classical.byContradiction fun a0=>o (m a0);rw[p]at C;have b:¬(c0.1.aq 0= -1):=fun a0=>d ((C.quiet O G a0).2.1 T e);refine⟨?_,?_⟩
  ·refine au L fun r s h=>?_;refine ay h (fun i=>ai i fun J h=>?_) fun j=>ai j fun h J=>?_
   ·refine aF (r++[(false,T)]) (by refine(?_ :c0.1.log++[(false,T)]=_);rw[s];rfl) ?_;unfold fw at h⊢;refine gu (qZ e) (fun y=>?_) (fun y=>?_) fun y=>?_
    ·subst y;refine .inr ⟨ax c0.1.aq 0 (-1),r,rfl,?_⟩;refine(?_ :dep 0 r=some ((if upd c0.1.aq 0 (-1) 1= -1 then 0 else 1)+(if upd c0.1.aq 0 (-1) 2= -1 then 0 else 1)));rw[h,aA (by decide),aA (by decide)]
    ·subst y;refine .inl ⟨by refine(?_ :upd c0.1.aq 1 (-1) 0≠ -1);rw[aA (by decide)];exact b,?_⟩;refine(?_ :_=some ((if upd c0.1.aq 1 (-1) 1= -1 then 0 else 1)+(if upd c0.1.aq 1 (-1) 2= -1 then 0 else 1)));rw[nE _ _ _,h,ax _ _ _,aA (by decide),if_neg d,if_pos rfl];refine(?_ :dep (1+_) [(false,1)]=_);rw[Nat.add_comm _ _,Nat.zero_add _];rfl
    ·subst y;refine .inl ⟨by refine(?_ :upd c0.1.aq 2 (-1) 0≠ -1);rw[aA (by decide)];exact b,?_⟩;refine(?_ :_=some ((if upd c0.1.aq 2 (-1) 1= -1 then 0 else 1)+(if upd c0.1.aq 2 (-1) 2= -1 then 0 else 1)));rw[nE _ _ _,h,ax _ _ _,aA (by decide),if_neg (c:=c0.1.aq 2= -1) d,if_pos (c:=(-1:Int)= -1) rfl];rfl
   ·exact absurd h b
  ·unfold ic at M⊢;refine(?_ :(c0.1.log++[(false,T)]).countP _≤1+c0.1.ae.countP _);rw[List.countP_append,List.countP_singleton,if_neg (by simp)];omega
 ·exact⟨L,M⟩
theorem zC(O:aT a)(C:Core a d (-1) 0)(G:Good a d n)(E:hS d)(D:cZ L)(x:L.way<2)(w:L.kd= .give→d.ae.length<9)(a0:ib d)(M:ic d):ib (aU a h d n L)∧ic (aU a h d n L):=by
 refine bQ (rZ (h:=h) O C G.toGood0 E x) fun j k J J=>?_;have v:=cq d L;have u:=ll (h:=h) G.toGood0 D w;refine ai (A9 (h:=h) (L:=L) O C G.toGood0 a0 M) fun m o=>?_;refine ai (xv O v j u k m o) fun q e=>?_;have b:ia (aY (aG (aP a h d L n) (handOf d L)) (handOf d L)) (aU a h d n L):=gS _ n;have r:∀p:RS×Int,(aY p (handOf d L)).log=p.1.log∧(aY p (handOf d L)).aq=p.1.aq∧(aY p (handOf d L)).ae=p.1.ae:=fun p=>by unfold aY;dsimp only;split<;>exact bx rfl rfl rfl
 refine ba (r (aG (aP a h d L n) (handOf d L))) fun i s t=>?_;refine⟨q.same (b.log.trans i) (b.aq.trans s),?_⟩;unfold ic at e⊢;rw[b.log,b.ae,i,t];exact e
theorem Ba(G:Good a d n)(L:ib d)(M:ic d)(b:∀k,k<3→d.aq k= -1):∃r,d.log=(true,0)::(r++[(false,0)])∧dep 0 r=some 0∧d.log.length≤20:=by
 refine au L fun r i e=>?_;refine ay e (fun j=>ai j fun e J=>?_) fun m=>?_
 ·exact absurd (b 0 (Nat.succ_pos _)) e
 ·obtain⟨_,p,rfl,h⟩:=m;unfold fw at h;rw[b 1 (Nat.le_succ _),b 2 (by(simp+arith))]at h;refine fS p i h ?_;have o:=xu _ _ _ h;unfold ic at M;rw[i]at M⊢;rw[List.countP_cons,List.countP_append,List.countP_singleton]at M;rw[List.length_cons,List.length_append,List.length_singleton];have q:d.ae.countP (·.took.isSome)≤9:=Nat.le_trans List.countP_le_length G.len;simp only[if_pos rfl]at o M;simp at M;lia
theorem lA(f:m→Int)(h:p3.Perm q6):(p3.map f).sum=(q6.map f).sum:=by
 induction h with
 |nil=>rfl
 |cons x _ e=>rw[List.map_cons,List.map_cons,List.sum_cons,List.sum_cons,e]
 |swap x y p3=>simp only[List.map_cons,List.sum_cons];(simp+arith)
 |trans _ _ b d=>exact b.trans d
theorem nF(f:m→Int)(l a0:List m):((l++a0).map f).sum=(l.map f).sum+(a0.map f).sum:=by
 rw[List.map_append,List.sum_append]
theorem xw(h:g3.Perm j3):iK g3=iK j3:=by
 unfold iK;rw[h.length_eq,lA _ h,lA _ h]
theorem zD(l m:List Row3):fW (iK l) (iK m)=iK (l++m):=by
 unfold iK fW;rw[nF _ _ _,nF _ _ _,List.length_append];simp;(simp+arith)
noncomputable def mL(h:List Row3)(x:Str):Option (List Int):=if cM h x=[]then none else some (iK (cM h x))
structure dB(b:BK)(rows:List Row3):Prop where
 nc:b.nc=rows.length
 tt:b.tt=(rows.map (·.2.1)).sum
 ct:b.ct=(rows.map (·.2.2)).sum
 gk:Tab b.gk (mL rows)
theorem dB.perm(B:dB j4 g3)(h:g3.Perm j3):dB j4 j3:=by
 refine⟨by rw[B.nc,h.length_eq],by rw[B.tt,lA _ h],by rw[B.ct,lA _ h],B.gk.congr fun x=>?_⟩;have b:(cM g3 x).Perm (cM j3 x):=h.filter _;unfold mL;by_cases q:cM g3 x=[]
 ·rw[if_pos q,if_pos];rw[q]at b;exact b.nil_eq.symm
 ·rw[if_neg q,if_neg,xw b];intro z;rw[z]at b;exact q b.eq_nil
theorem dB.add{b:BK}(A:dB j4 g3)(B:dB b j3):dB (cQ j4 b) (g3++j3):=by
 refine⟨?_,?_,?_,(A.gk.add B.gk).congr fun x=>?_⟩
 ·refine(?_ :b.nc+j4.nc=_);rw[A.nc,B.nc,List.length_append];(simp+arith)
 ·refine(?_ :b.tt+j4.tt=_);rw[A.tt,B.tt,nF _ _ _];(simp+arith)
 ·refine(?_ :b.ct+j4.ct=_);rw[A.ct,B.ct,nF _ _ _];(simp+arith)
 ·have e:cM (g3++j3) x=cM g3 x++cM j3 x:=List.filter_append ..;unfold mL;rw[e];by_cases h:cM g3 x=[]
  ·rw[if_pos h,h];rfl
  ·rw[if_neg h,if_neg fun z=>h (List.append_eq_nil_iff.mp z).1];by_cases d:cM j3 x=[]
   ·rw[if_pos d,d,List.append_nil _];rfl
   ·rw[if_neg d,←zD _ _];rfl
theorem dB.one(c:Int)(x:Str)(w u:Int):dB ⟨c,1,w,u,[(x,[1,w,u])]⟩ [(x,w,u)]:=by
 refine⟨rfl,by simp,by simp,(Tab.one x [1,w,u]).congr fun y=>?_⟩;unfold mL cM;by_cases q:y=x
 ·subst q;simp[iK]
 ·have:(x==y)=false:=by simpa using fun z:x=y=>q z.symm
  simp[q,this]
theorem dB.nil(c:Int):dB ⟨c,0,0,0,[]⟩ []:=⟨rfl,rfl,rfl,Tab.nil.congr fun x=>rfl⟩
theorem Tab.pq(f:m→Str)(v:m→e7)(w:Str→e7)(h:∀a,v a=w (f a)):∀(l:List m){a:List (Str×e7)}{F:Str→Option e7},Tab a F→Tab (l.foldl (fun a p=>cb a (f p) (v p)) a) (fun x=>if x∈l.map f then some (w x)else F x):=by
 intro L
 induction L with
 |nil=>
  intro a F T;exact T.congr fun x=>by simp
 |cons p r b=>
  intro a F T;refine(b (T.store (f p) (v p))).congr fun x=>?_;by_cases q:x∈r.map f
  ·rw[if_pos q,if_pos (by rw[List.map_cons];exact List.mem_cons_of_mem _ q)]
  ·rw[if_neg q];by_cases z:x=f p
   ·subst z;rw[if_pos rfl,if_pos (by simp),h _]
   ·rw[if_neg z,if_neg];rw[List.map_cons,List.mem_cons];exact fun y=>y.elim z q
theorem zE(h:List Row3):Tab (fA h) (mL h):=by
 have T:Tab (fA h) _:=Tab.pq (fun x:Str=>x) (fun x=>iK (cM h x)) (fun x=>iK (cM h x)) (fun J=>rfl) (h.map fun r:Row3=>r.1) Tab.nil;refine T.congr fun x=>?_;unfold mL;have:x∈(h.map (·.1)).map (fun x=>x)↔¬cM h x=[]:=by
  rw[List.map_id' _,List.mem_map];unfold cM;rw[List.filter_eq_nil_iff];constructor
  ·rintro⟨r,b,rfl⟩ z;exact z r b (by simp)
  ·intro z;refine Classical.byContradiction fun y=>z fun r b e=>y ⟨r,b,by simpa using e⟩
 by_cases q:cM h x=[]
 ·rw[if_pos q,if_neg fun z=>this.mp z q]
 ·rw[if_neg q,if_pos (this.mpr q)]
theorem dB.ok(B:dB j4 g3)(h:j4.cc=I):il j4 I g3:=⟨h,B.nc,B.tt,B.ct,B.gk.same (zE g3)⟩
theorem dB.Bb(B:dB j4 g3):∀p∈j4.gk,p.2.length≤1000000:=fun p b=>by
 have h:=lookup_mem B.gk.nd b;rw[B.gk.look]at h;unfold mL at h;split at h
 ·contradiction
 ·rw[←Option.some.inj h];refine(?_ :3≤1000000);decide
theorem zF(P:m×Nat→Bool)(j:n<p3.length)(x:m)(i:P (p3[n],n)=false):((p3.set n x).zipIdx.filter P).Perm (p3.zipIdx.filter P++if P (x,n)=true then [(x,n)]else []):=by
 have b:p3.set n x=p3.take n++x::p3.drop (n+1):=List.set_eq_take_append_cons_drop.trans (if_pos j);have d:p3=p3.take n++p3[n]::p3.drop (n+1):=by
  rw[List.getElem_cons_drop _,List.take_append_drop _ _]
 have h:(p3.take n).length=n:=by rw[List.length_take];lia
 have e:p3.zipIdx.filter P=(p3.take n).zipIdx.filter P++((p3.drop (n+1)).zipIdx (n+1)).filter P:=by
  conv=>lhs;rw[d]
  rw[List.zipIdx_append,List.zipIdx_cons,List.filter_append _ _,List.filter_cons,h];have:0+n=n:=by(exact Nat.add_comm _ _)
  rw[this,if_neg (by rw[i];decide)]
 rw[e,b,List.zipIdx_append,List.zipIdx_cons,List.filter_append _ _,List.filter_cons,h];have:0+n=n:=by(exact Nat.add_comm _ _)
 rw[this];split
 ·rw[List.append_assoc _ _ _];refine List.Perm.append_left _ ?_;exact(List.perm_append_comm (l₁:=[(x,n)]))
 ·rw[List.append_nil _]
noncomputable def iq(h:Nat→List Nat)(b:List Int)(s:RS)(k:Nat):List Row3:=(s.ae.zipIdx.filter fun p=>p.1.to==k&&p.1.took.isSome).map (eM h b)
structure gT(nm:Nat→List Nat)(sums:List Int)(s:RS):Prop where
 it:∀k,dB (s.bk k) (iq nm sums s k)
 cc:∀k,(s.bk k).cc=bc s k
theorem gT.same(B:gT a h d)(b:h9.bk=d.bk)(e:h9.ae=d.ae)(i:h9.log=d.log):gT a h h9:=by
 refine⟨fun k=>?_,fun k=>?_⟩
 ·unfold iq;rw[b,e];exact B.it k
 ·unfold bc;rw[b,i];exact B.cc k
theorem qY(h:d.log≠ [])(x:List (Bool×Nat))(k:Nat):(((d.log++x).drop 1).filter fun p=>p.1&&p.2==k).length=bc d k+(x.filter fun p=>p.1&&p.2==k).length:=by
 have:1≤d.log.length:=by
  have:=List.length_pos_iff.mpr h;assumption
 rw[List.drop_append_of_le_length this,List.filter_append _ _,List.length_append];rfl
theorem u5(G:Good0 a d n k z)(u:T<3)(e:d.box T= .bw a1::b3)(r:d.log≠ [])(B:gT a h d):gT a h (aL a h d n T a1 b3).1:=by
 refine ba (G.dK T a1 (by rw[e];simp)) fun j s m=>?_;refine⟨fun a0=>?_,fun a0=>?_⟩
 ·have o:=zF (fun p:cm×Nat=>p.1.to==a0&&p.1.took.isSome) j {af d a1 with took:=some n} (by rw[hI j,s];simp);have b:=o.map (eM a h);rw[List.map_append]at b;refine(?_ :dB (upd d.bk T (cQ (d.bk T) ⟨_,1,(n:Int)-(af d a1).hour,h.getD a1 0,[(S (a (af d a1).bb),[1,(n:Int)-(af d a1).hour,h.getD a1 0])]⟩) a0) (iq a h (aL a h d n T a1 b3).1 a0));by_cases q:a0=T
  ·subst q;rw[ax _ _ _];refine((B.it a0).add (dB.one _ _ _ _)).perm ?_;refine List.Perm.symm (b.trans ?_);have:((af d a1).to==a0&&(some n).isSome)=true:=by rw[m];simp
   rw[if_pos this];exact List.Perm.refl _
  ·rw[aA q];have:¬((af d a1).to==a0&&(some n).isSome)=true:=by rw[m];simpa using fun a2:T=a0=>q a2.symm
   rw[if_neg this]at b;refine(B.it a0).perm (b.trans ?_).symm;simp[iq]
 ·have i:=B.cc a0;refine(?_ :(upd d.bk T (cQ (d.bk T) ⟨if(d.aq T== -1)=true then 1 else 0,_,_,_,_⟩) a0).cc=((((if(d.aq T== -1)=true then d.log++[(true,T)]else d.log).drop 1).filter fun p=>p.1&&p.2==a0).length:Nat));have t:((((if(d.aq T== -1)=true then d.log++[(true,T)]else d.log).drop 1).filter fun p=>p.1&&p.2==a0).length:Nat)=bc d a0+(if a0=T∧(d.aq T== -1)=true then 1 else 0):=by
   by_cases q:(d.aq T== -1)=true
   ·rw[if_pos q,qY r _ _];by_cases a2:a0=T
    ·subst a2;rw[if_pos ⟨rfl,q⟩];simp
    ·rw[if_neg fun y=>a2 y.1];have:(T==a0)=false:=by simpa using fun y:T=a0=>a2 y.symm
     simp[this]
   ·rw[if_neg q,if_neg fun y=>q y.2];rfl
  rw[t];by_cases q:a0=T
  ·subst q;rw[ax _ _ _];refine(?_ :(if(d.aq a0== -1)=true then(1:Int)else 0)+(d.bk a0).cc=_);rw[i];by_cases a2:(d.aq a0== -1)=true
   ·rw[if_pos a2,if_pos ⟨rfl,a2⟩];(simp+arith)
   ·rw[if_neg a2,if_neg fun y=>a2 y.2];(simp+arith)
  ·rw[aA q,i,if_neg fun y=>q y.1];rfl
theorem xx(G:Good0 a d n k z)(b:d.log≠ [])(B:gT a h d):gT a h (aP a h d L n).1:=by
 unfold aP;dsimp only;split
 ·exact B
 ·split
  ·refine⟨fun a0=>?_,B.cc⟩;have:iq a h (bC a d L n (handOf d L) ((handOf d L+1+L.way) % 3)) a0=iq a h d a0:=by
    unfold iq bC;dsimp only;rw[List.zipIdx_append,List.filter_append _ _,List.map_append];simp
   refine(?_ :dB (d.bk a0) _);rw[this];exact B.it a0
  ·exact B.same rfl rfl rfl
  ·split
   ·rename_i a1 i e;exact u5 G (cq d L) e b B
   ·exact B.same rfl rfl rfl
   ·exact B
theorem u6(G:Good a d n)(D:cZ L)(e:d.log≠ [])(B:gT a h d)(t:(aP a h d L n).1.log≠ []):gT a h (aU a h d n L):=by
 have i:=xx (L:=L) G.toGood0 e B;have j:∀p:RS×Int,p.1.log≠ []→gT a h p.1→gT a h (aG p (handOf d L)).1:=fun p e B=>by
  unfold aG;dsimp only;split
  ·refine⟨B.it,fun k=>?_⟩;refine(?_ :(p.1.bk k).cc=((((p.1.log++[(false,handOf d L)]).drop 1).filter fun p=>p.1&&p.2==k).length:Nat));rw[qY e _ _,B.cc k];simp
  ·exact B
 have m:=j _ t i;have o:∀p:RS×Int,(aY p (handOf d L)).log=p.1.log∧(aY p (handOf d L)).bk=p.1.bk∧(aY p (handOf d L)).ae=p.1.ae:=fun p=>by unfold aY;dsimp only;split<;>exact bx rfl rfl rfl
 refine ba (o (aG (aP a h d L n) (handOf d L))) fun q r s=>?_;have b:ia (aY (aG (aP a h d L n) (handOf d L)) (handOf d L)) (aU a h d n L):=gS _ n;exact m.same (b.bk.trans r) (b.ae.trans s) (b.log.trans q)
theorem u7(b:d.log≠ []):(aP a h d L n).1.log≠ []:=by
 unfold aP;dsimp only;split
 ·exact b
 ·split
  ·exact b
  ·exact b
  ·split
   ·refine(?_ :(if(d.aq (handOf d L)== -1)=true then d.log++[(true,handOf d L)]else d.log)≠ []);split
    ·simp
    ·exact b
   ·exact b
   ·exact b
theorem part3:∀(l:List (cm×Nat)),(∀p∈l,p.1.to<3)→((l.filter fun p=>p.1.to==0)++(l.filter fun p=>p.1.to==1)++(l.filter fun p=>p.1.to==2)).Perm l:=by
 intro L
 induction L with
 |nil=>
  intro J;exact List.Perm.refl _
 |cons p r b=>
  intro h;have b:=b fun q e=>h q (List.mem_cons_of_mem _ e);have d:=h p List.mem_cons_self;refine gu (qZ d) (fun q=>?_) (fun q=>?_) fun q=>?_
  ·rw[List.filter_cons,List.filter_cons,List.filter_cons,q,if_pos (by decide),if_neg (by decide),if_neg (by decide)];exact b.cons p
  ·rw[List.filter_cons,List.filter_cons,List.filter_cons,q,if_neg (by decide),if_pos (by decide),if_neg (by decide)];refine List.Perm.trans ?_ (b.cons p);rw[List.append_assoc _ _ _,List.append_assoc _ _ _];exact List.perm_middle
  ·rw[List.filter_cons,List.filter_cons,List.filter_cons,q,if_neg (by decide),if_neg (by decide),if_pos (by decide)];refine List.Perm.trans ?_ (b.cons p);exact List.perm_middle
theorem xy(e:∀m∈d.ae,m.took.isSome=true)(k:Nat):iq a h d k=callsOf a h d k:=by
 unfold iq callsOf;congr 1;refine List.filter_congr fun p b=>?_;have:p.1∈d.ae:=by
  have:=List.mem_zipIdx b;rw[this.2.2];exact List.getElem_mem _
 rw[e _ this];simp
theorem xA(G:Good a d n)(B:gT a h d)(q:∀m∈d.ae,m.took.isSome=true):(∀k,k<3→il (d.bk k) (bc d k) (callsOf a h d k))∧il (cQ (cQ (d.bk 0) (d.bk 1)) (d.bk 2)) (([bc d 0,bc d 1,bc d 2].map fun a0:Nat=>(a0:Int)).sum) (d.ae.zipIdx.map (eM a h)):=by
 have b:∀k,k<3→dB (d.bk k) (callsOf a h d k):=fun k e=>by
  have:=B.it k;rw[xy q]at this;exact this
 refine⟨fun k e=>(b k e).ok (B.cc k),?_⟩;have i:=((b 0 (Nat.succ_pos _)).add (b 1 (Nat.le_succ _))).add (b 2 (Nat.le_refl _));have j:(callsOf a h d 0++callsOf a h d 1++callsOf a h d 2).Perm (d.ae.zipIdx.map (eM a h)):=by
  unfold callsOf;rw[←List.map_append,←List.map_append];refine(part3 d.ae.zipIdx fun p o=>?_).map _;have:p.1∈d.ae:=by
   have:=List.mem_zipIdx o;rw[this.2.2];exact List.getElem_mem _
  exact(G.fh _ this).2.1
 refine(i.perm j).ok ?_;refine(?_ :(d.bk 2).cc+((d.bk 1).cc+(d.bk 0).cc)=_);rw[B.cc 0,B.cc 1,B.cc 2];simp;(simp+arith)
theorem th:bh []=0:=rfl
theorem gj(p:Str×Int)(l:List (Str×Int)):bh (p::l)=p.2+bh l:=by rw[kF _,kF _,List.map_cons,List.sum_cons]
theorem u9(a:Str)(w:m)(r:List (Str×m))(k:Str)(v:m):cb ((a,w)::r) k v=if a=k then(a,v)::r.map (fun h=>if h.1=k then(h.1,v)else h)else(a,w)::cb r k v:=by
 unfold cb;by_cases q:a=k
 ·simp[q]
 ·rw[if_neg q,List.any_cons,decide_eq_false q,Bool.false_or _,List.map_cons,if_neg (show ¬(a,w).1=k from q)];split<;>rfl
theorem zG:∀{r:List (Str×m)},x∉r.map (·.1)→r.map (fun b=>if b.1=x then(b.1,p0)else b)=r:=by
 intro L
 induction L with
 |nil=>
  intro J;exact rfl
 |cons p r d=>
  intro h;rw[List.map_cons,List.mem_cons,not_or]at h;rw[List.map_cons,if_neg fun e=>h.1 e.symm,d h.2]
theorem xB:∀{l:List (Str×Int)},(l.map (·.1)).Nodup→∀(k:Str)(v:Int),bh (cb l k v)+(l.lookup k).getD 0=bh l+v:=by
 intro L
 induction L with
 |nil=>
  intro J k v;refine(?_ :bh [(k,v)]+0=bh []+v);rw[gj _ _,th];simp
 |cons e r d=>
  obtain⟨a,w⟩:=e;intro h k v;have b:=List.nodup_cons.mp h;rw[u9,List.lookup_cons];by_cases q:a=k
  ·subst q;rw[if_pos rfl,zG b.1,gj _ _,gj _ _];simp;(simp+arith)
  ·have:(k==a)=false:=by simpa using fun z:k=a=>q z.symm
   rw[if_neg q,gj _ _,gj _ _,this];have:=d b.2 k v;refine(?_ :w+bh (cb r k v)+(List.lookup k r).getD 0=w+bh r+v);lia
theorem zH(h:(j2.map (·.1)).Nodup)(p:Str×Int):bh (fb (· +·) j2 p)=bh j2+p.2:=by
 unfold fb;have:=xB h p.1 (match j2.lookup p.1 with|some v=>v+p.2|none=>p.2);rcases e:j2.lookup p.1 with _|v
 ·rw[e]at this;simp at this⊢;omega
 ·rw[e]at this;simp at this⊢;lia
theorem zI:∀(r:List (Str×Int)){l:List (Str×Int)}{F:Str→Option Int},Tab l F→bh (r.foldl (fb (· +·)) l)=bh l+bh r:=by
 intro L
 induction L with
 |nil=>
  intro l F T;simp[th]
 |cons p r h=>
  intro l F T;rw[List.foldl_cons,h (T.step (plus:=(· +·)) p),zH T.nd _,gj _ _];(simp+arith)
theorem copy_eq:∀(r a:List (Str×m)),((a++r).map (·.1)).Nodup→fV r a=a++r:=by
 intro L
 induction L with
 |nil=>
  intro a J;simp[fV]
 |cons p r i=>
  intro a h;have b:p.1∉a.map (·.1):=fun z=>by
   rw[List.map_append,List.nodup_append]at h;exact h.2.2 p.1 z p.1 (by simp) rfl
  have e:cb a p.1 p.2=a++[p]:=by
   unfold cb;rw[if_neg];intro z;refine au (List.any_eq_true.mp z) fun q d e=>?_;exact b (List.mem_map.mpr ⟨q,d,by simpa using e⟩)
  refine(?_ :fV r (cb a p.1 p.2)=_);rw[e,i (a++[p]) (by rw[List.append_assoc _ _ _];exact h),List.append_assoc _ _ _];rfl
theorem Bc{r:List (Str×Int)}(h:(j2.map (·.1)).Nodup):bh (dO (· +·) j2 r)=bh j2+bh r:=by
 have T:Tab j2 (fun x=>j2.lookup x):=⟨h,fun J=>rfl⟩;unfold dO;rw[zI r T.copy,copy_eq j2 [] h];rfl
theorem xC:∀(l:List Itm),(∀j,Itm.bY j∈l→j<3)→l.countP jX=l.countP (isA 0)+l.countP (isA 1)+l.countP (isA 2):=by
 intro L
 induction L with
 |nil=>
  intro J;exact rfl
 |cons i r b=>
  intro h;have b:=b fun j d=>h j (List.mem_cons_of_mem _ d);have e:(if jX i=true then 1 else 0)=(if isA 0 i=true then 1 else 0)+(if isA 1 i=true then 1 else 0)+(if isA 2 i=true then 1 else 0):=by
   rcases i with n|j
   ·rfl
   ·
    have k:∀j<3,(if jX (.bY j)=true then 1 else 0)=(if isA 0 (.bY j)=true then 1 else 0)+(if isA 1 (.bY j)=true then 1 else 0)+(if isA 2 (.bY j)=true then 1 else 0):=by decide
    exact k j (h j List.mem_cons_self)
  rw[List.countP_cons,List.countP_cons,List.countP_cons,List.countP_cons,b,e];lia
theorem C8:∀n<3,∀b y:Bool,(if(b&&y)=true then 1 else 0)=(if(b&&n==0&&y)=true then 1 else 0)+(if(b&&n==1&&y)=true then 1 else 0)+(if(b&&n==2&&y)=true then 1 else 0):=by decide
theorem CD(A B C x y z:Nat):A+B+C+(x+y+z)=A+x+(B+y)+(C+z):=by rw[Nat.add_add_add_comm (A+B),Nat.add_add_add_comm A _ _ _]
theorem xD(k:Nat):∀(l:List cm),(∀m∈l,m.to<3)→(l.filter fun m=>m.bb==k&&m.took.isNone).length=l.countP (fun m=>m.bb==k&&m.to==0&&m.took.isNone)+l.countP (fun m=>m.bb==k&&m.to==1&&m.took.isNone)+l.countP (fun m=>m.bb==k&&m.to==2&&m.took.isNone):=by
 intro L
 induction L with
 |nil=>
  intro J;exact rfl
 |cons m r b=>
  intro h;have b:=b fun j d=>h j (List.mem_cons_of_mem _ d);rw[←List.countP_eq_length_filter]at b⊢;rw[List.countP_cons,List.countP_cons,List.countP_cons,List.countP_cons,b,C8 _ (h m List.mem_cons_self) _ _,CD]
theorem xE(s:RS)(k:Nat):gI s k=lj s k 0+lj s k 1+lj s k 2:=by
 have h:∀n:Nat,(if(s.aq n==(k:Int)&&n !=k)=true then 1 else 0)=lj s k n:=fun n=>by
  unfold lj;by_cases q:s.aq n=(k:Int)∧n≠k
  ·rw[if_pos q,if_pos];simpa using q
  ·rw[if_neg q,if_neg];simpa using q
 unfold gI;rw[←List.countP_eq_length_filter,List.countP_cons,List.countP_cons,List.countP_cons,List.countP_nil,h _,h _,h _];(simp+arith)
theorem xF(O:aT a)(C:Core a d (-1) n)(G:Good0 a d k z T)(h:a1<3):eS d a1=0:=by
 unfold eS;rw[Bc (by refine(?_ :[N "led",N "out",N "come"].Nodup);decide+kernel),C.A6 O G h];unfold tj;unfold fB;rw[gj _ _,gj _ _,gj _ _,th,fk _ _ _,fk,fk,xE,C.bY a1 h,xC _ fun j e=>G.fL a1 j e];have b:=xD a1 d.ae fun m i=>(G.fh m i).2.1;unfold hO;rw[b];unfold oj aj;dsimp only
 (simp+arith)
theorem BV(l:List m)(P:m→Prop):(∃p∈l.zipIdx,P p.1)↔∃a0∈l,P a0:=by
 constructor
 ·rintro⟨p,d,q⟩;refine aF p.1 ?_ q;have:=List.mem_zipIdx d;rw[this.2.2];exact List.getElem_mem _
 ·rintro⟨a0,b,q⟩;obtain⟨i,h,rfl⟩:=List.getElem_of_mem b;exact aF (l[i],i) (List.mk_mem_zipIdx_iff_getElem?.mpr (List.getElem?_eq_getElem h)) q
theorem zJ(O:aT a)(C:Core a d (-1) n)(G:Good0 a d k z T)(w:∀a1,a1<3→bh (d.aK a1)=0)(h:a1<3):oL (d.aK a1) (kE a d a1):=by
 have a0:Tab (kE a d a1) _:=Tab.pq (fun p:cm×Nat=>S (a p.1.to)) (fun J=>(0:Int)) (fun J=>0) (fun J=>rfl) (d.ae.zipIdx.filter fun p=>p.1.bb==a1) Tab.nil;have t:Tab (d.aK a1) (fun x=>(d.aK a1).lookup x):=⟨C.nd a1 h,fun J=>rfl⟩;refine(t.congr fun x=>?_).same a0;have o:x∈(d.ae.zipIdx.filter fun p=>p.1.bb==a1).map (fun p:cm×Nat=>S (a p.1.to))↔(d.aK a1).lookup x≠none:=by
  rw[C.keys a1 h x,←BV d.ae (fun m=>m.bb=a1∧x=S (a m.to)),List.mem_map];constructor
  ·rintro⟨p,b,rfl⟩;rw[List.mem_filter]at b;exact fS p b.1 (by simpa using b.2) rfl
  ·rintro⟨p,b,q,e⟩;exact aF p (List.mem_filter.mpr ⟨b,by simpa using q⟩) e.symm
 by_cases q:(d.aK a1).lookup x=none
 ·rw[q,if_neg fun a2=>o.mp a2 q]
 ·rw[if_pos (o.mpr q)];refine bA ((C.keys a1 h x).mp q) fun m u y s=>?_;subst s;have r:=(G.fh m u).2.1;have i:=C.val a1 m.to h r;have j:=C.term O G h r (w a1 h);rw[j.1,j.2.1,j.2.2.1,j.2.2.2]at i;unfold ow at i;rcases e:(d.aK a1).lookup (S (a m.to))with _|v
  ·exact absurd e q
  ·
   rw[e]at i;have:v=0:=i;rw[this]
theorem xG(C:Core a d (-1) n)(G:Good0 a d k z T)(q:BE d):∀m∈d.ae,m.took.isSome=true:=fun m b=>by
 obtain⟨a0,h,rfl⟩:=List.getElem_of_mem b;rw[hI h];rcases e:(af d a0).took with _|_
 ·
  have:=C.lP a0 h e;rw[q _ (G.fh _ (cx h)).2.1]at this;contradiction
 ·rfl
theorem Bd(h:34∈i):wc i=false:=by
 rcases e:wc i with _|_
 ·rfl
 ·
  exfalso;refine bV (List.eq_append_cons_of_mem h) fun u v d n=>?_;subst d;have k:N "\"" =S [34]:=by decide+kernel
  have j:Builtin.Str.occurrences (S (u++34::v)) (S [34]) 0 (S (u++34::v)).length 1=[]:=by
   unfold wc at e;rw[k]at e;simpa using e
  have b:=gH [34] (u++34::v) (by decide) 1 j;rw[gM 34 u _ [] 1 fun c m z=>n (z▸m),lb,B2]at b;have:=congrArg List.length b;simp at this
noncomputable abbrev sg(p:Bool×Nat):Nat:=if p.1 then 40 else 41
noncomputable def short(p:Bool×Nat):List Nat:=[sg p,92,34]
theorem Be(p:Bool×Nat):sg p≠34∧sg p≠92:=by unfold sg;split<;>decide
theorem vc:∀(a r:List Nat)(p:Nat),(∀c∈a,c≠92)→aW false p (a++r)=(a.zipIdx p).map (fun q=>(q.2,[q.1]))++aW false (p+a.length) r:=by
 intro L
 induction L with
 |nil=>
  intro r p J;exact rfl
 |cons c a i=>
  intro r p h;have b:=h c List.mem_cons_self;refine(?_ :(if c=92 then aW true (p+1) (a++r)else(p,[c])::aW false (p+1) (a++r))=_);rw[if_neg b,i r (p+1) fun d e=>h d (List.mem_cons_of_mem _ e),List.length_cons,show p+1+a.length=p+(a.length+1)by(exact Nat.add_right_comm _ _ _)];rfl
theorem kG(c:Nat)(r:List Nat)(p:Nat):aW false p (92::c::r)=(p+1,[92,c])::aW false (p+1+1) r:=by
 refine(?_ :(if 92=92 then aW true (p+1) (c::r)else _)=_);rw[if_pos rfl];rfl
theorem ix(h:n≠92)(r:List Nat)(p:Nat):aW false p (n::r)=(p,[n])::aW false (p+1) r:=by
 refine(?_ :(if n=92 then _ else _)=_);rw[if_neg h]
theorem jf(a:SQ)(h:k3.2≠ [34]):ck i a k3=a:=by unfold ck;rw[if_neg h]
theorem xH:∀(q:List (Nat×List Nat))(a:SQ),(∀p∈q,p.2≠ [34])→q.foldl (ck i) a=a:=by
 intro L
 induction L with
 |nil=>
  intro a J;exact rfl
 |cons p q d=>
  intro a h;rw[List.foldl_cons,jf a (h p List.mem_cons_self),d a fun x b=>h x (List.mem_cons_of_mem _ b)]
theorem Bf(O:aT a)(u:Bool×Nat)(z:u.2<3)(h r:List Nat)(b:List (List Nat))(j:i=h++(aQ a u++r)):
  (aW false h.length (aQ a u++r)).foldl (ck i) ⟨h.length,none,b⟩=(aW false (h++aQ a u).length r).foldl (ck i) ⟨(h++aQ a u).length,none,b++[short u]⟩:=by
 have k:=fun c e=>O.pl u.2 z c e;have d:aQ a u++r=sg u::92::34::34::(a u.2++(92::34::34::r)):=by unfold aQ;simp
 have n:(h++aQ a u).length=h.length+1+1+1+1+(a u.2).length+1+1+1:=by unfold aQ;simp;(simp+arith)
 rw[n,d,ix (Be u).2 _ _,kG _ _ _,ix (by decide),vc _ _ _ (fun c e=>(k c e).2.2.2.2.2),kG _ _ _,ix (by decide)];rw[List.foldl_cons,jf _ (by simpa using(Be u).1),List.foldl_cons,jf _ (by simp),List.foldl_cons];have o:ck i ⟨h.length,none,b⟩ (h.length+1+1+1,[34])=⟨h.length,some (h.length+1+1+1),b⟩:=by unfold ck;rw[if_pos rfl]
 have t:∀a0 p,(((a u.2).zipIdx p).map (fun q:Nat×Nat=>(q.2,[q.1]))).foldl (ck i) a0=a0:=fun a0 p=>xH _ _ fun x f=>by
  refine bZ f fun q y m=>?_;subst m;have v:=List.mem_zipIdx y;have:q.1∈a u.2:=by rw[v.2.2];exact List.getElem_mem _
  have:=(k _ this).2.2.2.2.1;simpa using this
 rw[o,List.foldl_append,t _ _,List.foldl_cons,jf _ (by simp),List.foldl_cons];have w:bf i (some ((h.length:Nat):Int)) (some ((h.length+1+1+1:Nat):Int)) none=short u:=by
  rw[lL _ _ _ (by rw[j,d];simp;(simp+arith)),j,d,List.take_append,List.drop_append];have:h.length+1+1+1-h.length=3:=by(simp+arith)
  rw[this,List.take_of_length_le (by(simp+arith))];simp[short]
 have s:ck i ⟨h.length,some (h.length+1+1+1),b⟩ (h.length+1+1+1+1+(a u.2).length+1+1,[34])=⟨h.length+1+1+1+1+(a u.2).length+1+1+1,none,b++[short u]⟩:=by
  unfold ck;rw[if_pos rfl];dsimp only;rw[if_neg (by(simp+arith)),w]
 rw[s]
theorem Bg(O:aT a):∀(j:List (Bool×Nat)),(∀u∈j,u.2<3)→∀(b:List Nat)(d:List (List Nat)),i=b++j.flatMap (aQ a)→(aW false b.length (j.flatMap (aQ a))).foldl (ck i) ⟨b.length,none,d⟩=⟨i.length,none,d++j.map short⟩:=by
 intro L
 induction L with
 |nil=>
  intro J b d e;have:i=b:=by simpa using e
  subst this;simp[qt,qu,sH,sI]
 |cons u j m=>
  intro h b d e;rw[List.flatMap_cons]at e⊢;rw[Bf O u (h u List.mem_cons_self) b _ d e,m (fun v k=>h v (List.mem_cons_of_mem _ k)) (b++aQ a u) (d++[short u]) (by rw[e,List.append_assoc _ _ _])];simp
theorem ti(O:aT a)(b:List (Bool×Nat))(h:∀u∈b,u.2<3):cn (b.flatMap (aQ a))=b.flatMap short:=by
 rcases b with _|⟨u,b⟩
 ·unfold cn;split<;>rfl
 ·
  unfold cn;rw[Bd (by rw[List.flatMap_cons];unfold aQ;simp),if_neg (by decide)];have:=Bg (i:=(u::b).flatMap (aQ a)) O (u::b) h [] [] rfl;unfold dw;refine(?_ :(cI _ (List.foldl _ _ (aW false ([]:List Nat).length _))).flatten=_);rw[show(⟨0,none,[]⟩:SQ)=⟨([]:List Nat).length,none,[]⟩from rfl,this];unfold cI;rw[if_neg (by simp),List.flatMap_def];rfl
theorem mM:∀(h:List (Bool×Nat))(n p:Nat),fZ (n:Int) (aW false p (h.flatMap short))=(dep n h).map fun m:Nat=>(m:Int)
 | [],n,p=>rfl
 |(true,k)::h,n,p=>by
  rw[List.flatMap_cons];refine(?_ :fZ _ (aW false p (40::92::34::h.flatMap short))=_);rw[ix (by decide),kG _ _ _];refine(?_ :fZ ((n:Int)+1) (aW false _ (h.flatMap short))=_);rw[show(n:Int)+1=((n+1:Nat):Int)by rfl,mM h (n+1)];rfl
 |(false,k)::h,0,p=>by
  rw[List.flatMap_cons];refine(?_ :fZ _ (aW false p (41::92::34::h.flatMap short))=_);rw[ix (by decide),kG _ _ _];rfl
 |(false,k)::h,n+1,p=>by
  rw[List.flatMap_cons];refine(?_ :fZ _ (aW false p (41::92::34::h.flatMap short))=_);rw[ix (by decide),kG _ _ _];have:¬(((n+1:Nat):Int)-1<0):=by(simp+arith)
  refine(?_ :(if [41]=[40]then _ else if [41]=[41]then(if((n+1:Nat):Int)-1<0 then none else fZ (((n+1:Nat):Int)-1) (aW false _ (h.flatMap short)))else _)=_);rw[if_neg (by decide),if_pos rfl,if_neg this,show((n+1:Nat):Int)-1=(n:Int)by(simp+arith),mM h n _];rfl
theorem ir(O:aT a)(b:List (Bool×Nat))(h:∀u∈b,u.2<3):cN (b.flatMap (aQ a))=decide (dep 0 b=some 0):=by
 unfold cN;rw[ti O b h];have:=mM b 0 0;rw[show((0:Nat):Int)=0 from rfl]at this;rw[this];rcases dep 0 b with _|m
 ·rfl
 ·
  rcases m with _|n
  ·rfl
  ·simp;lia
theorem Bh{r:List (Bool×Nat)}(O:aT a)(b:d.log=(true,0)::(r++[(false,0)]))(o:dep 0 r=some 0)(i:∀p∈d.log,p.2<3):
  cN (d.log.flatMap (aQ a))=true∧cN (((d.log.take (d.log.length-1)).drop 1).flatMap (aQ a))=true∧cN ((d.log.take (d.log.length-1)).flatMap (aQ a))=false∧cN (d.log.reverse.flatMap (aQ a))=false:=by
 have j:d.log.take (d.log.length-1)=(true,0)::r:=by
  rw[b];simp
 have u:∀(n m:Nat)(a0:List (Bool×Nat)),dep n a0=some m→dep (n+1) a0=some (m+1):=by
  intro n m a0
  induction a0 generalizing n with
  |nil=>intro h;cases h;rfl
  |cons p a0 t=>
   obtain⟨q,k⟩:=p;rcases q with _|_
   ·
    rcases n with _|n
    ·intro h;contradiction
    ·exact t n
   ·exact t (n+1)
 have s:dep 1 r=some 1:=u 0 0 r o;refine cp ?_ ?_ ?_ ?_
 ·rw[ir O _ i,b];have:dep 0 ((true,0)::(r++[(false,0)]))=some 0:=by
   refine(?_ :dep 1 (r++[(false,0)])=_);rw[nE _ _ _,s];rfl
  rw[this];rfl
 ·rw[j,ir O _ fun p e=>i p (by rw[b];exact List.mem_cons_of_mem _ (List.mem_append_left _ e))];refine(?_ :decide (dep 0 r=some 0)=true);rw[o];rfl
 ·rw[j,ir O _ fun p e=>i p (by rw[b,←List.cons_append];exact List.mem_append_left _ e)];refine(?_ :decide (dep 1 r=some 0)=false);rw[s];rfl
 ·rw[ir O _ fun p e=>i p (List.mem_reverse.mp e),b];have:dep 0 ((true,0)::(r++[(false,0)])).reverse=none:=by
   rw[List.reverse_cons,List.reverse_append];rfl
  rw[this];rfl
structure Inv(nm:Nat→List Nat)(sums:List Int)(s:RS)(H:Nat):Prop extends Inv1 nm s H where
 log:ib s
 B4:ic s
 qP:gT nm sums s
 steps:∀p∈s.steps,p.1=p.2
 bq:s.bq=List.replicate (3*min H 9) 0
 B5:s.ae.length≤H
 w:W s≤2*H
theorem xI:∃b,ia b (aU a h d n L)∧(aU a h d n L).steps=d.steps++[(b.aq 0 != -1,!b.aw.isEmpty||eA b)]∧(aU a h d n L).bq=if n<9 then d.bq++three (eS b)else d.bq:=by
 refine fS (aY (aG (aP a h d L n) (handOf d L)) (handOf d L)) (gS _ n) ?_ ?_
 ·have e:(aY (aG (aP a h d L n) (handOf d L)) (handOf d L)).steps=d.steps:=(fM.1.trans eV.1).trans gN.1;unfold aU;generalize aY (aG (aP a h d L n) (handOf d L)) (handOf d L)=b at e;rw[←e];unfold gJ;split<;>rfl
 ·have i:(aY (aG (aP a h d L n) (handOf d L)) (handOf d L)).bq=d.bq:=(fM.2.trans eV.2).trans gN.2;unfold aU;generalize aY (aG (aP a h d L n) (handOf d L)) (handOf d L)=b at i;rw[←i];unfold gJ;split<;>rfl
theorem xJ(O:aT a)(C:Core a d (-1) 0)(G:Good0 a d n k z)(E:hS d):(d.aq 0 != -1)=(!d.aw.isEmpty||eA d):=by
 by_cases q:d.aq 0= -1
 ·refine ai (C.quiet O G q) fun b J=>ai b fun t e=>?_;unfold eA;rw[q,t,e 0 (Nat.succ_pos _),e 1 (Nat.le_succ _),e 2 (Nat.le_refl _)];rfl
 ·have p:=C.busy O G E q;have m:(d.aq 0 != -1)=true:=by simpa using q
  rw[m];rcases o:d.aw with _|⟨a0,r⟩
  ·
   rcases h:eA d with _|_
   ·
    exfalso;refine p ⟨o,fun a1 s=>?_⟩;unfold eA at h;simp at h;refine gu (qZ s) (fun b=>?_) (fun i=>?_) fun j=>?_
    ·subst b;exact h.1.1
    ·subst i;exact h.1.2
    ·subst j;exact h.2
   ·rfl
  ·rfl
theorem ib.ne(L:ib d):d.log≠ []:=by
 refine au L fun r e J=>?_;rw[e];simp
theorem Inv.step{sums:List Int}(O:aT a)(I:Inv a sums d n)(D:cZ L)(u:L.way<2)(y:L.kd= .give→n<9):Inv a sums (aU a sums d n L) (n+1):=by
 have j:L.kd= .give→d.ae.length<9:=fun q=>Nat.lt_of_le_of_lt I.B5 (y q);refine ba (mI (h:=sums) O I.core I.good I.eager D u j) fun b r x=>?_;refine ai (zC (h:=sums) O I.core I.good I.eager D u j I.log I.B4) fun c f=>?_;have i:=I.good.step (sums:=sums) D j;have B:=u6 I.good D I.log.ne I.qP (u7 I.log.ne);refine bA (xI (a:=a) (h:=sums) (d:=d) (n:=n) (L:=L)) fun o h g l=>?_;refine⟨⟨i,b,r⟩,c,f,B,fun p t=>?_,?_,?_,?_⟩
 ·rw[g]at t;refine dd t (fun q=>?_) fun q=>?_
  ·exact I.steps p q
  ·rw[List.mem_singleton.mp q];have:=xJ O b i.toGood0 r;rw[h.aq,h.aw,show eA (aU a sums d n L)=eA o by unfold eA;rw[h.box]]at this;exact this
 ·rw[l];have m:∀k,k<3→eS o k=0:=fun k z=>by
   have:=xF O b i.toGood0 z;unfold eS fB gI hO at this⊢;rw[h.aq,h.ae,h.cf,h.aK]at this;exact this
  split
  ·rename_i q;have e:three (eS o)=List.replicate 3 0:=by
    unfold three;rw[m 0 (Nat.succ_pos _),m 1 (Nat.le_succ _),m 2 (by(simp+arith))];rfl
   rw[e,I.bq,List.replicate_append_replicate,show 3*min n 9+3=3*min (n+1) 9 by omega]
  ·rename_i q;rw[I.bq,show 3*min n 9=3*min (n+1) 9 by omega]
 ·have s:=pd (a:=a) (h:=sums) (d:=d) (n:=n) (L:=L);have A:=I.B5;split at s<;>lia
 ·have s:=I.w;refine ay x (fun v=>ai v fun J q=>?_) fun w=>ba w fun J J q=>?_
  ·rw[q.w];lia
  ·split at q<;>lia
theorem Inv.run(O:aT a):∀(b:List cA)(s:RS)(H:Nat),Inv a h s H→(∀d∈b,cZ d∧d.way<2)→((∀d∈b,d.kd≠ .give)∨H+b.length≤9)→Inv a h (cE a h s H b) (H+b.length):=by
 intro L
 induction L with
 |nil=>
  intro s H I J J;exact I
 |cons d b m=>
  intro s H I a0 e;have j:=a0 d List.mem_cons_self;rw[List.length_cons]at e⊢;have k:=I.step O j.1 j.2 fun q=>e.elim (fun z=>absurd q (z d List.mem_cons_self)) fun z=>by lia
  have:=m _ _ k (fun x i=>a0 x (List.mem_cons_of_mem _ i)) (e.imp (fun z x i=>z x (List.mem_cons_of_mem _ i)) fun z=>by lia);rw[show H+(b.length+1)=H+1+b.length by(simp+arith)];exact this
theorem Inv.start(e:Nat→List Nat)(w:List Int):Inv e w bF 0:=by
 have h:∀j:Nat,bF.aq j=if j=0 then 0 else-1:=fun j=>rfl
 refine⟨⟨Good.start e,⟨fun m b=>(nomatch b),fun k J=>List.nodup_nil,fun k J x=>⟨fun z=>absurd rfl z,fun i=>au i fun m b J=>(nomatch b)⟩,fun k j J J=>?_,fun k J=>rfl,fun n u=>(nomatch u),fun k d r=>?_,fun k d s=>absurd rfl s,fun j J t=>?_,.inl rfl,fun z=>?_⟩,fun k d q=>?_⟩,⟨[],rfl,.inl ⟨by decide,rfl⟩⟩,Nat.le_refl _,⟨fun k=>dB.nil 0,fun k=>rfl⟩,fun p v=>(nomatch v),rfl,Nat.le_refl _,Nat.le_refl _⟩
 ·have o:lj bF k j=0:=by
   unfold lj;rw[h _,if_neg];rintro⟨q,z⟩;split at q<;>lia
  rw[o,fk _ _ _];rfl
 ·have:(k:Int)=0:=by simpa [bF]using r
  have:k=0:=by lia
  subst this;decide
 ·rw[h _,if_neg t];(simp+arith)
 ·rw[h,if_neg (by decide)]at z;exact absurd z.1 (by decide)
 ·left;rw[h]at q;by_cases z:k=0
  ·subst z;simp[bF]
  ·rw[if_neg z]at q;exact absurd rfl q
theorem xK(h:List Int):oM (ea (aV h)) (cF h) (cE (ea (aV h)) (cF h) bF 0 (dE h)):=by
 have O:=sW (aV h);generalize ea (aV h)=nm at O;generalize cF h=i;have e:cE nm i bF 0 (dE h)=cE nm i (cE nm i bF 0 (gh h)) 9 (fI (aV h)):=by
  unfold dE;rw[ip,fQ _]
 rw[e];have j:=Inv.run O (gh h) bF 0 (Inv.start nm i) (fun d b=>by
  refine bZ b fun p J n=>?_;subst n;exact⟨qO _ _,Nat.mod_lt _ (by decide)⟩) (.inr (by rw[fQ _];decide))
 rw[fQ]at j;have Q:=uZ (h:=i) O (aV h) j.toInv1 j.w;have I:=Inv.run O (fI (aV h)) _ _ j (fun d b=>by
  have m:=(lu _ d b).2;refine⟨⟨by rw[m];simp,by rw[m];simp⟩,?_⟩;unfold fI at b;refine au (List.mem_flatMap.mp b) fun J J b=>?_;unfold fP at b;refine au (List.mem_flatMap.mp b) fun A o b=>?_;refine bZ b fun k J n=>?_;subst n;exact(by decide:0<2)) (.inl fun d b q=>by
  have m:=(lu _ d b).1;rw[q]at m;contradiction)
 rw[mB]at I;generalize cE nm i (cE nm i bF 0 (gh h)) (0+9) (fI (aV h))=s at I Q;have I:Inv nm i s 57:=I;have x:s.aq 0= -1:=Classical.byContradiction fun q=>I.core.busy O I.good.toGood0 I.eager q Q;refine ba (I.core.quiet O I.good.toGood0 x) fun J w a=>?_;have z:=xG I.core I.good.toGood0 Q.2;refine bA (Ba I.good I.log I.B4 w) fun r y b v=>?_;refine bQ (Bh O y b I.good.kA) fun c f g l=>?_;refine ai (xA I.good I.qP z) fun t u=>?_;exact⟨I.good,fun k=>(I.qP.it k).Bb,I.steps,I.bq,fun k o=>zJ O I.core I.good.toGood0 a o,t,u,v,c,f,g,l⟩
theorem cw:rw_wz0002_01.Holds:=start fun h J=>xK h
end Mine
theorem PySem.Challenge.cw_wz0002_01_holds : PySem.Challenge.rw_wz0002_01.Holds :=
  Mine.cw
